import PyProof.Rows.All
import Wide.All
import OpenK.AllK
import Wide.FinOn
import Lean
import PySem.Challenge.RW_oy0320_01
open PySem PySem.W PyProof.Rows
set_option Elab.async false
set_option maxRecDepth 100000
set_option compiler.extract_closed false
set_option linter.unusedVariables false
set_option genInjectivity false
set_option genSizeOfSpec false
set_option compiler.small 0
set_option compiler.reuse false
namespace Mine
theorem qL {a b c : Nat} (h : a ≤ b) (e : Nat.ble b c = true) : a ≤ c := Nat.le_trans h (Nat.le_of_ble_eq_true e)
theorem qM {a b c : Nat} (h : a < b) (e : Nat.ble b c = true) : a < c := Nat.le_trans h (Nat.le_of_ble_eq_true e)
theorem qN {a b c : Nat} (h : a ≤ b) (e : Nat.ble (b + 1) c = true) : a < c := Nat.le_trans (Nat.succ_le_succ h) (Nat.le_of_ble_eq_true e)
theorem qz {a b : Nat} (h : a ≤ b) : 0 + a ≤ b := (Nat.zero_add a).symm ▸ h
theorem qe {a b c : Nat} (h : a = b) (k : b < c) : a < c := h ▸ k
theorem qJ {n : Nat} (h : n ≤ 100) : (n : Int) < 2 ^ 40 := Int.lt_of_le_of_lt (Int.ofNat_le.2 h) (by decide)
theorem qA {a b k m : Nat} (h : k ≤ m) : a + k + m * b ≤ a + m * (b + 1) := by
 rw [Nat.add_assoc, Nat.add_comm k, Nat.mul_succ]; exact Nat.add_le_add_left (Nat.add_le_add_left h _) _
section
variable {a0 a1 a2 a3 a4 : Nat}
theorem q3 (h0 : a0 ≤ 4000) : (((a0 : Nat) : Int) < ((2 : Int) ^ 63)) := Int.lt_of_le_of_lt (Int.ofNat_le.2 h0) (by decide)
theorem q0 (h0 : a0 ≤ 4000) : (¬ (((a0 : Nat) : Int) ≥ ((2 : Int) ^ 63))) := Int.not_le.2 (q3 h0)
theorem q1 : (¬ ((((a0 + 1) : Nat) : Int) = 0)) := fun e => Nat.succ_ne_zero _ (Int.ofNat_inj.1 e)
theorem q2 (h0 : a0 ≤ 4000) (h1 : a1 = a0) : (((a0 : Nat) : Int) < ((2 : Int) ^ 63)) := q3 h0
theorem q4 (h0 : (a0 + a1) ≤ 4000) : ((a0 + a1) ≤ 16777216) := qL h0 rfl
theorem q5 (h0 : (a0 + a1) ≤ 4000) (h1 : a2 = a0) (h2 : a3 = a1) : ((a0 + a1) ≤ 16777216) := qL h0 rfl
theorem q6 {a0 : Int} (h0 : 0 < a0) (h1 : a0 < 1000) : (a0 ≠ 0) := Int.ne_of_gt h0
theorem q21 : (2 < 6) := Nat.le_of_ble_eq_true rfl
theorem q23 {a0 : Int} (h0 : 0 ≤ a0) (h1 : a0 < ((2 : Int) ^ 40)) : ((-((2 : Int) ^ 63)) ≤ a0) := Int.le_trans (by decide) h0
theorem q24 {a0 : Int} (h0 : 0 ≤ a0) (h1 : a0 < ((2 : Int) ^ 40)) : (a0 < ((2 : Int) ^ 63)) := Int.lt_trans h1 (by decide)
theorem q30 (h0 : a0 ≤ 4000) (h1 : a1 = a0) : (a0 ≤ 16777216) := qL h0 rfl
theorem q40 (h0 : a0 = (a1 + 1)) : ((a0 - 1) = a1) := congrArg Nat.pred h0
theorem q42 (h0 : a0 < a1) : (((a1 + 1) - (a0 + 1)) < ((a1 + 1) - a0)) := Nat.sub_lt_sub_left (Nat.lt_succ_of_lt h0) (Nat.lt_succ_self _)
theorem q43 (h0 : a0 < a1) (h1 : a1 ≤ a2) : (a0 ≤ a2) := Nat.le_trans (Nat.le_of_lt h0) h1
theorem q44 (h0 : (a0 + (4 * (a1 + 1))) < 600) : (((a0 + 1) + (4 * a1)) < 600) := Nat.lt_of_le_of_lt (qA (k := 1) (Nat.le_of_ble_eq_true rfl)) h0
theorem q52 (h0 : 2 < a0) : (1 < a0) := Nat.lt_of_succ_lt h0
theorem q58 (h0 : a0 ≤ a1) (h1 : a2 ≤ a0) : (a2 ≤ a1) := Nat.le_trans h1 h0
theorem q64 (h0 : a0 ≤ 60) (h1 : a1 = a0) : (a1 < 64) := qe h1 (qN h0 rfl)
theorem q70 (h0 : a0 = 4000) (h1 : a1 ≤ a0) (h2 : a1 = a2) : (((a2 : Nat) : Int) < ((2 : Int) ^ 63)) := q3 (Nat.le_trans (Nat.le_of_eq h2.symm) (Nat.le_trans h1 (Nat.le_of_eq h0)))
theorem q73 : (a0 < ((a0 + 1) + 1)) := Nat.lt_succ_of_lt (Nat.lt_succ_self _)
theorem q74 (h0 : (a0 + (a1 + a2)) ≤ a3) : (((a0 + a1) + a2) ≤ a3) := Nat.le_trans (Nat.le_of_eq (Nat.add_assoc _ _ _)) h0
theorem q126 (h0 : a0 ≤ (2 * a1)) (h1 : a1 ≤ 29) : (a0 ≤ 90) := Nat.le_trans h0 (Nat.le_trans (Nat.mul_le_mul_left 2 h1) (Nat.le_of_ble_eq_true rfl))
theorem q127 (h0 : a0 ≤ 29) : (a0 ≤ 100) := qL h0 rfl
theorem q133 (h0 : a0 ≤ 30) : (a0 ≤ 100) := qL h0 rfl
theorem q136 (h0 : a0 ≤ 30) : (a0 ≤ 60) := qL h0 rfl
theorem q139 (h0 : (a0 + 1) < a1) (h1 : a1 = a0) : False := Nat.ne_of_gt (Nat.lt_of_succ_lt h0) h1
theorem q142 (h0 : a0 = a1) (h1 : a2 < (a0 + 1)) (h2 : ¬ (a2 < a0)) : (a2 = a0) := Nat.le_antisymm (Nat.le_of_lt_succ h1) (Nat.not_lt.1 h2)
theorem q145 (h0 : a0 ≤ 100) (h1 : a1 ≤ a0) : (((a1 : Nat) : Int) < ((2 : Int) ^ 40)) := qJ (Nat.le_trans h1 h0)
theorem q146 (h0 : ((a0 : Nat) : Int) < ((2 : Int) ^ 40)) : (0 ≤ (((a0 : Nat) : Int) + 1)) := Int.natCast_nonneg (_ + 1)
theorem q147 (h0 : a0 ≤ 100) (h1 : a1 ≤ a0) (h2 : ((a1 : Nat) : Int) < ((2 : Int) ^ 40)) : ((((a1 : Nat) : Int) + 1) < ((2 : Int) ^ 40)) := Int.lt_of_le_of_lt (Int.ofNat_le.2 (Nat.succ_le_succ (Nat.le_trans h1 h0))) (by decide)
theorem q148 (h0 : a0 ≤ 100) (h1 : a1 ≤ a0) (h2 : a2 ≤ a1) (h3 : ((a1 : Nat) : Int) < ((2 : Int) ^ 40)) (h4 : (((a1 : Nat) : Int) + 1) < ((2 : Int) ^ 40)) : (a2 < 4000) := qN (Nat.le_trans h2 (Nat.le_trans h1 h0)) rfl
theorem q149 (h0 : a0 < a1) (h1 : a1 ≤ (a0 + 1)) : ((a0 + 1) ≤ a1) := h0
theorem q150 (h0 : a0 ≤ a1) : ((a0 + 1) ≤ (a1 + 1)) := Nat.succ_le_succ h0
theorem q153 (h0 : a0 ≤ a1) : (a0 ≤ (a1 + 1)) := Nat.le_succ_of_le h0
theorem q155 : (((a0 : Nat) : Int) ≥ 0) := Int.natCast_nonneg _
theorem q156 (h0 : a0 ≤ 100) (h1 : a1 ≤ a0) (h2 : a2 ≤ a1) : ((a2 + (a0 - a1)) < 4000) := qN (Nat.le_trans (Nat.add_le_add_right h2 _) (Nat.le_trans (Nat.le_of_eq (Nat.add_sub_of_le h1)) h0)) rfl
theorem q158 (h0 : a0 ≤ 8) : (a0 ≤ 100) := qL h0 rfl
theorem q161 (h0 : a0 ≤ 30) : ((0 + a0) ≤ 4000) := qz (qL h0 rfl)
theorem q162 (h0 : a0 ≤ 30) : (a0 ≤ 4000) := qL h0 rfl
theorem q164 (h0 : a0 ≤ 30) (h1 : a1 ≤ a0) : ((0 + a1) ≤ 4000) := qz (Nat.le_trans h1 (qL h0 rfl))
theorem q165 (h0 : a0 ≤ 30) (h1 : a1 ≤ a0) : (a1 ≤ 4000) := Nat.le_trans h1 (qL h0 rfl)
theorem q188 (h0 : (a0 + a1) ≤ 40) : ((a0 + a1) ≤ 4000) := qL h0 rfl
theorem q202 (h0 : a0 = a1) (h1 : 3 = (a1 + (a2 + 1))) : (a1 < 3) := Nat.lt_of_lt_of_eq (Nat.lt_add_of_pos_right (Nat.succ_pos _)) h1.symm
theorem q207 (h0 : a0 = 3) (h1 : a1 ≤ 3) : (a1 = (min a1 a0)) := (Nat.min_eq_left (Nat.le_trans h1 (Nat.le_of_eq h0.symm))).symm
theorem q209 (h0 : a0 ≤ 7) : (a0 < 100) := qN h0 rfl
theorem q212 (h0 : a0 ≤ 20) : (a0 ≤ 100) := qL h0 rfl
theorem q213 (h0 : a0 ≤ 7) : (a0 ≤ 100) := qL h0 rfl
theorem q219 (h0 : a0 = a1) (h1 : a2 ≤ a1) : (a2 ≤ a0) := Nat.le_trans h1 (Nat.le_of_eq h0.symm)
theorem q220 (h0 : a0 = a1) (h1 : a2 ≤ a3) (h2 : a4 ≤ a1) (h3 : a1 ≤ a2) : ((a0 - a4) ≤ a3) := Nat.le_trans (Nat.sub_le _ _) (Nat.le_trans (Nat.le_of_eq h0) (Nat.le_trans h3 h1))
theorem q221 (h0 : a0 ≤ a1) (h1 : a1 ≤ a2) : ((a1 - a0) ≤ a2) := Nat.le_trans (Nat.sub_le _ _) h1
end
theorem Zab {α : Type _} {x : α} {C : Prop} (h : none = some x) : C := nomatch h
theorem Zai {C : Prop} (h : false = true) : C := nomatch h
theorem Ia {p0 : Prop} {p1 : Prop} (h0 : p0) (h1 : p1) : p0 ∧ p1 := ⟨h0, h1⟩
theorem Ie {a0 : Sort _} {p1 : a0 → Prop} (x0 : a0) (h1 : p1 x0) : ∃ x0 : a0, p1 x0 := ⟨x0, h1⟩
theorem Iaa {p0 : Prop} {p1 : Prop} {p2 : Prop} (h0 : p0) (h1 : p1) (h2 : p2) : p0 ∧ p1 ∧ p2 := ⟨h0, h1, h2⟩
theorem Iae {p0 : Prop} {a1 : Sort _} {p2 : a1 → Prop} (h0 : p0) (x1 : a1) (h2 : p2 x1) : p0 ∧ ∃ x1 : a1, p2 x1 := ⟨h0, x1, h2⟩
theorem Iea {a0 : Sort _} {p1 : a0 → Prop} {p2 : a0 → Prop} (x0 : a0) (h1 : p1 x0) (h2 : p2 x0) : ∃ x0 : a0, p1 x0 ∧ p2 x0 := ⟨x0, h1, h2⟩
theorem Iaaa {p0 : Prop} {p1 : Prop} {p2 : Prop} {p3 : Prop} (h0 : p0) (h1 : p1) (h2 : p2) (h3 : p3) : p0 ∧ p1 ∧ p2 ∧ p3 := ⟨h0, h1, h2, h3⟩
theorem Iaae {p0 : Prop} {p1 : Prop} {a2 : Sort _} {p3 : a2 → Prop} (h0 : p0) (h1 : p1) (x2 : a2) (h3 : p3 x2) : p0 ∧ p1 ∧ ∃ x2 : a2, p3 x2 := ⟨h0, h1, x2, h3⟩
theorem Iaea {p0 : Prop} {a1 : Sort _} {p2 : a1 → Prop} {p3 : a1 → Prop} (h0 : p0) (x1 : a1) (h2 : p2 x1) (h3 : p3 x1) : p0 ∧ ∃ x1 : a1, p2 x1 ∧ p3 x1 := ⟨h0, x1, h2, h3⟩
theorem Ieaa {a0 : Sort _} {p1 : a0 → Prop} {p2 : a0 → Prop} {p3 : a0 → Prop} (x0 : a0) (h1 : p1 x0) (h2 : p2 x0) (h3 : p3 x0) : ∃ x0 : a0, p1 x0 ∧ p2 x0 ∧ p3 x0 := ⟨x0, h1, h2, h3⟩
theorem Ieea {a0 : Sort _} {a1 : Sort _} {p2 : a0 → a1 → Prop} {p3 : a0 → a1 → Prop} (x0 : a0) (x1 : a1) (h2 : p2 x0 x1) (h3 : p3 x0 x1) : ∃ x0 : a0, ∃ x1 : a1, p2 x0 x1 ∧ p3 x0 x1 := ⟨x0, x1, h2, h3⟩
theorem Iaaaa {p0 : Prop} {p1 : Prop} {p2 : Prop} {p3 : Prop} {p4 : Prop} (h0 : p0) (h1 : p1) (h2 : p2) (h3 : p3) (h4 : p4) : p0 ∧ p1 ∧ p2 ∧ p3 ∧ p4 := ⟨h0, h1, h2, h3, h4⟩
theorem Ieaaa {a0 : Sort _} {p1 : a0 → Prop} {p2 : a0 → Prop} {p3 : a0 → Prop} {p4 : a0 → Prop} (x0 : a0) (h1 : p1 x0) (h2 : p2 x0) (h3 : p3 x0) (h4 : p4 x0) : ∃ x0 : a0, p1 x0 ∧ p2 x0 ∧ p3 x0 ∧ p4 x0 := ⟨x0, h1, h2, h3, h4⟩
theorem Ieaae {a0 : Sort _} {p1 : a0 → Prop} {p2 : a0 → Prop} {a3 : Sort _} {p4 : a0 → a3 → Prop} (x0 : a0) (h1 : p1 x0) (h2 : p2 x0) (x3 : a3) (h4 : p4 x0 x3) : ∃ x0 : a0, p1 x0 ∧ p2 x0 ∧ ∃ x3 : a3, p4 x0 x3 := ⟨x0, h1, h2, x3, h4⟩
theorem Ieeaa {a0 : Sort _} {a1 : Sort _} {p2 : a0 → a1 → Prop} {p3 : a0 → a1 → Prop} {p4 : a0 → a1 → Prop} (x0 : a0) (x1 : a1) (h2 : p2 x0 x1) (h3 : p3 x0 x1) (h4 : p4 x0 x1) : ∃ x0 : a0, ∃ x1 : a1, p2 x0 x1 ∧ p3 x0 x1 ∧ p4 x0 x1 := ⟨x0, x1, h2, h3, h4⟩
theorem Ieeea {a0 : Sort _} {a1 : Sort _} {a2 : Sort _} {p3 : a0 → a1 → a2 → Prop} {p4 : a0 → a1 → a2 → Prop} (x0 : a0) (x1 : a1) (x2 : a2) (h3 : p3 x0 x1 x2) (h4 : p4 x0 x1 x2) : ∃ x0 : a0, ∃ x1 : a1, ∃ x2 : a2, p3 x0 x1 x2 ∧ p4 x0 x1 x2 := ⟨x0, x1, x2, h3, h4⟩
theorem Iaaaaa {p0 : Prop} {p1 : Prop} {p2 : Prop} {p3 : Prop} {p4 : Prop} {p5 : Prop} (h0 : p0) (h1 : p1) (h2 : p2) (h3 : p3) (h4 : p4) (h5 : p5) : p0 ∧ p1 ∧ p2 ∧ p3 ∧ p4 ∧ p5 := ⟨h0, h1, h2, h3, h4, h5⟩
theorem Ieaaaa {a0 : Sort _} {p1 : a0 → Prop} {p2 : a0 → Prop} {p3 : a0 → Prop} {p4 : a0 → Prop} {p5 : a0 → Prop} (x0 : a0) (h1 : p1 x0) (h2 : p2 x0) (h3 : p3 x0) (h4 : p4 x0) (h5 : p5 x0) : ∃ x0 : a0, p1 x0 ∧ p2 x0 ∧ p3 x0 ∧ p4 x0 ∧ p5 x0 := ⟨x0, h1, h2, h3, h4, h5⟩
theorem Ieeaaa {a0 : Sort _} {a1 : Sort _} {p2 : a0 → a1 → Prop} {p3 : a0 → a1 → Prop} {p4 : a0 → a1 → Prop} {p5 : a0 → a1 → Prop} (x0 : a0) (x1 : a1) (h2 : p2 x0 x1) (h3 : p3 x0 x1) (h4 : p4 x0 x1) (h5 : p5 x0 x1) : ∃ x0 : a0, ∃ x1 : a1, p2 x0 x1 ∧ p3 x0 x1 ∧ p4 x0 x1 ∧ p5 x0 x1 := ⟨x0, x1, h2, h3, h4, h5⟩
theorem Ieeeaa {a0 : Sort _} {a1 : Sort _} {a2 : Sort _} {p3 : a0 → a1 → a2 → Prop} {p4 : a0 → a1 → a2 → Prop} {p5 : a0 → a1 → a2 → Prop} (x0 : a0) (x1 : a1) (x2 : a2) (h3 : p3 x0 x1 x2) (h4 : p4 x0 x1 x2) (h5 : p5 x0 x1 x2) : ∃ x0 : a0, ∃ x1 : a1, ∃ x2 : a2, p3 x0 x1 x2 ∧ p4 x0 x1 x2 ∧ p5 x0 x1 x2 := ⟨x0, x1, x2, h3, h4, h5⟩
theorem Ieeaaaa {a0 : Sort _} {a1 : Sort _} {p2 : a0 → a1 → Prop} {p3 : a0 → a1 → Prop} {p4 : a0 → a1 → Prop} {p5 : a0 → a1 → Prop} {p6 : a0 → a1 → Prop} (x0 : a0) (x1 : a1) (h2 : p2 x0 x1) (h3 : p3 x0 x1) (h4 : p4 x0 x1) (h5 : p5 x0 x1) (h6 : p6 x0 x1) : ∃ x0 : a0, ∃ x1 : a1, p2 x0 x1 ∧ p3 x0 x1 ∧ p4 x0 x1 ∧ p5 x0 x1 ∧ p6 x0 x1 := ⟨x0, x1, h2, h3, h4, h5, h6⟩
theorem Ieeeaaa {a0 : Sort _} {a1 : Sort _} {a2 : Sort _} {p3 : a0 → a1 → a2 → Prop} {p4 : a0 → a1 → a2 → Prop} {p5 : a0 → a1 → a2 → Prop} {p6 : a0 → a1 → a2 → Prop} (x0 : a0) (x1 : a1) (x2 : a2) (h3 : p3 x0 x1 x2) (h4 : p4 x0 x1 x2) (h5 : p5 x0 x1 x2) (h6 : p6 x0 x1 x2) : ∃ x0 : a0, ∃ x1 : a1, ∃ x2 : a2, p3 x0 x1 x2 ∧ p4 x0 x1 x2 ∧ p5 x0 x1 x2 ∧ p6 x0 x1 x2 := ⟨x0, x1, x2, h3, h4, h5, h6⟩
theorem Iaeeaaaa {p0 : Prop} {a1 : Sort _} {a2 : Sort _} {p3 : a1 → a2 → Prop} {p4 : a1 → a2 → Prop} {p5 : a1 → a2 → Prop} {p6 : a1 → a2 → Prop} {p7 : a1 → a2 → Prop} (h0 : p0) (x1 : a1) (x2 : a2) (h3 : p3 x1 x2) (h4 : p4 x1 x2) (h5 : p5 x1 x2) (h6 : p6 x1 x2) (h7 : p7 x1 x2) : p0 ∧ ∃ x1 : a1, ∃ x2 : a2, p3 x1 x2 ∧ p4 x1 x2 ∧ p5 x1 x2 ∧ p6 x1 x2 ∧ p7 x1 x2 := ⟨h0, x1, x2, h3, h4, h5, h6, h7⟩
theorem Ieaaaaaa {a0 : Sort _} {p1 : a0 → Prop} {p2 : a0 → Prop} {p3 : a0 → Prop} {p4 : a0 → Prop} {p5 : a0 → Prop} {p6 : a0 → Prop} {p7 : a0 → Prop} (x0 : a0) (h1 : p1 x0) (h2 : p2 x0) (h3 : p3 x0) (h4 : p4 x0) (h5 : p5 x0) (h6 : p6 x0) (h7 : p7 x0) : ∃ x0 : a0, p1 x0 ∧ p2 x0 ∧ p3 x0 ∧ p4 x0 ∧ p5 x0 ∧ p6 x0 ∧ p7 x0 := ⟨x0, h1, h2, h3, h4, h5, h6, h7⟩
theorem Ieeeeaaa {a0 : Sort _} {a1 : Sort _} {a2 : Sort _} {a3 : Sort _} {p4 : a0 → a1 → a2 → a3 → Prop} {p5 : a0 → a1 → a2 → a3 → Prop} {p6 : a0 → a1 → a2 → a3 → Prop} {p7 : a0 → a1 → a2 → a3 → Prop} (x0 : a0) (x1 : a1) (x2 : a2) (x3 : a3) (h4 : p4 x0 x1 x2 x3) (h5 : p5 x0 x1 x2 x3) (h6 : p6 x0 x1 x2 x3) (h7 : p7 x0 x1 x2 x3) : ∃ x0 : a0, ∃ x1 : a1, ∃ x2 : a2, ∃ x3 : a3, p4 x0 x1 x2 x3 ∧ p5 x0 x1 x2 x3 ∧ p6 x0 x1 x2 x3 ∧ p7 x0 x1 x2 x3 := ⟨x0, x1, x2, x3, h4, h5, h6, h7⟩
theorem Iaaaaaaaa {p0 : Prop} {p1 : Prop} {p2 : Prop} {p3 : Prop} {p4 : Prop} {p5 : Prop} {p6 : Prop} {p7 : Prop} {p8 : Prop} (h0 : p0) (h1 : p1) (h2 : p2) (h3 : p3) (h4 : p4) (h5 : p5) (h6 : p6) (h7 : p7) (h8 : p8) : p0 ∧ p1 ∧ p2 ∧ p3 ∧ p4 ∧ p5 ∧ p6 ∧ p7 ∧ p8 := ⟨h0, h1, h2, h3, h4, h5, h6, h7, h8⟩
theorem Iaeeaaaaa {p0 : Prop} {a1 : Sort _} {a2 : Sort _} {p3 : a1 → a2 → Prop} {p4 : a1 → a2 → Prop} {p5 : a1 → a2 → Prop} {p6 : a1 → a2 → Prop} {p7 : a1 → a2 → Prop} {p8 : a1 → a2 → Prop} (h0 : p0) (x1 : a1) (x2 : a2) (h3 : p3 x1 x2) (h4 : p4 x1 x2) (h5 : p5 x1 x2) (h6 : p6 x1 x2) (h7 : p7 x1 x2) (h8 : p8 x1 x2) : p0 ∧ ∃ x1 : a1, ∃ x2 : a2, p3 x1 x2 ∧ p4 x1 x2 ∧ p5 x1 x2 ∧ p6 x1 x2 ∧ p7 x1 x2 ∧ p8 x1 x2 := ⟨h0, x1, x2, h3, h4, h5, h6, h7, h8⟩
theorem Iaeeaaaae {p0 : Prop} {a1 : Sort _} {a2 : Sort _} {p3 : a1 → a2 → Prop} {p4 : a1 → a2 → Prop} {p5 : a1 → a2 → Prop} {p6 : a1 → a2 → Prop} {a7 : Sort _} {p8 : a1 → a2 → a7 → Prop} (h0 : p0) (x1 : a1) (x2 : a2) (h3 : p3 x1 x2) (h4 : p4 x1 x2) (h5 : p5 x1 x2) (h6 : p6 x1 x2) (x7 : a7) (h8 : p8 x1 x2 x7) : p0 ∧ ∃ x1 : a1, ∃ x2 : a2, p3 x1 x2 ∧ p4 x1 x2 ∧ p5 x1 x2 ∧ p6 x1 x2 ∧ ∃ x7 : a7, p8 x1 x2 x7 := ⟨h0, x1, x2, h3, h4, h5, h6, x7, h8⟩
theorem Iaeeeeaaa {p0 : Prop} {a1 : Sort _} {a2 : Sort _} {a3 : Sort _} {a4 : Sort _} {p5 : a1 → a2 → a3 → a4 → Prop} {p6 : a1 → a2 → a3 → a4 → Prop} {p7 : a1 → a2 → a3 → a4 → Prop} {p8 : a1 → a2 → a3 → a4 → Prop} (h0 : p0) (x1 : a1) (x2 : a2) (x3 : a3) (x4 : a4) (h5 : p5 x1 x2 x3 x4) (h6 : p6 x1 x2 x3 x4) (h7 : p7 x1 x2 x3 x4) (h8 : p8 x1 x2 x3 x4) : p0 ∧ ∃ x1 : a1, ∃ x2 : a2, ∃ x3 : a3, ∃ x4 : a4, p5 x1 x2 x3 x4 ∧ p6 x1 x2 x3 x4 ∧ p7 x1 x2 x3 x4 ∧ p8 x1 x2 x3 x4 := ⟨h0, x1, x2, x3, x4, h5, h6, h7, h8⟩
theorem Ieaaaaaaa {a0 : Sort _} {p1 : a0 → Prop} {p2 : a0 → Prop} {p3 : a0 → Prop} {p4 : a0 → Prop} {p5 : a0 → Prop} {p6 : a0 → Prop} {p7 : a0 → Prop} {p8 : a0 → Prop} (x0 : a0) (h1 : p1 x0) (h2 : p2 x0) (h3 : p3 x0) (h4 : p4 x0) (h5 : p5 x0) (h6 : p6 x0) (h7 : p7 x0) (h8 : p8 x0) : ∃ x0 : a0, p1 x0 ∧ p2 x0 ∧ p3 x0 ∧ p4 x0 ∧ p5 x0 ∧ p6 x0 ∧ p7 x0 ∧ p8 x0 := ⟨x0, h1, h2, h3, h4, h5, h6, h7, h8⟩
theorem Ieeaaaaaa {a0 : Sort _} {a1 : Sort _} {p2 : a0 → a1 → Prop} {p3 : a0 → a1 → Prop} {p4 : a0 → a1 → Prop} {p5 : a0 → a1 → Prop} {p6 : a0 → a1 → Prop} {p7 : a0 → a1 → Prop} {p8 : a0 → a1 → Prop} (x0 : a0) (x1 : a1) (h2 : p2 x0 x1) (h3 : p3 x0 x1) (h4 : p4 x0 x1) (h5 : p5 x0 x1) (h6 : p6 x0 x1) (h7 : p7 x0 x1) (h8 : p8 x0 x1) : ∃ x0 : a0, ∃ x1 : a1, p2 x0 x1 ∧ p3 x0 x1 ∧ p4 x0 x1 ∧ p5 x0 x1 ∧ p6 x0 x1 ∧ p7 x0 x1 ∧ p8 x0 x1 := ⟨x0, x1, h2, h3, h4, h5, h6, h7, h8⟩
theorem Ieeeaaaaa {a0 : Sort _} {a1 : Sort _} {a2 : Sort _} {p3 : a0 → a1 → a2 → Prop} {p4 : a0 → a1 → a2 → Prop} {p5 : a0 → a1 → a2 → Prop} {p6 : a0 → a1 → a2 → Prop} {p7 : a0 → a1 → a2 → Prop} {p8 : a0 → a1 → a2 → Prop} (x0 : a0) (x1 : a1) (x2 : a2) (h3 : p3 x0 x1 x2) (h4 : p4 x0 x1 x2) (h5 : p5 x0 x1 x2) (h6 : p6 x0 x1 x2) (h7 : p7 x0 x1 x2) (h8 : p8 x0 x1 x2) : ∃ x0 : a0, ∃ x1 : a1, ∃ x2 : a2, p3 x0 x1 x2 ∧ p4 x0 x1 x2 ∧ p5 x0 x1 x2 ∧ p6 x0 x1 x2 ∧ p7 x0 x1 x2 ∧ p8 x0 x1 x2 := ⟨x0, x1, x2, h3, h4, h5, h6, h7, h8⟩
theorem Ieeeeaaaa {a0 : Sort _} {a1 : Sort _} {a2 : Sort _} {a3 : Sort _} {p4 : a0 → a1 → a2 → a3 → Prop} {p5 : a0 → a1 → a2 → a3 → Prop} {p6 : a0 → a1 → a2 → a3 → Prop} {p7 : a0 → a1 → a2 → a3 → Prop} {p8 : a0 → a1 → a2 → a3 → Prop} (x0 : a0) (x1 : a1) (x2 : a2) (x3 : a3) (h4 : p4 x0 x1 x2 x3) (h5 : p5 x0 x1 x2 x3) (h6 : p6 x0 x1 x2 x3) (h7 : p7 x0 x1 x2 x3) (h8 : p8 x0 x1 x2 x3) : ∃ x0 : a0, ∃ x1 : a1, ∃ x2 : a2, ∃ x3 : a3, p4 x0 x1 x2 x3 ∧ p5 x0 x1 x2 x3 ∧ p6 x0 x1 x2 x3 ∧ p7 x0 x1 x2 x3 ∧ p8 x0 x1 x2 x3 := ⟨x0, x1, x2, x3, h4, h5, h6, h7, h8⟩
theorem Ieeeeeaaa {a0 : Sort _} {a1 : Sort _} {a2 : Sort _} {a3 : Sort _} {a4 : Sort _} {p5 : a0 → a1 → a2 → a3 → a4 → Prop} {p6 : a0 → a1 → a2 → a3 → a4 → Prop} {p7 : a0 → a1 → a2 → a3 → a4 → Prop} {p8 : a0 → a1 → a2 → a3 → a4 → Prop} (x0 : a0) (x1 : a1) (x2 : a2) (x3 : a3) (x4 : a4) (h5 : p5 x0 x1 x2 x3 x4) (h6 : p6 x0 x1 x2 x3 x4) (h7 : p7 x0 x1 x2 x3 x4) (h8 : p8 x0 x1 x2 x3 x4) : ∃ x0 : a0, ∃ x1 : a1, ∃ x2 : a2, ∃ x3 : a3, ∃ x4 : a4, p5 x0 x1 x2 x3 x4 ∧ p6 x0 x1 x2 x3 x4 ∧ p7 x0 x1 x2 x3 x4 ∧ p8 x0 x1 x2 x3 x4 := ⟨x0, x1, x2, x3, x4, h5, h6, h7, h8⟩
section
variable {C : Prop}
theorem Oeeeeaaa {a0 : Sort _} {a1 : Sort _} {a2 : Sort _} {a3 : Sort _} {p4 : a0 → a1 → a2 → a3 → Prop} {p5 : a0 → a1 → a2 → a3 → Prop} {p6 : a0 → a1 → a2 → a3 → Prop} {p7 : a0 → a1 → a2 → a3 → Prop} (h : ∃ x0 : a0, ∃ x1 : a1, ∃ x2 : a2, ∃ x3 : a3, p4 x0 x1 x2 x3 ∧ p5 x0 x1 x2 x3 ∧ p6 x0 x1 x2 x3 ∧ p7 x0 x1 x2 x3) (k : ∀ x0, ∀ x1, ∀ x2, ∀ x3, p4 x0 x1 x2 x3 → p5 x0 x1 x2 x3 → p6 x0 x1 x2 x3 → p7 x0 x1 x2 x3 → C) : C := h.elim fun x0 g0 => g0.elim fun x1 g1 => g1.elim fun x2 g2 => g2.elim fun x3 g3 => k x0 x1 x2 x3 g3.1 g3.2.1 g3.2.2.1 g3.2.2.2
theorem Oaaaaaaaa {p0 : Prop} {p1 : Prop} {p2 : Prop} {p3 : Prop} {p4 : Prop} {p5 : Prop} {p6 : Prop} {p7 : Prop} {p8 : Prop} (h : p0 ∧ p1 ∧ p2 ∧ p3 ∧ p4 ∧ p5 ∧ p6 ∧ p7 ∧ p8) (k : p0 → p1 → p2 → p3 → p4 → p5 → p6 → p7 → p8 → C) : C := k h.1 h.2.1 h.2.2.1 h.2.2.2.1 h.2.2.2.2.1 h.2.2.2.2.2.1 h.2.2.2.2.2.2.1 h.2.2.2.2.2.2.2.1 h.2.2.2.2.2.2.2.2
theorem Oeeeaaaaa {a0 : Sort _} {a1 : Sort _} {a2 : Sort _} {p3 : a0 → a1 → a2 → Prop} {p4 : a0 → a1 → a2 → Prop} {p5 : a0 → a1 → a2 → Prop} {p6 : a0 → a1 → a2 → Prop} {p7 : a0 → a1 → a2 → Prop} {p8 : a0 → a1 → a2 → Prop} (h : ∃ x0 : a0, ∃ x1 : a1, ∃ x2 : a2, p3 x0 x1 x2 ∧ p4 x0 x1 x2 ∧ p5 x0 x1 x2 ∧ p6 x0 x1 x2 ∧ p7 x0 x1 x2 ∧ p8 x0 x1 x2) (k : ∀ x0, ∀ x1, ∀ x2, p3 x0 x1 x2 → p4 x0 x1 x2 → p5 x0 x1 x2 → p6 x0 x1 x2 → p7 x0 x1 x2 → p8 x0 x1 x2 → C) : C := h.elim fun x0 g0 => g0.elim fun x1 g1 => g1.elim fun x2 g2 => k x0 x1 x2 g2.1 g2.2.1 g2.2.2.1 g2.2.2.2.1 g2.2.2.2.2.1 g2.2.2.2.2.2
theorem Oaaaaaaaaa {p0 : Prop} {p1 : Prop} {p2 : Prop} {p3 : Prop} {p4 : Prop} {p5 : Prop} {p6 : Prop} {p7 : Prop} {p8 : Prop} {p9 : Prop} (h : p0 ∧ p1 ∧ p2 ∧ p3 ∧ p4 ∧ p5 ∧ p6 ∧ p7 ∧ p8 ∧ p9) (k : p0 → p1 → p2 → p3 → p4 → p5 → p6 → p7 → p8 → p9 → C) : C := k h.1 h.2.1 h.2.2.1 h.2.2.2.1 h.2.2.2.2.1 h.2.2.2.2.2.1 h.2.2.2.2.2.2.1 h.2.2.2.2.2.2.2.1 h.2.2.2.2.2.2.2.2.1 h.2.2.2.2.2.2.2.2.2
theorem Oaeaeeaaaa {p0 : Prop} {a1 : Sort _} {p2 : a1 → Prop} {a3 : Sort _} {a4 : Sort _} {p5 : a1 → a3 → a4 → Prop} {p6 : a1 → a3 → a4 → Prop} {p7 : a1 → a3 → a4 → Prop} {p8 : a1 → a3 → a4 → Prop} {p9 : a1 → a3 → a4 → Prop} (h : p0 ∧ ∃ x1 : a1, p2 x1 ∧ ∃ x3 : a3, ∃ x4 : a4, p5 x1 x3 x4 ∧ p6 x1 x3 x4 ∧ p7 x1 x3 x4 ∧ p8 x1 x3 x4 ∧ p9 x1 x3 x4) (k : p0 → ∀ x1, p2 x1 → ∀ x3, ∀ x4, p5 x1 x3 x4 → p6 x1 x3 x4 → p7 x1 x3 x4 → p8 x1 x3 x4 → p9 x1 x3 x4 → C) : C := h.2.elim fun x1 g1 => g1.2.elim fun x3 g3 => g3.elim fun x4 g4 => k h.1 x1 g1.1 x3 x4 g4.1 g4.2.1 g4.2.2.1 g4.2.2.2.1 g4.2.2.2.2
theorem Oaeaeeeeaa {p0 : Prop} {a1 : Sort _} {p2 : a1 → Prop} {a3 : Sort _} {a4 : Sort _} {a5 : Sort _} {a6 : Sort _} {p7 : a1 → a3 → a4 → a5 → a6 → Prop} {p8 : a1 → a3 → a4 → a5 → a6 → Prop} {p9 : a1 → a3 → a4 → a5 → a6 → Prop} (h : p0 ∧ ∃ x1 : a1, p2 x1 ∧ ∃ x3 : a3, ∃ x4 : a4, ∃ x5 : a5, ∃ x6 : a6, p7 x1 x3 x4 x5 x6 ∧ p8 x1 x3 x4 x5 x6 ∧ p9 x1 x3 x4 x5 x6) (k : p0 → ∀ x1, p2 x1 → ∀ x3, ∀ x4, ∀ x5, ∀ x6, p7 x1 x3 x4 x5 x6 → p8 x1 x3 x4 x5 x6 → p9 x1 x3 x4 x5 x6 → C) : C := h.2.elim fun x1 g1 => g1.2.elim fun x3 g3 => g3.elim fun x4 g4 => g4.elim fun x5 g5 => g5.elim fun x6 g6 => k h.1 x1 g1.1 x3 x4 x5 x6 g6.1 g6.2.1 g6.2.2
theorem Oaeeaaaaaa {p0 : Prop} {a1 : Sort _} {a2 : Sort _} {p3 : a1 → a2 → Prop} {p4 : a1 → a2 → Prop} {p5 : a1 → a2 → Prop} {p6 : a1 → a2 → Prop} {p7 : a1 → a2 → Prop} {p8 : a1 → a2 → Prop} {p9 : a1 → a2 → Prop} (h : p0 ∧ ∃ x1 : a1, ∃ x2 : a2, p3 x1 x2 ∧ p4 x1 x2 ∧ p5 x1 x2 ∧ p6 x1 x2 ∧ p7 x1 x2 ∧ p8 x1 x2 ∧ p9 x1 x2) (k : p0 → ∀ x1, ∀ x2, p3 x1 x2 → p4 x1 x2 → p5 x1 x2 → p6 x1 x2 → p7 x1 x2 → p8 x1 x2 → p9 x1 x2 → C) : C := h.2.elim fun x1 g1 => g1.elim fun x2 g2 => k h.1 x1 x2 g2.1 g2.2.1 g2.2.2.1 g2.2.2.2.1 g2.2.2.2.2.1 g2.2.2.2.2.2.1 g2.2.2.2.2.2.2
theorem Oaeeeeaaaa {p0 : Prop} {a1 : Sort _} {a2 : Sort _} {a3 : Sort _} {a4 : Sort _} {p5 : a1 → a2 → a3 → a4 → Prop} {p6 : a1 → a2 → a3 → a4 → Prop} {p7 : a1 → a2 → a3 → a4 → Prop} {p8 : a1 → a2 → a3 → a4 → Prop} {p9 : a1 → a2 → a3 → a4 → Prop} (h : p0 ∧ ∃ x1 : a1, ∃ x2 : a2, ∃ x3 : a3, ∃ x4 : a4, p5 x1 x2 x3 x4 ∧ p6 x1 x2 x3 x4 ∧ p7 x1 x2 x3 x4 ∧ p8 x1 x2 x3 x4 ∧ p9 x1 x2 x3 x4) (k : p0 → ∀ x1, ∀ x2, ∀ x3, ∀ x4, p5 x1 x2 x3 x4 → p6 x1 x2 x3 x4 → p7 x1 x2 x3 x4 → p8 x1 x2 x3 x4 → p9 x1 x2 x3 x4 → C) : C := h.2.elim fun x1 g1 => g1.elim fun x2 g2 => g2.elim fun x3 g3 => g3.elim fun x4 g4 => k h.1 x1 x2 x3 x4 g4.1 g4.2.1 g4.2.2.1 g4.2.2.2.1 g4.2.2.2.2
theorem Oeaaaaaaaa {a0 : Sort _} {p1 : a0 → Prop} {p2 : a0 → Prop} {p3 : a0 → Prop} {p4 : a0 → Prop} {p5 : a0 → Prop} {p6 : a0 → Prop} {p7 : a0 → Prop} {p8 : a0 → Prop} {p9 : a0 → Prop} (h : ∃ x0 : a0, p1 x0 ∧ p2 x0 ∧ p3 x0 ∧ p4 x0 ∧ p5 x0 ∧ p6 x0 ∧ p7 x0 ∧ p8 x0 ∧ p9 x0) (k : ∀ x0, p1 x0 → p2 x0 → p3 x0 → p4 x0 → p5 x0 → p6 x0 → p7 x0 → p8 x0 → p9 x0 → C) : C := h.elim fun x0 g0 => k x0 g0.1 g0.2.1 g0.2.2.1 g0.2.2.2.1 g0.2.2.2.2.1 g0.2.2.2.2.2.1 g0.2.2.2.2.2.2.1 g0.2.2.2.2.2.2.2.1 g0.2.2.2.2.2.2.2.2
theorem Oeaeeaaaaa {a0 : Sort _} {p1 : a0 → Prop} {a2 : Sort _} {a3 : Sort _} {p4 : a0 → a2 → a3 → Prop} {p5 : a0 → a2 → a3 → Prop} {p6 : a0 → a2 → a3 → Prop} {p7 : a0 → a2 → a3 → Prop} {p8 : a0 → a2 → a3 → Prop} {p9 : a0 → a2 → a3 → Prop} (h : ∃ x0 : a0, p1 x0 ∧ ∃ x2 : a2, ∃ x3 : a3, p4 x0 x2 x3 ∧ p5 x0 x2 x3 ∧ p6 x0 x2 x3 ∧ p7 x0 x2 x3 ∧ p8 x0 x2 x3 ∧ p9 x0 x2 x3) (k : ∀ x0, p1 x0 → ∀ x2, ∀ x3, p4 x0 x2 x3 → p5 x0 x2 x3 → p6 x0 x2 x3 → p7 x0 x2 x3 → p8 x0 x2 x3 → p9 x0 x2 x3 → C) : C := h.elim fun x0 g0 => g0.2.elim fun x2 g2 => g2.elim fun x3 g3 => k x0 g0.1 x2 x3 g3.1 g3.2.1 g3.2.2.1 g3.2.2.2.1 g3.2.2.2.2.1 g3.2.2.2.2.2
theorem Oeeeeeeeea {a0 : Sort _} {a1 : Sort _} {a2 : Sort _} {a3 : Sort _} {a4 : Sort _} {a5 : Sort _} {a6 : Sort _} {a7 : Sort _} {p8 : a0 → a1 → a2 → a3 → a4 → a5 → a6 → a7 → Prop} {p9 : a0 → a1 → a2 → a3 → a4 → a5 → a6 → a7 → Prop} (h : ∃ x0 : a0, ∃ x1 : a1, ∃ x2 : a2, ∃ x3 : a3, ∃ x4 : a4, ∃ x5 : a5, ∃ x6 : a6, ∃ x7 : a7, p8 x0 x1 x2 x3 x4 x5 x6 x7 ∧ p9 x0 x1 x2 x3 x4 x5 x6 x7) (k : ∀ x0, ∀ x1, ∀ x2, ∀ x3, ∀ x4, ∀ x5, ∀ x6, ∀ x7, p8 x0 x1 x2 x3 x4 x5 x6 x7 → p9 x0 x1 x2 x3 x4 x5 x6 x7 → C) : C := h.elim fun x0 g0 => g0.elim fun x1 g1 => g1.elim fun x2 g2 => g2.elim fun x3 g3 => g3.elim fun x4 g4 => g4.elim fun x5 g5 => g5.elim fun x6 g6 => g6.elim fun x7 g7 => k x0 x1 x2 x3 x4 x5 x6 x7 g7.1 g7.2
theorem Oa {p0 : Prop} {p1 : Prop} (h : p0 ∧ p1) (k : p0 → p1 → C) : C := k h.1 h.2
theorem Oe {a0 : Sort _} {p1 : a0 → Prop} (h : ∃ x0 : a0, p1 x0) (k : ∀ x0, p1 x0 → C) : C := h.elim fun x0 g0 => k x0 g0
theorem Op {a0 : Prop} {p1 : ∀ x0 : a0, Prop} (h : ∃ x0 : a0, p1 x0) (k : ∀ x0, p1 x0 → C) : C := h.elim fun x0 g0 => k x0 g0
theorem Oaa {p0 : Prop} {p1 : Prop} {p2 : Prop} (h : p0 ∧ p1 ∧ p2) (k : p0 → p1 → p2 → C) : C := k h.1 h.2.1 h.2.2
theorem Oae {p0 : Prop} {a1 : Sort _} {p2 : a1 → Prop} (h : p0 ∧ ∃ x1 : a1, p2 x1) (k : p0 → ∀ x1, p2 x1 → C) : C := h.2.elim fun x1 g1 => k h.1 x1 g1
theorem Oea {a0 : Sort _} {p1 : a0 → Prop} {p2 : a0 → Prop} (h : ∃ x0 : a0, p1 x0 ∧ p2 x0) (k : ∀ x0, p1 x0 → p2 x0 → C) : C := h.elim fun x0 g0 => k x0 g0.1 g0.2
theorem Oee {a0 : Sort _} {a1 : Sort _} {p2 : a0 → a1 → Prop} (h : ∃ x0 : a0, ∃ x1 : a1, p2 x0 x1) (k : ∀ x0, ∀ x1, p2 x0 x1 → C) : C := h.elim fun x0 g0 => g0.elim fun x1 g1 => k x0 x1 g1
theorem Oep {a0 : Sort _} {a1 : ∀ x0 : a0, Prop} {p2 : ∀ x0 : a0, ∀ x1 : a1 x0, Prop} (h : ∃ x0 : a0, ∃ x1 : a1 x0, p2 x0 x1) (k : ∀ x0, ∀ x1, p2 x0 x1 → C) : C := h.elim fun x0 g0 => g0.elim fun x1 g1 => k x0 x1 g1
theorem Opa {a0 : Prop} {p1 : ∀ x0 : a0, Prop} {p2 : ∀ x0 : a0, Prop} (h : ∃ x0 : a0, p1 x0 ∧ p2 x0) (k : ∀ x0, p1 x0 → p2 x0 → C) : C := h.elim fun x0 g0 => k x0 g0.1 g0.2
theorem Oaaa {p0 : Prop} {p1 : Prop} {p2 : Prop} {p3 : Prop} (h : p0 ∧ p1 ∧ p2 ∧ p3) (k : p0 → p1 → p2 → p3 → C) : C := k h.1 h.2.1 h.2.2.1 h.2.2.2
theorem Oaae {p0 : Prop} {p1 : Prop} {a2 : Sort _} {p3 : a2 → Prop} (h : p0 ∧ p1 ∧ ∃ x2 : a2, p3 x2) (k : p0 → p1 → ∀ x2, p3 x2 → C) : C := h.2.2.elim fun x2 g2 => k h.1 h.2.1 x2 g2
theorem Oaea {p0 : Prop} {a1 : Sort _} {p2 : a1 → Prop} {p3 : a1 → Prop} (h : p0 ∧ ∃ x1 : a1, p2 x1 ∧ p3 x1) (k : p0 → ∀ x1, p2 x1 → p3 x1 → C) : C := h.2.elim fun x1 g1 => k h.1 x1 g1.1 g1.2
theorem Oeaa {a0 : Sort _} {p1 : a0 → Prop} {p2 : a0 → Prop} {p3 : a0 → Prop} (h : ∃ x0 : a0, p1 x0 ∧ p2 x0 ∧ p3 x0) (k : ∀ x0, p1 x0 → p2 x0 → p3 x0 → C) : C := h.elim fun x0 g0 => k x0 g0.1 g0.2.1 g0.2.2
theorem Oeea {a0 : Sort _} {a1 : Sort _} {p2 : a0 → a1 → Prop} {p3 : a0 → a1 → Prop} (h : ∃ x0 : a0, ∃ x1 : a1, p2 x0 x1 ∧ p3 x0 x1) (k : ∀ x0, ∀ x1, p2 x0 x1 → p3 x0 x1 → C) : C := h.elim fun x0 g0 => g0.elim fun x1 g1 => k x0 x1 g1.1 g1.2
theorem Oeee {a0 : Sort _} {a1 : Sort _} {a2 : Sort _} {p3 : a0 → a1 → a2 → Prop} (h : ∃ x0 : a0, ∃ x1 : a1, ∃ x2 : a2, p3 x0 x1 x2) (k : ∀ x0, ∀ x1, ∀ x2, p3 x0 x1 x2 → C) : C := h.elim fun x0 g0 => g0.elim fun x1 g1 => g1.elim fun x2 g2 => k x0 x1 x2 g2
theorem Oaaaa {p0 : Prop} {p1 : Prop} {p2 : Prop} {p3 : Prop} {p4 : Prop} (h : p0 ∧ p1 ∧ p2 ∧ p3 ∧ p4) (k : p0 → p1 → p2 → p3 → p4 → C) : C := k h.1 h.2.1 h.2.2.1 h.2.2.2.1 h.2.2.2.2
theorem Oeaaa {a0 : Sort _} {p1 : a0 → Prop} {p2 : a0 → Prop} {p3 : a0 → Prop} {p4 : a0 → Prop} (h : ∃ x0 : a0, p1 x0 ∧ p2 x0 ∧ p3 x0 ∧ p4 x0) (k : ∀ x0, p1 x0 → p2 x0 → p3 x0 → p4 x0 → C) : C := h.elim fun x0 g0 => k x0 g0.1 g0.2.1 g0.2.2.1 g0.2.2.2
theorem Oeaae {a0 : Sort _} {p1 : a0 → Prop} {p2 : a0 → Prop} {a3 : Sort _} {p4 : a0 → a3 → Prop} (h : ∃ x0 : a0, p1 x0 ∧ p2 x0 ∧ ∃ x3 : a3, p4 x0 x3) (k : ∀ x0, p1 x0 → p2 x0 → ∀ x3, p4 x0 x3 → C) : C := h.elim fun x0 g0 => g0.2.2.elim fun x3 g3 => k x0 g0.1 g0.2.1 x3 g3
theorem Oeeaa {a0 : Sort _} {a1 : Sort _} {p2 : a0 → a1 → Prop} {p3 : a0 → a1 → Prop} {p4 : a0 → a1 → Prop} (h : ∃ x0 : a0, ∃ x1 : a1, p2 x0 x1 ∧ p3 x0 x1 ∧ p4 x0 x1) (k : ∀ x0, ∀ x1, p2 x0 x1 → p3 x0 x1 → p4 x0 x1 → C) : C := h.elim fun x0 g0 => g0.elim fun x1 g1 => k x0 x1 g1.1 g1.2.1 g1.2.2
theorem Oeeea {a0 : Sort _} {a1 : Sort _} {a2 : Sort _} {p3 : a0 → a1 → a2 → Prop} {p4 : a0 → a1 → a2 → Prop} (h : ∃ x0 : a0, ∃ x1 : a1, ∃ x2 : a2, p3 x0 x1 x2 ∧ p4 x0 x1 x2) (k : ∀ x0, ∀ x1, ∀ x2, p3 x0 x1 x2 → p4 x0 x1 x2 → C) : C := h.elim fun x0 g0 => g0.elim fun x1 g1 => g1.elim fun x2 g2 => k x0 x1 x2 g2.1 g2.2
theorem Oaaaaa {p0 : Prop} {p1 : Prop} {p2 : Prop} {p3 : Prop} {p4 : Prop} {p5 : Prop} (h : p0 ∧ p1 ∧ p2 ∧ p3 ∧ p4 ∧ p5) (k : p0 → p1 → p2 → p3 → p4 → p5 → C) : C := k h.1 h.2.1 h.2.2.1 h.2.2.2.1 h.2.2.2.2.1 h.2.2.2.2.2
theorem Oeaaaa {a0 : Sort _} {p1 : a0 → Prop} {p2 : a0 → Prop} {p3 : a0 → Prop} {p4 : a0 → Prop} {p5 : a0 → Prop} (h : ∃ x0 : a0, p1 x0 ∧ p2 x0 ∧ p3 x0 ∧ p4 x0 ∧ p5 x0) (k : ∀ x0, p1 x0 → p2 x0 → p3 x0 → p4 x0 → p5 x0 → C) : C := h.elim fun x0 g0 => k x0 g0.1 g0.2.1 g0.2.2.1 g0.2.2.2.1 g0.2.2.2.2
theorem Oeeaaa {a0 : Sort _} {a1 : Sort _} {p2 : a0 → a1 → Prop} {p3 : a0 → a1 → Prop} {p4 : a0 → a1 → Prop} {p5 : a0 → a1 → Prop} (h : ∃ x0 : a0, ∃ x1 : a1, p2 x0 x1 ∧ p3 x0 x1 ∧ p4 x0 x1 ∧ p5 x0 x1) (k : ∀ x0, ∀ x1, p2 x0 x1 → p3 x0 x1 → p4 x0 x1 → p5 x0 x1 → C) : C := h.elim fun x0 g0 => g0.elim fun x1 g1 => k x0 x1 g1.1 g1.2.1 g1.2.2.1 g1.2.2.2
theorem Oeeeaa {a0 : Sort _} {a1 : Sort _} {a2 : Sort _} {p3 : a0 → a1 → a2 → Prop} {p4 : a0 → a1 → a2 → Prop} {p5 : a0 → a1 → a2 → Prop} (h : ∃ x0 : a0, ∃ x1 : a1, ∃ x2 : a2, p3 x0 x1 x2 ∧ p4 x0 x1 x2 ∧ p5 x0 x1 x2) (k : ∀ x0, ∀ x1, ∀ x2, p3 x0 x1 x2 → p4 x0 x1 x2 → p5 x0 x1 x2 → C) : C := h.elim fun x0 g0 => g0.elim fun x1 g1 => g1.elim fun x2 g2 => k x0 x1 x2 g2.1 g2.2.1 g2.2.2
theorem Oeeeea {a0 : Sort _} {a1 : Sort _} {a2 : Sort _} {a3 : Sort _} {p4 : a0 → a1 → a2 → a3 → Prop} {p5 : a0 → a1 → a2 → a3 → Prop} (h : ∃ x0 : a0, ∃ x1 : a1, ∃ x2 : a2, ∃ x3 : a3, p4 x0 x1 x2 x3 ∧ p5 x0 x1 x2 x3) (k : ∀ x0, ∀ x1, ∀ x2, ∀ x3, p4 x0 x1 x2 x3 → p5 x0 x1 x2 x3 → C) : C := h.elim fun x0 g0 => g0.elim fun x1 g1 => g1.elim fun x2 g2 => g2.elim fun x3 g3 => k x0 x1 x2 x3 g3.1 g3.2
theorem Oaaaaaa {p0 : Prop} {p1 : Prop} {p2 : Prop} {p3 : Prop} {p4 : Prop} {p5 : Prop} {p6 : Prop} (h : p0 ∧ p1 ∧ p2 ∧ p3 ∧ p4 ∧ p5 ∧ p6) (k : p0 → p1 → p2 → p3 → p4 → p5 → p6 → C) : C := k h.1 h.2.1 h.2.2.1 h.2.2.2.1 h.2.2.2.2.1 h.2.2.2.2.2.1 h.2.2.2.2.2.2
theorem Oaeeaaa {p0 : Prop} {a1 : Sort _} {a2 : Sort _} {p3 : a1 → a2 → Prop} {p4 : a1 → a2 → Prop} {p5 : a1 → a2 → Prop} {p6 : a1 → a2 → Prop} (h : p0 ∧ ∃ x1 : a1, ∃ x2 : a2, p3 x1 x2 ∧ p4 x1 x2 ∧ p5 x1 x2 ∧ p6 x1 x2) (k : p0 → ∀ x1, ∀ x2, p3 x1 x2 → p4 x1 x2 → p5 x1 x2 → p6 x1 x2 → C) : C := h.2.elim fun x1 g1 => g1.elim fun x2 g2 => k h.1 x1 x2 g2.1 g2.2.1 g2.2.2.1 g2.2.2.2
theorem Oeaaaaa {a0 : Sort _} {p1 : a0 → Prop} {p2 : a0 → Prop} {p3 : a0 → Prop} {p4 : a0 → Prop} {p5 : a0 → Prop} {p6 : a0 → Prop} (h : ∃ x0 : a0, p1 x0 ∧ p2 x0 ∧ p3 x0 ∧ p4 x0 ∧ p5 x0 ∧ p6 x0) (k : ∀ x0, p1 x0 → p2 x0 → p3 x0 → p4 x0 → p5 x0 → p6 x0 → C) : C := h.elim fun x0 g0 => k x0 g0.1 g0.2.1 g0.2.2.1 g0.2.2.2.1 g0.2.2.2.2.1 g0.2.2.2.2.2
theorem Oeeaaaa {a0 : Sort _} {a1 : Sort _} {p2 : a0 → a1 → Prop} {p3 : a0 → a1 → Prop} {p4 : a0 → a1 → Prop} {p5 : a0 → a1 → Prop} {p6 : a0 → a1 → Prop} (h : ∃ x0 : a0, ∃ x1 : a1, p2 x0 x1 ∧ p3 x0 x1 ∧ p4 x0 x1 ∧ p5 x0 x1 ∧ p6 x0 x1) (k : ∀ x0, ∀ x1, p2 x0 x1 → p3 x0 x1 → p4 x0 x1 → p5 x0 x1 → p6 x0 x1 → C) : C := h.elim fun x0 g0 => g0.elim fun x1 g1 => k x0 x1 g1.1 g1.2.1 g1.2.2.1 g1.2.2.2.1 g1.2.2.2.2
theorem Oeeeaaa {a0 : Sort _} {a1 : Sort _} {a2 : Sort _} {p3 : a0 → a1 → a2 → Prop} {p4 : a0 → a1 → a2 → Prop} {p5 : a0 → a1 → a2 → Prop} {p6 : a0 → a1 → a2 → Prop} (h : ∃ x0 : a0, ∃ x1 : a1, ∃ x2 : a2, p3 x0 x1 x2 ∧ p4 x0 x1 x2 ∧ p5 x0 x1 x2 ∧ p6 x0 x1 x2) (k : ∀ x0, ∀ x1, ∀ x2, p3 x0 x1 x2 → p4 x0 x1 x2 → p5 x0 x1 x2 → p6 x0 x1 x2 → C) : C := h.elim fun x0 g0 => g0.elim fun x1 g1 => g1.elim fun x2 g2 => k x0 x1 x2 g2.1 g2.2.1 g2.2.2.1 g2.2.2.2
theorem Oaaaaaaa {p0 : Prop} {p1 : Prop} {p2 : Prop} {p3 : Prop} {p4 : Prop} {p5 : Prop} {p6 : Prop} {p7 : Prop} (h : p0 ∧ p1 ∧ p2 ∧ p3 ∧ p4 ∧ p5 ∧ p6 ∧ p7) (k : p0 → p1 → p2 → p3 → p4 → p5 → p6 → p7 → C) : C := k h.1 h.2.1 h.2.2.1 h.2.2.2.1 h.2.2.2.2.1 h.2.2.2.2.2.1 h.2.2.2.2.2.2.1 h.2.2.2.2.2.2.2
theorem Oaeeaaaa {p0 : Prop} {a1 : Sort _} {a2 : Sort _} {p3 : a1 → a2 → Prop} {p4 : a1 → a2 → Prop} {p5 : a1 → a2 → Prop} {p6 : a1 → a2 → Prop} {p7 : a1 → a2 → Prop} (h : p0 ∧ ∃ x1 : a1, ∃ x2 : a2, p3 x1 x2 ∧ p4 x1 x2 ∧ p5 x1 x2 ∧ p6 x1 x2 ∧ p7 x1 x2) (k : p0 → ∀ x1, ∀ x2, p3 x1 x2 → p4 x1 x2 → p5 x1 x2 → p6 x1 x2 → p7 x1 x2 → C) : C := h.2.elim fun x1 g1 => g1.elim fun x2 g2 => k h.1 x1 x2 g2.1 g2.2.1 g2.2.2.1 g2.2.2.2.1 g2.2.2.2.2
theorem Oeaaaaaa {a0 : Sort _} {p1 : a0 → Prop} {p2 : a0 → Prop} {p3 : a0 → Prop} {p4 : a0 → Prop} {p5 : a0 → Prop} {p6 : a0 → Prop} {p7 : a0 → Prop} (h : ∃ x0 : a0, p1 x0 ∧ p2 x0 ∧ p3 x0 ∧ p4 x0 ∧ p5 x0 ∧ p6 x0 ∧ p7 x0) (k : ∀ x0, p1 x0 → p2 x0 → p3 x0 → p4 x0 → p5 x0 → p6 x0 → p7 x0 → C) : C := h.elim fun x0 g0 => k x0 g0.1 g0.2.1 g0.2.2.1 g0.2.2.2.1 g0.2.2.2.2.1 g0.2.2.2.2.2.1 g0.2.2.2.2.2.2
theorem Oaeeaaaaae {p0 : Prop} {a1 : Sort _} {a2 : Sort _} {p3 : a1 → a2 → Prop} {p4 : a1 → a2 → Prop} {p5 : a1 → a2 → Prop} {p6 : a1 → a2 → Prop} {p7 : a1 → a2 → Prop} {a8 : Sort _} {p9 : a1 → a2 → a8 → Prop} (h : p0 ∧ ∃ x1 : a1, ∃ x2 : a2, p3 x1 x2 ∧ p4 x1 x2 ∧ p5 x1 x2 ∧ p6 x1 x2 ∧ p7 x1 x2 ∧ ∃ x8 : a8, p9 x1 x2 x8) (k : p0 → ∀ x1, ∀ x2, p3 x1 x2 → p4 x1 x2 → p5 x1 x2 → p6 x1 x2 → p7 x1 x2 → ∀ x8, p9 x1 x2 x8 → C) : C := h.2.elim fun x1 g1 => g1.elim fun x2 g2 => g2.2.2.2.2.2.elim fun x8 g8 => k h.1 x1 x2 g2.1 g2.2.1 g2.2.2.1 g2.2.2.2.1 g2.2.2.2.2.1 x8 g8
theorem Oaeeaaaaee {p0 : Prop} {a1 : Sort _} {a2 : Sort _} {p3 : a1 → a2 → Prop} {p4 : a1 → a2 → Prop} {p5 : a1 → a2 → Prop} {p6 : a1 → a2 → Prop} {a7 : Sort _} {a8 : Sort _} {p9 : a1 → a2 → a7 → a8 → Prop} (h : p0 ∧ ∃ x1 : a1, ∃ x2 : a2, p3 x1 x2 ∧ p4 x1 x2 ∧ p5 x1 x2 ∧ p6 x1 x2 ∧ ∃ x7 : a7, ∃ x8 : a8, p9 x1 x2 x7 x8) (k : p0 → ∀ x1, ∀ x2, p3 x1 x2 → p4 x1 x2 → p5 x1 x2 → p6 x1 x2 → ∀ x7, ∀ x8, p9 x1 x2 x7 x8 → C) : C := h.2.elim fun x1 g1 => g1.elim fun x2 g2 => g2.2.2.2.2.elim fun x7 g7 => g7.elim fun x8 g8 => k h.1 x1 x2 g2.1 g2.2.1 g2.2.2.1 g2.2.2.2.1 x7 x8 g8
theorem Oeeaaaaaaa {a0 : Sort _} {a1 : Sort _} {p2 : a0 → a1 → Prop} {p3 : a0 → a1 → Prop} {p4 : a0 → a1 → Prop} {p5 : a0 → a1 → Prop} {p6 : a0 → a1 → Prop} {p7 : a0 → a1 → Prop} {p8 : a0 → a1 → Prop} {p9 : a0 → a1 → Prop} (h : ∃ x0 : a0, ∃ x1 : a1, p2 x0 x1 ∧ p3 x0 x1 ∧ p4 x0 x1 ∧ p5 x0 x1 ∧ p6 x0 x1 ∧ p7 x0 x1 ∧ p8 x0 x1 ∧ p9 x0 x1) (k : ∀ x0, ∀ x1, p2 x0 x1 → p3 x0 x1 → p4 x0 x1 → p5 x0 x1 → p6 x0 x1 → p7 x0 x1 → p8 x0 x1 → p9 x0 x1 → C) : C := h.elim fun x0 g0 => g0.elim fun x1 g1 => k x0 x1 g1.1 g1.2.1 g1.2.2.1 g1.2.2.2.1 g1.2.2.2.2.1 g1.2.2.2.2.2.1 g1.2.2.2.2.2.2.1 g1.2.2.2.2.2.2.2
theorem Oeeeaaaaaa {a0 : Sort _} {a1 : Sort _} {a2 : Sort _} {p3 : a0 → a1 → a2 → Prop} {p4 : a0 → a1 → a2 → Prop} {p5 : a0 → a1 → a2 → Prop} {p6 : a0 → a1 → a2 → Prop} {p7 : a0 → a1 → a2 → Prop} {p8 : a0 → a1 → a2 → Prop} {p9 : a0 → a1 → a2 → Prop} (h : ∃ x0 : a0, ∃ x1 : a1, ∃ x2 : a2, p3 x0 x1 x2 ∧ p4 x0 x1 x2 ∧ p5 x0 x1 x2 ∧ p6 x0 x1 x2 ∧ p7 x0 x1 x2 ∧ p8 x0 x1 x2 ∧ p9 x0 x1 x2) (k : ∀ x0, ∀ x1, ∀ x2, p3 x0 x1 x2 → p4 x0 x1 x2 → p5 x0 x1 x2 → p6 x0 x1 x2 → p7 x0 x1 x2 → p8 x0 x1 x2 → p9 x0 x1 x2 → C) : C := h.elim fun x0 g0 => g0.elim fun x1 g1 => g1.elim fun x2 g2 => k x0 x1 x2 g2.1 g2.2.1 g2.2.2.1 g2.2.2.2.1 g2.2.2.2.2.1 g2.2.2.2.2.2.1 g2.2.2.2.2.2.2
theorem Oeeeeaaaaa {a0 : Sort _} {a1 : Sort _} {a2 : Sort _} {a3 : Sort _} {p4 : a0 → a1 → a2 → a3 → Prop} {p5 : a0 → a1 → a2 → a3 → Prop} {p6 : a0 → a1 → a2 → a3 → Prop} {p7 : a0 → a1 → a2 → a3 → Prop} {p8 : a0 → a1 → a2 → a3 → Prop} {p9 : a0 → a1 → a2 → a3 → Prop} (h : ∃ x0 : a0, ∃ x1 : a1, ∃ x2 : a2, ∃ x3 : a3, p4 x0 x1 x2 x3 ∧ p5 x0 x1 x2 x3 ∧ p6 x0 x1 x2 x3 ∧ p7 x0 x1 x2 x3 ∧ p8 x0 x1 x2 x3 ∧ p9 x0 x1 x2 x3) (k : ∀ x0, ∀ x1, ∀ x2, ∀ x3, p4 x0 x1 x2 x3 → p5 x0 x1 x2 x3 → p6 x0 x1 x2 x3 → p7 x0 x1 x2 x3 → p8 x0 x1 x2 x3 → p9 x0 x1 x2 x3 → C) : C := h.elim fun x0 g0 => g0.elim fun x1 g1 => g1.elim fun x2 g2 => g2.elim fun x3 g3 => k x0 x1 x2 x3 g3.1 g3.2.1 g3.2.2.1 g3.2.2.2.1 g3.2.2.2.2.1 g3.2.2.2.2.2
theorem Oeeeeeaaaa {a0 : Sort _} {a1 : Sort _} {a2 : Sort _} {a3 : Sort _} {a4 : Sort _} {p5 : a0 → a1 → a2 → a3 → a4 → Prop} {p6 : a0 → a1 → a2 → a3 → a4 → Prop} {p7 : a0 → a1 → a2 → a3 → a4 → Prop} {p8 : a0 → a1 → a2 → a3 → a4 → Prop} {p9 : a0 → a1 → a2 → a3 → a4 → Prop} (h : ∃ x0 : a0, ∃ x1 : a1, ∃ x2 : a2, ∃ x3 : a3, ∃ x4 : a4, p5 x0 x1 x2 x3 x4 ∧ p6 x0 x1 x2 x3 x4 ∧ p7 x0 x1 x2 x3 x4 ∧ p8 x0 x1 x2 x3 x4 ∧ p9 x0 x1 x2 x3 x4) (k : ∀ x0, ∀ x1, ∀ x2, ∀ x3, ∀ x4, p5 x0 x1 x2 x3 x4 → p6 x0 x1 x2 x3 x4 → p7 x0 x1 x2 x3 x4 → p8 x0 x1 x2 x3 x4 → p9 x0 x1 x2 x3 x4 → C) : C := h.elim fun x0 g0 => g0.elim fun x1 g1 => g1.elim fun x2 g2 => g2.elim fun x3 g3 => g3.elim fun x4 g4 => k x0 x1 x2 x3 x4 g4.1 g4.2.1 g4.2.2.1 g4.2.2.2.1 g4.2.2.2.2
end
inductive AV where
 | none | bool (b : Bool) | int (i : Int) | str (s : Str) | ref (a : Addr) | ty (t : String) | bi (b : String) | other
 deriving DecidableEq, Inhabited
noncomputable def er : Value → AV
 | .none => .none
 | .bool b => .bool b
 | .int i _ => .int i
 | .str s _ => .str s
 | .ref a => .ref a
 | .type t => .ty t
 | .builtin b => .bi b
 | _ => .other
theorem Zs6 {v : Value} (h : er v = .none) : v = .none := by
 cases v with
 | none => cases h; exact rfl
 | _ => cases h
theorem Zs7 {v : Value} {b} (h : er v = .bool b) : v = .bool b := by
 cases v with
 | bool b => cases h; exact rfl
 | _ => cases h
theorem Zev {v : Value} {x} (h : er v = .str x) : ∃ t, v = .str x t := by
 cases v with
 | str x t => cases h; exact ⟨_, rfl⟩
 | _ => cases h
theorem Zn2 {v : Value} {a} (h : er v = .ref a) : v = .ref a := by
 cases v with
 | ref a => cases h; exact rfl
 | _ => cases h
theorem Zs5 {v : Value} {a} (h : er v = .ty a) : v = .type a := by
 cases v with
 | type a => cases h; exact rfl
 | _ => cases h
theorem Zv2 {v : Value} {a} (h : er v = .bi a) : v = .builtin a := by
 cases v with
 | builtin a => cases h; exact rfl
 | _ => cases h
inductive AObj where
 | list (xs : List AV)
 | tup (xs : List AV)
 | dict (es : List (Str × AV)) (ep : Nat)
 | set (S : Str → Bool) (n : Nat) (it : Option Data)
 | inst (C d : Addr)
 | node (C d : Addr) (vs : List (Option AV))
 | liter (l : Addr) (i : Nat)
 | rng (lo : Int) (n : Nat)
 | vals (d : Addr)
 | bnd (f : String) (self : Addr)
abbrev AH := Addr → Option AObj
noncomputable def upd (H : AH) (a : Addr) (o : AObj) : AH := fun b => if b = a then some o else H b
@[simp] theorem upd_same (H : AH) (a o) : upd H a o a = some o := by simp [upd]
theorem Zay (H : AH) {a b : Addr} (o) (h : b ≠ a) : upd H a o b = H b := by simp [upd, h]
theorem Zac {H : AH} {a b : Addr} {o x} (hb : H b = some x) (ha : H a = none) : upd H a o b = some x := by
 rw [Zay]; exact hb; rintro rfl; rw [ha] at hb; exact Zab hb
noncomputable def lim : Nat := 4000
noncomputable def small (i : Int) : Prop := -(2 ^ 40) < i ∧ i < 2 ^ 40
noncomputable def OR (prog : Program) (w : World) : AObj → Obj → Prop
 | .list xs, o => ∃ vs n, o = { cls := .type "list", data := .seq vs n } ∧ vs.toList.map er = xs ∧ xs.length ≤ lim
 | .tup xs, o => ∃ vs n, o = { cls := .type "tuple", data := .seq vs n } ∧ vs.toList.map er = xs ∧ xs.length ≤ lim
 | .dict es ep, o => ∃ ds kvs, o.ExactDict ∧ o.data = .dict ds ep ∧ KeysOf (strKind prog w) ds ∧ Pairs (strKind prog w) ds.toList kvs ∧ (kvs.map (·.1)).Nodup ∧ kvs.map (fun p => (p.1, er p.2)) = es ∧ es.length ≤ lim
 | .set S n it, o => o.SetObjOf (strKind prog w) S n ∧ n < scanBound ∧ ∀ d, it = some d → o.data = d ∧ ∃ es ep t, d = .set es ep t ∧ (w.params.followText "set-order" = true ∨ es = #[] ∨ (t.led = true ∧ t.plain = false))
 | .inst C d, o => o = { cls := .ref C, dict := some d, data := .plain }
 | .node C d vs, o => ∃ sl : Array (Option Value), o = { cls := .ref C, dict := some d, data := .plain, slots := sl } ∧ sl.toList.map (·.map er) = vs
 | .liter l i, o => o = { cls := .type "list_iterator", data := .fields #[.ref l, .int i 0] }
 | .rng lo n, o => ∃ b t u v, o = { cls := .type "range", dict := none, data := .fields #[.int lo t, .int b u, .int 1 v], slots := #[] } ∧ small lo ∧ small b ∧ n = (b - lo).toNat
 | .vals d, o => o.cls = .type "dict_values" ∧ o.data = .fields #[.ref d]
 | .bnd nm it, o => o.cls = .type "method-wrapper" ∧ o.data = .fields #[.builtin nm, .ref it]
structure St where
 loc : Str → Option AV
 H : AH
structure Exn where
 cls : String
 ch : Bool
abbrev AM (α : Type) := (α → St → Prop) → (Exn → St → Prop) → St → Prop
inductive DFlow where
 | next | brk | cont
 | ret (v : AV)
noncomputable def ret {α : Type} (a : α) : AM α := fun Q U σ => Q a σ
noncomputable def bnd {α β : Type} (m : AM α) (f : α → AM β) : AM β := fun Q X σ => m (fun a σ' => f a Q X σ') X σ
noncomputable def fail {α : Type} : AM α := fun U U U => False
structure SE where
 sc : Scope
 wr : List Str
 lv : Nat
noncomputable def SE.kind (g : SE) (x : Str) : Option NameKind := g.sc.names.lookup x
noncomputable def isVar (g : SE) (x : Str) : Bool := match g.kind x with
 | some .local | some .cell | some .free => true
 | _ => false
noncomputable def isGlob (g : SE) (x : Str) : Bool := g.kind x == some .globalImplicit
structure Par where
 F : Addr → List AV → (AV → AH → Prop) → AH → Prop
 scr : Addr
 ns : List Int
noncomputable def globT : List (String × AV) := [
 ("_kind", .ref 28), ("_c_path", .ref 35), ("_splitroot", .ref 42), ("_normpath", .ref 49), ("normpath", .ref 56),
 ("_Ignore", .ref 79), ("_NodeInfo", .ref 102), ("TopologicalSorter", .ref 199),
 ("sorted_list_difference", .ref 210), ("unorderable_list_difference", .ref 217),
 ("_law_modules", .ref 222), ("_law_rounds", .ref 229), ("_law_left", .ref 234), ("_law_below", .ref 239),
 ("_NODE_OUT", .int (-1)), ("_NODE_DONE", .int (-2)), ("sep", .str "/"),
 ("len", .bi "len"), ("sorted", .bi "sorted"), ("isinstance", .bi "isinstance"), ("iter", .bi "iter"),
 ("range", .ty "range"), ("zip", .ty "zip"), ("list", .ty "list"), ("tuple", .ty "tuple"), ("set", .ty "set"), ("bool", .ty "bool"),
 ("type", .ty "type"), ("str", .ty "str"), ("IndexError", .ty "IndexError"), ("StopIteration", .ty "StopIteration"), ("ValueError", .ty "ValueError")]
noncomputable def excs : List String := ["IndexError", "StopIteration", "ValueError"]
noncomputable def glob (x : Str) : Option AV := (globT.find? fun p => Str.ofString p.1 == x).map (·.2)
noncomputable def methT : List (Addr × String × Addr) := [
 (79, "names", 76),
 (199, "_get_nodeinfo", 142), (199, "add", 149), (199, "prepare", 154), (199, "get_ready", 161), (199, "is_active", 168), (199, "done", 182), (199, "_find_cycle", 189)]
noncomputable def meth (C : Addr) (nm : Str) : Option Addr := (methT.find? fun p => p.1 == C && Str.ofString p.2.1 == nm).map (·.2.2)
noncomputable def isFnA (a : Addr) : Bool := [28, 35, 42, 49, 56, 210, 217, 222, 229, 234, 239].contains a
noncomputable def initOf (C : Addr) : Option Addr := if C = 79 then some 69 else if C = 199 then some 135 else if C = 102 then some 98 else none
noncomputable def rdN (g : SE) (x : Str) : AM AV := fun Q U σ =>
 if isVar g x then (match σ.loc x with | some v => Q v σ | none => False)
 else if isGlob g x then (match glob x with | some v => Q v σ | none => False)
 else False
noncomputable def setL (m : Str → Option AV) (x : Str) (v : AV) : Str → Option AV := fun y => if y = x then some v else m y
theorem Zff (m : Str → Option AV) (x : Str) (v : AV) : setL m x v x = some v := by simp [setL]
theorem Zdp (m : Str → Option AV) {x y : Str} (v : AV) (h : y ≠ x) : setL m x v y = m y := by simp [setL, h]
noncomputable def stN (g : SE) (x : Str) (v : AV) : AM Unit := fun Q U σ => x ∈ g.wr ∧ Q () ⟨setL σ.loc x v, σ.H⟩
noncomputable def newA (o : AObj) : AM AV := fun Q U σ => ∀ a, σ.H a = none → Q (.ref a) ⟨σ.loc, upd σ.H a o⟩
noncomputable def lookA (es : List (Str × AV)) (k : Str) : Option AV := (es.find? fun p => p.1 = k).map (·.2)
noncomputable def putA (es : List (Str × AV)) (k : Str) (v : AV) : List (Str × AV) :=
 if es.any (fun p => p.1 = k) then es.map (fun p => if p.1 = k then (p.1, v) else p) else es ++ [(k, v)]
noncomputable def delA (es : List (Str × AV)) (k : Str) : List (Str × AV) := es.filter fun p => p.1 ≠ k
noncomputable def evConst : PySem.Const → AM AV
 | .none => ret .none
 | .bool b => ret (.bool b)
 | .int i => ret (.int i)
 | .str s => ret (.str s)
 | _ => fail
noncomputable def onO {α : Type} (o : Option α) (f : α → Prop) : Prop := match o with
 | some x => f x
 | none => False
noncomputable def vR (v : AV) (f : Addr → Prop) : Prop := match v with
 | .ref a => f a
 | _ => False
noncomputable def vS (v : AV) (f : Str → Prop) : Prop := match v with
 | .str a => f a
 | _ => False
noncomputable def vI (v : AV) (f : Int → Prop) : Prop := match v with
 | .int a => f a
 | _ => False
noncomputable def vT (v : AV) (f : String → Prop) : Prop := match v with
 | .ty a => f a
 | _ => False
noncomputable def vN (v : AV) (f : Prop) : Prop := match v with
 | .none => f
 | _ => False
noncomputable def onL (H : AH) (a : Addr) (f : List AV → Prop) : Prop := match H a with
 | some (.list xs) => f xs
 | _ => False
noncomputable def onD (H : AH) (a : Addr) (f : List (Str × AV) → Prop) : Prop := match H a with
 | some (.dict es _) => f es
 | _ => False
noncomputable def onT (H : AH) (a : Addr) (f : List AV → Prop) : Prop := match H a with
 | some (.tup xs) => f xs
 | _ => False
theorem Zq9 {H : AH} {a : Addr} {f : List AV → Prop} {xs : List AV} (h : H a = some (.tup xs)) (k : f xs) : onT H a f := by
 delta onT; rw [h]; exact k
theorem Zcu {α : Type} {o : Option α} {f : α → Prop} (h : onO o f) : ∃ x, o = some x ∧ f x := by
 cases o with
 | none => exact h.elim
 | some x => exact Iea x rfl h
theorem Zcz {α : Type} {o : Option α} {f : α → Prop} {x : α} (e : o = some x) (h : f x) : onO o f := by rw [e]; exact h
noncomputable def truth (v : AV) : AM Bool := fun Q U σ => match v with
 | .none => Q false σ
 | .bool b => Q b σ
 | .int i => Q (i != 0) σ
 | .str s => s.length ≤ lim ∧ Q (s.length != 0) σ
 | .ref a => (match σ.H a with
   | some (.list xs) => Q (!xs.isEmpty) σ
   | some (.tup xs) => Q (!xs.isEmpty) σ
   | some (.dict es _) => Q (!es.isEmpty) σ
   | _ => False)
 | _ => False
noncomputable def strsOf : List AV → Option (List Str)
 | [] => some []
 | .str s :: r => (strsOf r).map (s :: ·)
 | _ => none
noncomputable def onS (xs : List AV) (f : List Str → Prop) : Prop := match strsOf xs with
 | some ys => f ys
 | none => False
noncomputable def binD (P : Par) (op : Operator) (a b : AV) : AM AV := fun Q X σ => match op with
 | .Add => (match a with
   | .int x => vI b fun y => Q (.int (x + y)) σ
   | .str x => vS b fun y => x.length + y.length ≤ lim ∧ Q (.str (x ++ y)) σ
   | .ref l => vR b fun m => onL σ.H l fun xs => onL σ.H m fun ys => xs.length + ys.length ≤ lim ∧ newA (.list (xs ++ ys)) Q X σ
   | _ => False)
 | .Sub => vI a fun x => vI b fun y => Q (.int (x - y)) σ
 | .FloorDiv => vI a fun x => vI b fun y => 0 < y ∧ y < 1000 ∧ Q (.int (x / y)) σ
 | .Mod => vI a fun x => vI b fun y => 0 < y ∧ y < 1000 ∧ Q (.int (x % y)) σ
 | .Pow => vI a fun x => vI b fun y => x = 3 ∧ 0 ≤ y ∧ y < 3 ∧ Q (.int (x ^ y.toNat)) σ
 | _ => False
noncomputable def negD (a : AV) : AM AV := fun Q U σ => vI a fun i => Q (.int (-i)) σ
noncomputable def boolD (a : AV) : AM Bool := fun Q U σ => match a with
 | .bool b => Q b σ
 | _ => False
noncomputable def augD (op : Operator) (a b : AV) : AM AV := fun Q U σ => match op with
 | .Add => vI a fun x => vI b fun y => Q (.int (x + y)) σ
 | .Sub => vI a fun x => vI b fun y => Q (.int (x - y)) σ
 | _ => False
noncomputable def deqs (f : AV → AV → Option Bool) : List AV → List AV → Option Bool
 | [], ys => (match ys with
   | [] => some true
   | _ => none)
 | x :: xs, ys => (match ys with
   | [] => none
   | y :: ys => (f x y).bind fun a => (deqs f xs ys).map fun b => a && b)
noncomputable def deq0 (k : Addr → Addr → Option Bool) (a b : AV) : Option Bool := match a with
 | .none => (match b with
   | .none => some true
   | _ => none)
 | .bool x => (match b with
   | .bool y => some (x == y)
   | _ => none)
 | .int x => (match b with
   | .int y => some (x == y)
   | _ => none)
 | .str x => (match b with
   | .str y => some (x == y)
   | _ => none)
 | .ref x => (match b with
   | .ref y => k x y
   | _ => none)
 | _ => none
noncomputable def deqR (H : AH) (f : AV → AV → Option Bool) (x y : Addr) : Option Bool := match H x with
 | some (.list xs) => (match H y with
   | some (.list ys) => if xs.length = ys.length then deqs f xs ys else some false
   | _ => none)
 | some (.tup xs) => (match H y with
   | some (.tup ys) => if xs.length = ys.length then deqs f xs ys else none
   | _ => none)
 | _ => none
noncomputable def deq (H : AH) : Nat → AV → AV → Option Bool
 | 0 => deq0 fun U U => none
 | n + 1 => deq0 (deqR H (deq H n))
noncomputable def strLt (a b : Str) : Bool := decide (a.cps.toList < b.cps.toList)
noncomputable def allB (xs : List AV) : Bool := xs.all fun v => match v with
 | .bool _ => true
 | _ => false
noncomputable def inD (x : Str) (o : Option AObj) (f : Bool → Prop) : Prop := match o with
 | some (.list xs) => onS xs fun ys => f (ys.contains x)
 | some (.dict es _) => f (lookA es x).isSome
 | some (.set S _ _) => f (S x)
 | _ => False
noncomputable def cmpD (op : CmpOp) (a b : AV) : AM AV := fun Q U σ => match op with
 | .Eq => onO (deq σ.H 3 a b) fun r => Q (.bool r) σ
 | .NotEq => onO (deq σ.H 3 a b) fun r => Q (.bool (!r)) σ
 | .Lt => (match a with
   | .int x => vI b fun y => Q (.bool (decide (x < y))) σ
   | .str x => vS b fun y => Q (.bool (strLt x y)) σ
   | _ => False)
 | .Gt => (match a with
   | .int x => vI b fun y => Q (.bool (decide (x > y))) σ
   | .str x => vS b fun y => Q (.bool (strLt y x)) σ
   | _ => False)
 | .Is => (match a with
   | .ty x => vT b fun y => Q (.bool (x == y)) σ
   | .none => vN b (Q (.bool true) σ)
   | .ref _ => vN b (Q (.bool false) σ)
   | .str _ => vN b (Q (.bool false) σ)
   | _ => False)
 | .IsNot => (match a with
   | .none => vN b (Q (.bool false) σ)
   | .ref _ => vN b (Q (.bool true) σ)
   | _ => False)
 | .In => (match a with
   | .str x => (match b with
     | .str y => Q (.bool (!(Builtin.Str.occurrences y x 0 y.length 1).isEmpty)) σ
     | .ref r => inD x (σ.H r) fun r => Q (.bool r) σ
     | _ => False)
   | .bool x => vR b fun r => onL σ.H r fun xs => allB xs = true ∧ Q (.bool (xs.contains (.bool x))) σ
   | _ => False)
 | .NotIn => vS a fun x => vR b fun r => onL σ.H r fun xs => onS xs fun ys => Q (.bool (!ys.contains x)) σ
 | _ => False
noncomputable def slotIx (nm : Str) : Option Nat := if nm = ("node" : Str) then some 0 else if nm = ("npredecessors" : Str) then some 1 else if nm = ("successors" : Str) then some 2 else none
noncomputable def instNames : List String := ["_mods", "_dirs", "_ignore", "_node2info", "_ready_nodes", "_npassedout", "_nfinished"]
noncomputable def clsD (C : Addr) : Bool := C == 79 || C == 199
noncomputable def noBi : AV → Bool
 | .bi _ => false
 | _ => true
noncomputable def gaD (v : AV) (nm : Str) : AM AV := fun Q X σ => match v with
 | .ref a => (match σ.H a with
   | some (.inst C d) => clsD C = true ∧ nm ∈ instNames.map Str.ofString ∧ (match σ.H d with
     | some (.dict es _) => (match lookA es nm with | some x => noBi x = true ∧ Q x σ | none => False)
     | _ => False)
   | some (.node C d vs) => C = 102 ∧ (σ.H d).isSome = true ∧ (match slotIx nm with
     | some i => (match vs[i]? with | some (some x) => noBi x = true ∧ Q x σ | _ => False)
     | none => False)
   | some (.liter _ _) => nm = "__next__" ∧ ∀ b, σ.H b = none → initOf b = none → isFnA b = false → Q (.ref b) ⟨σ.loc, upd σ.H b (.bnd "list_iterator.__next__" a)⟩
   | _ => False)
 | _ => False
noncomputable def saD (v : AV) (nm : Str) (x : AV) : AM Unit := fun Q U σ => match v with
 | .ref a => (match σ.H a with
   | some (.inst C d) => clsD C = true ∧ nm ∈ instNames.map Str.ofString ∧ (match σ.H d with
     | some (.dict es _) => es.length < 100 ∧ ∀ ep, Q () ⟨σ.loc, upd σ.H d (.dict (putA es nm x) ep)⟩
     | _ => False)
   | some (.node C d vs) => C = 102 ∧ (σ.H d).isSome = true ∧ (match slotIx nm with
     | some i => Q () ⟨σ.loc, upd σ.H a (.node C d ((vs ++ List.replicate (i + 1 - vs.length) none).set i (some x)))⟩
     | none => False)
   | _ => False)
 | _ => False
noncomputable def itD (v i : AV) : AM AV := fun Q X σ => vR v fun a => match σ.H a with
 | some (.list xs) => vI i fun k =>
     if 0 ≤ k then k < 2 ^ 40 ∧ (match xs[k.toNat]? with | some x => Q x σ | none => X ⟨"IndexError", false⟩ σ)
     else k = -1 ∧ onO xs.getLast? fun x => Q x σ
 | some (.tup xs) => vI i fun k => 0 ≤ k ∧ k < 2 ^ 40 ∧ onO xs[k.toNat]? fun x => Q x σ
 | some (.dict es _) => vS i fun k => onO (lookA es k) fun x => Q x σ
 | _ => False
noncomputable def siD (v i x : AV) : AM Unit := fun Q U σ => vR v fun a => vS i fun k => onD σ.H a fun es =>
 es.length < lim ∧ ∀ ep, Q () ⟨σ.loc, upd σ.H a (.dict (putA es k x) ep)⟩
noncomputable def diD (v i : AV) : AM Unit := fun Q U σ => vR v fun a => vS i fun k => onD σ.H a fun es =>
 (lookA es k).isSome = true ∧ ∀ ep, Q () ⟨σ.loc, upd σ.H a (.dict (delA es k) ep)⟩
noncomputable def optInt : AV → Option (Option Int)
 | .none => some none
 | .int i => some (some i)
 | _ => none
noncomputable def slL {α : Type} (xs : List α) (lo hi : Option Int) : List α := (xs.take (hi.getD xs.length).toNat).drop (lo.getD 0).toNat
noncomputable def a2 {α : Type} (vs : List α) (f : α → α → Prop) : Prop := match vs with
 | [x, y] => f x y
 | _ => False
noncomputable def slR (P : Par) (a : Addr) (l h : Option Int) (st : AV) : AM AV := fun Q X σ => match st with
 | .none => (l.getD 0) ≥ 0 ∧ (l.getD 0) < 2 ^ 40 ∧ (h.getD 0) ≥ 0 ∧ (h.getD 0) < 2 ^ 40 ∧ (match σ.H a with
     | some (.list xs) => newA (.list (slL xs l h)) Q X σ
     | none => a = P.scr ∧ newA (.list (slL (P.ns.map .int) l h)) Q X σ
     | _ => False)
 | .int k => k = -1 ∧ l = none ∧ h = none ∧ (match σ.H a with
     | some (.list xs) => newA (.list xs.reverse) Q X σ
     | some (.tup ts) => a2 ts fun a b => newA (.tup [b, a]) Q X σ
     | _ => False)
 | _ => False
noncomputable def slD (P : Par) (v lo hi st : AV) : AM AV := fun Q X σ => onO (optInt lo) fun l => onO (optInt hi) fun h => match v with
 | .ref a => slR P a l h st Q X σ
 | .str x => vN st (x.length ≤ lim ∧ Q (.str (Txt.slice x l h)) σ)
 | _ => False
inductive Item where
 | one (v : AV)
 | two (a b : AV)
inductive Src where
 | list (a : Addr) (xs : List AV)
 | tup (a : Addr) (xs : List AV)
 | dict (a : Addr) (es : List (Str × AV)) (ep : Nat)
 | vals (a d : Addr) (es : List (Str × AV)) (ep : Nat)
 | set (a : Addr) (S : Str → Bool) (n : Nat) (it : Option Data) (xs : List Str)
 | rng (a : Addr) (lo : Int) (n : Nat)
 | zip (l1 l2 : Addr) (xs ys : List AV)
noncomputable def Src.holds (H : AH) : Src → Prop
 | .list a xs => H a = some (.list xs)
 | .tup a xs => H a = some (.tup xs)
 | .dict a es ep => H a = some (.dict es ep)
 | .vals a d es ep => H a = some (.vals d) ∧ H d = some (.dict es ep)
 | .set a S n it _ => H a = some (.set S n it)
 | .rng a lo n => H a = some (.rng lo n)
 | .zip l1 l2 xs ys => H l1 = some (.list xs) ∧ H l2 = some (.list ys)
noncomputable def Src.items : Src → List Item
 | .list _ xs => xs.map .one
 | .tup _ xs => xs.map .one
 | .dict _ es _ => es.map fun p => .one (.str p.1)
 | .vals _ _ es _ => es.map fun p => .one p.2
 | .set _ _ _ _ xs => xs.map fun x => .one (.str x)
 | .rng _ lo n => (List.range n).map fun (i : Nat) => .one (.int (lo + (i : Int)))
 | .zip _ _ xs ys => (xs.zip ys).map fun p => .two p.1 p.2
noncomputable def srcD (v : AV) : AM Src := fun Q U σ => match v with
 | .ref a => (match σ.H a with
   | some (.list xs) => Q (.list a xs) σ
   | some (.tup xs) => Q (.tup a xs) σ
   | some (.dict es ep) => Q (.dict a es ep) σ
   | some (.vals d) => (match σ.H d with | some (.dict es ep) => Q (.vals a d es ep) σ | _ => False)
   | some (.set S n it) => it.isSome = true ∧ ∀ xs, (∀ k, S k = true ↔ k ∈ xs) → Q (.set a S n it xs) σ
   | some (.rng lo n) => Q (.rng a lo n) σ
   | _ => False)
 | _ => False
noncomputable def zipSrc (v u : AV) : AM Src := fun Q U σ => vR v fun a => vR u fun b => onL σ.H a fun xs => onL σ.H b fun ys => xs.length = ys.length ∧ Q (.zip a b xs ys) σ
noncomputable def forGo (asgF : Item → AM Unit) (body : AM DFlow) (need : St → Prop) : List Item → AM DFlow
 | [] => fun Q U σ => need σ ∧ Q .next σ
 | i :: r => fun Q X σ => need σ ∧ asgF i (fun U σ1 => body (fun fl σ2 => match fl with
     | .next | .cont => forGo asgF body need r Q X σ2
     | .brk => Q .next σ2
     | .ret v => Q (.ret v) σ2) X σ1) X σ
noncomputable def compGo (asgF : Item → AM Unit) (inner : Nat → AM (List AV)) (need : St → Prop) : List Item → Nat → AM (List AV)
 | [], _ => fun Q U σ => need σ ∧ Q [] σ
 | i :: r, k => fun Q X σ => need σ ∧ asgF i (fun U σ1 => inner k (fun ys σ2 => compGo asgF inner need r (k + ys.length) (fun zs σ3 => Q (ys ++ zs) σ3) X σ2) X σ1) X σ
theorem Za9 {H : AH} {a : Addr} {f : List AV → Prop} (h : onL H a f) : ∃ xs, H a = some (.list xs) ∧ f xs := by
 delta onL at h
 generalize H a = o at h ⊢
 cases o with
 | none => exact h.elim
 | some o =>
   cases o with
   | list xs => exact ⟨xs, rfl, h⟩
   | _ => exact h.elim
theorem Zjn {H : AH} {a : Addr} {f : List AV → Prop} (h : onT H a f) : ∃ xs, H a = some (.tup xs) ∧ f xs := by
 delta onT at h
 generalize H a = o at h ⊢
 cases o with
 | none => exact h.elim
 | some o =>
   cases o with
   | tup xs => exact ⟨xs, rfl, h⟩
   | _ => exact h.elim
theorem Zri {α : Type} {vs : List α} {f : α → α → Prop} (h : a2 vs f) : ∃ x y, vs = [x, y] ∧ f x y := by
 cases vs with
 | nil => exact h.elim
 | cons x r =>
   cases r with
   | nil => exact h.elim
   | cons y r =>
     cases r with
     | nil => exact ⟨x, y, rfl, h⟩
     | cons _ _ => exact h.elim
theorem Zg1 {H : AH} {a : Addr} {f : List (Str × AV) → Prop} (h : onD H a f) : ∃ es ep, H a = some (.dict es ep) ∧ f es := by
 delta onD at h
 generalize H a = o at h ⊢
 cases o with
 | none => exact h.elim
 | some o =>
   cases o with
   | dict es ep => exact ⟨es, ep, rfl, h⟩
   | _ => exact h.elim
theorem Zdr {xs : List AV} {f : List Str → Prop} (h : onS xs f) : ∃ ys, strsOf xs = some ys ∧ f ys := by
 delta onS at h
 generalize strsOf xs = o at h ⊢
 cases o with
 | none => exact h.elim
 | some ys => exact ⟨ys, rfl, h⟩
theorem Zbr {H : AH} {a : Addr} {f : List AV → Prop} {xs : List AV} (h : H a = some (.list xs)) (k : f xs) : onL H a f := by
 delta onL; rw [h]; exact k
theorem Zib {H : AH} {a : Addr} {f : List (Str × AV) → Prop} {es : List (Str × AV)} {ep : Nat} (h : H a = some (.dict es ep)) (k : f es) : onD H a f := by
 delta onD; rw [h]; exact k
theorem Zeu {xs : List AV} {f : List Str → Prop} {ys : List Str} (h : strsOf xs = some ys) (k : f ys) : onS xs f := by
 delta onS; rw [h]; exact k
noncomputable def a0 (vs : List AV) (f : Prop) : Prop := match vs with
 | [] => f
 | _ => False
noncomputable def a1 (vs : List AV) (f : AV → Prop) : Prop := match vs with
 | [x] => f x
 | _ => False
inductive Fid where
 | len | sorted | isinstance | iter | range | list | tuple | set | bool | type
noncomputable def Fid.av : Fid → AV
 | .len => .bi "len" | .sorted => .bi "sorted" | .isinstance => .bi "isinstance" | .iter => .bi "iter"
 | .range => .ty "range" | .list => .ty "list" | .tuple => .ty "tuple" | .set => .ty "set" | .bool => .ty "bool" | .type => .ty "type"
noncomputable def fids : List Fid := [.len, .sorted, .isinstance, .iter, .range, .list, .tuple, .set, .bool, .type]
noncomputable def fidOf (f : AV) : Option Fid := fids.find? fun i => decide (i.av = f)
noncomputable def sortD (xs : List AV) (Q : AV → St → Prop) (X : Exn → St → Prop) (σ : St) : Prop :=
 onS xs fun ys => ys.length ≤ 60 ∧ ∀ zs : List Str, zs.Perm ys → sortedS zs = true → newA (.list (zs.map .str)) Q X σ
noncomputable def bltF (i : Fid) (args : List AV) : AM AV := fun Q X σ => match i with
 | .len => a1 args fun v => match v with
   | .str s => s.length ≤ lim ∧ Q (.int s.length) σ
   | .ref a => (match σ.H a with
     | some (.list xs) => Q (.int xs.length) σ
     | some (.tup xs) => Q (.int xs.length) σ
     | some (.dict es _) => Q (.int es.length) σ
     | _ => False)
   | _ => False
 | .sorted => a1 args fun v => vR v fun a => (match σ.H a with
   | some (.list xs) => sortD xs Q X σ
   | some (.tup xs) => sortD xs Q X σ
   | _ => False)
 | .isinstance => (match args with
   | [.int _, .ty t] => t = "bool" ∧ Q (.bool false) σ
   | _ => False)
 | .iter => a1 args fun v => vR v fun a => onL σ.H a fun U => newA (.liter a 0) Q X σ
 | .range => (match args with
   | [v] => vI v fun n => small n ∧ newA (.rng 0 n.toNat) Q X σ
   | [v, w] => vI v fun lo => vI w fun hi => small lo ∧ small hi ∧ newA (.rng lo (hi - lo).toNat) Q X σ
   | _ => False)
 | .list => a1 args fun v => vR v fun a => onL σ.H a fun xs => newA (.list xs) Q X σ
 | .tuple => a1 args fun v => vR v fun a => onL σ.H a fun xs => newA (.tup xs) Q X σ
 | .set => (match args with
   | [] => ∀ d, newA (.set (fun U => false) 0 (some d)) Q X σ
   | [v] => vR v fun a => onL σ.H a fun xs => onS xs fun ys => ys ≠ [] ∧ ys.length < 100 ∧ ∀ n d, newA (.set (fun k => ys.contains k) n (some d)) Q X σ
   | _ => False)
 | .bool => a1 args fun v => vR v fun a => onL σ.H a fun xs => Q (.bool (!xs.isEmpty)) σ
 | .type => a1 args fun v => vS v fun U => Q (.ty "str") σ
noncomputable def bltD (f : AV) (args : List AV) : AM AV := match fidOf f with
 | some i => bltF i args
 | none => fail
inductive Mid where
 | append | pop | clear | remove | extend | get | values | add | startswith | count | rfind | split | join | replace
 deriving DecidableEq
noncomputable def Mid.id : Mid → String
 | .append => "list.append" | .pop => "list.pop" | .clear => "list.clear" | .remove => "list.remove" | .extend => "list.extend"
 | .get => "dict.get" | .values => "dict.values" | .add => "set.add"
 | .startswith => "str.startswith" | .count => "str.count" | .rfind => "str.rfind" | .split => "str.split" | .join => "str.join" | .replace => "str.replace"
inductive Mth where
 | own (f : Addr)
 | blt (id : Mid)
noncomputable def strMs : List (String × Mid) := [("startswith", .startswith), ("split", .split), ("join", .join), ("count", .count), ("rfind", .rfind), ("replace", .replace)]
noncomputable def kindOfObj : AObj → List (String × Mid)
 | .list _ => [("append", .append), ("pop", .pop), ("clear", .clear), ("remove", .remove), ("extend", .extend)]
 | .dict _ _ => [("get", .get), ("values", .values)]
 | .set _ _ _ => [("add", .add)]
 | _ => []
noncomputable def mthB (ks : List (String × Mid)) (nm : Str) : Option Mth := (ks.find? fun k => Str.ofString k.1 == nm).map fun k => .blt k.2
noncomputable def mres (H : AH) (v : AV) (nm : Str) : Option Mth := match v with
 | .str _ => mthB strMs nm
 | .ref a => (match H a with
   | some (.inst C d) => (match H d with
     | some (.dict es _) => if (lookA es nm).isSome then none else (meth C nm).map .own
     | _ => none)
   | some o => mthB (kindOfObj o) nm
   | none => none)
 | _ => none
noncomputable def bmtD (id : Mid) (v : AV) (args : List AV) : AM AV := fun Q X σ => match id with
 | .append => vR v fun a => a1 args fun x => onL σ.H a fun xs => xs.length < lim ∧ Q .none ⟨σ.loc, upd σ.H a (.list (xs ++ [x]))⟩
 | .pop => vR v fun a => a0 args (onL σ.H a fun xs => onO xs.getLast? fun x => Q x ⟨σ.loc, upd σ.H a (.list xs.dropLast)⟩)
 | .clear => vR v fun a => a0 args (onL σ.H a fun U => Q .none ⟨σ.loc, upd σ.H a (.list [])⟩)
 | .remove => vR v fun a => a1 args fun x => vS x fun x => onL σ.H a fun xs => onS xs fun ys => if ys.contains x then Q .none ⟨σ.loc, upd σ.H a (.list ((ys.erase x).map .str))⟩ else X ⟨"ValueError", false⟩ σ
 | .extend => vR v fun a => a1 args fun x => vR x fun b => a ≠ b ∧ onL σ.H a fun xs => onL σ.H b fun ys => xs.length + ys.length < lim ∧ Q .none ⟨σ.loc, upd σ.H a (.list (xs ++ ys))⟩
 | .get => vR v fun a => a1 args fun x => vS x fun k => onD σ.H a fun es => Q ((lookA es k).getD .none) σ
 | .values => vR v fun a => a0 args (onD σ.H a fun U => newA (.vals a) Q X σ)
 | .add => vR v fun a => a1 args fun x => vS x fun x => (match σ.H a with
   | some (.set S n _) => n < lim ∧ Q .none ⟨σ.loc, upd σ.H a (.set (fun k => S k || decide (k = x)) (if S x then n else n + 1) none)⟩
   | _ => False)
 | .startswith => vS v fun s => a1 args fun y => vS y fun y => Q (.bool (Txt.startswith s y)) σ
 | .count => vS v fun s => a1 args fun y => vS y fun y => Q (.int (Txt.count s y)) σ
 | .rfind => vS v fun s => a1 args fun y => vS y fun y => Q (.int (Txt.rfind s y)) σ
 | .split => vS v fun s => a1 args fun y => vS y fun y => y.length = 1 ∧ s.length < lim ∧ (Txt.split s y).length ≤ lim ∧ newA (.list ((Txt.split s y).map .str)) Q X σ
 | .join => vS v fun s => a1 args fun y => vR y fun a => onL σ.H a fun xs => onS xs fun ys => s.length ≤ 16 ∧ (ys.map (·.length)).sum + ys.length ≤ lim ∧ Q (.str (Txt.join s ys)) σ
 | .replace => False
noncomputable def callU (P : Par) (f : Addr) (args : List AV) : AM AV := fun Q U σ => P.F f args (fun v H' => Q v ⟨σ.loc, H'⟩) σ.H
noncomputable def calD (P : Par) (g : SE) (f : AV) (args : List AV) : AM AV := fun Q X σ => match f with
 | .ref a =>
   (match initOf a with
   | some fi => g.lv < 2 ∧ ∀ d x, σ.H d = none → σ.H x = none → d ≠ x →
       P.F fi (.ref x :: args) (fun v H' => v = .none ∧ Q (.ref x) ⟨σ.loc, H'⟩) (upd (upd σ.H d (.dict [] 0)) x (if a = 102 then .node a d [] else .inst a d))
   | none => if isFnA a = true then g.lv < 2 ∧ callU P a args Q X σ else (match σ.H a with
     | some (.bnd nm it) => nm = "list_iterator.__next__" ∧ args = [] ∧ (match σ.H it with
       | some (.liter l i) => (match σ.H l with
         | some (.list xs) => (match xs[i]? with
           | some x => Q x ⟨σ.loc, upd σ.H it (.liter l (i + 1))⟩
           | none => g.lv = 0 ∧ X ⟨"StopIteration", false⟩ ⟨σ.loc, fun b => if b = it then none else σ.H b⟩)
         | _ => False)
       | _ => False)
     | _ => False))
 | _ => g.lv < 2 ∧ bltD f args Q X σ
noncomputable def calM (P : Par) (g : SE) (m : Mth) (v : AV) (args : List AV) : AM AV := match m with
 | .own f => fun Q X σ => g.lv < 2 ∧ callU P f (v :: args) Q X σ
 | .blt id => fun Q X σ => (id = .remove → g.lv < 2) ∧ bmtD id v args Q X σ
inductive View where
 | const (c : PySem.Const) | attr (o : Expr) (nm : Str) (ap : Pos) | star (e : Expr) | slice (lo hi st : Option Expr) | name (x : Str)
 | call (f : Expr) (args : List Expr) (kws : List Keyword) | set | comp | sub (o i : Expr) | other
noncomputable def view : Expr → View
 | .Constant c _ _ => .const c
 | .Attribute o nm ap => .attr o nm ap
 | .Starred e _ => .star e
 | .Slice lo hi st _ => .slice lo hi st
 | .Name x _ => .name x
 | .Call f args kws _ => .call f args kws
 | .Set .. => .set
 | .ListComp .. => .comp
 | .Subscript o i _ => .sub o i
 | _ => .other
noncomputable def View.of (e : Expr) : View → Prop
 | .const c => ∃ k p, e = .Constant c k p
 | .attr o nm ap => e = .Attribute o nm ap
 | .star x => ∃ p, e = .Starred x p
 | .slice lo hi st => ∃ p, e = .Slice lo hi st p
 | .name x => ∃ p, e = .Name x p
 | .call f args kws => ∃ p, e = .Call f args kws p
 | .comp => ∃ a b d f, e = .ListComp a b d f
 | .sub o i => ∃ p, e = .Subscript o i p
 | _ => True
theorem Zcr (e : Expr) : (view e).of e := by
 cases e <;> first | exact trivial | exact rfl | exact ⟨_, rfl⟩ | exact ⟨_, _, rfl⟩ | exact ⟨_, _, _, _, rfl⟩
noncomputable def View.constV : View → Option PySem.Const
 | .const c => some c
 | _ => none
noncomputable def View.attrV : View → Option (Expr × Str × Pos)
 | .attr o nm ap => some (o, nm, ap)
 | _ => none
noncomputable def View.starV : View → Option Expr
 | .star e => some e
 | _ => none
noncomputable def View.sliceV : View → Option (Option Expr × Option Expr × Option Expr)
 | .slice lo hi st => some (lo, hi, st)
 | _ => none
noncomputable def View.nameV : View → Option Str
 | .name x => some x
 | _ => none
noncomputable def View.callV : View → Option (Expr × List Expr × List Keyword)
 | .call f args kws => some (f, args, kws)
 | _ => none
noncomputable def View.subV : View → Option (Expr × Expr)
 | .sub o i => some (o, i)
 | _ => none
noncomputable def View.isSet : View → Bool
 | .set => true
 | _ => false
noncomputable def View.isComp : View → Bool
 | .comp => true
 | _ => false
noncomputable def View.plain : View → Bool
 | .name _ => true
 | .sub _ _ => true
 | _ => false
noncomputable def constE (e : Expr) : Option PySem.Const := (view e).constV
noncomputable def attrE (e : Expr) : Option (Expr × Str × Pos) := (view e).attrV
noncomputable def starE (e : Expr) : Option Expr := (view e).starV
noncomputable def sliceE (e : Expr) : Option (Option Expr × Option Expr × Option Expr) := (view e).sliceV
noncomputable def nameE (e : Expr) : Option Str := (view e).nameV
noncomputable def callE (e : Expr) : Option (Expr × List Expr × List Keyword) := (view e).callV
noncomputable def subE (e : Expr) : Option (Expr × Expr) := (view e).subV
noncomputable def isSetE (e : Expr) : Bool := (view e).isSet
noncomputable def isComp (e : Expr) : Bool := (view e).isComp
noncomputable def plainT (e : Expr) : Bool := (view e).plain
noncomputable def strC : PySem.Const → Option Str
 | .str y => some y
 | _ => none
noncomputable def intC : PySem.Const → Option Int
 | .int y => some y
 | _ => none
noncomputable def strE (e : Expr) : Option Str := (constE e).bind strC
noncomputable def intE (e : Expr) : Option Int := (constE e).bind intC
noncomputable def one {α : Type} : List α → Option α
 | [x] => some x
 | _ => none
noncomputable def starA (args : List Expr) : Option Expr := (one args).bind starE
noncomputable def dictE (ks : List (Option Expr)) (vs : List Expr) : Option (Str × Int) := (one ks).bind fun k => k.bind fun k => (strE k).bind fun x => (one vs).bind fun v => (intE v).map fun i => (x, i)
noncomputable def two {α : Type} : List α → Option (α × α)
 | [x, y] => some (x, y)
 | _ => none
noncomputable def zipE (e : Expr) : Option (Expr × Expr) := (callE e).bind fun p => if nameE p.1 = some ("zip" : Str) ∧ p.2.2.isEmpty = true then two p.2.1 else none
theorem Zo5 {e : Expr} {q : Expr × Expr} (h : subE e = some q) : ∃ p, e = .Subscript q.1 q.2 p := by
 have k := Zcr e
 delta subE at h
 generalize view e = v at h k
 cases v with
 | sub o i => cases h; exact k
 | _ => exact Zab h
theorem Zlh {e : Expr} (h : plainT e = true) : (∃ x p, e = .Name x p) ∨ ∃ o i p, e = .Subscript o i p := by
 have k := Zcr e
 delta plainT at h
 generalize view e = v at h k
 cases v with
 | name x => exact .inl ⟨x, k⟩
 | sub o i => exact .inr ⟨o, i, k⟩
 | _ => exact Zai h
theorem Znp {e : Expr} (h : isComp e = true) : ∃ a b d f, e = .ListComp a b d f := by
 have k := Zcr e
 delta isComp at h
 generalize view e = v at h k
 cases v with
 | comp => exact k
 | _ => exact Zai h
theorem Zfg {α : Type} {l : List α} {x : α} (h : one l = some x) : l = [x] := by
 cases l with
 | nil => exact Zab h
 | cons y r =>
   cases r with
   | nil => cases h; rfl
   | cons _ _ => exact Zab h
theorem Zr5 {α : Type} {l : List α} {p : α × α} (h : two l = some p) : l = [p.1, p.2] := by
 cases l with
 | nil => exact Zab h
 | cons x r =>
   cases r with
   | nil => exact Zab h
   | cons y r =>
     cases r with
     | nil => cases h; rfl
     | cons _ _ => exact Zab h
theorem Zgg {e : Expr} {y : PySem.Const} (h : constE e = some y) : ∃ k p, e = .Constant y k p := by
 have k := Zcr e
 delta constE at h
 generalize view e = v at h k
 cases v with
 | const c => cases h; exact k
 | _ => exact Zab h
theorem Zmo {e x : Expr} (h : starE e = some x) : ∃ p, e = .Starred x p := by
 have k := Zcr e
 delta starE at h
 generalize view e = v at h k
 cases v with
 | star x => cases h; exact k
 | _ => exact Zab h
theorem Zoh {e : Expr} {q : Expr × Str × Pos} (h : attrE e = some q) : e = .Attribute q.1 q.2.1 q.2.2 := by
 have k := Zcr e
 delta attrE at h
 generalize view e = v at h k
 cases v with
 | attr o nm ap => cases h; exact k
 | _ => exact Zab h
theorem Zla {e : Expr} {q : Option Expr × Option Expr × Option Expr} (h : sliceE e = some q) : ∃ p, e = .Slice q.1 q.2.1 q.2.2 p := by
 have k := Zcr e
 delta sliceE at h
 generalize view e = v at h k
 cases v with
 | slice a b c => cases h; exact k
 | _ => exact Zab h
theorem Zd7 {e : Expr} {x : Str} (h : nameE e = some x) : ∃ p, e = .Name x p := by
 have k := Zcr e
 delta nameE at h
 generalize view e = v at h k
 cases v with
 | name x => cases h; exact k
 | _ => exact Zab h
theorem Zod {e : Expr} {q : Expr × List Expr × List Keyword} (h : callE e = some q) : ∃ p, e = .Call q.1 q.2.1 q.2.2 p := by
 have k := Zcr e
 delta callE at h
 generalize view e = v at h k
 cases v with
 | call f a b => cases h; exact k
 | _ => exact Zab h
theorem Zgy {e : Expr} {y : Str} (h : strE e = some y) : ∃ k p, e = .Constant (.str y) k p := by
 refine Oea (Option.bind_eq_some_iff.mp h) ?_; intro c h1 h2
 cases c with
 | str z => cases h2; exact Zgg h1
 | _ => exact Zab h2
theorem Zpw {e : Expr} {y : Int} (h : intE e = some y) : ∃ k p, e = .Constant (.int y) k p := by
 refine Oea (Option.bind_eq_some_iff.mp h) ?_; intro c h1 h2
 cases c with
 | int z => cases h2; exact Zgg h1
 | _ => exact Zab h2
theorem Zfc {args : List Expr} {e : Expr} (h : starA args = some e) : ∃ p, args = [.Starred e p] := by
 refine Oea (Option.bind_eq_some_iff.mp h) ?_; intro x h1 h2
 refine Oe (Zmo h2) ?_; intro p e
 exact ⟨p, by rw [Zfg h1, e]⟩
theorem Zn7 {ks : List (Option Expr)} {vs : List Expr} {q : Str × Int} (h : dictE ks vs = some q) : ∃ k p k' p', ks = [some (.Constant (.str q.1) k p)] ∧ vs = [.Constant (.int q.2) k' p'] := by
 refine Oea (Option.bind_eq_some_iff.mp h) ?_; clear h; intro a h1 h
 refine Oea (Option.bind_eq_some_iff.mp h) ?_; clear h; intro b h2 h
 refine Oea (Option.bind_eq_some_iff.mp h) ?_; clear h; intro x h3 h
 refine Oea (Option.bind_eq_some_iff.mp h) ?_; clear h; intro v h4 h
 refine Oea (Option.map_eq_some_iff.mp h) ?_; clear h; intro i h5 h6
 refine Oee (Zgy h3) ?_; intro k p e1
 refine Oee (Zpw h5) ?_; intro k' p' e2
 refine ⟨k, p, k', p', ?_, ?_⟩
 · rw [Zfg h1, h2, e1, ← h6]
 · rw [Zfg h4, e2, ← h6]
theorem Zom {e : Expr} {q : Expr × Expr} (h : zipE e = some q) : ∃ px pos, e = .Call (.Name ("zip" : Str) px) [q.1, q.2] [] pos := by
 refine Oea (Option.bind_eq_some_iff.mp h) ?_; clear h; intro p h1 h
 by_cases hc : nameE p.1 = some ("zip" : Str) ∧ p.2.2.isEmpty = true
 · rw [if_pos hc] at h
   refine Oe (Zd7 hc.1) ?_; intro px e1; refine Oe (Zod h1) ?_; intro pos e2; exact ⟨px, pos, by rw [e2, e1, Zr5 h, List.isEmpty_iff.mp hc.2]⟩
 · rw [if_neg hc] at h; exact Zab h
noncomputable def repD (v : AV) (args : List Expr) : AM AV := fun Q U σ => vS v fun s => a2 args fun e1 e2 => onO (strE e1) fun y => onO (strE e2) fun z =>
 (y == z) = false ∧ s.length ≤ lim ∧ z.length ≤ 14 ∧ Q (.str (Txt.replace s y z)) σ
noncomputable def callAt (P : Par) (g : SE) (ma : AM (List AV)) (nm : Str) (args : List Expr) (v : AV) : AM AV := fun Q X σ => match mres σ.H v nm with
 | some (.blt .replace) => repD v args Q X σ
 | some m => bnd ma (fun vs => calM P g m v vs) Q X σ
 | none => False
noncomputable def starD (v : AV) : AM (List AV) := fun Q U σ => vR v fun a => onT σ.H a fun xs => Q xs σ
noncomputable def callStar (P : Par) (me : AM AV) (nm : Str) (v : AV) : AM AV := fun Q X σ => match mres σ.H v nm with
 | some (.own f) => bnd (bnd me starD) (fun vs => callU P f (v :: vs)) Q X σ
 | _ => False
noncomputable def unpD (g : SE) : List Expr → List AV → AM Unit
 | [], [] => ret ()
 | .Name x _ :: ts, v :: vs => bnd (stN g x v) fun U => unpD g ts vs
 | _, _ => fail
noncomputable def namesOf : List Expr → List Str
 | [] => []
 | .Name x _ :: r => x :: namesOf r
 | _ :: r => namesOf r
noncomputable def asgI (g : SE) (t : Expr) : Item → AM Unit
 | .one v => (match t with | .Name x _ => stN g x v | _ => fail)
 | .two a b => (match t with | .Tuple ts _ _ => (if (namesOf ts).Nodup then unpD g ts [a, b] else fail) | _ => fail)
noncomputable def compSc (outer : Scope) (sc : Scope) : Scope :=
 { sc with names := sc.names.map fun (n, k) => if (k == .free && outer.kind == .function && outer.names.lookup n == some .cell) then (n, .cell) else (n, k) }
noncomputable def ownNames (sc : Scope) : List Str := (sc.names.filter fun (n, k) => (k == .local || k == .cell) && n != (".0" : Str)).map (·.1)
noncomputable def scOk (g : SE) (sc : Scope) : Bool := sc.kind == .function && !sc.isGenerator && !sc.isCoroutine && decide ((sc.names.map (·.1)).Nodup) &&
 sc.names.all fun p => p.1 != ("__debug__" : Str) && p.1 != ("__classdict__" : Str) && (p.2 == .local || p.1 != (".0" : Str)) && (p.2 != .free || g.kind p.1 == some .cell || g.kind p.1 == some .free)
noncomputable def compSE (g : SE) (sc : Scope) : SE := ⟨compSc g.sc sc, ownNames sc, 1⟩
noncomputable def enterL (own : List Str) (m : Str → Option AV) : Str → Option AV := fun x => if own.contains x || x == (".0" : Str) then none else m x
noncomputable def plainArgs (args : List Expr) : Bool := args.all fun e => (starE e).isNone
noncomputable def tupTup : Expr → Expr → Bool
 | .Tuple ts _ _, .Tuple vs _ _ => !(ts.length == 2 && vs.length == 2 && !(vs.all (constantsAlone 8)) && plainArgs vs)
 | .List .., _ => true
 | _, _ => false
noncomputable def noX : Exn → St → Prop := fun U U => False
noncomputable def hand1 : ExceptHandler → Option (Str × List Stmt)
 | .ExceptHandler ty nm hb _ => if nm.isNone then (ty.bind nameE).map fun x => (x, hb) else none
noncomputable def handE (hs : List ExceptHandler) : Option (Str × List Stmt) := (one hs).bind hand1
theorem Znq {hs : List ExceptHandler} {q : Str × List Stmt} (h : handE hs = some q) : ∃ px pos, hs = [.ExceptHandler (some (.Name q.1 px)) none q.2 pos] := by
 refine Oea (Option.bind_eq_some_iff.mp h) ?_; clear h; intro a h1 h
 obtain ⟨ty, nm, hb, pos⟩ := a
 cases nm with
 | some _ => exact Zab h
 | none =>
   refine Oea (Option.map_eq_some_iff.mp (show (ty.bind nameE).map (fun x => (x, hb)) = some q from h)) ?_; clear h; intro x h2 h3; refine Oea (Option.bind_eq_some_iff.mp h2) ?_; intro t h4 h5; refine Oe (Zd7 h5) ?_; intro px e; exact ⟨px, pos, by rw [Zfg h1, h4, e, ← h3]⟩
noncomputable def noSuper : Expr → Bool
 | .Call (.Name _ _) [] [] _ => false
 | _ => true
mutual
noncomputable def ev (P : Par) : Nat → SE → Expr → AM AV
 | 0, _, _ => fail
 | _ + 1, _, .Constant c _ _ => evConst c
 | _ + 1, g, .Name x _ => rdN g x
 | n + 1, g, .BoolOp op vs _ => evB P n g op vs
 | n + 1, g, .NamedExpr t v _ => (nameE t).elim fail fun x => bnd (ev P n g v) fun a => bnd (stN g x a) fun U => ret a
 | n + 1, g, .BinOp l op r _ => bnd (ev P n g l) fun a => bnd (ev P n g r) fun b => binD P op a b
 | n + 1, g, .UnaryOp .Not x _ => bnd (ev P n g x) fun a => bnd (truth a) fun b => ret (.bool (!b))
 | n + 1, g, .UnaryOp .USub x _ => bnd (ev P n g x) negD
 | n + 1, g, .IfExp t a b _ => bnd (tr P n g t) fun c => if c then ev P n g a else ev P n g b
 | n + 1, g, .Compare l [op] [r] _ => if behindInMarks op r then fail else bnd (ev P n g l) fun a => bnd (ev P n g r) fun b => cmpD op a b
 | n + 1, g, .List es _ => if plainArgs es then bnd (evs P n g es) fun vs => fun Q X σ => vs.length ≤ lim ∧ newA (.list vs) Q X σ else fail
 | n + 1, g, .Tuple es _ _ => if plainArgs es then bnd (evs P n g es) fun vs => fun Q X σ => vs.length ≤ lim ∧ newA (.tup vs) Q X σ else fail
 | _ + 1, _, .Dict ks vs _ => if ks.isEmpty && vs.isEmpty then newA (.dict [] 0) else (dictE ks vs).elim fail fun p => fun Q X σ => ∀ ep, newA (.dict [(p.1, .int p.2)] ep) Q X σ
 | n + 1, g, .Attribute o nm _ => if noSuper o then bnd (ev P n g o) fun v => gaD v nm else fail
 | n + 1, g, .Subscript o i _ => (sliceE i).elim (bnd (ev P n g o) fun v => bnd (ev P n g i) fun k => itD v k) fun p =>
     bnd (ev P n g o) fun v => bnd (evO P n g p.1) fun l => bnd (evO P n g p.2.1) fun h => bnd (evO P n g p.2.2) fun s => slD P v l h s
 | n + 1, g, .Call f args kws pos => if !kws.isEmpty then fail else (attrE f).elim (bnd (ev P n g f) fun v => bnd (evA P n g args) fun vs => calD P g v vs) fun p =>
     (starA args).elim (if !noSuper p.1 || !(p.2.2.endLine == pos.line) || !plainArgs args || 29 ≤ args.length then fail else bnd (ev P n g p.1) (callAt P g (evs P n g args) p.2.1 args)) fun e =>
       if !noSuper p.1 || 2 ≤ g.lv then fail else bnd (ev P n g p.1) (callStar P (ev P n g e) p.2.1)
 | n + 1, g, .ListComp elt (⟨tgt, iter, ifs, 0⟩ :: gens) sc _ => if 2 ≤ g.lv || !scOk g sc then fail else
     bnd (itr P n g iter) fun src => fun Q X σ =>
       compGo (asgI (compSE g sc) tgt) (evC P n (compSE g sc) elt ifs gens) (fun σ' => src.holds σ'.H) src.items 0
         (fun ys σ' => ys.length ≤ lim ∧ newA (.list ys) Q X ⟨σ.loc, σ'.H⟩) noX ⟨enterL (ownNames sc) σ.loc, σ.H⟩
 | _, _, _ => fail
noncomputable def evC (P : Par) : Nat → SE → Expr → List Expr → List Comprehension → Nat → AM (List AV)
 | 0, _, _, _, _, _ => fail
 | n + 1, g, elt, c :: ifs, gens, k => bnd (tr P n g c) fun b => if b then evC P n g elt ifs gens k else ret []
 | n + 1, g, elt, [], [], k => bnd (ev P n g elt) fun y => fun Q U σ => k < lim ∧ Q [y] σ
 | n + 1, g, elt, [], ⟨tgt, iter, ifs, 0⟩ :: gens, k => if isSetE iter then fail else bnd (ev P n g iter) fun v => bnd (srcD v) fun src =>
     compGo (asgI g tgt) (evC P n g elt ifs gens) (fun σ' => src.holds σ'.H) src.items k
 | _, _, _, _, _, _ => fail
noncomputable def itr (P : Par) : Nat → SE → Expr → AM Src
 | 0, _, _ => fail
 | n + 1, g, e => (zipE e).elim (if isSetE e then fail else bnd (ev P n g e) srcD) fun p =>
     if isGlob g ("zip" : Str) && plainArgs [p.1, p.2] then bnd (ev P n g p.1) fun x => bnd (ev P n g p.2) fun y => zipSrc x y else fail
noncomputable def evO (P : Par) : Nat → SE → Option Expr → AM AV
 | 0, _, _ => fail
 | _ + 1, _, none => ret .none
 | n + 1, g, some e => ev P n g e
noncomputable def evs (P : Par) : Nat → SE → List Expr → AM (List AV)
 | 0, _, _ => fail
 | _ + 1, _, [] => ret []
 | n + 1, g, e :: r => bnd (ev P n g e) fun v => bnd (evs P n g r) fun vs => ret (v :: vs)
noncomputable def evA (P : Par) : Nat → SE → List Expr → AM (List AV)
 | 0, _, _ => fail
 | n + 1, g, args => (starA args).elim (if plainArgs args then evs P n g args else fail) fun e => bnd (ev P n g e) fun v => starD v
noncomputable def evB (P : Par) : Nat → SE → BoolOp → List Expr → AM AV
 | 0, _, _, _ => fail
 | n + 1, g, _, [e] => ev P n g e
 | n + 1, g, op, e :: r => bnd (ev P n g e) fun v => bnd (truth v) fun b => match op, b with
     | .And, false => ret v
     | .Or, true => ret v
     | _, _ => evB P n g op r
 | _, _, _, _ => fail
noncomputable def tr (P : Par) : Nat → SE → Expr → AM Bool
 | 0, _, _ => fail
 | n + 1, g, .UnaryOp .Not x _ => bnd (tr P n g x) fun b => ret (!b)
 | n + 1, g, .BoolOp op vs _ => trB P n g op vs
 | _ + 1, _, .IfExp .. => fail
 | n + 1, g, .Compare l [op] [r] _ => if behindInMarks op r then fail else
     bnd (ev P n g l) fun a => bnd (ev P n g r) fun b => bnd (cmpD op a b) boolD
 | _ + 1, _, .Compare .. => fail
 | n + 1, g, e => bnd (ev P n g e) fun v => truth v
noncomputable def trB (P : Par) : Nat → SE → BoolOp → List Expr → AM Bool
 | 0, _, _, _ => fail
 | _ + 1, _, op, [] => ret (op == .And)
 | n + 1, g, op, e :: r => bnd (tr P n g e) fun b => match op, b with
     | .And, false => ret false
     | .Or, true => ret true
     | _, _ => trB P n g op r
noncomputable def asg (P : Par) : Nat → SE → Expr → AV → AM Unit
 | 0, _, _, _ => fail
 | _ + 1, g, .Name x _, v => stN g x v
 | n + 1, g, .Attribute o nm _, v => bnd (ev P n g o) fun ov => saD ov nm v
 | n + 1, g, .Subscript o i _, v => bnd (ev P n g o) fun ov => bnd (ev P n g i) fun iv => siD ov iv v
 | _ + 1, g, .Tuple ts _ _, v => if (namesOf ts).Nodup ∧ g.lv < 2 then (fun Q X σ => vR v fun a => onT σ.H a fun xs => xs.length = ts.length ∧ ts.length ≤ 3 ∧ unpD g ts xs Q X σ) else fail
 | _, _, _, _ => fail
noncomputable def ex (P : Par) : Nat → SE → Stmt → AM DFlow
 | 0, _, _ => fail
 | n + 1, g, .Expr e _ => if isComp e then fail else bnd (ev P n g e) fun U => ret .next
 | _ + 1, _, .Pass _ => ret .next
 | _ + 1, _, .Break _ => ret .brk
 | _ + 1, _, .Continue _ => ret .cont
 | n + 1, g, .Return e _ => bnd (evO P n g e) fun v => ret (.ret v)
 | n + 1, g, .Assign [t] v _ => if tupTup t v then fail else bnd (ev P n g v) fun a => bnd (asg P n g t a) fun U => ret .next
 | n + 1, g, .Assign [t, u] v _ => if isComp v || !plainT t then fail else bnd (ev P n g v) fun a => bnd (asg P n g t a) fun U => bnd (asg P n g u a) fun U => ret .next
 | n + 1, g, .AugAssign (.Name x _) op v _ => bnd (rdN g x) fun a => bnd (ev P n g v) fun b => bnd (augD op a b) fun r => bnd (stN g x r) fun U => ret .next
 | n + 1, g, .AugAssign (.Attribute o nm _) op v _ => bnd (ev P n g o) fun ov => bnd (gaD ov nm) fun a => bnd (ev P n g v) fun b => bnd (augD op a b) fun r => bnd (saD ov nm r) fun U => ret .next
 | n + 1, g, .Delete ts _ => ((one ts).bind subE).elim fail fun p => bnd (ev P n g p.1) fun ov => bnd (ev P n g p.2) fun iv => bnd (diD ov iv) fun U => ret .next
 | n + 1, g, .If t a b _ => bnd (tr P n g t) fun c => if c then exs P n g a else exs P n g b
 | n + 1, g, .While t body orelse _ => if g.lv = 1 then fail else fun Q X σ => ∀ I : St → Prop,
     (∀ σ', (tr P n g t) (fun b σ1 => if b
         then exs P n g body (fun fl σ2 => match fl with
           | .next | .cont => I σ2
           | .brk => Q .next σ2
           | .ret v => Q (.ret v) σ2) X σ1
         else exs P n g orelse Q X σ1) X σ' → I σ') → I σ
 | n + 1, g, .For (.Name x p) iter body [] _ => if 2 ≤ g.lv || isSetE iter then fail else bnd (ev P n g iter) fun v => bnd (srcD v) fun src =>
     fun Q U σ => forGo (asgI g (.Name x p)) (exs P n g body) (fun σ' => src.holds σ'.H) src.items Q noX σ
 | n + 1, g, .Try body hs orelse fin _ => if !orelse.isEmpty then fail else if hs.isEmpty then (if g.lv = 0 && !fin.isEmpty then fun Q X σ =>
     exs P n g body
       (fun fl σ' => exs P n g fin (fun f2 σ'' => match f2 with | .next => Q fl σ'' | _ => False) X σ')
       (fun c σ' => c.ch = false ∧ exs P n ⟨g.sc, g.wr, 2⟩ fin (fun f2 σ'' => match f2 with | .next => X c σ'' | _ => False) (fun c2 σ'' => X ⟨c2.cls, true⟩ σ'') σ') σ else fail)
     else (handE hs).elim fail fun p => if fin.isEmpty && (g.lv = 0 && isGlob g p.1) then fun Q X σ =>
       exs P n g body Q (fun c σ' => glob p.1 = some (.ty c.cls) ∧ c.cls ∈ excs ∧ p.2 ≠ [] ∧ exs P n ⟨g.sc, g.wr, 3⟩ p.2 Q noX σ') σ else fail
 | _, _, _ => fail
noncomputable def exs (P : Par) : Nat → SE → List Stmt → AM DFlow
 | 0, _, _ => fail
 | _ + 1, _, [] => ret .next
 | n + 1, g, s :: r => bnd (ex P n g s) fun fl => match fl with
     | .next => exs P n g r
     | f => ret f
end
noncomputable def fnSE (sc : Scope) : SE := ⟨sc, ownNames sc, 0⟩
noncomputable def locOf : List (Str × AV) → (Str → Option AV) → Str → Option AV
 | [], m => m
 | (n, v) :: r, m => locOf r (setL m n v)
def pN (k : String) : Lean.Name :=
 if String.Pos.Raw.get k 0 == '.' then .str `Lean.Parser.Tactic (String.Pos.Raw.extract k ⟨1⟩ ⟨99⟩) else
 if String.Pos.Raw.get k 0 == '!' then .str `PyProof.Rows (String.Pos.Raw.extract k ⟨1⟩ ⟨99⟩) else
 if String.Pos.Raw.get k 0 == '@' then .str `Lean.Parser.Term (String.Pos.Raw.extract k ⟨1⟩ ⟨99⟩) else .str .anonymous k
def pT (st : List (List Lean.Syntax)) (t : String) : List (List Lean.Syntax) :=
 if t == "<" then [] :: st else
 match st with
 | (x :: a) :: b :: r =>
   if t == ">" then (.node .none (pN x.getAtomVal) a.reverse.toArray :: b) :: r
   else if t == "%" then (.ident .none "".toRawSubstring x.getAtomVal.toName [] :: a) :: b :: r
   else (Lean.mkAtom t :: x :: a) :: b :: r
 | _ => [Lean.mkAtom t] :: st.tail
def pS (s : String) : Lean.Syntax := ((s.splitOn " ").foldl pT [[], []]).head!.head!
def lkS : Lean.Syntax := pS "< first < < | < with_reducible < assumption .assumption > .withReducible > group > < | < with_reducible < exact < Zff % < < _ @hole > < _ @hole > < _ @hole > null > @app > .exact > .withReducible > group > < | < < with_reducible < refine < Zpb % < < ? _ @syntheticHole > < ? _ @syntheticHole > null > @app > .refine > .withReducible > < kernel_rfl! !tacticKernel_rfl! > < walk_at < \"lk\" str > !tacticWalk_at_ > null > group > < | < < with_reducible < refine < Zn3 % < < ? _ @syntheticHole > < ? _ @syntheticHole > null > @app > .refine > .withReducible > < kernel_rfl! !tacticKernel_rfl! > < walk_at < \"lk\" str > !tacticWalk_at_ > null > group > null > .first >"
def hkS : Lean.Syntax := pS "< first < < | < with_reducible < assumption .assumption > .withReducible > group > < | < with_reducible < exact < upd_same % < < _ @hole > < _ @hole > < _ @hole > null > @app > .exact > .withReducible > group > < | < < with_reducible < refine < Zac % < < ? _ @syntheticHole > < ? _ @syntheticHole > null > @app > .refine > .withReducible > < walk_at < \"hk\" str > !tacticWalk_at_ > < with_reducible < assumption .assumption > .withReducible > null > group > < | < < with_reducible < refine < Zaa % < < ? _ @syntheticHole > < ? _ @syntheticHole > null > @app > .refine > .withReducible > < walk_at < \"hk\" str > !tacticWalk_at_ > < first < < | < with_reducible < assumption .assumption > .withReducible > group > < | < exact < Ne.symm % < < by < with_reducible < assumption .assumption > .withReducible > @byTactic > null > @app > .exact > group > < | < exact < Zag % < < by < with_reducible < assumption .assumption > .withReducible > @byTactic > < by < with_reducible < assumption .assumption > .withReducible > @byTactic > null > @app > .exact > group > < | < exact < Ne.symm % < < Zag % < < by < with_reducible < assumption .assumption > .withReducible > @byTactic > < by < with_reducible < assumption .assumption > .withReducible > @byTactic > null > @app > null > @app > .exact > group > null > .first > null > group > null > .first >"
def lbS : Lean.Syntax := pS "< first < < | < with_reducible < assumption .assumption > .withReducible > group > < | < exact < of_decide_eq_true % < < by < kernel_rfl! !tacticKernel_rfl! > @byTactic > null > @app > .exact > group > < | < < first < < | < refine < Zat % < < ? _ @syntheticHole > null > @app > .refine > group > < | < refine < Zea % < < ? _ @syntheticHole > null > @app > .refine > group > < | < skip .skip > group > null > .first > < first < < | < lia < < null > .optConfig > .lia > group > < | < < simp < < null > .optConfig > < null > < only null > < [ < < < null > < null > Znl % .simpLemma > , < < null > < null > Zss % .simpLemma > , < < null > < null > Zrb % .simpLemma > , < < null > < null > Zvw % .simpLemma > , < < null > < null > Zvv % .simpLemma > , < < null > < null > Zuo % .simpLemma > , < < null > < null > Zun % .simpLemma > , < < null > < null > List.length_map % .simpLemma > , < < null > < null > List.length_reverse % .simpLemma > , < < null > < null > List.length_append % .simpLemma > , < < null > < null > List.length_cons % .simpLemma > , < < null > < null > List.length_nil % .simpLemma > null > ] null > < null > .simp > < lia < < null > .optConfig > .lia > null > group > null > .first > null > group > null > .first >"
def mrS : Lean.Syntax := pS "< first < < | < with_unfolding_all < exact < Zpm % < rfl % null > @app > .exact > .withUnfoldingAll > group > < | < with_unfolding_all < exact < Znd % < < by < walk_at < \"hk\" str > !tacticWalk_at_ > @byTactic > rfl % null > @app > .exact > .withUnfoldingAll > group > < | < with_unfolding_all < exact < Zne % < < by < walk_at < \"hk\" str > !tacticWalk_at_ > @byTactic > rfl % null > @app > .exact > .withUnfoldingAll > group > < | < with_unfolding_all < exact < Zpn % < < by < walk_at < \"hk\" str > !tacticWalk_at_ > @byTactic > rfl % null > @app > .exact > .withUnfoldingAll > group > null > .first >"
def arS : Lean.Syntax := pS "< first < < | < with_reducible < assumption .assumption > .withReducible > group > < | < kernel_rfl! !tacticKernel_rfl! > group > null > .first >"
def asS : Lean.Syntax := pS "< with_reducible < assumption .assumption > .withReducible >"
def foS : Lean.Syntax := pS "< first < < | < with_reducible < assumption .assumption > .withReducible > group > < | < < dsimp < < null > .optConfig > < null > < only null > < [ < < < null > < null > Src.holds % .simpLemma > null > ] null > < null > .dsimp > < walk_at < \"hk\" str > !tacticWalk_at_ > null > group > null > .first >"
def wrS : Lean.Syntax := pS "< with_unfolding_all < exact rfl % .exact > .withUnfoldingAll >"
def laS : Lean.Syntax := pS "< first < < | < with_reducible < assumption .assumption > .withReducible > group > < | < with_unfolding_all < exact rfl % .exact > .withUnfoldingAll > group > null > .first >"
def soS : Lean.Syntax := pS "< first < < | < with_reducible < assumption .assumption > .withReducible > group > < | < exact < strsOf_map % < < _ @hole > null > @app > .exact > group > < | < with_unfolding_all < exact rfl % .exact > .withUnfoldingAll > group > null > .first >"
def krS : Lean.Syntax := pS "< kernel_rfl! !tacticKernel_rfl! >"
variable {Q : AV → AH → Prop} {s s' : Shared} {args ifs r : List Expr} {hi rn v : AV} {ap apos p pos px q sp : Pos} {elt iter o t tgt : Expr} {C D I T a b d dl ig it l n2 rl : Addr} {f lo : Int} {u : Tok} {nm x y z : Str} {op : Operator} {ep i j n slot : Nat} {body hb orelse : List Stmt} {ds ks nl rs se ts ys zs : List Str} {xs : List AV} {ℓ : Str → Option AV} {H H' H1 H2 : AH} {sc scope : Scope} {es igs : List (Str × AV)} {m : Md} {h' h₀ : Heap} {me mi ml mo : AM AV} {X : Exn → St → Prop} {σ : St} {P : Par} {c : Cx} {g : SE} {K : Frag} {ao : AObj} {o' oL oa : Obj} {vs : Array Value} {A : Around} {prog : Program} {w : World} {binds kvs : List (Str × Value)} {led : Bool} {E : Value → Shared → Prop} {ms os : List Md} {hs ps : List (Addr × Obj)} {mb : AM DFlow} {env : Env} {mt : AM Bool} {fd : FuncData} {ns : List Int} {hi' lo' : Option Int} {ad sd : Str → Addr}
def dcS : Lean.Syntax := pS "< decide < < null > .optConfig > .decide >"
section
variable {P : Par} {n : Nat} {g : SE} {X : Exn → St → Prop} {σ : St}
noncomputable def kS (P : Par) (n : Nat) (g : SE) (r : List Stmt) (Q : DFlow → St → Prop) (X : Exn → St → Prop) (fl : DFlow) (σ' : St) : Prop := (match fl with
 | .next => exs P n g r
 | f => ret f : AM DFlow) Q X σ'
theorem Zu3 {Q : DFlow → St → Prop} (h : Q .next σ) : exs P (n + 1) g [] Q X σ := h
theorem Zam {s : Stmt} {r : List Stmt} {Q : DFlow → St → Prop} (h : ex P n g s (kS P n g r Q X) X σ) : exs P (n + 1) g (s :: r) Q X σ := h
theorem x_kr {r : List Stmt} {Q : DFlow → St → Prop} (h : Q (.ret v) σ) : kS P n g r Q X (.ret v) σ := h
theorem x_kb {r : List Stmt} {Q : DFlow → St → Prop} (h : Q .brk σ) : kS P n g r Q X .brk σ := h
theorem x_kc {r : List Stmt} {Q : DFlow → St → Prop} (h : Q .cont σ) : kS P n g r Q X .cont σ := h
section
variable {Q : DFlow → St → Prop}
theorem Zaw {e : Expr} (h : ev P n g e (fun v σ' => Q (.ret v) σ') X σ) : ex P (n + 2) g (.Return (some e) p) Q X σ := h
theorem Zi5 (h : Q .brk σ) : ex P (n + 1) g (.Break p) Q X σ := h
theorem Zf3 (h : Q .cont σ) : ex P (n + 1) g (.Continue p) Q X σ := h
theorem x_If {a b : List Stmt} (h : tr P n g t (fun c σ' => if c = true then exs P n g a Q X σ' else exs P n g b Q X σ') X σ) : ex P (n + 1) g (.If t a b p) Q X σ := by
 have e : (fun c σ' => (if c = true then exs P n g a else exs P n g b : AM DFlow) Q X σ') = fun (c : Bool) σ' => if c = true then exs P n g a Q X σ' else exs P n g b Q X σ' := by
   funext c σ'; cases c <;> rfl
 refine (?_ : tr P n g t _ X σ)
 rw [e]; exact h
theorem Zan {f : Expr} {kw : List Keyword} (h : ev P n g (.Call f args kw p) (fun U σ' => Q .next σ') X σ) : ex P (n + 1) g (.Expr (.Call f args kw p) q) Q X σ := h
theorem Zad {v : Expr} (h : ev P n g v (fun a σ' => asg P n g t a (fun U σ'' => Q .next σ'') X σ') X σ) (ht : autoParam (tupTup t v = false) krS) : ex P (n + 1) g (.Assign [t] v p) Q X σ := by
 refine (?_ : (if tupTup t v = true then fail else _ : AM DFlow) Q X σ)
 rw [ht]; exact h
theorem Zhy {u v : Expr} (h : ev P n g v (fun a σ' => asg P n g t a (fun U σ1 => asg P n g u a (fun U σ2 => Q .next σ2) X σ1) X σ') X σ) (hv : autoParam ((isComp v || !plainT t) = false) krS) : ex P (n + 1) g (.Assign [t, u] v p) Q X σ := by
 refine (?_ : (if (isComp v || !plainT t) = true then fail else _ : AM DFlow) Q X σ)
 rw [hv]; exact h
theorem Zc1 {v : Expr} (h : rdN g x (fun a σ1 => ev P n g v (fun b σ2 => augD op a b (fun r σ3 => stN g x r (fun U σ4 => Q .next σ4) X σ3) X σ2) X σ1) X σ) : ex P (n + 1) g (.AugAssign (.Name x px) op v p) Q X σ := h
theorem Zd0 {pt : Pos} {v : Expr} (h : ev P n g o (fun ov σ0 => gaD ov nm (fun a σ1 => ev P n g v (fun b σ2 => augD op a b (fun r σ3 => saD ov nm r (fun U σ4 => Q .next σ4) X σ3) X σ2) X σ1) X σ0) X σ) : ex P (n + 1) g (.AugAssign (.Attribute o nm pt) op v p) Q X σ := h
theorem Zo0 {i : Expr} (h : ev P n g o (fun ov σ1 => ev P n g i (fun iv σ2 => diD ov iv (fun U σ3 => Q .next σ3) X σ2) X σ1) X σ) : ex P (n + 1) g (.Delete [.Subscript o i p] q) Q X σ := h
theorem Ze7 (h : ev P n g iter (fun v σ1 => srcD v (fun src σ2 => forGo (asgI g (.Name x px)) (exs P n g body) (fun σ' => src.holds σ'.H) src.items Q noX σ2) X σ1) X σ) (hl : autoParam ((decide (2 ≤ g.lv) || isSetE iter) = false) krS) : ex P (n + 1) g (.For (.Name x px) iter body [] p) Q X σ := by
 refine (?_ : (if (decide (2 ≤ g.lv) || isSetE iter) = true then fail else _ : AM DFlow) Q X σ)
 rw [hl]; exact h
noncomputable def kW (I : St → Prop) (Q : DFlow → St → Prop) (fl : DFlow) (σ2 : St) : Prop := match fl with
 | .next | .cont => I σ2
 | .brk => Q .next σ2
 | .ret v => Q (.ret v) σ2
theorem Zhs {I : St → Prop} {Q : DFlow → St → Prop} (h : I σ) : kW I Q .next σ := h
theorem Zrv {I : St → Prop} {Q : DFlow → St → Prop} (h : Q .next σ) : kW I Q .brk σ := h
noncomputable def wT (P : Par) (n : Nat) (g : SE) (t : Expr) (body orelse : List Stmt) (Q : DFlow → St → Prop) (X : Exn → St → Prop) (I : St → Prop) (σ' : St) : Prop :=
 tr P n g t (fun b σ1 => if b = true then exs P n g body (kW I Q) X σ1 else exs P n g orelse Q X σ1) X σ'
theorem Zel (hl : g.lv ≠ 1) (Inv : Nat → St → Prop) (m : Nat) (h0 : Inv m σ)
   (hs : ∀ m σ' (I : St → Prop), (∀ m' σ2, m' < m → Inv m' σ2 → I σ2) → Inv m σ' → wT P n g t body orelse Q X I σ') : ex P (n + 1) g (.While t body orelse p) Q X σ := by
 refine (?_ : (if g.lv = 1 then fail else _ : AM DFlow) Q X σ)
 rw [if_neg hl]
 intro I hI
 have key : ∀ m σ', Inv m σ' → I σ' := by
   intro m
   induction m using Nat.strongRecOn with
   | ind m ih =>
     intro σ' h; refine hI σ' ?_; have e : (fun fl σ2 => (match fl with | .next | .cont => I σ2 | .brk => Q .next σ2 | .ret v => Q (.ret v) σ2 : Prop)) = kW I Q := by funext fl σ2; cases fl <;> rfl
     exact Eq.mpr (congrArg (fun K => tr P n g t (fun b σ1 => if b = true then exs P n g body K X σ1 else exs P n g orelse Q X σ1) X σ') e) (hs m σ' I (fun m' σ2 hlt h2 => ih m' hlt σ2 h2) h)
 exact key m σ h0
theorem x_wT {I : St → Prop} (h : tr P n g t (fun b σ1 => if b = true then exs P n g body (kW I Q) X σ1 else exs P n g orelse Q X σ1) X σ) : wT P n g t body orelse Q X I σ := h
theorem Zmf {hp : Pos} (hl : autoParam ((decide (g.lv = 0) && isGlob g x) = true) krS) (h : exs P n g body Q (fun c σ' => glob x = some (.ty c.cls) ∧ c.cls ∈ excs ∧ hb ≠ [] ∧ exs P n ⟨g.sc, g.wr, 3⟩ hb Q noX σ') σ) : ex P (n + 1) g (.Try body [.ExceptHandler (some (.Name x px)) none hb hp] [] [] p) Q X σ := by
 refine (?_ : (if (true && (decide (g.lv = 0) && isGlob g x)) = true then _ else fail : AM DFlow) Q X σ)
 rw [Bool.true_and, if_pos hl]; exact h
theorem Zt0 {fin : List Stmt} (h : exs P n g body
       (fun fl σ' => exs P n g fin (fun f2 σ'' => match f2 with | .next => Q fl σ'' | _ => False) X σ')
       (fun c σ' => c.ch = false ∧ exs P n ⟨g.sc, g.wr, 2⟩ fin (fun f2 σ'' => match f2 with | .next => X c σ'' | _ => False) (fun c2 σ'' => X ⟨c2.cls, true⟩ σ'') σ') σ) (hl : autoParam ((decide (g.lv = 0) && !fin.isEmpty) = true) krS) : ex P (n + 1) g (.Try body [] [] fin p) Q X σ := by
 refine (?_ : (if (decide (g.lv = 0) && !fin.isEmpty) = true then _ else fail : AM DFlow) Q X σ)
 rw [if_pos hl]; exact h
end
section
variable {Q : Unit → St → Prop}
theorem Zmd (h : stN g x v Q X σ) : asg P (n + 1) g (.Name x p) v Q X σ := h
theorem Za6 (h : ev P n g o (fun ov σ' => saD ov nm v Q X σ') X σ) : asg P (n + 1) g (.Attribute o nm p) v Q X σ := h
theorem Zco {i : Expr} (h : ev P n g o (fun ov σ1 => ev P n g i (fun iv σ2 => siD ov iv v Q X σ2) X σ1) X σ) : asg P (n + 1) g (.Subscript o i p) v Q X σ := h
theorem Zgt {ts : List Expr} {k : Nat} (hl : autoParam ((decide ((namesOf ts).Nodup) && decide (g.lv < 2)) = true) krS) (ha : autoParam (σ.H a = some (.tup xs)) hkS) (hn : xs.length = ts.length) (h3 : ts.length ≤ 3) (h : unpD g ts xs Q X σ) : asg P (n + 1) g (.Tuple ts k p) (.ref a) Q X σ := by
 have hl' : (namesOf ts).Nodup ∧ g.lv < 2 := by simpa using hl
 refine (?_ : (if (namesOf ts).Nodup ∧ g.lv < 2 then _ else fail : AM Unit) Q X σ)
 rw [if_pos hl']
 exact Zq9 ha ⟨hn, h3, h⟩
theorem Zgj {ts : List Expr} {vs : List AV} (h : stN g x v (fun U σ' => unpD g ts vs Q X σ') X σ) : unpD g (.Name x p :: ts) (v :: vs) Q X σ := h
theorem Zka (h : Q () σ) : unpD g [] [] Q X σ := h
theorem x_st (hw : autoParam (g.wr.contains x = true) krS) (h : Q () ⟨setL ℓ x v, H⟩) : stN g x v Q X ⟨ℓ, H⟩ := ⟨by simpa using hw, h⟩
theorem Zr3 (h : stN g x v Q X σ) : asgI g (.Name x p) (.one v) Q X σ := h
theorem Zr2 {ts : List Expr} {k : Nat} {a b : AV} (h : unpD g ts [a, b] Q X σ) (hl : autoParam (decide ((namesOf ts).Nodup) = true) krS) : asgI g (.Tuple ts k p) (.two a b) Q X σ := by
 have : asgI g (.Tuple ts k p) (.two a b) Q X σ = (if (namesOf ts).Nodup then unpD g ts [a, b] else fail : AM Unit) Q X σ := rfl
 rw [this, if_pos (of_decide_eq_true hl)]; exact h
end
section
variable {Q : AV → St → Prop}
theorem Za0 {i : Int} {k : Nat} (h : Q (.int i) σ) : ev P (n + 1) g (.Constant (.int i) k p) Q X σ := h
theorem Zb2 {s : Str} {k : Nat} (h : Q (.str s) σ) : ev P (n + 1) g (.Constant (.str s) k p) Q X σ := h
theorem Zch {k : Nat} (h : Q .none σ) : ev P (n + 1) g (.Constant .none k p) Q X σ := h
theorem Zmc {b : Bool} {k : Nat} (h : Q (.bool b) σ) : ev P (n + 1) g (.Constant (.bool b) k p) Q X σ := h
theorem x_rv (hv : autoParam (isVar g x = true) krS) (hl : autoParam (σ.loc x = some v) lkS) (h : Q v σ) : rdN g x Q X σ := by
 delta rdN; rw [if_pos hv, hl]; exact h
theorem x_rg (hv : autoParam ((!isVar g x && isGlob g x) = true) krS) (hl : glob x = some v) (h : Q v σ) : rdN g x Q X σ := by
 rw [Bool.and_eq_true, Bool.not_eq_true'] at hv
 delta rdN; rw [if_neg (by rw [hv.1]; decide), if_pos hv.2, hl]; exact h
theorem Zmi {op : BoolOp} {vs : List Expr} (h : evB P n g op vs Q X σ) : ev P (n + 1) g (.BoolOp op vs p) Q X σ := h
theorem Zq2 {op : BoolOp} {e : Expr} (h : ev P n g e Q X σ) : evB P (n + 1) g op [e] Q X σ := h
theorem Zrw {e f : Expr} (h : ev P n g e (fun v σ1 => truth v (fun b σ2 => if b = true then evB P n g .And (f :: r) Q X σ2 else Q v σ2) X σ1) X σ) : evB P (n + 1) g .And (e :: f :: r) Q X σ := by
 have e1 : (fun v σ1 => truth v (fun b σ2 => (match BoolOp.And, b with | .And, false => ret v | .Or, true => ret v | _, _ => evB P n g .And (f :: r) : AM AV) Q X σ2) X σ1) = fun v σ1 => truth v (fun b σ2 => if b = true then evB P n g .And (f :: r) Q X σ2 else Q v σ2) X σ1 := by
   funext v σ1
   congr 1
   funext b σ2; cases b <;> rfl
 refine (?_ : ev P n g e _ X σ)
 exact e1 ▸ h
theorem Zq1 {e f : Expr} (h : ev P n g e (fun v σ1 => truth v (fun b σ2 => if b = true then Q v σ2 else evB P n g .Or (f :: r) Q X σ2) X σ1) X σ) : evB P (n + 1) g .Or (e :: f :: r) Q X σ := by
 have e1 : (fun v σ1 => truth v (fun b σ2 => (match BoolOp.Or, b with | .And, false => ret v | .Or, true => ret v | _, _ => evB P n g .Or (f :: r) : AM AV) Q X σ2) X σ1) = fun v σ1 => truth v (fun b σ2 => if b = true then Q v σ2 else evB P n g .Or (f :: r) Q X σ2) X σ1 := by
   funext v σ1
   congr 1
   funext b σ2; cases b <;> rfl
 refine (?_ : ev P n g e _ X σ)
 exact e1 ▸ h
theorem Zmg {v : Expr} (h : ev P n g v (fun a σ1 => stN g x a (fun U σ2 => Q a σ2) X σ1) X σ) : ev P (n + 1) g (.NamedExpr (.Name x px) v p) Q X σ := h
theorem Zcq {l r : Expr} (h : ev P n g l (fun a σ1 => ev P n g r (fun b σ2 => binD P op a b Q X σ2) X σ1) X σ) : ev P (n + 1) g (.BinOp l op r p) Q X σ := h
theorem Zoz {e : Expr} (h : ev P n g e (fun a σ1 => negD a Q X σ1) X σ) : ev P (n + 1) g (.UnaryOp .USub e p) Q X σ := h
theorem Zkc {i : Int} (h : Q (.int (-i)) σ) : negD (.int i) Q X σ := h
theorem Zt1 {a b : Expr} (h : tr P n g t (fun c σ' => if c = true then ev P n g a Q X σ' else ev P n g b Q X σ') X σ) : ev P (n + 1) g (.IfExp t a b p) Q X σ := by
 have e : (fun c σ' => (if c = true then ev P n g a else ev P n g b : AM AV) Q X σ') = fun (c : Bool) σ' => if c = true then ev P n g a Q X σ' else ev P n g b Q X σ' := by
   funext c σ'; cases c <;> rfl
 refine (?_ : tr P n g t _ X σ)
 rw [e]; exact h
theorem Zo1 {l r : Expr} {op : CmpOp} (h : ev P n g l (fun a σ1 => ev P n g r (fun b σ2 => cmpD op a b Q X σ2) X σ1) X σ) (hb : autoParam (behindInMarks op r = false) krS) : ev P (n + 1) g (.Compare l [op] [r] p) Q X σ := by
 refine (?_ : (if behindInMarks op r = true then fail else _ : AM AV) Q X σ)
 rw [hb]; exact h
theorem Zbc {es : List Expr} (h : evs P n g es (fun vs σ' => vs.length ≤ lim ∧ newA (.list vs) Q X σ') X σ) (hp : autoParam (plainArgs es = true) krS) : ev P (n + 1) g (.List es p) Q X σ := by
 refine (?_ : (if plainArgs es = true then _ else fail : AM AV) Q X σ)
 rw [if_pos hp]; exact h
theorem Zfs {es : List Expr} {k : Nat} (h : evs P n g es (fun vs σ' => vs.length ≤ lim ∧ newA (.tup vs) Q X σ') X σ) (hp : autoParam (plainArgs es = true) krS) : ev P (n + 1) g (.Tuple es k p) Q X σ := by
 refine (?_ : (if plainArgs es = true then _ else fail : AM AV) Q X σ)
 rw [if_pos hp]; exact h
theorem Zmh (h : newA (.dict [] 0) Q X σ) : ev P (n + 1) g (.Dict [] [] p) Q X σ := h
theorem Zr4 {k : Str} {i : Int} {a b : Nat} {r : Pos} (h : ∀ ep, newA (.dict [(k, .int i)] ep) Q X σ) : ev P (n + 1) g (.Dict [some (.Constant (.str k) a p)] [.Constant (.int i) b q] r) Q X σ := h
theorem Zmj (hs : autoParam (noSuper o = true) krS) (h : ev P n g o (fun v σ' => gaD v nm Q X σ') X σ) : ev P (n + 1) g (.Attribute o nm p) Q X σ := by
 refine (?_ : (if noSuper o = true then _ else fail : AM AV) Q X σ)
 rw [if_pos hs]; exact h
theorem Zbw {lo hi st : Option Expr} (h : ev P n g o (fun v σ1 => evO P n g lo (fun l σ2 => evO P n g hi (fun h σ3 => evO P n g st (fun s σ4 => slD P v l h s Q X σ4) X σ3) X σ2) X σ1) X σ) : ev P (n + 1) g (.Subscript o (.Slice lo hi st p) q) Q X σ := h
theorem Zdz {i : Expr} (h : ev P n g o (fun v σ1 => ev P n g i (fun k σ2 => itD v k Q X σ2) X σ1) X σ) (hi : autoParam ((sliceE i).isNone = true) krS) : ev P (n + 1) g (.Subscript o i p) Q X σ := by
 refine (?_ : (Option.elim (sliceE i) _ _ : AM AV) Q X σ)
 rw [Option.isNone_iff_eq_none.mp hi]; exact h
theorem Za8 (h : Q .none σ) : evO P (n + 1) g none Q X σ := h
theorem Zdw {e : Expr} (h : ev P n g e Q X σ) : evO P (n + 1) g (some e) Q X σ := h
theorem Zfb (h : plainArgs args = true) : starA args = none := by
 cases q : starA args with
 | none => rfl
 | some e =>
   refine Oe (Zfc q) ?_; intro p e1; rw [e1] at h; exact Zai h
theorem Zcp (hs : autoParam ((!noSuper o || !(ap.endLine == p.line) || !plainArgs args || decide (29 ≤ args.length)) = false) krS) (h : ev P n g o (fun v σ' => callAt P g (evs P n g args) nm args v Q X σ') X σ) : ev P (n + 1) g (.Call (.Attribute o nm ap) args [] p) Q X σ := by
 have hp : plainArgs args = true := by
   simp only [Bool.or_eq_false_iff, Bool.not_eq_false'] at hs; exact hs.1.2
 refine (?_ : (Option.elim (starA args) (if (!noSuper o || !(ap.endLine == p.line) || !plainArgs args || decide (29 ≤ args.length)) = true then fail else _) _ : AM AV) Q X σ)
 rw [Zfb hp, hs]; exact h
theorem Zi4 {e : Expr} (h : ev P n g o (fun v σ' => callStar P (ev P n g e) nm v Q X σ') X σ) (hs : autoParam ((!noSuper o || decide (2 ≤ g.lv)) = false) krS) : ev P (n + 1) g (.Call (.Attribute o nm ap) [.Starred e q] [] p) Q X σ := by
 refine (?_ : (if (!noSuper o || decide (2 ≤ g.lv)) = true then fail else _ : AM AV) Q X σ)
 rw [hs]; exact h
theorem Zkf {f : Expr} (hf : autoParam ((attrE f).isNone = true) krS) (h : ev P n g f (fun v σ1 => evA P n g args (fun vs σ2 => calD P g v vs Q X σ2) X σ1) X σ) : ev P (n + 1) g (.Call f args [] p) Q X σ := by
 refine (?_ : (Option.elim (attrE f) _ _ : AM AV) Q X σ)
 rw [Option.isNone_iff_eq_none.mp hf]; exact h
theorem Zby {gens : List Comprehension} (h : itr P n g iter (fun src σ1 => compGo (asgI (compSE g sc) tgt) (evC P n (compSE g sc) elt ifs gens) (fun σ' => src.holds σ'.H) src.items 0
         (fun ys σ' => ys.length ≤ lim ∧ newA (.list ys) Q X ⟨σ1.loc, σ'.H⟩) noX ⟨enterL (ownNames sc) σ1.loc, σ1.H⟩) X ⟨ℓ, H⟩) (hl : autoParam ((decide (2 ≤ g.lv) || !scOk g sc) = false) krS) : ev P (n + 1) g (.ListComp elt (⟨tgt, iter, ifs, 0⟩ :: gens) sc p) Q X ⟨ℓ, H⟩ := by
 refine (?_ : (if (decide (2 ≤ g.lv) || !scOk g sc) = true then fail else _ : AM AV) Q X ⟨ℓ, H⟩)
 rw [hl]; exact h
end
section
variable {Q : List AV → St → Prop}
theorem Zah (h : Q [] σ) : evs P (n + 1) g [] Q X σ := h
theorem Zau {e : Expr} (h : ev P n g e (fun v σ1 => evs P n g r (fun vs σ2 => Q (v :: vs) σ2) X σ1) X σ) : evs P (n + 1) g (e :: r) Q X σ := h
theorem Ztx (hp : autoParam (plainArgs args = true) krS) (h : evs P n g args Q X σ) : evA P (n + 1) g args Q X σ := by
 refine (?_ : (Option.elim (starA args) (if plainArgs args = true then _ else fail) _ : AM (List AV)) Q X σ)
 rw [Zfb hp, hp]; exact h
theorem Zhv {e : Expr} (h : ev P n g e (fun v σ' => starD v Q X σ') X σ) : evA P (n + 1) g [.Starred e p] Q X σ := h
theorem Zl2 (h : Q xs σ) (ha : autoParam (σ.H a = some (.tup xs)) hkS) : starD (.ref a) Q X σ := Zq9 ha h
theorem Zdx {c : Expr} {gens : List Comprehension} {k : Nat} (h : tr P n g c (fun b σ' => if b = true then evC P n g elt ifs gens k Q X σ' else Q [] σ') X σ) : evC P (n + 1) g elt (c :: ifs) gens k Q X σ := by
 have e : (fun b σ' => (if b = true then evC P n g elt ifs gens k else ret [] : AM (List AV)) Q X σ') = fun (b : Bool) σ' => if b = true then evC P n g elt ifs gens k Q X σ' else Q [] σ' := by
   funext b σ'; cases b <;> rfl
 refine (?_ : tr P n g c _ X σ)
 rw [e]; exact h
theorem Zbu {k : Nat} (h : ev P n g elt (fun y σ' => k < lim ∧ Q [y] σ') X σ) : evC P (n + 1) g elt [] [] k Q X σ := h
theorem Ztw {gens : List Comprehension} {k : Nat} (h : ev P n g iter (fun v σ1 => srcD v (fun src σ2 => compGo (asgI g tgt) (evC P n g elt ifs gens) (fun σ' => src.holds σ'.H) src.items k Q X σ2) X σ1) X σ) (hs : autoParam (isSetE iter = false) krS) : evC P (n + 1) g elt [] (⟨tgt, iter, ifs, 0⟩ :: gens) k Q X σ := by
 refine (?_ : (if isSetE iter = true then fail else _ : AM (List AV)) Q X σ)
 rw [hs]; exact h
end
section
variable {Q : Src → St → Prop}
theorem Zdh {e : Expr} (he : autoParam ((zipE e).isNone = true) krS) (hs : autoParam (isSetE e = false) krS) (h : ev P n g e (fun v σ' => srcD v Q X σ') X σ) : itr P (n + 1) g e Q X σ := by
 refine (?_ : (Option.elim (zipE e) (if isSetE e = true then fail else _) _ : AM Src) Q X σ)
 rw [Option.isNone_iff_eq_none.mp he, hs]; exact h
theorem Zto {a b : Expr} (h : ev P n g a (fun x σ1 => ev P n g b (fun y σ2 => zipSrc x y Q X σ2) X σ1) X σ) (hz : autoParam ((z == ("zip" : Str)) = true) krS) (hg : autoParam ((isGlob g z && plainArgs [a, b]) = true) krS) : itr P (n + 1) g (.Call (.Name z p) [a, b] [] q) Q X σ := by
 have hz' : z = ("zip" : Str) := beq_iff_eq.mp hz
 subst hz'
 refine (?_ : (if (isGlob g ("zip" : Str) && plainArgs [a, b]) = true then _ else fail : AM Src) Q X σ)
 rw [hg]; exact h
theorem Zav (h : Q (.list a xs) σ) (ha : autoParam (σ.H a = some (.list xs)) hkS) : srcD (.ref a) Q X σ := by
 refine (?_ : (match σ.H a with | some (.list xs) => _ | some (.tup xs) => _ | some (.dict es ep) => _ | some (.vals d) => _ | some (.set S n it) => _ | some (.rng lo n) => _ | _ => False))
 rw [ha]; exact h
theorem Zgl (h : Q (.tup a xs) σ) (ha : autoParam (σ.H a = some (.tup xs)) hkS) : srcD (.ref a) Q X σ := by
 delta srcD; dsimp only; rw [ha]; exact h
theorem Zl4 (h : Q (.dict a es ep) σ) (ha : autoParam (σ.H a = some (.dict es ep)) hkS) : srcD (.ref a) Q X σ := by
 delta srcD; dsimp only; rw [ha]; exact h
theorem Zl3 (ha : autoParam (σ.H a = some (.vals d)) hkS) (hd : autoParam (σ.H d = some (.dict es ep)) hkS) (h : Q (.vals a d es ep) σ) : srcD (.ref a) Q X σ := by
 delta srcD; dsimp only; rw [ha]; dsimp only; rw [hd]; exact h
theorem Zop {S : Str → Bool} {m : Nat} {d : Data} (ha : autoParam (σ.H a = some (.set S m (some d))) hkS) (h : ∀ xs, (∀ k, S k = true ↔ k ∈ xs) → Q (.set a S m (some d) xs) σ) : srcD (.ref a) Q X σ := by
 delta srcD; dsimp only; rw [ha]; exact ⟨rfl, h⟩
theorem Zgm {m : Nat} (h : Q (.rng a lo m) σ) (ha : autoParam (σ.H a = some (.rng lo m)) hkS) : srcD (.ref a) Q X σ := by
 delta srcD; dsimp only; rw [ha]; exact h
theorem Zu2 {ys : List AV} (ha : autoParam (σ.H a = some (.list xs)) hkS) (hb : autoParam (σ.H b = some (.list ys)) hkS) (hl : xs.length = ys.length) (h : Q (.zip a b xs ys) σ) : zipSrc (.ref a) (.ref b) Q X σ := Zbr ha (Zbr hb ⟨hl, h⟩)
end
section
variable {Q : Bool → St → Prop}
theorem Zdn {e : Expr} (h : tr P n g e (fun b σ' => Q (!b) σ') X σ) : tr P (n + 1) g (.UnaryOp .Not e p) Q X σ := h
theorem Zb9 {op : BoolOp} {vs : List Expr} (h : trB P n g op vs Q X σ) : tr P (n + 1) g (.BoolOp op vs p) Q X σ := h
theorem Za3 {l r : Expr} {op : CmpOp} (hb : autoParam (behindInMarks op r = false) krS) (h : ev P n g l (fun a σ1 => ev P n g r (fun b σ2 => cmpD op a b (fun v σ3 => boolD v Q X σ3) X σ2) X σ1) X σ) : tr P (n + 1) g (.Compare l [op] [r] p) Q X σ := by
 refine (?_ : (if behindInMarks op r = true then fail else _ : AM Bool) Q X σ)
 rw [hb]; exact h
theorem x_tr {e : Expr} (he : autoParam ((match e with | .UnaryOp .Not _ _ | .BoolOp .. | .IfExp .. | .Compare .. => true | _ => false) = false) krS) (h : ev P n g e (fun v σ' => truth v Q X σ') X σ) : tr P (n + 1) g e Q X σ := by
 have e1 : tr P (n + 1) g e = bnd (ev P n g e) fun v => truth v := by
   cases e <;> first | rfl | cases he | (rename_i op _ _; cases op <;> first | rfl | exact Zai (Eq.symm he))
 rw [e1]; exact h
theorem Zoo (h : Q true σ) : trB P (n + 1) g .And [] Q X σ := h
theorem Zgk (h : Q false σ) : trB P (n + 1) g .Or [] Q X σ := h
theorem Zl1 {e : Expr} (h : tr P n g e (fun b σ' => if b = true then trB P n g .And r Q X σ' else Q false σ') X σ) : trB P (n + 1) g .And (e :: r) Q X σ := by
 have e1 : (fun b σ' => (match BoolOp.And, b with | .And, false => ret false | .Or, true => ret true | _, _ => trB P n g .And r : AM Bool) Q X σ') = fun b σ' => if b = true then trB P n g .And r Q X σ' else Q false σ' := by
   funext b σ'; cases b <;> rfl
 refine (?_ : tr P n g e _ X σ)
 exact e1 ▸ h
theorem Zcy {e : Expr} (h : tr P n g e (fun b σ' => if b = true then Q true σ' else trB P n g .Or r Q X σ') X σ) : trB P (n + 1) g .Or (e :: r) Q X σ := by
 have e1 : (fun b σ' => (match BoolOp.Or, b with | .And, false => ret false | .Or, true => ret true | _, _ => trB P n g .Or r : AM Bool) Q X σ') = fun b σ' => if b = true then Q true σ' else trB P n g .Or r Q X σ' := by
   funext b σ'; cases b <;> rfl
 refine (?_ : tr P n g e _ X σ)
 exact e1 ▸ h
theorem Zak {b : Bool} (h : Q b σ) : boolD (.bool b) Q X σ := h
theorem Zrm (h : Q false σ) : truth .none Q X σ := h
theorem Zbv {b : Bool} (h : Q b σ) : truth (.bool b) Q X σ := h
theorem Zhr {s : Str} (h : Q (s.length != 0) σ) (hl : autoParam (s.length ≤ lim) lbS) : truth (.str s) Q X σ := ⟨hl, h⟩
theorem Zek (h : Q (!xs.isEmpty) σ) (ha : autoParam (σ.H a = some (.list xs)) hkS) : truth (.ref a) Q X σ := by
 delta truth; dsimp only; rw [ha]; exact h
theorem Zrn (h : Q (!es.isEmpty) σ) (ha : autoParam (σ.H a = some (.dict es ep)) hkS) : truth (.ref a) Q X σ := by
 delta truth; dsimp only; rw [ha]; exact h
end
end
noncomputable def HExt (H H' : AH) : Prop := ∀ a o, H a = some o → H' a = some o
theorem HExt.refl (H : AH) : HExt H H := fun U U h => h
theorem HExt.trans {H'' : AH} (h : HExt H H') (k : HExt H' H'') : HExt H H'' := fun a o e => k a o (h a o e)
theorem HExt.upd (o : AObj) (ha : H a = none) : HExt H (upd H a o) := fun U U e => Zac e ha
theorem HExt.none (h : HExt H H') (e : H' a = none) : H a = none := by
 cases q : H a with
 | none => rfl
 | some o => rw [h a o q] at e; exact Zab (Eq.symm e)
theorem Zag {o : AObj} (ha : H a = some o) (hb : H b = none) : a ≠ b := by rintro rfl; rw [hb] at ha; exact Zab ha
theorem Zaa {o x : AObj} (hb : H b = some x) (h : b ≠ a) : upd H a o b = some x := (Zay H o h).trans hb
theorem Zjt (H : AH) (n : Nat) (a b : Str) : deq H n (.str a) (.str b) = some (a == b) := by cases n <;> rfl
theorem Zju (H : AH) (n : Nat) (a b : Int) : deq H n (.int a) (.int b) = some (a == b) := by cases n <;> rfl
theorem Zpb {m : Str → Option AV} {r : Option AV} (h : (y == x) = false) (k : m y = r) : setL m x v y = r :=
 (Zdp m v (fun e => by subst e; rw [beq_self_eq_true] at h; exact Zai (Eq.symm h))).trans k
section
variable {P : Par} {n : Nat} {g : SE} {X : Exn → St → Prop} {σ : St}
section
variable {Q : AV → St → Prop}
theorem Zbh {o : AObj} (h : ∀ a, H a = none → Q (.ref a) ⟨ℓ, upd H a o⟩) : newA o Q X ⟨ℓ, H⟩ := h
theorem Zme {x y : Int} (h : Q (.int (x + y)) σ) : binD P .Add (.int x) (.int y) Q X σ := h
theorem Zmb {x y : Int} (h0 : autoParam ((decide (0 < y) && decide (y < 1000)) = true) krS) (h : Q (.int (x / y)) σ) : binD P .FloorDiv (.int x) (.int y) Q X σ := by
 simp only [Bool.and_eq_true, decide_eq_true_eq] at h0; exact ⟨h0.1, h0.2, h⟩
theorem Zl9 {x y : Int} (h : Q (.int (x % y)) σ) (h0 : autoParam ((decide (0 < y) && decide (y < 1000)) = true) krS) : binD P .Mod (.int x) (.int y) Q X σ := by
 simp only [Bool.and_eq_true, decide_eq_true_eq] at h0; exact ⟨h0.1, h0.2, h⟩
theorem Zet (h : Q (.str (x ++ y)) σ) (hl : autoParam (x.length + y.length ≤ lim) lbS) : binD P .Add (.str x) (.str y) Q X σ := ⟨hl, h⟩
theorem Zty {m : Addr} {ys : List AV} (hl : autoParam (σ.H l = some (.list xs)) hkS) (hm : autoParam (σ.H m = some (.list ys)) hkS) (hn : autoParam (xs.length + ys.length ≤ lim) lbS) (h : newA (.list (xs ++ ys)) Q X σ) : binD P .Add (.ref l) (.ref m) Q X σ := Zbr hl (Zbr hm ⟨hn, h⟩)
theorem Zca {x y : Int} (h : Q (.int (x + y)) σ) : augD .Add (.int x) (.int y) Q X σ := h
theorem Zoy {x y : Int} (h : Q (.int (x - y)) σ) : augD .Sub (.int x) (.int y) Q X σ := h
theorem Zow {a b : AV} {r : Bool} (hr : deq σ.H 3 a b = some r) (h : Q (.bool r) σ) : cmpD .Eq a b Q X σ := Zcz hr h
theorem Zgo {a b : AV} {r : Bool} (hr : deq σ.H 3 a b = some r) (h : Q (.bool (!r)) σ) : cmpD .NotEq a b Q X σ := Zcz hr h
theorem Zhw (h : Q (.bool (x == y)) σ) : cmpD .Eq (.str x) (.str y) Q X σ := Zow (Zjt _ _ _ _) h
theorem Zru (h : Q (.bool (!(x == y))) σ) : cmpD .NotEq (.str x) (.str y) Q X σ := Zgo (Zjt _ _ _ _) h
theorem Zk3 {x y : Int} (h : Q (.bool (x == y)) σ) : cmpD .Eq (.int x) (.int y) Q X σ := Zow (Zju _ _ _ _) h
theorem Zu4 {x y : Int} (h : Q (.bool (!(x == y))) σ) : cmpD .NotEq (.int x) (.int y) Q X σ := Zgo (Zju _ _ _ _) h
theorem Zu6 {x y : Int} (h : Q (.bool (decide (x < y))) σ) : cmpD .Lt (.int x) (.int y) Q X σ := h
theorem Zu5 (h : Q (.bool (strLt x y)) σ) : cmpD .Lt (.str x) (.str y) Q X σ := h
theorem Zve (h : Q (.bool (strLt y x)) σ) : cmpD .Gt (.str x) (.str y) Q X σ := h
theorem Zu9 {x y : String} (h : Q (.bool (x == y)) σ) : cmpD .Is (.ty x) (.ty y) Q X σ := h
theorem Zqz (h : Q (.bool true) σ) : cmpD .Is .none .none Q X σ := h
theorem Zhu (h : Q (.bool false) σ) : cmpD .Is (.ref a) .none Q X σ := h
theorem Ztq (h : Q (.bool false) σ) : cmpD .Is (.str x) .none Q X σ := h
theorem Zgp (h : Q (.bool false) σ) : cmpD .IsNot .none .none Q X σ := h
theorem Zva (h : Q (.bool (!(Builtin.Str.occurrences y x 0 y.length 1).isEmpty)) σ) : cmpD .In (.str x) (.str y) Q X σ := h
theorem Zvb {r : Addr} (h : Q (.bool (ys.contains x)) σ) (hr : autoParam (σ.H r = some (.list xs)) hkS) (hs : autoParam (strsOf xs = some ys) soS) : cmpD .In (.str x) (.ref r) Q X σ := by
 refine (?_ : inD x (σ.H r) fun r => Q (.bool r) σ)
 rw [hr]; exact Zeu hs h
theorem Ztr {r : Addr} (h : Q (.bool (lookA es x).isSome) σ) (hr : autoParam (σ.H r = some (.dict es ep)) hkS) : cmpD .In (.str x) (.ref r) Q X σ := by
 refine (?_ : inD x (σ.H r) fun r => Q (.bool r) σ)
 rw [hr]; exact h
theorem Zi3 {r : Addr} {S : Str → Bool} {m : Nat} {d : Option Data} (h : Q (.bool (S x)) σ) (hr : autoParam (σ.H r = some (.set S m d)) hkS) : cmpD .In (.str x) (.ref r) Q X σ := by
 refine (?_ : inD x (σ.H r) fun r => Q (.bool r) σ)
 rw [hr]; exact h
theorem Zvc {x : Bool} {r : Addr} (hr : autoParam (σ.H r = some (.list xs)) hkS) (hb : allB xs = true) (h : Q (.bool (xs.contains (.bool x))) σ) : cmpD .In (.bool x) (.ref r) Q X σ := Zbr hr ⟨hb, h⟩
theorem Zqx {r : Addr} (h : Q (.bool (!ys.contains x)) σ) (hr : autoParam (σ.H r = some (.list xs)) hkS) (hs : autoParam (strsOf xs = some ys) soS) : cmpD .NotIn (.str x) (.ref r) Q X σ := Zbr hr (Zeu hs h)
theorem Zbo {x : AV} (h : Q x σ) (ha : autoParam (σ.H a = some (.inst C d)) hkS) (hd : autoParam (σ.H d = some (.dict es ep)) hkS) (hc : autoParam (clsD C = true) krS) (hn : autoParam ((instNames.map Str.ofString).contains nm = true) krS) (hx : autoParam (lookA es nm = some x) laS) (hb : autoParam (noBi x = true) wrS) : gaD (.ref a) nm Q X σ := by
 delta gaD; dsimp only; rw [ha]; dsimp only
 refine ⟨hc, by simpa using hn, ?_⟩
 rw [hd]; dsimp only; rw [hx]; exact ⟨hb, h⟩
theorem Zgr {vs : List (Option AV)} {x : AV} {o : AObj} (h : Q x σ) (ha : autoParam (σ.H a = some (.node 102 d vs)) hkS) (hd : autoParam (σ.H d = some o) hkS) (hi : autoParam (slotIx nm = some i) wrS) (hx : autoParam (vs[i]? = some (some x)) wrS) (hb : autoParam (noBi x = true) wrS) : gaD (.ref a) nm Q X σ := by
 delta gaD; dsimp only; rw [ha]; dsimp only
 refine ⟨rfl, congrArg Option.isSome hd, ?_⟩
 rw [hi]; dsimp only; rw [hx]; exact ⟨hb, h⟩
theorem Zov (h : ∀ b, H b = none → initOf b = none → isFnA b = false → Q (.ref b) ⟨ℓ, upd H b (.bnd "list_iterator.__next__" a)⟩) (ha : autoParam (H a = some (.liter l i)) hkS) (hn : autoParam (nm = "__next__") krS) : gaD (.ref a) nm Q X ⟨ℓ, H⟩ := by
 delta gaD; dsimp only; rw [ha]; exact ⟨hn, h⟩
theorem Zht {k : Int} {x : AV} (ha : autoParam (σ.H a = some (.list xs)) hkS) (h0 : autoParam (0 ≤ k) lbS) (h1 : autoParam (k < 2 ^ 40) lbS) (hx : autoParam (xs[k.toNat]? = some x) laS) (h : Q x σ) : itD (.ref a) (.int k) Q X σ := by
 delta itD vR; dsimp only; rw [ha]; dsimp only [vI]; rw [if_pos h0, hx]; exact ⟨h1, h⟩
theorem Ze6 {k : Int} (ha : autoParam (σ.H a = some (.list xs)) hkS) (h0 : autoParam (0 ≤ k) lbS) (h1 : autoParam (k < 2 ^ 40) lbS) (hx : xs[k.toNat]? = none) (h : X ⟨"IndexError", false⟩ σ) : itD (.ref a) (.int k) Q X σ := by
 delta itD vR; dsimp only; rw [ha]; dsimp only [vI]; rw [if_pos h0, hx]; exact ⟨h1, h⟩
theorem Zos {x : AV} (h : Q x σ) (ha : autoParam (σ.H a = some (.list xs)) hkS) (hx : autoParam (xs.getLast? = some x) laS) : itD (.ref a) (.int (-1)) Q X σ := by
 delta itD vR; dsimp only; rw [ha]; dsimp only [vI]; rw [if_neg (by decide)]; exact ⟨rfl, Zcz hx h⟩
theorem Zu8 {k : Int} {x : AV} (h : Q x σ) (ha : autoParam (σ.H a = some (.tup xs)) hkS) (h0 : autoParam (0 ≤ k) lbS) (h1 : autoParam (k < 2 ^ 40) lbS) (hx : autoParam (xs[k.toNat]? = some x) laS) : itD (.ref a) (.int k) Q X σ := by
 delta itD vR; dsimp only; rw [ha]; exact ⟨h0, h1, Zcz hx h⟩
theorem Zot {k : Str} {x : AV} (h : Q x σ) (ha : autoParam (σ.H a = some (.dict es ep)) hkS) (hx : autoParam (lookA es k = some x) laS) : itD (.ref a) (.str k) Q X σ := by
 delta itD vR; dsimp only; rw [ha]; exact Zcz hx h
theorem Zl7 {lo : AV} {l h' : Option Int} (hlo : autoParam (optInt lo = some l) wrS) (hhi : autoParam (optInt hi = some h') wrS) (hb : autoParam ((l.getD 0) ≥ 0 ∧ (l.getD 0) < 2 ^ 40 ∧ (h'.getD 0) ≥ 0 ∧ (h'.getD 0) < 2 ^ 40) lbS) (ha : autoParam (σ.H a = some (.list xs)) hkS) (h : newA (.list (slL xs l h')) Q X σ) : slD P (.ref a) lo hi .none Q X σ := by
 refine Zcz hlo (Zcz hhi ?_)
 refine (?_ : slR P a l h' .none Q X σ)
 delta slR; dsimp only; rw [ha]; exact ⟨hb.1, hb.2.1, hb.2.2.1, hb.2.2.2, h⟩
theorem Zrr {lo : AV} {l h' : Option Int} (hlo : autoParam (optInt lo = some l) wrS) (hhi : autoParam (optInt hi = some h') wrS) (hb : autoParam ((l.getD 0) ≥ 0 ∧ (l.getD 0) < 2 ^ 40 ∧ (h'.getD 0) ≥ 0 ∧ (h'.getD 0) < 2 ^ 40) lbS) (ha : σ.H P.scr = none) (h : newA (.list (slL (P.ns.map .int) l h')) Q X σ) : slD P (.ref P.scr) lo hi .none Q X σ := by
 refine Zcz hlo (Zcz hhi ?_)
 refine (?_ : slR P P.scr l h' .none Q X σ)
 delta slR; dsimp only; rw [ha]; exact ⟨hb.1, hb.2.1, hb.2.2.1, hb.2.2.2, rfl, h⟩
theorem Zl6 (h : newA (.list xs.reverse) Q X σ) (ha : autoParam (σ.H a = some (.list xs)) hkS) : slD P (.ref a) .none .none (.int (-1)) Q X σ := by
 refine (?_ : slR P a none none (.int (-1)) Q X σ)
 delta slR; dsimp only; rw [ha]; exact ⟨rfl, rfl, rfl, h⟩
theorem Zrq {x y : AV} (ha : autoParam (σ.H a = some (.tup [x, y])) hkS) (h : newA (.tup [y, x]) Q X σ) : slD P (.ref a) .none .none (.int (-1)) Q X σ := by
 refine (?_ : slR P a none none (.int (-1)) Q X σ)
 delta slR; dsimp only; rw [ha]; exact ⟨rfl, rfl, rfl, h⟩
theorem Zl5 {lo : AV} {l h' : Option Int} (h : Q (.str (Txt.slice x l h')) σ) (hlo : autoParam (optInt lo = some l) wrS) (hhi : autoParam (optInt hi = some h') wrS) (hl : autoParam (x.length ≤ lim) lbS) : slD P (.str x) lo hi .none Q X σ := Zcz hlo (Zcz hhi ⟨hl, h⟩)
theorem Zal {m : Mth} {ma : AM (List AV)} (hm : autoParam (mres σ.H v nm = some m) mrS) (hr : autoParam ((match m with | .blt .replace => true | _ => false) = false) wrS) (h : ma (fun vs σ' => calM P g m v vs Q X σ') X σ) : callAt P g ma nm args v Q X σ := by
 delta callAt
 rw [hm]
 split
 · rename_i e; cases e; exact Zai (Eq.symm hr)
 · rename_i e; cases e; exact h
 · rename_i e; exact Zab (Eq.symm e)
theorem Zhx {ma : AM (List AV)} (h : repD v args Q X σ) (hm : autoParam (mres σ.H v nm = some (.blt .replace)) mrS) : callAt P g ma nm args v Q X σ := by
 delta callAt
 rw [hm]; exact h
theorem Ztl {s : Str} {k l : Nat} (h : Q (.str (Txt.replace s y z)) σ) (h1 : autoParam (((y == z) == false && decide (z.length ≤ 14)) = true) krS) (h2 : autoParam (s.length ≤ lim) lbS) : repD (.str s) [.Constant (.str y) k p, .Constant (.str z) l q] Q X σ := by
 simp only [Bool.and_eq_true, beq_iff_eq, decide_eq_true_eq] at h1
 exact ⟨h1.1, h2, h1.2, h⟩
theorem Zfr {f : Addr} {args : List AV} (h : P.F f (v :: args) (fun r H' => Q r ⟨ℓ, H'⟩) H) (hl : autoParam (g.lv < 2) dcS) : calM P g (.own f) v args Q X ⟨ℓ, H⟩ := ⟨hl, h⟩
theorem Zbm {id : Mid} {args : List AV} (h : bmtD id v args Q X σ) (hl : autoParam ((!decide (id = .remove) || decide (g.lv < 2)) = true) krS) : calM P g (.blt id) v args Q X σ := ⟨fun e => by subst e; exact of_decide_eq_true hl, h⟩
theorem Zk4 {f : Addr} (hm : autoParam (mres H v nm = some (.own f)) mrS) (h : me (fun w σ1 => starD w (fun vs σ2 => P.F f (v :: vs) (fun r H' => Q r ⟨σ2.loc, H'⟩) σ2.H) X σ1) X ⟨ℓ, H⟩) : callStar P me nm v Q X ⟨ℓ, H⟩ := by
 delta callStar; rw [hm]; exact h
theorem Zbj {args : List AV} (h : P.F a args (fun r H' => Q r ⟨ℓ, H'⟩) H) (hi : autoParam ((match initOf a with | none => isFnA a | some _ => false) = true) krS) (hl : autoParam (g.lv < 2) dcS) : calD P g (.ref a) args Q X ⟨ℓ, H⟩ := by
 delta calD; dsimp only
 split at hi
 · rename_i h0; rw [h0]; dsimp only; rw [if_pos hi]; exact ⟨hl, h⟩
 · exact Zai hi
theorem Zgs {fi : Addr} {args : List AV} (h : ∀ d x, H d = none → H x = none → d ≠ x →
       P.F fi (.ref x :: args) (fun v H' => v = .none ∧ Q (.ref x) ⟨ℓ, H'⟩) (upd (upd H d (.dict [] 0)) x (if a = 102 then .node a d [] else .inst a d))) (hi : autoParam (initOf a = some fi) wrS) (hl : autoParam (g.lv < 2) dcS) : calD P g (.ref a) args Q X ⟨ℓ, H⟩ := by
 delta calD; dsimp only; rw [hi]; exact ⟨hl, h⟩
theorem Zr0 {x : AV} (hi : initOf a = none) (hf : isFnA a = false) (ha : autoParam (H a = some (.bnd "list_iterator.__next__" it)) hkS) (hit : autoParam (H it = some (.liter l i)) hkS) (hl : autoParam (H l = some (.list xs)) hkS) (hx : xs[i]? = some x) (h : Q x ⟨ℓ, upd H it (.liter l (i + 1))⟩) : calD P g (.ref a) [] Q X ⟨ℓ, H⟩ := by
 delta calD; dsimp only; rw [hi]; dsimp only; rw [if_neg (by rw [hf]; decide), ha]; refine ⟨rfl, rfl, ?_⟩; rw [hit]; dsimp only; rw [hl]; dsimp only; rw [hx]; exact h
theorem Zox (hi : initOf a = none) (hf : isFnA a = false) (ha : autoParam (H a = some (.bnd "list_iterator.__next__" it)) hkS) (hit : autoParam (H it = some (.liter l i)) hkS) (hl : autoParam (H l = some (.list xs)) hkS) (hx : xs[i]? = none) (hlv : autoParam (g.lv = 0) wrS) (h : X ⟨"StopIteration", false⟩ ⟨ℓ, fun b => if b = it then none else H b⟩) : calD P g (.ref a) [] Q X ⟨ℓ, H⟩ := by
 delta calD; dsimp only; rw [hi]; dsimp only; rw [if_neg (by rw [hf]; decide), ha]; refine ⟨rfl, rfl, ?_⟩; rw [hit]; dsimp only; rw [hl]; dsimp only; rw [hx]; exact ⟨hlv, h⟩
theorem Zaz {f : AV} {i : Fid} {args : List AV} (hf : fidOf f = some i) (hr : autoParam ((match f with | .ref _ => true | _ => false) = false) krS) (hl : autoParam (g.lv < 2) dcS) (h : bltF i args Q X σ) : calD P g f args Q X σ := by
 have e : bltD f args = bltF i args := by delta bltD; rw [hf]
 cases f with
 | ref a => exact Zai (Eq.symm hr)
 | _ => exact ⟨hl, e ▸ h⟩
theorem Zep : fidOf (.bi "len") = some .len := by rfl
theorem Zcm : fidOf (.bi "sorted") = some .sorted := by rfl
theorem Zf0 : fidOf (.bi "isinstance") = some .isinstance := by rfl
theorem Zp4 : fidOf (.bi "iter") = some .iter := by rfl
theorem Zfn : fidOf (.ty "range") = some .range := by rfl
theorem Ze3 : fidOf (.ty "list") = some .list := by rfl
theorem Zny : fidOf (.ty "tuple") = some .tuple := by rfl
theorem Zjs : fidOf (.ty "set") = some .set := by rfl
theorem Zp5 : fidOf (.ty "bool") = some .bool := by rfl
theorem Zp3 : fidOf (.ty "type") = some .type := by rfl
theorem Ztn {s : Str} (h : Q (.int s.length) σ) (hl : autoParam (s.length ≤ lim) lbS) : bltF .len [.str s] Q X σ := ⟨hl, h⟩
theorem Zqy (h : Q (.int xs.length) σ) (ha : autoParam (σ.H a = some (.list xs)) hkS) : bltF .len [.ref a] Q X σ := by
 refine (?_ : (match σ.H a with | some (.list xs) => _ | some (.tup xs) => _ | some (.dict es _) => _ | _ => False))
 rw [ha]; exact h
theorem Zma (h : Q (.int xs.length) σ) (ha : autoParam (σ.H a = some (.tup xs)) hkS) : bltF .len [.ref a] Q X σ := by
 refine (?_ : (match σ.H a with | some (.list xs) => _ | some (.tup xs) => _ | some (.dict es _) => _ | _ => False))
 rw [ha]; exact h
theorem Zgn (ha : autoParam (σ.H a = some (.list xs)) hkS) (hs : autoParam (strsOf xs = some ys) soS) (hl : ys.length ≤ 60) (h : ∀ zs : List Str, zs.Perm ys → sortedS zs = true → newA (.list (zs.map .str)) Q X σ) : bltF .sorted [.ref a] Q X σ := by
 refine (?_ : (match σ.H a with | some (.list xs) => sortD xs Q X σ | some (.tup xs) => sortD xs Q X σ | _ => False))
 rw [ha]; exact Zeu hs ⟨hl, h⟩
theorem Zrp (ha : autoParam (σ.H a = some (.tup xs)) hkS) (hs : autoParam (strsOf xs = some ys) soS) (hl : ys.length ≤ 60) (h : ∀ zs : List Str, zs.Perm ys → sortedS zs = true → newA (.list (zs.map .str)) Q X σ) : bltF .sorted [.ref a] Q X σ := by
 refine (?_ : (match σ.H a with | some (.list xs) => sortD xs Q X σ | some (.tup xs) => sortD xs Q X σ | _ => False))
 rw [ha]; exact Zeu hs ⟨hl, h⟩
theorem Zou {i : Int} (h : Q (.bool false) σ) : bltF .isinstance [.int i, .ty "bool"] Q X σ := ⟨rfl, h⟩
theorem Ztp (h : newA (.liter a 0) Q X σ) (ha : autoParam (σ.H a = some (.list xs)) hkS) : bltF .iter [.ref a] Q X σ := Zbr ha h
theorem Zqw {m : Int} (hs : small m) (h : newA (.rng 0 m.toNat) Q X σ) : bltF .range [.int m] Q X σ := ⟨hs, h⟩
theorem Ztk {hi : Int} (hs : small lo) (hs2 : small hi) (h : newA (.rng lo (hi - lo).toNat) Q X σ) : bltF .range [.int lo, .int hi] Q X σ := ⟨hs, hs2, h⟩
theorem Ze2 (h : newA (.list xs) Q X σ) (ha : autoParam (σ.H a = some (.list xs)) hkS) : bltF .list [.ref a] Q X σ := Zbr ha h
theorem Zrl (h : newA (.tup xs) Q X σ) (ha : autoParam (σ.H a = some (.list xs)) hkS) : bltF .tuple [.ref a] Q X σ := Zbr ha h
theorem Zqv (h : ∀ d, newA (.set (fun U => false) 0 (some d)) Q X σ) : bltF .set [] Q X σ := h
theorem Ztj (ha : autoParam (σ.H a = some (.list xs)) hkS) (hs : autoParam (strsOf xs = some ys) soS) (h0 : ys ≠ []) (h1 : ys.length < 100) (h : ∀ n d, newA (.set (fun k => ys.contains k) n (some d)) Q X σ) : bltF .set [.ref a] Q X σ := Zbr ha (Zeu hs ⟨h0, h1, h⟩)
theorem Zr1 (h : Q (.bool (!xs.isEmpty)) σ) (ha : autoParam (σ.H a = some (.list xs)) hkS) : bltF .bool [.ref a] Q X σ := Zbr ha h
theorem Zrk {s : Str} (h : Q (.ty "str") σ) : bltF .type [.str s] Q X σ := h
theorem Zbp {x : AV} (h : Q .none ⟨ℓ, upd H a (.list (xs ++ [x]))⟩) (ha : autoParam (H a = some (.list xs)) hkS) (hl : autoParam (xs.length < lim) lbS) : bmtD .append (.ref a) [x] Q X ⟨ℓ, H⟩ := Zbr ha ⟨hl, h⟩
theorem Zrt {x : AV} (h : Q x ⟨ℓ, upd H a (.list xs.dropLast)⟩) (ha : autoParam (H a = some (.list xs)) hkS) (hx : autoParam (xs.getLast? = some x) laS) : bmtD .pop (.ref a) [] Q X ⟨ℓ, H⟩ := Zbr ha (Zcz hx h)
theorem Zrz (h : Q .none ⟨ℓ, upd H a (.list [])⟩) (ha : autoParam (H a = some (.list xs)) hkS) : bmtD .clear (.ref a) [] Q X ⟨ℓ, H⟩ := Zbr ha h
theorem Zor (ha : autoParam (H a = some (.list xs)) hkS) (hs : autoParam (strsOf xs = some ys) soS) (hx : ys.contains x = true) (h : Q .none ⟨ℓ, upd H a (.list ((ys.erase x).map .str))⟩) : bmtD .remove (.ref a) [.str x] Q X ⟨ℓ, H⟩ := Zbr ha (Zeu hs (by rw [if_pos hx]; exact h))
theorem Zl8 (ha : autoParam (σ.H a = some (.list xs)) hkS) (hs : autoParam (strsOf xs = some ys) soS) (hx : ys.contains x = false) (h : X ⟨"ValueError", false⟩ σ) : bmtD .remove (.ref a) [.str x] Q X σ := Zbr ha (Zeu hs (by rw [if_neg (by rw [hx]; decide)]; exact h))
theorem Zke {ys : List AV} (hab : a ≠ b) (ha : autoParam (H a = some (.list xs)) hkS) (hb : autoParam (H b = some (.list ys)) hkS) (hl : autoParam (xs.length + ys.length < lim) lbS) (h : Q .none ⟨ℓ, upd H a (.list (xs ++ ys))⟩) : bmtD .extend (.ref a) [.ref b] Q X ⟨ℓ, H⟩ := ⟨hab, Zbr ha (Zbr hb ⟨hl, h⟩)⟩
theorem Zvf {k : Str} (h : Q ((lookA es k).getD .none) σ) (ha : autoParam (σ.H a = some (.dict es ep)) hkS) : bmtD .get (.ref a) [.str k] Q X σ := Zib ha h
theorem Zon (h : newA (.vals a) Q X σ) (ha : autoParam (σ.H a = some (.dict es ep)) hkS) : bmtD .values (.ref a) [] Q X σ := Zib ha h
theorem Zvh {S : Str → Bool} {m : Nat} {d : Option Data} (h : Q .none ⟨ℓ, upd H a (.set (fun k => S k || decide (k = x)) (if S x then m else m + 1) none)⟩) (ha : autoParam (H a = some (.set S m d)) hkS) (hl : autoParam (m < lim) lbS) : bmtD .add (.ref a) [.str x] Q X ⟨ℓ, H⟩ := by
 refine (?_ : (match H a with | some (.set S n _) => n < lim ∧ Q .none ⟨ℓ, upd H a (.set (fun k => S k || decide (k = x)) (if S x then n else n + 1) none)⟩ | _ => False))
 rw [ha]; exact ⟨hl, h⟩
theorem Zkb {s : Str} (h : Q (.bool (Txt.startswith s y)) σ) : bmtD .startswith (.str s) [.str y] Q X σ := h
theorem Zrx {s : Str} (h : Q (.int (Txt.count s y)) σ) : bmtD .count (.str s) [.str y] Q X σ := h
theorem Zrs {s : Str} (h : Q (.int (Txt.rfind s y)) σ) : bmtD .rfind (.str s) [.str y] Q X σ := h
theorem Zro {s : Str} (h0 : autoParam (decide (y.length = 1) = true) krS) (h1 : autoParam (s.length < lim) lbS) (h2 : autoParam ((Txt.split s y).length ≤ lim) lbS) (h : newA (.list ((Txt.split s y).map .str)) Q X σ) : bmtD .split (.str s) [.str y] Q X σ := ⟨of_decide_eq_true h0, h1, h2, h⟩
theorem Zkd {s : Str} (ha : autoParam (σ.H a = some (.list xs)) hkS) (hs : autoParam (strsOf xs = some ys) soS) (h0 : autoParam (decide (s.length ≤ 16) = true) krS) (h1 : autoParam ((ys.map (·.length)).sum + ys.length ≤ lim) lbS) (h : Q (.str (Txt.join s ys)) σ) : bmtD .join (.str s) [.ref a] Q X σ := Zbr ha (Zeu hs ⟨of_decide_eq_true h0, h1, h⟩)
theorem Zpm {s : Str} {m : Mth} (h : mthB strMs nm = some m) : mres H (.str s) nm = some m := h
theorem Znd {m : Mth} (ha : H a = some (.list xs)) (h : mthB (kindOfObj (.list [])) nm = some m) : mres H (.ref a) nm = some m := by
 delta mres; dsimp only; rw [ha]; exact h
theorem Zne {m : Mth} (ha : H a = some (.dict es ep)) (h : mthB (kindOfObj (.dict [] 0)) nm = some m) : mres H (.ref a) nm = some m := by
 delta mres; dsimp only; rw [ha]; exact h
theorem Zpn {S : Str → Bool} {k : Nat} {d : Option Data} {m : Mth} (ha : H a = some (.set S k d)) (h : mthB [("add", .add)] nm = some m) : mres H (.ref a) nm = some m := by
 delta mres; dsimp only; rw [ha]; exact h
theorem Zbg {f : Addr} (ha : H a = some (.inst C d)) (hd : H d = some (.dict es ep)) (hn : lookA es nm = none) (h : meth C nm = some f) : mres H (.ref a) nm = some (.own f) := by
 delta mres; dsimp only; rw [ha]; dsimp only; rw [hd]; dsimp only; rw [hn]; dsimp only [Option.isSome]; rw [if_neg (by decide), h]; rfl
end
section
variable {Q : Unit → St → Prop}
theorem Zfq {x : AV} (h : ∀ ep, Q () ⟨ℓ, upd H d (.dict (putA es nm x) ep)⟩) (ha : autoParam (H a = some (.inst C d)) hkS) (hd : autoParam (H d = some (.dict es ep)) hkS) (hc : autoParam (clsD C = true) krS) (hn : autoParam ((instNames.map Str.ofString).contains nm = true) krS) (hl : autoParam (es.length < 100) lbS) : saD (.ref a) nm x Q X ⟨ℓ, H⟩ := by
 delta saD; dsimp only; rw [ha]; dsimp only
 refine ⟨hc, by simpa using hn, ?_⟩
 rw [hd]; exact ⟨hl, h⟩
theorem Zi2 {vs : List (Option AV)} {x : AV} {o : AObj} (h : Q () ⟨ℓ, upd H a (.node 102 d ((vs ++ List.replicate (i + 1 - vs.length) none).set i (some x)))⟩) (ha : autoParam (H a = some (.node 102 d vs)) hkS) (hd : autoParam (H d = some o) hkS) (hi : autoParam (slotIx nm = some i) wrS) : saD (.ref a) nm x Q X ⟨ℓ, H⟩ := by
 delta saD; dsimp only; rw [ha]; dsimp only
 refine ⟨rfl, congrArg Option.isSome hd, ?_⟩
 rw [hi]; exact h
theorem Zi1 {k : Str} {x : AV} (h : ∀ ep, Q () ⟨ℓ, upd H a (.dict (putA es k x) ep)⟩) (ha : autoParam (H a = some (.dict es ep)) hkS) (hl : autoParam (es.length < lim) lbS) : siD (.ref a) (.str k) x Q X ⟨ℓ, H⟩ := Zib ha ⟨hl, h⟩
theorem Zvg {k : Str} (ha : autoParam (H a = some (.dict es ep)) hkS) (hk : (lookA es k).isSome = true) (h : ∀ ep, Q () ⟨ℓ, upd H a (.dict (delA es k) ep)⟩) : diD (.ref a) (.str k) Q X ⟨ℓ, H⟩ := Zib ha ⟨hk, h⟩
end
theorem Ztv {asgF : Item → AM Unit} {body : AM DFlow} {need : St → Prop} {Q : DFlow → St → Prop} (I : List Item → St → Prop) (hneed : ∀ r σ, I r σ → need σ) (hstep : ∀ i r σ (K : DFlow → St → Prop), I (i :: r) σ → (∀ σ', I r σ' → K .next σ') → (∀ σ', I r σ' → K .cont σ') → (∀ σ', Q .next σ' → K .brk σ') → (∀ v σ', Q (.ret v) σ' → K (.ret v) σ') → asgF i (fun U σ1 => body K X σ1) X σ) (hdone : ∀ σ, I [] σ → Q .next σ) : ∀ items σ, I items σ → forGo asgF body need items Q X σ
 | [], σ, h => ⟨hneed _ _ h, hdone _ h⟩
 | i :: r, σ, h => ⟨hneed _ _ h, hstep i r σ _ h (fun σ' h' => Ztv I hneed hstep hdone r σ' h') (fun σ' h' => Ztv I hneed hstep hdone r σ' h') (fun U h => h) (fun U U h => h)⟩
theorem Zq3 {asgF : Item → AM Unit} {inner : Nat → AM (List AV)} {need : St → Prop} (J : List Item → St → Prop) (f : Item → List AV) (hneed : ∀ r σ, J r σ → need σ) (hstep : ∀ i r k σ (K : List AV → St → Prop), J (i :: r) σ → k + ((i :: r).flatMap f).length ≤ lim → (∀ σ', J r σ' → K (f i) σ') → asgF i (fun U σ1 => inner k K X σ1) X σ) :
   ∀ items k σ (Q : List AV → St → Prop), J items σ → k + (items.flatMap f).length ≤ lim → (∀ σ', J [] σ' → Q (items.flatMap f) σ') → compGo asgF inner need items k Q X σ
 | [], _, _, _, h, _, hq => ⟨hneed _ _ h, hq _ h⟩
 | i :: r, k, σ, Q, h, hl, hq => by
   refine ⟨hneed _ _ h, hstep i r k σ _ h hl fun σ' h' => ?_⟩; refine Zq3 J f hneed hstep r (k + (f i).length) σ' _ h' ?_ fun σ3 h3 => ?_
   · rw [List.flatMap_cons, List.length_append] at hl; exact q74 hl
   · have := hq σ3 h3
     rwa [List.flatMap_cons] at this
end
structure FnRec where
 params : Arguments
 body : List Stmt
 scope : Scope
noncomputable def fnRec : Option Stmt → Option FnRec
 | some (.FunctionDef _ args body _ _ _ scope _ _ _) => some ⟨args, body, scope⟩
 | _ => none
noncomputable def clsBody : Option Stmt → List Stmt
 | some (.ClassDef _ _ _ body _ _ _ _ _ _ _) => body
 | _ => []
noncomputable def topSt (i : Nat) : Option Stmt := PySem.Challenge.pw_oy0320_01.main.body[i]?
noncomputable def fnTab : List (Addr × Nat × Option Nat) := [(28, 3, none), (35, 4, none), (42, 5, none), (49, 6, none), (56, 7, none), (69, 9, some 0), (76, 9, some 1), (98, 13, some 1),
 (135, 15, some 0), (142, 15, some 1), (149, 15, some 2), (154, 15, some 3), (161, 15, some 4), (168, 15, some 5), (182, 15, some 7), (189, 15, some 8),
 (210, 17, none), (217, 18, none), (222, 20, none), (229, 21, none), (234, 22, none), (239, 23, none), (244, 24, none)]
noncomputable def stAt (p : Nat × Option Nat) : Option Stmt := match p.2 with
 | none => topSt p.1
 | some j => (clsBody (topSt p.1))[j]?
noncomputable def fnAt (f : Addr) : FnRec := (((fnTab.lookup f).bind fun p => fnRec (stAt p))).getD ⟨⟨[], [], none, [], [], none, []⟩, [], ⟨.function, [], false, false, []⟩⟩
noncomputable def fnG (f : Addr) : SE := fnSE (fnAt f).scope
theorem Zge : glob "len" = some (.bi "len") := by kernel_rfl
theorem Zc8 : glob "sorted" = some (.bi "sorted") := by kernel_rfl
theorem Zhd : glob "isinstance" = some (.bi "isinstance") := by kernel_rfl
theorem Zs0 : glob "iter" = some (.bi "iter") := by kernel_rfl
theorem Zhb : glob "range" = some (.ty "range") := by kernel_rfl
theorem Zhc : glob "list" = some (.ty "list") := by kernel_rfl
theorem Zp0 : glob "tuple" = some (.ty "tuple") := by kernel_rfl
theorem Znr : glob "set" = some (.ty "set") := by kernel_rfl
theorem Znv : glob "bool" = some (.ty "bool") := by kernel_rfl
theorem Zsy : glob "type" = some (.ty "type") := by kernel_rfl
theorem Zup : glob "str" = some (.ty "str") := by kernel_rfl
theorem Zvz : glob "IndexError" = some (.ty "IndexError") := by kernel_rfl
theorem Zvy : glob "StopIteration" = some (.ty "StopIteration") := by kernel_rfl
theorem Zvx : glob "ValueError" = some (.ty "ValueError") := by kernel_rfl
theorem Zsz : glob "_kind" = some (.ref 28) := by kernel_rfl
theorem Znu : glob "_c_path" = some (.ref 35) := by kernel_rfl
theorem Zij : glob "_splitroot" = some (.ref 42) := by kernel_rfl
theorem Zik : glob "_normpath" = some (.ref 49) := by kernel_rfl
theorem Zjo : glob "normpath" = some (.ref 56) := by kernel_rfl
theorem Zil : glob "_Ignore" = some (.ref 79) := by kernel_rfl
theorem Zjp : glob "_NodeInfo" = some (.ref 102) := by kernel_rfl
theorem Znw : glob "TopologicalSorter" = some (.ref 199) := by kernel_rfl
theorem Zre : glob "sorted_list_difference" = some (.ref 210) := by kernel_rfl
theorem Zrd : glob "unorderable_list_difference" = some (.ref 217) := by kernel_rfl
theorem Zlo : glob "_law_modules" = some (.ref 222) := by kernel_rfl
theorem Zns : glob "_law_rounds" = some (.ref 229) := by kernel_rfl
theorem Znt : glob "_law_left" = some (.ref 234) := by kernel_rfl
theorem Zhe : glob "_law_below" = some (.ref 239) := by kernel_rfl
theorem Zrf : glob "_NODE_OUT" = some (.int (-1)) := by kernel_rfl
theorem Zs1 : glob "_NODE_DONE" = some (.int (-2)) := by kernel_rfl
theorem Zuq : glob "sep" = some (.str "/") := by kernel_rfl
theorem Zbi {α : Type} {asgF : Item → AM Unit} {inner : Nat → AM (List AV)} {need : St → Prop} (xs : List α) (it : α → Item) (f : α → List AV) (J : St → Prop)
   (hneed : ∀ σ, J σ → need σ)
   (hstep : ∀ x ∈ xs, ∀ k σ (K : List AV → St → Prop), J σ → k + (f x).length ≤ lim → (∀ σ', J σ' → K (f x) σ') → asgF (it x) (fun U σ1 => inner k K X σ1) X σ)
   {items : List Item} {k : Nat} {Q : List AV → St → Prop} (hi : items = xs.map it) (h : J σ) (hl : k + (xs.flatMap f).length ≤ lim) (hq : ∀ σ', J σ' → Q (xs.flatMap f) σ') : compGo asgF inner need items k Q X σ := by
 subst hi
 induction xs generalizing k σ Q with
 | nil => exact ⟨hneed _ h, hq _ h⟩
 | cons x r ih =>
   rw [List.flatMap_cons, List.length_append] at hl; refine ⟨hneed _ h, hstep x (.head _) k σ _ h (by exact Nat.le_trans (Nat.add_le_add_left (Nat.le_add_right _ _) _) hl) fun σ' h' => ?_⟩; refine ih (fun y hy => hstep y (.tail _ hy)) h' (by exact q74 hl) fun σ3 h3 => ?_; have := hq σ3 h3
   rwa [List.flatMap_cons] at this
theorem Zdi {α : Type} {asgF : Item → AM Unit} {body : AM DFlow} {need : St → Prop} {Q : DFlow → St → Prop} (it : α → Item) (I : List α → St → Prop)
   (hneed : ∀ r σ, I r σ → need σ)
   (hstep : ∀ x r σ (K : DFlow → St → Prop), I (x :: r) σ → (∀ σ', I r σ' → K .next σ') → (∀ σ', I r σ' → K .cont σ') → (∀ σ', Q .next σ' → K .brk σ') → (∀ v σ', Q (.ret v) σ' → K (.ret v) σ') → asgF (it x) (fun U σ1 => body K X σ1) X σ)
   (hdone : ∀ σ, I [] σ → Q .next σ) (xs : List α) {items : List Item} (hi : items = xs.map it) (h : I xs σ) : forGo asgF body need items Q X σ := by
 subst hi
 induction xs generalizing σ with
 | nil => exact ⟨hneed _ _ h, hdone _ h⟩
 | cons x r ih => exact ⟨hneed _ _ h, hstep x r σ _ h (fun σ' h' => ih h') (fun σ' h' => ih h') (fun U h => h) (fun U U h => h)⟩
theorem Zn3 {own : List Str} {m : Str → Option AV} {r : Option AV} (h : (own.contains x || x == (".0" : Str)) = false) (k : m x = r) : enterL own m x = r := by
 delta enterL; rw [h]; exact k
theorem strsOf_map : ∀ ns : List Str, strsOf (ns.map .str) = some ns
 | [] => rfl
 | n :: r => by rw [List.map_cons]; refine (?_ : (strsOf (r.map .str)).map _ = _); rw [strsOf_map r]; rfl
theorem Zb8 (f : AV → AV → Option Bool) (x y : AV) (xs ys : List AV) : deqs f (x :: xs) (y :: ys) = (f x y).bind fun a => (deqs f xs ys).map fun b => a && b := rfl
theorem Zda {ys : List AV} (ha : H a = some (.list xs)) (hb : H b = some (.list ys)) : deq H (n + 1) (.ref a) (.ref b) = if xs.length = ys.length then deqs (deq H n) xs ys else some false := by
 refine (?_ : deqR H (deq H n) a b = _)
 delta deqR; rw [ha]; dsimp only; rw [hb]
theorem Zku (ha : H a = some (.list xs)) (hb : H b = some (.list [])) : deq H (n + 1) (.ref a) (.ref b) = some xs.isEmpty := by
 rw [Zda ha hb]
 cases xs with
 | nil => rw [if_pos rfl]; rfl
 | cons _ _ => rw [if_neg (by simp)]; rfl
noncomputable def kF (Q : AV → AH → Prop) (fl : DFlow) (σ' : St) : Prop := match fl with
 | .ret v => Q v σ'.H
 | .next => Q .none σ'.H
 | _ => False
theorem x_fr (h : Q v σ.H) : kF Q (.ret v) σ := h
theorem x_fn (h : Q .none σ.H) : kF Q .next σ := h
noncomputable def Body (P : Par) (f : Addr) (bs : List (Str × AV)) (Q : AV → AH → Prop) (H : AH) : Prop := exs P 60 (fnG f) (fnAt f).body (kF Q) noX ⟨locOf bs fun U => none, H⟩
theorem Za2 {f : Addr} {bs : List (Str × AV)} {s : Stmt} {r : List Stmt} {l : Str → Option AV} (hb : (fnAt f).body = s :: r) (hl : locOf bs (fun U => none) = l) (h : ex P 59 (fnG f) s (kS P 59 (fnG f) r (kF Q) noX) noX ⟨l, H⟩) : Body P f bs Q H := by
 delta Body; rw [hb, hl]; exact h
theorem Zgq {p q : Prop} {c : Bool} (hc : c = true) (h : p) : if c = true then p else q := by rw [if_pos hc]; exact h
theorem Zk2 {p q : Prop} {c : Bool} (hc : c = false) (h : q) : if c = true then p else q := by rw [if_neg (by rw [hc]; decide)]; exact h
theorem Zat (h : n ≤ 4000) : n ≤ lim := h
theorem Zea (h : n < 4000) : n < lim := h
theorem Zss : (Str.ofString ".").length = 1 := by kernel_rfl
theorem Zrb : (Str.ofString "/").length = 1 := by kernel_rfl
theorem Zvw : (Str.ofString "").length = 0 := by kernel_rfl
theorem Zvv : (Str.ofString "/x/").length = 3 := by kernel_rfl
theorem Zuo : (Str.ofString ".py").length = 3 := by kernel_rfl
theorem Zun : (Str.ofString "/.").length = 2 := by kernel_rfl
theorem Znl (x y : Str) : (x ++ y).length = x.length + y.length := Str.length_append x y
theorem x_iT {p q : Prop} {c : Bool} (h : p) (hc : autoParam (c = true) arS) : if c = true then p else q := Zgq hc h
theorem x_iF {p q : Prop} {c : Bool} (h : q) (hc : autoParam (c = false) arS) : if c = true then p else q := Zk2 hc h
theorem Zap {k : Nat} {o : AObj} {Q : AV → St → Prop} (hl : autoParam (k ≤ lim) lbS) (h : ∀ a, H a = none → Q (.ref a) ⟨ℓ, upd H a o⟩) : k ≤ lim ∧ newA o Q X ⟨ℓ, H⟩ := ⟨hl, h⟩
theorem Zb7 (h : HExt H H1) {o : AObj} (hb : H b = none) : HExt H (upd H1 b o) := fun a x e => Zaa (h a x e) (Zag e hb)
theorem ne0 (h : 0 < n) : (n != 0) = true := by cases n with | zero => cases h | succ n => rfl
theorem Zts {c : Bool} {a b : Expr} {K : AV → St → Prop} (R : AV → St → Prop) (h1 : ∀ K : AV → St → Prop, (∀ v σ', R v σ' → K v σ') → c = true → ev P n g a K X σ) (h2 : ∀ K : AV → St → Prop, (∀ v σ', R v σ' → K v σ') → c = false → ev P n g b K X σ)
   (h : ∀ v σ', R v σ' → K v σ') : if c = true then ev P n g a K X σ else ev P n g b K X σ := by
 cases c
 · exact h2 K h rfl
 · exact h1 K h rfl
noncomputable def setOf (ts : List Str) : Str → Bool := fun k => ts.contains k
theorem Zba {α β : Type} (f : α → List β) (h : ∀ a, (f a).length ≤ 1) : ∀ xs : List α, (xs.flatMap f).length ≤ xs.length
 | [] => Nat.le_refl _
 | x :: r => by
   have := Zba f h r; have := h x; rw [List.flatMap_cons, List.length_append, List.length_cons]; (first | lia | omega)
theorem Zed {α : Type} (f : α → Str) : ∀ xs : List α, (xs.flatMap fun x => [AV.str (f x)]) = (xs.map f).map .str
 | [] => rfl
 | x :: r => by rw [List.flatMap_cons, Zed f r]; rfl
noncomputable def kL (asgF : Item → AM Unit) (body : AM DFlow) (need : St → Prop) (r : List Item) (Q : DFlow → St → Prop) (X : Exn → St → Prop) (fl : DFlow) (σ2 : St) : Prop := match fl with
 | .next | .cont => forGo asgF body need r Q X σ2
 | .brk => Q .next σ2
 | .ret v => Q (.ret v) σ2
section
variable {asgF : Item → AM Unit} {body : AM DFlow} {need : St → Prop} {r : List Item} {Q : DFlow → St → Prop} {X : Exn → St → Prop} {σ : St}
theorem Zq0 (h : Q .next σ) (hn : autoParam (need σ) foS) : forGo asgF body need [] Q X σ := ⟨hn, h⟩
theorem Ztu {i : Item} (hn : autoParam (need σ) foS) (h : asgF i (fun U σ1 => body (kL asgF body need r Q X) X σ1) X σ) : forGo asgF body need (i :: r) Q X σ := by
 refine ⟨hn, ?_⟩
 have e : (fun fl σ2 => (match fl with | .next | .cont => forGo asgF body need r Q X σ2 | .brk => Q .next σ2 | .ret v => Q (.ret v) σ2 : Prop)) = kL asgF body need r Q X := by funext fl σ2; cases fl <;> rfl
 exact Eq.mpr (congrArg (fun K => asgF i (fun U σ1 => body K X σ1) X σ) e) h
theorem Zu7 (h : forGo asgF body need r Q X σ) : kL asgF body need r Q X .next σ := h
end
theorem Ztt {Q : AV → St → Prop} {k : Str} (h : Q v σ) (ha : autoParam (σ.H a = some (.dict es ep)) hkS) (hk : autoParam (lookA es k = some v) asS) : bmtD .get (.ref a) [.str k] Q X σ := Zib ha (by rw [hk]; exact h)
theorem Zvd {c : Bool} {a b : List Stmt} {K : DFlow → St → Prop} (R : DFlow → St → Prop) (h1 : ∀ K : DFlow → St → Prop, (∀ fl σ', R fl σ' → K fl σ') → c = true → exs P n g a K X σ)
   (h2 : ∀ K : DFlow → St → Prop, (∀ fl σ', R fl σ' → K fl σ') → c = false → exs P n g b K X σ) (h : ∀ fl σ', R fl σ' → K fl σ') : if c = true then exs P n g a K X σ else exs P n g b K X σ := by
 cases c
 · exact h2 K h rfl
 · exact h1 K h rfl
noncomputable def frag (h : Heap) : Frag := (List.range h.objs.size).filterMap fun a => (h.get? a).map fun o => (a, o)
theorem Znx (h : Heap) : (frag h).In h := by
 intro a o e
 have key : ∀ (l : List Addr), (l.filterMap fun a => (h.get? a).map fun o => (a, o)).lookup a = some o → h.get? a = some o := by
   intro l
   induction l with
   | nil => intro e; exact Zab e
   | cons b r ih =>
     intro e; rw [List.filterMap_cons] at e; cases hb : h.get? b with
     | none => rw [hb] at e; exact ih e
     | some x =>
       rw [hb] at e; simp only [Option.map_some, List.lookup_cons] at e
       split at e
       · rename_i q
         rw [beq_iff_eq] at q; rw [q, hb]; exact e
       · exact ih e
 exact key _ e
noncomputable def nodeT : List (String × Nat) := [("node", 0), ("npredecessors", 1), ("successors", 2)]
noncomputable def initT : List (Addr × Addr) := [(79, 69), (199, 135), (102, 98)]
noncomputable def st1 (K : Frag) (C : Addr) (nm : Str) : Bool := plainGet K C nm && hasDictIn K C && findIn K (.ref C) nm == some none && takerIn K C nm == some none
noncomputable def st2 (K : Frag) (C : Addr) : Bool := findIn K (.ref C) "__setattr__" == some (some (.builtin "object.__setattr__")) && plainOver K C
noncomputable def st3 (K : Frag) (p : Addr × String × Addr) : Bool := plainGet K p.1 (Str.ofString p.2.1) && findIn K (.ref p.1) (Str.ofString p.2.1) == some (some (.ref p.2.2)) && isFn K (.ref p.2.2) && hasDictIn K p.1 && specialIn K (.ref p.2.2) "__get__" == some (some (.builtin "function.__get__")) && takesIn K (.ref p.2.2) == some false && !copiedNames.contains (Str.ofString p.2.1)
noncomputable def st4a (K : Frag) (p : String × Nat) (d : Addr) : Bool := specialIn K (.ref d) "__get__" == some (some (.builtin "member_descriptor.__get__")) && takesIn K (.ref d) == some true && slotIn K d 102 == some p.2 && takerIn K 102 (Str.ofString p.1) == some (some (.ref d)) && typeIn K (.ref d) == some (.type "member_descriptor")
noncomputable def st4b (K : Frag) (p : String × Nat) : Option (Option Value) → Bool
 | some (some (.ref d)) => st4a K p d
 | _ => false
noncomputable def st4 (K : Frag) (p : String × Nat) : Bool := plainGet K 102 (Str.ofString p.1) && isClsIn K 102 && st4b K p (findIn K (.ref 102) (Str.ofString p.1))
noncomputable def st5 (K : Frag) (p : Addr × Addr) : Bool := makesIn K p.1 && findIn K (.ref p.1) "__init__" == some (some (.ref p.2)) && isFn K (.ref p.2) && keepIn K (.ref p.1)
noncomputable def st6 (K : Frag) (p : String × AV) : Bool := match p.2 with | .ref a => (initOf a).isSome || isFn K (.ref a) | _ => true
noncomputable def statB (K : Frag) : Bool := ([79, 199].all fun C => (instNames.map Str.ofString).all fun nm => st1 K C nm) && ([79, 199, 102].all (st2 K)) && methT.all (st3 K) && nodeT.all (st4 K) && initT.all (st5 K) && globT.all (st6 K)
theorem Zo6 {p : String × Nat} {o : Option (Option Value)} (h : st4b K p o = true) : ∃ d, o = some (some (.ref d)) ∧ st4a K p d = true := by
 cases o with
 | none => exact Zai h
 | some o =>
   cases o with
   | none => exact Zai h
   | some v =>
     cases v with
     | ref d => exact ⟨d, rfl, h⟩
     | _ => exact Zai h
theorem Zpx {f : Addr} (hf : initOf C = some f) : (C, f) ∈ initT := by
 delta initOf at hf
 by_cases h1 : C = 79
 · rw [if_pos h1] at hf; cases hf; rw [h1]; decide
 · rw [if_neg h1] at hf
   by_cases h2 : C = 199
   · rw [if_pos h2] at hf; cases hf; rw [h2]; decide
   · rw [if_neg h2] at hf
     by_cases h3 : C = 102
     · rw [if_pos h3] at hf; cases hf; rw [h3]; decide
     · rw [if_neg h3] at hf; exact Zab hf
theorem Zo7 (hi : slotIx nm = some i) : ∃ p ∈ nodeT, nm = Str.ofString p.1 ∧ i = p.2 := by
 delta slotIx at hi
 by_cases h1 : nm = ("node" : Str)
 · rw [if_pos h1] at hi; cases hi; exact ⟨("node", 0), .head _, h1, rfl⟩
 · rw [if_neg h1] at hi
   by_cases h2 : nm = ("npredecessors" : Str)
   · rw [if_pos h2] at hi; cases hi; exact ⟨("npredecessors", 1), .tail _ (.head _), h2, rfl⟩
   · rw [if_neg h2] at hi
     by_cases h3 : nm = ("successors" : Str)
     · rw [if_pos h3] at hi; cases hi; exact ⟨("successors", 2), .tail _ (.tail _ (.head _)), h3, rfl⟩
     · rw [if_neg h3] at hi; exact Zab hi
noncomputable def dfltB (K : Frag) (f : Addr) : Value → Bool
 | .none => f != 135
 | .ref T => (match K.lookup T with
   | some ⟨c, _, .seq items _, _⟩ => c == .type "tuple" && (f != 135 || items == #[.none])
   | _ => false)
 | _ => false
noncomputable def fnB (K : Frag) (f : Addr) : Bool := match K.lookup f with
 | some ⟨_, _, .func fd, _⟩ => fd.closure.isEmpty && fd.globals == mainGlobals && fd.builtins == builtinsNs && codeIn K fd.code fd.qualname && dfltB K f fd.defaults
 | _ => false
noncomputable def baseB (h : Heap) : Bool :=
 statB (frag h) && (fnTab.all fun p => fnB (frag h) p.1) &&
 (globT.all fun p => match h.nsMap mainGlobals (Str.ofString p.1) with
   | some u => decide (er u = p.2)
   | none => (match bootBuiltins (Str.ofString p.1) with | some u => decide (er u = p.2) | none => false) && Str.ofString p.1 != "__name__") &&
 (["IndexError", "StopIteration", "ValueError"].all fun x => (h.nsMap mainGlobals (Str.ofString x)).isNone) &&
 ([28, 35, 42, 49, 56, 210, 217, 222, 229, 234, 239, 79, 199, 102].all fun a => (h.get? a).isSome) && (h.get? sysModules).isSome && h.isNs mainGlobals && h.nsMap mainGlobals (Str.ofString "law") == some (.ref 244)
noncomputable def fnSeen (h : Heap) (f : Addr) : Option (Arguments × FuncBody × Scope) := (h.get? f).bind fun o => match o.data with
 | .func fd => some (fd.params, fd.body, fd.scope)
 | _ => none
noncomputable def obs (s : Shared) : Bool × List (Option (Arguments × FuncBody × Scope)) := (baseB s.heap && decide (0 < s.toks), fnTab.map fun p => fnSeen s.heap p.1)
noncomputable def obsE : Bool × List (Option (Arguments × FuncBody × Scope)) := (true, fnTab.map fun p => some ((fnAt p.1).params, .stmts (fnAt p.1).body, (fnAt p.1).scope))
noncomputable def vw : Program := PySem.W.view PySem.Challenge.pw_oy0320_01 [0, 1, 3, 4, 5, 6, 7, 9, 11, 12, 13, 14, 15, 17, 18, 20, 21, 22, 23, 24]
set_option maxHeartbeats 8000000
theorem left0 : LeftO PySem.Challenge.rw_oy0320_01.row.prog vw ["_NodeInfo"] (fun s => xlAt vw [] s && recOk (RowW.records PySem.Challenge.rw_oy0320_01.row.toRowW) s) obs (fun U => obsE) 3550 := by
 intro w; kernel_rfl
structure Rel (prog : Program) (w : World) (h₀ : Heap) (os₀ : OsState) (fs : List Env) (hfr hid : List (Addr × Obj)) (env : Env) (wr : List Str) (σ : St) (s : Shared) : Prop where
 base : ∀ b o, h₀.get? b = some o → s.heap.get? b = some o
 objs : ∀ a ao, σ.H a = some ao → h₀.get? a = none ∧ ∃ o, s.heap.get? a = some o ∧ OR prog w ao o
 hidk : ∀ p ∈ hid, h₀.get? p.1 = none ∧ σ.H p.1 = none ∧ s.heap.get? p.1 = some p.2
 hfrk : ∀ p ∈ hfr, h₀.get? p.1 = none ∧ σ.H p.1 = none ∧ ∃ sl, s.heap.get? p.1 = some { p.2 with slots := sl }
 fsk : ∀ e ∈ fs, e.scope.kind ≠ .module ∧ ∃ L o, e.frame = some L ∧ h₀.get? L = none ∧ σ.H L = none ∧ s.heap.get? L = some o ∧ ∃ es ep, o.data = .dict es ep
 hfd : ∀ e ∈ fs, ∀ p ∈ hid, e.frame ≠ some p.1
 loc : ∃ m, s.heap.Ns env.locals m ∧ ∀ x, env.kindOf x = some .local → σ.loc x = (m x).map er
 cel : ∀ x k, env.kindOf x = some k → (k = .cell ∨ k = .free) → ∃ c v, env.cells.lookup x = some c ∧ s.heap.IsCell c v ∧ σ.loc x = v.map er ∧ σ.H c = none ∧ c ≠ env.locals
 lnew : h₀.objs.size ≤ env.locals ∧ σ.H env.locals = none ∧ env.locals ∉ hid.map (·.1) ∧ env.locals ∉ hfr.map (·.1)
 wrs : ∀ x ∈ wr, env.kindOf x = some .local ∨ (env.kindOf x = some .cell ∧ ∀ c, env.cells.lookup x = some c → h₀.get? c = none ∧ c ∉ hid.map (·.1) ∧ c ∉ hfr.map (·.1) ∧ ∀ y, y ≠ x → env.cells.lookup y ≠ some c)
 gens : s.gens = #[]
 os : s.os = os₀
 tok : 0 < s.toks
theorem Znf {h : Heap} {o : Obj} (e : h.get? a = some o) : a < h.objs.size := Heap.lt_size e
theorem Zae (h : Heap) : h.get? h.objs.size = none := Heap.get?_none_of_le (Nat.le_refl _)
section
variable {prog : Program} {w : World} {h₀ : Heap} {os₀ : OsState} {fs : List Env} {hfr hid : List (Addr × Obj)} {env : Env} {wr : List Str} {σ : St} {s : Shared}
theorem IsCell.keepBut {h : Heap} {c : Addr} {v} (x : h.IsCell c v) (k : ∀ b o, b ≠ a → h.get? b = some o → h'.get? b = some o) (ne : c ≠ a) : h'.IsCell c v :=
 Oea (x) fun o ho hd => (Iea o (k c o ne ho) hd)
theorem Rel.but {tk : Nat} (R : Rel prog w h₀ os₀ fs hfr hid env wr σ s) (k : ∀ b o, b ≠ a → s.heap.get? b = some o → h'.get? b = some o) (tp : 0 < tk)
   (n0 : h₀.get? a = none) (nH : σ.H a = none) (nh : a ∉ hid.map (·.1)) (nf : a ∉ hfr.map (·.1)) (nL : a ≠ env.locals) (nfs : ∀ e ∈ fs, e.frame ≠ some a)
   (nc : ∀ x k, env.kindOf x = some k → (k = .cell ∨ k = .free) → env.cells.lookup x ≠ some a) :
   Rel prog w h₀ os₀ fs hfr hid env wr σ { s with heap := h', toks := tk } where
 base b o e := k b o (by rintro rfl; rw [n0] at e; exact Zab e) (R.base b o e)
 objs b ao e := Oaea (R.objs b ao e) fun x o ho r => (Iaea x o (k b o (by rintro rfl; rw [nH] at e; exact Zab e) ho) r)
 hidk p hp := Oaa (R.hidk p hp) fun x y z => ⟨x, y, k _ _ (fun q => nh (q ▸ List.mem_map_of_mem hp)) z⟩
 hfrk p hp := Oaae (R.hfrk p hp) fun x y sl z => (Iaae x y sl (k _ _ (fun q => nf (q ▸ List.mem_map_of_mem hp)) z))
 fsk e he := Oaeeaaaa (R.fsk e he) fun x L o hf h1 h2 h3 h4 => (Iaeeaaaa x L o hf h1 h2 (k _ _ (fun q => nfs e he (q ▸ hf)) h3) h4)
 loc := Oea (R.loc) fun m hn hm => (Iea m (Oeeea (hn) fun o es ep ho r => (Ieeea o es ep (k _ _ (Ne.symm nL) ho) r)) hm)
 cel x kk hk hc := Oeeaaaa (R.cel x kk hk hc) fun c v h1 h2 h3 h4 h5 => (Ieeaaaa c v h1 (IsCell.keepBut h2 k (fun q => nc x kk hk hc (q ▸ h1))) h3 h4 h5)
 hfd := R.hfd
 lnew := R.lnew
 wrs := R.wrs
 gens := R.gens
 os := R.os
 tok := tp
theorem Rel.frame_ne (R : Rel prog w h₀ os₀ fs hfr hid env wr σ s) (n : s.heap.get? a = none) : ∀ e ∈ fs, e.frame ≠ some a := fun e he q => by
 refine Oaeeaaaa (R.fsk e he) ?_; intro U L o hf U U h3 U
 rw [hf] at q; cases q; rw [n] at h3; exact Zab h3
theorem Rel.grow {tk : Nat} (R : Rel prog w h₀ os₀ fs hfr hid env wr σ s) (k : ∀ b o, s.heap.get? b = some o → h'.get? b = some o) (tp : 0 < tk) :
   Rel prog w h₀ os₀ fs hfr hid env wr σ { s with heap := h', toks := tk } where
 base b o e := k b o (R.base b o e)
 objs b ao e := Oaea (R.objs b ao e) fun x o ho r => (Iaea x o (k b o ho) r)
 hidk p hp := Oaa (R.hidk p hp) fun x y z => ⟨x, y, k _ _ z⟩
 hfrk p hp := Oaae (R.hfrk p hp) fun x y sl z => (Iaae x y sl (k _ _ z))
 fsk e he := Oaeeaaaa (R.fsk e he) fun x L o hf h1 h2 h3 h4 => (Iaeeaaaa x L o hf h1 h2 (k _ _ h3) h4)
 loc := Oea (R.loc) fun m hn hm => (Iea m (hn.keeps k) hm)
 cel x kk hk hc := Oeeaaaa (R.cel x kk hk hc) fun c v h1 h2 h3 h4 h5 => (Ieeaaaa c v h1 (Oea h2 fun o ho hd => Iea o (k _ _ ho) hd) h3 h4 h5)
 hfd := R.hfd
 lnew := R.lnew
 wrs := R.wrs
 gens := R.gens
 os := R.os
 tok := tp
theorem Rel.tk {tk : Nat} (R : Rel prog w h₀ os₀ fs hfr hid env wr σ s) (tp : 0 < tk) : Rel prog w h₀ os₀ fs hfr hid env wr σ { s with toks := tk } := R.grow (h' := s.heap) (fun U U e => e) tp
theorem Rel.H_none (R : Rel prog w h₀ os₀ fs hfr hid env wr σ s) (n : s.heap.get? a = none) : σ.H a = none := by
 cases e : σ.H a with
 | none => rfl
 | some ao => (refine Oaea (R.objs a ao e) ?_; intro U o ho U); rw [n] at ho; exact Zab ho
theorem Rel.tell {o : Obj} (R : Rel prog w h₀ os₀ fs hfr hid env wr σ s) (ho : s.heap.get? a = some o) (r : OR prog w ao o) (n0 : h₀.get? a = none) (nh : a ∉ hid.map (·.1)) (nf : a ∉ hfr.map (·.1))
   (nL : a ≠ env.locals) (nfs : ∀ e ∈ fs, e.frame ≠ some a) (nc : ∀ x k, env.kindOf x = some k → (k = .cell ∨ k = .free) → env.cells.lookup x ≠ some a) :
   Rel prog w h₀ os₀ fs hfr hid env wr ⟨σ.loc, upd σ.H a ao⟩ s where
 base := R.base
 objs b bo e := by
   by_cases h : b = a
   · subst h; rw [show (St.mk σ.loc (upd σ.H b ao)).H b = some ao from upd_same _ _ _] at e; cases e; exact Iaea n0 o ho r
   · rw [show (St.mk σ.loc (upd σ.H a ao)).H b = σ.H b from Zay _ _ h] at e; exact R.objs b bo e
 hidk p hp := Oaa (R.hidk p hp) fun x y z => ⟨x, (Zay _ _ (fun (q : p.1 = a) => nh (q ▸ List.mem_map_of_mem hp))).trans y, z⟩
 hfrk p hp := Oaa (R.hfrk p hp) fun x y z => ⟨x, (Zay _ _ (fun (q : p.1 = a) => nf (q ▸ List.mem_map_of_mem hp))).trans y, z⟩
 fsk e he := Oaeeaaaa (R.fsk e he) fun x L o hf h1 h2 h3 h4 => (Iaeeaaaa x L o hf h1 ((Zay _ _ (fun (q : L = a) => nfs e he (q ▸ hf))).trans h2) h3 h4)
 loc := R.loc
 cel x kk hk hc := Oeeaaaa (R.cel x kk hk hc) fun c v h1 h2 h3 h4 h5 => (Ieeaaaa c v h1 h2 h3 ((Zay _ _ (fun (q : c = a) => nc x kk hk hc (q ▸ h1))).trans h4) h5)
 hfd := R.hfd
 lnew := ⟨R.lnew.1, (Zay _ _ (Ne.symm nL)).trans R.lnew.2.1, R.lnew.2.2⟩
 wrs := R.wrs
 gens := R.gens
 os := R.os
 tok := R.tok
theorem Rel.away (R : Rel prog w h₀ os₀ fs hfr hid env wr σ s) (n : s.heap.get? a = none) :
   h₀.get? a = none ∧ a ∉ hid.map (·.1) ∧ a ∉ hfr.map (·.1) ∧ a ≠ env.locals ∧ (∀ e ∈ fs, e.frame ≠ some a) ∧ ∀ x k, env.kindOf x = some k → (k = .cell ∨ k = .free) → env.cells.lookup x ≠ some a := by
 refine ⟨?_, ?_, ?_, ?_, R.frame_ne n, ?_⟩
 · cases e : h₀.get? a with
   | none => rfl
   | some o => have := R.base a o e; rw [n] at this; exact Zab this
 · intro hm; (refine Oea (List.mem_map.mp hm) ?_; intro p hp e_1; obtain rfl := e_1); have := (R.hidk p hp).2.2; rw [n] at this; exact Zab this
 · intro hm; (refine Oea (List.mem_map.mp hm) ?_; intro p hp e_1; obtain rfl := e_1); (refine Oe ((R.hfrk p hp).2.2) ?_; intro sl this); rw [n] at this; exact Zab this
 · rintro rfl; (refine Oea R.loc ?_; intro m z_1 U; (refine Oeeea z_1 ?_; clear z_1; intro o es ep ho U)); rw [n] at ho; exact Zab ho
 · intro x kk hk hc q
   refine Oeeaa (R.cel x kk hk hc) ?_; intro c v h1 z_1 U; (refine Oea z_1 ?_; clear z_1; intro o ho U); rw [h1] at q; cases q; rw [n] at ho; exact Zab ho
theorem Rel.make {o : Obj} {tk : Nat} (R : Rel prog w h₀ os₀ fs hfr hid env wr σ s) (n : s.heap.get? a = none) (k : ∀ b o, s.heap.get? b = some o → h'.get? b = some o)
   (ho : h'.get? a = some o) (r : OR prog w ao o) (tp : 0 < tk) : Rel prog w h₀ os₀ fs hfr hid env wr ⟨σ.loc, upd σ.H a ao⟩ { s with heap := h', toks := tk } :=
 Oaaaaa (R.away n) fun a1 a2 a3 a4 a5 a6 => (R.grow k tp).tell ho r a1 a2 a3 a4 a5 a6
theorem Rel.turn {ao' : AObj} {tk : Nat} (R : Rel prog w h₀ os₀ fs hfr hid env wr σ s) (ha : σ.H a = some ao) (k : ∀ b o, b ≠ a → s.heap.get? b = some o → h'.get? b = some o)
   (ho : h'.get? a = some o') (r : OR prog w ao' o') (tp : 0 < tk) : Rel prog w h₀ os₀ fs hfr hid env wr ⟨σ.loc, upd σ.H a ao'⟩ { s with heap := h', toks := tk } where
 base b o e := k b o (by rintro rfl; rw [(R.objs _ _ ha).1] at e; exact Zab e) (R.base b o e)
 objs b bo e := by
   by_cases h : b = a
   · subst h; rw [show (St.mk σ.loc (upd σ.H b ao')).H b = some ao' from upd_same _ _ _] at e; cases e; exact Iaea ((R.objs _ _ ha).1) o' ho r
   · rw [show (St.mk σ.loc (upd σ.H a ao')).H b = σ.H b from Zay _ _ h] at e
     refine Oaea (R.objs b bo e) ?_; intro x o ho r; exact Iaea x o (k b o h ho) r
 hidk p hp := Oaa (R.hidk p hp) fun x y z => have ne : p.1 ≠ a := by intro q; rw [q, ha] at y; exact Zab (Eq.symm y)
   ⟨x, (Zay _ _ ne).trans y, k _ _ ne z⟩
 hfrk p hp := Oaae (R.hfrk p hp) fun x y sl z => have ne : p.1 ≠ a := by intro q; rw [q, ha] at y; exact Zab (Eq.symm y)
   (Iaae x ((Zay _ _ ne).trans y) sl (k _ _ ne z))
 fsk e he := Oaeeaaaa (R.fsk e he) fun x L o hf h1 h2 h3 h4 => have ne : L ≠ a := by rintro rfl; rw [ha] at h2; exact Zab (Eq.symm h2)
   (Iaeeaaaa x L o hf h1 ((Zay _ _ ne).trans h2) (k _ _ ne h3) h4)
 loc := let ⟨m, ⟨o, es, ep, ho, r⟩, hm⟩ := R.loc
   have ne : env.locals ≠ a := by intro q; have := R.lnew.2.1; rw [q, ha] at this; exact Zab (Eq.symm this)
   (Iea m (Ieeea o es ep (k _ _ ne ho) r) hm)
 cel x kk hk hc := Oeeaaaa (R.cel x kk hk hc) fun c v h1 h2 h3 h4 h5 => have ne : c ≠ a := by rintro rfl; rw [ha] at h4; exact Zab (Eq.symm h4)
   (Ieeaaaa c v h1 (IsCell.keepBut h2 k ne) h3 ((Zay _ _ ne).trans h4) h5)
 hfd := R.hfd
 lnew := ⟨R.lnew.1, (Zay _ _ (by intro q; have := R.lnew.2.1; rw [q, ha] at this; exact Zab (Eq.symm this))).trans R.lnew.2.1, R.lnew.2.2⟩
 wrs := R.wrs
 gens := R.gens
 os := R.os
 tok := tp
theorem Rel.forget (R : Rel prog w h₀ os₀ fs hfr hid env wr σ s) (k : ∀ a o, H' a = some o → σ.H a = some o) : Rel prog w h₀ os₀ fs hfr hid env wr ⟨σ.loc, H'⟩ s :=
 have kn : ∀ a, σ.H a = none → H' a = none := fun a n => by cases e : H' a with | none => rfl | some o => rw [k a o e] at n; exact Zab (Eq.symm n)
 { base := R.base
   objs := fun a ao e => R.objs a ao (k a ao e)
   hidk := fun p hp => ⟨(R.hidk p hp).1, kn _ (R.hidk p hp).2.1, (R.hidk p hp).2.2⟩
   hfrk := fun p hp => ⟨(R.hfrk p hp).1, kn _ (R.hfrk p hp).2.1, (R.hfrk p hp).2.2⟩
   fsk := fun e he => Oaeeaaa (R.fsk e he) fun x L o hf h1 h2 h3 => ⟨x, L, o, hf, h1, kn _ h2, h3⟩
   loc := R.loc
   cel := fun x kk hk hc => Oeeaaaa (R.cel x kk hk hc) fun c v h1 h2 h3 h4 h5 => (Ieeaaaa c v h1 h2 h3 (kn _ h4) h5)
   hfd := R.hfd
   lnew := ⟨R.lnew.1, kn _ R.lnew.2.1, R.lnew.2.2⟩
   wrs := R.wrs
   gens := R.gens
   os := R.os
   tok := R.tok }
theorem Rel.lfresh (R : Rel prog w h₀ os₀ fs hfr hid env wr σ s) : h₀.get? env.locals = none := Heap.get?_none_of_le R.lnew.1
noncomputable def allBut (h₀ h : Heap) (L : List Addr) : List (Addr × Obj) :=
 (List.range h.objs.size).filterMap fun b => if b ∈ L then none else if (h₀.get? b).isSome then none else (h.get? b).map fun o => (b, o)
theorem Zck {h : Heap} {L : List Addr} {o : Obj} : (b, o) ∈ allBut h₀ h L ↔ b ∉ L ∧ h₀.get? b = none ∧ h.get? b = some o := by
 delta allBut
 simp only [List.mem_filterMap, List.mem_range]
 constructor
 · intro y_1; refine Oea y_1 ?_; clear y_1; intro a ha e
   split at e
   · exact Zab e
   · split at e
     · exact Zab e
     · rename_i h1 h2
       cases hg : h.get? a with
       | none => rw [hg] at e; exact Zab e
       | some x =>
         rw [hg] at e; cases e; refine ⟨h1, ?_, hg⟩; cases hq : h₀.get? b with
         | none => rfl
         | some y => rw [hq] at h2; exact absurd rfl h2
 · intro y_1; refine Oaa y_1 ?_; clear y_1; intro h1 h2 h3
   exact Iea b (Heap.lt_size h3) (by rw [if_neg h1, h2, h3]; rfl)
theorem Rel.fr (R : Rel prog w h₀ os₀ fs hfr hid env wr σ s) : ∃ m, Fr h₀ env.locals s.heap m := Oea (R.loc) fun m hn U => ⟨m, hn, R.base, R.lnew.1⟩
theorem Rel.news (_ : Rel prog w h₀ os₀ fs hfr hid env wr σ s) (ds : List Addr) : News h₀ env.locals s.heap (allBut h₀ s.heap (env.locals :: ds)) := fun p hp => by
 refine Oaa (Zck.mp hp) ?_; intro h1 h2 h3
 exact ⟨h3, fun q => h1 (q ▸ .head _), h2⟩
theorem Rel.back {tk : Nat} {m m' : Str → Option Value} {news : List (Addr × Obj)} (R : Rel prog w h₀ os₀ fs hfr hid env wr σ s) (F : Fr h₀ env.locals s.heap m) (F' : Fr h₀ env.locals h' m') (em : m' = m)
   (N' : News h₀ env.locals h' news) (sub : ∀ p ∈ allBut h₀ s.heap [env.locals], p ∈ news) (tp : 0 < tk) : Rel prog w h₀ os₀ fs hfr hid env wr σ { s with heap := h', toks := tk } := by
 subst em
 have k : ∀ b o, b ≠ env.locals → s.heap.get? b = some o → h'.get? b = some o := fun b o ne e => by
   cases q : h₀.get? b with
   | some x => have := R.base b x q; rw [e] at this; cases this; exact F'.keep b o q
   | none => exact (N' _ (sub _ (Zck.mpr ⟨by simpa using ne, q, e⟩))).1
 refine Oea R.loc ?_; intro m₁ hn₁ hm₁
 refine { base := F'.keep, objs := ?_, hidk := ?_, hfrk := ?_, fsk := ?_, loc := ?_, cel := ?_, hfd := R.hfd, lnew := R.lnew, wrs := R.wrs, gens := R.gens, os := R.os, tok := tp }
 · intro b bo e
   refine Oaea (R.objs b bo e) ?_; intro x1 o ho r; exact Iaea x1 o (k b o (by rintro rfl; have := R.lnew.2.1; rw [e] at this; exact Zab (Eq.symm this)) ho) r
 · intro p hp
   refine Oaa (R.hidk p hp) ?_; intro x1 x2 x3; exact ⟨x1, x2, k _ _ (fun q => R.lnew.2.2.1 (q ▸ List.mem_map_of_mem hp)) x3⟩
 · intro p hp
   refine Oaae (R.hfrk p hp) ?_; intro x1 x2 sl x3; exact Iaae x1 x2 sl (k _ _ (fun q => R.lnew.2.2.2 (q ▸ List.mem_map_of_mem hp)) x3)
 · intro e he
   refine Oaeeaaaa (R.fsk e he) ?_; intro x1 L o hf h1 h2 h3 h4; by_cases hL : L = env.locals
   · subst hL
     refine Oeeeaa F'.ns ?_; intro o' es ep ho' hd' U; exact Iaeeaaaae x1 _ o' hf h1 h2 ho' _ (Ie _ hd')
   · exact Iaeeaaaa x1 L o hf h1 h2 (k _ _ hL h3) h4
 · refine (Iea m' F'.ns (fun y hy => ?_))
   rw [hm₁ y hy]; refine Oeeeaaa hn₁ ?_; clear hn₁; intro o1 es1 ep1 ho1 hd1 U hf1; refine Oeeeaaa F.ns ?_; intro o2 es2 ep2 ho2 hd2 U hf2; rw [ho1] at ho2; cases ho2; rw [hd1] at hd2; cases hd2; rw [← hf1 y, ← hf2 y]
 · intro y kk hy hc
   refine Oeeaaaa (R.cel y kk hy hc) ?_; intro ca u h1 h2 h3 h4 h5; exact Ieeaaaa ca u h1 (IsCell.keepBut h2 k h5) h3 h4 h5
theorem Rel.backMake {tk : Nat} {m : Str → Option Value} {o : Obj} (R : Rel prog w h₀ os₀ fs hfr hid env wr σ s) (F : Fr h₀ env.locals s.heap m) (F' : Fr h₀ env.locals h' m)
   (N' : News h₀ env.locals h' ((a, o) :: allBut h₀ s.heap [env.locals])) (n : s.heap.get? a = none) (r : OR prog w ao o) (tp : 0 < tk) : Rel prog w h₀ os₀ fs hfr hid env wr ⟨σ.loc, upd σ.H a ao⟩ { s with heap := h', toks := tk } :=
 Oaaaaa (R.away n) fun a1 a2 a3 a4 a5 a6 => (R.back F F' rfl N' (fun p hp => .tail _ hp) tp).tell (N' _ (.head _)).1 r a1 a2 a3 a4 a5 a6
theorem Rel.offOf (R : Rel prog w h₀ os₀ fs hfr hid env wr σ s) (ha : σ.H a = some ao) :
   h₀.get? a = none ∧ a ∉ hid.map (·.1) ∧ a ∉ hfr.map (·.1) ∧ a ≠ env.locals ∧ (∀ e ∈ fs, e.frame ≠ some a) ∧ ∀ x k, env.kindOf x = some k → (k = .cell ∨ k = .free) → env.cells.lookup x ≠ some a := by
 refine ⟨(R.objs a ao ha).1, ?_, ?_, ?_, ?_, ?_⟩
 · intro hm; (refine Oea (List.mem_map.mp hm) ?_; intro p hp e_1; obtain rfl := e_1); have := (R.hidk p hp).2.1; rw [ha] at this; exact Zab (Eq.symm this)
 · intro hm; (refine Oea (List.mem_map.mp hm) ?_; intro p hp e_1; obtain rfl := e_1); have := (R.hfrk p hp).2.1; rw [ha] at this; exact Zab (Eq.symm this)
 · rintro rfl; have := R.lnew.2.1; rw [ha] at this; exact Zab (Eq.symm this)
 · intro e he q; (refine Oaeeaaa (R.fsk e he) ?_; intro U L o hf U h2 U); rw [hf] at q; cases q; rw [ha] at h2; exact Zab (Eq.symm h2)
 · intro x kk hk hc q; (refine Oeeaaaa (R.cel x kk hk hc) ?_; intro ca v h1 U U h4 U); rw [h1] at q; cases q; rw [ha] at h4; exact Zab (Eq.symm h4)
theorem Rel.backTurn {tk : Nat} {m : Str → Option Value} {ao' : AObj} {news : List (Addr × Obj)} (R : Rel prog w h₀ os₀ fs hfr hid env wr σ s) (hd : σ.H d = some ao) (F : Fr h₀ env.locals s.heap m) (F' : Fr h₀ env.locals h' m)
   (N' : News h₀ env.locals h' news) (sub : ∀ p ∈ allBut h₀ s.heap [env.locals, d], p ∈ news) (ho : h'.get? d = some o') (r : OR prog w ao' o') (tp : 0 < tk) : Rel prog w h₀ os₀ fs hfr hid env wr ⟨σ.loc, upd σ.H d ao'⟩ { s with heap := h', toks := tk } := by
 have k : ∀ b o, b ≠ env.locals → b ≠ d → s.heap.get? b = some o → h'.get? b = some o := fun b o ne nd e => by
   cases q : h₀.get? b with
   | some x => have := R.base b x q; rw [e] at this; cases this; exact F'.keep b o q
   | none => exact (N' _ (sub _ (Zck.mpr ⟨by simp [ne, nd], q, e⟩))).1
 refine Oaaaaa (R.offOf hd) ?_; intro d1 d2 d3 d4 d5 d6
 refine Oea R.loc ?_; intro m₁ hn₁ hm₁
 refine { base := F'.keep, objs := ?_, hidk := ?_, hfrk := ?_, fsk := ?_, loc := ?_, cel := ?_, hfd := R.hfd, lnew := ⟨R.lnew.1, (Zay _ _ (Ne.symm d4)).trans R.lnew.2.1, R.lnew.2.2⟩, wrs := R.wrs, gens := R.gens, os := R.os, tok := tp }
 · intro b bo e
   by_cases h : b = d
   · subst h; rw [show (St.mk σ.loc (upd σ.H b ao')).H b = some ao' from upd_same _ _ _] at e; cases e; exact Iaea d1 o' ho r
   · rw [show (St.mk σ.loc (upd σ.H d ao')).H b = σ.H b from Zay _ _ h] at e
     refine Oaea (R.objs b bo e) ?_; intro x1 o ho1 r1; exact Iaea x1 o (k b o (by rintro rfl; have := R.lnew.2.1; rw [e] at this; exact Zab (Eq.symm this)) h ho1) r1
 · intro p hp
   refine Oaa (R.hidk p hp) ?_; intro x1 x2 x3; have nd : p.1 ≠ d := fun q => d2 (q ▸ List.mem_map_of_mem hp); exact ⟨x1, (Zay _ _ nd).trans x2, k _ _ (fun q => R.lnew.2.2.1 (q ▸ List.mem_map_of_mem hp)) nd x3⟩
 · intro p hp
   refine Oaae (R.hfrk p hp) ?_; intro x1 x2 sl x3; have nd : p.1 ≠ d := fun q => d3 (q ▸ List.mem_map_of_mem hp); exact Iaae x1 ((Zay _ _ nd).trans x2) sl (k _ _ (fun q => R.lnew.2.2.2 (q ▸ List.mem_map_of_mem hp)) nd x3)
 · intro e he
   refine Oaeeaaaa (R.fsk e he) ?_; intro x1 L o hf h1 h2 h3 h4; have nd : L ≠ d := fun q => d5 e he (q ▸ hf); by_cases hL : L = env.locals
   · subst hL
     refine Oeeeaa F'.ns ?_; intro o' es ep ho' hd' U; exact Iaeeaaaae x1 _ o' hf h1 ((Zay _ _ nd).trans h2) ho' _ (Ie _ hd')
   · exact Iaeeaaaa x1 L o hf h1 ((Zay _ _ nd).trans h2) (k _ _ hL nd h3) h4
 · refine (Iea m F'.ns (fun y hy => ?_))
   refine (?_ : σ.loc y = _); rw [hm₁ y hy]; refine Oeeeaaa hn₁ ?_; clear hn₁; intro o1 es1 ep1 ho1 hd1 U hf1; refine Oeeeaaa F.ns ?_; intro o2 es2 ep2 ho2 hd2 U hf2; rw [ho1] at ho2; cases ho2; rw [hd1] at hd2; cases hd2; rw [← hf1 y, ← hf2 y]
 · intro y kk hy hc
   refine Oeeaaaa (R.cel y kk hy hc) ?_; intro ca u h1 z_1 h3 h4 h5; (refine Oea z_1 ?_; clear z_1; intro oc hoc hdc); have nd : ca ≠ d := fun q => d6 y kk hy hc (q ▸ h1); exact Ieeaaaa ca u h1 (Iea oc (k _ _ h5 nd hoc) hdc) h3 ((Zay _ _ nd).trans h4) h5
theorem Rel.newsAt (R : Rel prog w h₀ os₀ fs hfr hid env wr σ s) {o : Obj} (hd : σ.H d = some ao) (ho : s.heap.get? d = some o) :
   News h₀ env.locals s.heap ([] ++ (d, o) :: allBut h₀ s.heap [env.locals, d]) := fun p hp => by
 refine Oaaaa (R.offOf hd) ?_; intro d1 U U d4 U
 rcases List.mem_cons.mp hp with rfl | hp
 · exact ⟨ho, d4, d1⟩
 · exact R.news [d] p hp
theorem Zi0 {h : Heap} {L : List Addr} (hd : d ∈ L) : ∀ p ∈ allBut h₀ h L, p.1 ≠ d := fun p hp q => by
 refine Oaa (Zck.mp hp) ?_; intro h1 U U
 exact h1 (q ▸ hd)
end
structure Cx where
 prog : Program
 w : World
 h₀ : Heap
 os₀ : OsState
 fs : List Env
 hfr : List (Addr × Obj)
 hid : List (Addr × Obj)
 env : Env
 wr : List Str
 lv : Nat
abbrev Cx.R (c : Cx) (σ : St) (s : Shared) : Prop := Rel c.prog c.w c.h₀ c.os₀ c.fs c.hfr c.hid c.env c.wr σ s
abbrev Cx.M (c : Cx) : Model := model c.prog c.w
noncomputable def Cx.off (c : Cx) (σ : St) (e : Addr) : Prop :=
 c.h₀.get? e = none ∧ σ.H e = none ∧ e ∉ c.hid.map (·.1) ∧ e ∉ c.hfr.map (·.1) ∧ e ≠ c.env.locals ∧ (∀ f ∈ c.fs, f.frame ≠ some e) ∧
   ∀ x k, c.env.kindOf x = some k → (k = .cell ∨ k = .free) → c.env.cells.lookup x ≠ some e
noncomputable def Flies (c : Cx) (σ : St) (h : Heap) (e : Addr) (k : String) (virgin : Prop) : Prop :=
 c.off σ e ∧ ∃ oe vs, h.get? e = some oe ∧ oe.cls = .type k ∧ oe.data = .fields vs ∧ 2 < vs.size ∧ (virgin → vs[2]? = some .none) ∧
   (vs[1]? = some .none ∨ ∃ T oT ts fl, vs[1]? = some (.ref T) ∧ T ≠ e ∧ c.off σ T ∧ h.get? T = some oT ∧ oT.data = .fields ts ∧ ts[3]? = some fl ∧ (fl = .none ∨ ∃ f, c.env.frame = some f ∧ fl = rawInt f))
noncomputable def EX (c : Cx) (X : Exn → St → Prop) : Value → Shared → Prop := fun x s' => ∃ σ' k e, x = .ref e ∧ c.R σ' s' ∧ Flies c σ' s'.heap e k.cls (c.lv < 2 ∧ k.ch = false) ∧ X k σ'
noncomputable def OK (c : Cx) {α β : Type} (r : α → β) (Q : β → St → Prop) : α → Shared → Prop := fun a s' => ∃ σ', c.R σ' s' ∧ Q (r a) σ'
noncomputable def Calm (c : Cx) (X : Exn → St → Prop) : Prop := c.lv = 1 ∨ c.lv = 3 → ∀ k σ, ¬ X k σ
noncomputable def Sd (c : Cx) (A : Around) {α β : Type} (r : α → β) (t : Sem α) (m : AM β) : Prop :=
 ∀ (Q : β → St → Prop) (X : Exn → St → Prop) (σ : St) (s : Shared), Calm c X → c.R σ s → m Q X σ → wpAny c.M A t (OK c r Q) (EX c X) s
section
variable {c : Cx} {A : Around} {α β γ δ : Type} {r : α → β} {r' : γ → δ}
theorem Sd.bind {t : Sem α} {f : α → Sem γ} {m : AM β} {g : β → AM δ} (h1 : Sd c A r t m) (h2 : ∀ a, Sd c A r' (f a) (g (r a))) : Sd c A r' (t >>= f) (bnd m g) := by
 intro Q X σ s C R hm
 exact wpAny_bind (wpAny_mono (h1 _ X σ s C R hm) (fun a s' z => Oea z fun σ' R' q => h2 a Q X σ' s' C R' q) fun U U h => h)
theorem Sd.pure {a : α} {b : β} (e : r a = b) : Sd c A r (pure a) (ret b) := fun Q X σ s C R hm => wpAny_pure (Iea σ R (by rw [e]; exact hm))
theorem Sd.fail {t : Sem α} : Sd c A r t fail := fun U U U U U U hm => hm.elim
theorem Sd.holding {t : Sem α} {m : AM β} {vs : List Value} (h : Sd c A r t m) : Sd c A r (PySem.holding vs t) m := fun Q X σ s C R hm => wpAny_holding (h Q X σ s C R hm)
theorem Sd.standAt {t : Sem α} {m : AM β} (h : Sd c A r t m) : Sd c A r (PySem.standAt pos >>= fun U => t) m := fun Q X σ s C R hm => wpAny_bind (wpAny_standAt (h Q X σ s C R hm))
theorem Sd.rule {t : Sem α} {m : AM β} {tag : String} (h : Sd c A r t m) : Sd c A r (PySem.rule tag >>= fun U => t) m := fun Q X σ s C R hm => wpAny_bind (wpAny_rule (h Q X σ s C R hm))
theorem Sd.operate {vs : List Value} {t : Sem Value} {r : Value → β} {m : AM β} (h : Sd c A r t m) : Sd c A r (PySem.operate vs t) m := fun Q X σ s C R hm => by
 intro Γ p hΓ
 rw [Sem.wp_operate]
 exact h Q X σ s C R hm Γ p hΓ
theorem Sd.ite {t u : Sem α} {m n : AM β} {b : Bool} (h1 : Sd c A r t m) (h2 : Sd c A r u n) : Sd c A r (if b then t else u) (if b then m else n) := by cases b <;> assumption
theorem Sd.of_eq {t t' : Sem α} {m : AM β} (e : t = t') (h : Sd c A r t' m) : Sd c A r t m := e ▸ h
end
structure Fit (c : Cx) (n : Nat) (g : SE) (A : Around) : Prop where
 frames : A.frames = some c.fs
 depth : A.depth + 4 * n < 600
 units : A.units + 30 * n + 60 < cLine
 lv : c.lv = g.lv
 le : g.lv ≤ 3
 calm : g.lv < 2 → A.handled = none
 held : g.lv = 2 → ∃ hx ox vs, A.handled = some (.ref hx) ∧ (hx, ox) ∈ c.hid ∧ ox.data = .fields vs ∧ vs[2]? = some .none
 sc : c.env.scope = g.sc
 kind : g.sc.kind = .function
 glob : c.env.globals = mainGlobals
 blt : c.env.builtins = builtinsNs
 wr : c.wr = g.wr
 fr : ∃ L, c.env.frame = some L
 nm : (g.sc.names.all fun p => p.1 != ("__debug__" : Str) && p.1 != ("__classdict__" : Str)) = true
 top : g.lv ≠ 1 → ∃ outer, c.fs = c.env :: outer ∧ c.env.frame = some c.env.locals
theorem Fit.kindOf (F : Fit c n g A) (x : Str) : c.env.kindOf x = g.kind x := by
 delta Env.kindOf SE.kind; rw [F.sc]
structure Stat (K : Frag) : Prop where
 inst : ∀ C, clsD C = true → ∀ nm ∈ instNames.map Str.ofString, plainGet K C nm = true ∧ hasDictIn K C = true ∧ findIn K (.ref C) nm = some none ∧ takerIn K C nm = some none
 setat : ∀ C, C = 79 ∨ C = 199 ∨ C = 102 → findIn K (.ref C) "__setattr__" = some (some (.builtin "object.__setattr__")) ∧ plainOver K C = true
 meth : ∀ C nm f, meth C nm = some f → plainGet K C nm = true ∧ findIn K (.ref C) nm = some (some (.ref f)) ∧ isFn K (.ref f) = true ∧ hasDictIn K C = true ∧ specialIn K (.ref f) "__get__" = some (some (.builtin "function.__get__")) ∧ takesIn K (.ref f) = some false ∧ copiedNames.contains nm = false
 node : ∀ nm i, slotIx nm = some i → plainGet K 102 nm = true ∧ isClsIn K 102 = true ∧ i < 1000 ∧ ∃ p, findIn K (.ref 102) nm = some (some (.ref p)) ∧ specialIn K (.ref p) "__get__" = some (some (.builtin "member_descriptor.__get__")) ∧
   takesIn K (.ref p) = some true ∧ slotIn K p 102 = some i ∧ takerIn K 102 nm = some (some (.ref p)) ∧ typeIn K (.ref p) = some (.type "member_descriptor")
 make : ∀ C f, initOf C = some f → makesIn K C = true ∧ findIn K (.ref C) "__init__" = some (some (.ref f)) ∧ isFn K (.ref f) = true ∧ keepIn K (.ref C) = true
 glob : ∀ x a, glob x = some (.ref a) → initOf a = none → isFn K (.ref a) = true
structure Base (prog : Program) (w : World) (h₀ : Heap) (P : Par) : Prop where
 top : ∃ mg mb, h₀.Ns mainGlobals mg ∧ h₀.Ns builtinsNs mb ∧ (∀ x v, glob x = some v → ∃ u, er u = v ∧ (mg x = some u ∨ (mg x = none ∧ mb x = some u))) ∧
   (∀ x : Str, x ≠ "__name__" → mb x = bootBuiltins x) ∧ (∀ x : Str, x ∈ ([("IndexError" : Str), ("StopIteration" : Str), ("ValueError" : Str)] : List Str) → mg x = none)
 lim : h₀.NoLimit
 k : ∃ K : Frag, K.In h₀ ∧ Stat K
 sys : ∃ o, h₀.get? sysModules = some o
 fns : ∀ a, h₀.get? a = none → initOf a = none ∧ isFnA a = false
 scr : ∃ vs, h₀.IsList P.scr vs.toArray ∧ IntsAre vs P.ns ∧ P.ns.length ≤ 4000
section
variable {c : Cx} {A : Around} {n : Nat} {g : SE} {P : Par}
theorem Zfk (h : isVar g x = true) : g.kind x = some .local ∨ g.kind x = some .cell ∨ g.kind x = some .free := by
 delta isVar at h
 generalize g.kind x = o at h ⊢
 cases o with
 | none => exact Zai h
 | some k =>
   cases k with
   | «local» => exact .inl rfl
   | cell => exact .inr (.inl rfl)
   | free => exact .inr (.inr rfl)
   | _ => exact Zai h
theorem Za1 {x : Str} {k : NameKind} : ∀ {l : List (Str × NameKind)}, l.lookup x = some k → (x, k) ∈ l
 | (y, k') :: l, h => by
   rw [List.lookup_cons] at h
   split at h
   · rename_i e; cases h; rw [beq_iff_eq.mp e]; exact .head _
   · exact .tail _ (Za1 h)
theorem Fit.plain (F : Fit c n g A) {k : NameKind} (h : g.kind x = some k) : (x == ("__debug__" : Str)) = false ∧ (x == ("__classdict__" : Str)) = false := by
 have := List.all_eq_true.mp F.nm _ (Za1 h)
 simpa [bne] using this
theorem Zmw (B : Base c.prog c.w c.h₀ P) (F : Fit c n g A) (x : Str) : Sd c A er (loadName c.env x) (rdN g x) := by
 intro Q X σ s C R hm
 have hk : c.env.scope.kind = .function := by rw [F.sc]; exact F.kind
 delta rdN at hm
 split at hm
 · rename_i hv
   split at hm
   · rename_i v hl
     rcases Zfk hv with h | h | h
     · refine Oea R.loc ?_; intro m hn hmm
       have e := hmm x (by rw [F.kindOf]; exact h); rw [hl] at e; cases hmx : m x with
       | none => rw [hmx] at e; exact Zab (Eq.symm e)
       | some u =>
         rw [hmx] at e; cases e; exact wpAny_loadName_local hk (by rw [F.kindOf]; exact h) hn hmx (Iea σ R hm)
     · refine Oeeaaa (R.cel x _ (by rw [F.kindOf]; exact h) (.inl rfl)) ?_; intro ca u h1 h2 h3 U
       rw [hl] at h3; cases u with
       | none => exact Zab (Eq.symm h3)
       | some u => cases h3; exact wpAny_loadName_cell hk (by rw [F.kindOf]; exact h) h1 h2 (Iea σ R hm)
     · refine Oeeaaa (R.cel x _ (by rw [F.kindOf]; exact h) (.inr rfl)) ?_; intro ca u h1 h2 h3 U
       rw [hl] at h3; cases u with
       | none => exact Zab (Eq.symm h3)
       | some u => cases h3; exact wpAny_loadName_free hk (by rw [F.kindOf]; exact h) h1 h2 (Iea σ R hm) (F.plain h).2
   · cases hm
 · split at hm
   · rename_i hg
     split at hm
     · rename_i v hgl
       refine Oeeaaa B.top ?_; intro mg mb hmg hmb hglob U; refine Oea (hglob x v hgl) ?_; intro u e_1; obtain rfl := e_1; intro hu; have hkx : c.env.kindOf x = some .globalImplicit := by rw [F.kindOf]; exact beq_iff_eq.mp hg
       have e : loadName c.env x = loadGlobal c.env x := by
         delta loadName; simp only [Env.blockKind, hk, hkx, ScopeKind.isAnnotationScope, Bool.false_and, Bool.false_eq_true, if_false]
       rw [e]; have hmg' : s.heap.Ns c.env.globals mg := by rw [F.glob]; exact hmg.keeps R.base
       have hmb' : s.heap.Ns c.env.builtins mb := by rw [F.blt]; exact hmb.keeps R.base
       rcases hu with hu | ⟨hu1, hu2⟩
       · exact Calls.loadGlobal_global hmg' hu (Iea σ R hm)
       · exact Calls.loadGlobal_builtin hmg' hu1 hmb' hu2 (Iea σ R hm)
     · cases hm
   · cases hm
theorem Zc4 (B : Base c.prog c.w c.h₀ P) (F : Fit c n g A) (x : Str) (pos : Pos) : Sd c A er (eval (.Name x pos) c.env) (rdN g x) := by
 intro Q X σ s C R hm
 cases hd : x == ("__debug__" : Str) with
 | false => exact wpAny_Name (Zmw B F x Q X σ s C R hm) hd
 | true =>
   exfalso
   have hx := beq_iff_eq.mp hd; delta rdN at hm
   split at hm
   · rename_i hv
     rcases Zfk hv with h | h | h <;> (have := (F.plain h).1; rw [hd] at this; exact Zai (Eq.symm this))
   · split at hm
     · rename_i hg
       have := (F.plain (beq_iff_eq.mp hg)).1; rw [hd] at this; exact Zai (Eq.symm this)
     · cases hm
theorem Zdd (F : Fit c n g A) (x : Str) (v : Value) : Sd c A id (storeName c.env x v) (stN g x (er v)) := by
 intro Q X σ s C R hm
 refine Oa hm ?_; clear hm; intro hw hq
 have hk : c.env.scope.kind = .function := by rw [F.sc]; exact F.kind
 refine Oea R.loc ?_; intro m hn hmm
 rw [← F.wr] at hw
 rcases R.wrs x hw with hl | ⟨hl, hcc⟩
 · refine wpAny_storeName_local hl hn (fun h' hn' hs => (Iea _ ?_ hq)) (by rw [hk]; rfl)
   have k : ∀ b o, b ≠ c.env.locals → s.heap.get? b = some o → h'.get? b = some o := fun b o ne e => (hs.2 b ne).trans e; refine { base := ?_, objs := ?_, hidk := ?_, hfrk := ?_, fsk := ?_, loc := ?_, cel := ?_, hfd := R.hfd, lnew := R.lnew, wrs := R.wrs, gens := R.gens, os := R.os, tok := Nat.succ_pos _ }
   · exact fun b o e => k b o (by rintro rfl; rw [R.lfresh] at e; exact Zab e) (R.base b o e)
   · intro b bo e
     refine Oaea (R.objs b bo e) ?_; intro x1 o ho r; exact Iaea x1 o (k b o (by rintro rfl; have := R.lnew.2.1; rw [show σ.H c.env.locals = some bo from e] at this; exact Zab (Eq.symm this)) ho) r
   · intro p hp
     refine Oaa (R.hidk p hp) ?_; intro x1 x2 x3; exact ⟨x1, x2, k _ _ (fun q => R.lnew.2.2.1 (q ▸ List.mem_map_of_mem hp)) x3⟩
   · intro p hp
     refine Oaae (R.hfrk p hp) ?_; intro x1 x2 sl x3; exact Iaae x1 x2 sl (k _ _ (fun q => R.lnew.2.2.2 (q ▸ List.mem_map_of_mem hp)) x3)
   · intro e he
     refine Oaeeaaaa (R.fsk e he) ?_; intro x1 L o hf h1 h2 h3 h4; by_cases hL : L = c.env.locals
     · subst hL
       refine Oeeeaa hn' ?_; clear hn'; intro o' es ep ho' hd' U; exact Iaeeaaaae x1 _ o' hf h1 h2 ho' _ (Ie _ hd')
     · exact Iaeeaaaa x1 L o hf h1 h2 (k _ _ hL h3) h4
   · refine (Iea _ hn' (fun y hy => ?_))
     by_cases e : y = x
     · subst e; simp [setL]
     · rw [show (St.mk (setL σ.loc x (er v)) σ.H).loc y = σ.loc y from Zdp _ _ e, if_neg e]; exact hmm y hy
   · intro y kk hy hc
     refine Oeeaaaa (R.cel y kk hy hc) ?_; intro ca u h1 h2 h3 h4 h5; refine (Ieeaaaa ca u h1 (IsCell.keepBut h2 k h5) ?_ h4 h5); have ne : y ≠ x := by rintro rfl; rw [hl] at hy; cases hy; rcases hc with h | h <;> cases h
     exact (Zdp _ _ ne).trans h3
 · refine Oeeaaaa (R.cel x _ hl (.inl rfl)) ?_; intro ca u h1 h2 h3 h4 h5
   refine Oaaa (hcc ca h1) ?_; intro g1 g2 g3 g4; refine wpAny_storeName_cell hk hl h1 h2 fun h' hv hs => (Iea _ ?_ hq); have k : ∀ b o, b ≠ ca → s.heap.get? b = some o → h'.get? b = some o := fun b o ne e => (hs.2 b ne).trans e; refine { base := ?_, objs := ?_, hidk := ?_, hfrk := ?_, fsk := ?_, loc := ?_, cel := ?_, hfd := R.hfd, lnew := R.lnew, wrs := R.wrs, gens := R.gens, os := R.os, tok := R.tok }
   · exact fun b o e => k b o (by rintro rfl; rw [g1] at e; exact Zab e) (R.base b o e)
   · intro b bo e
     refine Oaea (R.objs b bo e) ?_; intro x1 o ho r; exact Iaea x1 o (k b o (by rintro rfl; rw [show σ.H b = some bo from e] at h4; exact Zab (Eq.symm h4)) ho) r
   · intro p hp
     refine Oaa (R.hidk p hp) ?_; intro x1 x2 x3; exact ⟨x1, x2, k _ _ (fun q => g2 (q ▸ List.mem_map_of_mem hp)) x3⟩
   · intro p hp
     refine Oaae (R.hfrk p hp) ?_; intro x1 x2 sl x3; exact Iaae x1 x2 sl (k _ _ (fun q => g3 (q ▸ List.mem_map_of_mem hp)) x3)
   · intro e he
     refine Oaeeaaaa (R.fsk e he) ?_; intro x1 L o hf h1' h2' h3' h4'; by_cases hL : L = ca
     · subst hL
       refine Oea h2 ?_; clear h2; intro oc hoc hdc; rw [hoc] at h3'; cases h3'; refine Oee h4' ?_; clear h4'; intro U U hdd; rw [hdc] at hdd; cases hdd
     · exact Iaeeaaaa x1 L o hf h1' h2' (k _ _ hL h3') h4'
   · refine (Iea m (Oeeea (hn) fun o es ep ho r => (Ieeea o es ep (k _ _ (Ne.symm h5) ho) r)) (fun y hy => ?_))
     have ne : y ≠ x := by rintro rfl; rw [hl] at hy; cases hy
     exact (Zdp _ _ ne).trans (hmm y hy)
   · intro y kk hy hc
     by_cases e : y = x
     · subst e; exact Ieeaaaa ca (some v) h1 hv (by simp [setL]) h4 h5
     · refine Oeeaaaa (R.cel y kk hy hc) ?_; intro cy uy e1 e2 e3 e4 e5
       exact Ieeaaaa cy uy e1 (IsCell.keepBut e2 k (fun q => g4 y e (q ▸ e1))) ((Zdp _ _ e).trans e3) e4 e5
theorem Zjk (F : Fit c n g A) (x : Str) (v : Value) : Sd c A id (bindName c.env x v) (stN g x (er v)) := fun Q X σ s C R hm => wpAny_bindName (Zdd F x v Q X σ s C R hm)
end
section
variable {c : Cx} {A : Around} {n : Nat} {g : SE} {P : Par}
theorem Zpf (k : PySem.Const) : Sd c A er (constValue c.env k) (evConst k) := by
 intro Q X σ s C R hm
 cases k with
 | none => exact wpAny_pure (Iea σ R hm)
 | bool b => exact wpAny_pure (Iea σ R hm)
 | int i => exact wpAny_mkInt (Iea σ (R.tk (Nat.succ_pos _)) hm)
 | str x => exact wpAny_mkText (Iea σ (R.tk (Nat.succ_pos _)) hm)
 | _ => exact hm.elim
theorem slim : sizeLine = 16777216 := by decide +kernel
theorem Zcg (e : vs.toList.map er = xs) : vs.size = xs.length := by rw [← e]; simp
theorem notBlt (R : c.R σ s) (h : σ.H a = some ao) (hsys : ∃ o, c.h₀.get? sysModules = some o) : (a == sysModules) = false := by
 refine Oe hsys ?_; clear hsys; intro o ho
 rw [beq_eq_false_iff_ne]
 rintro rfl
 rw [(R.objs _ _ h).1] at ho; exact Zab ho
theorem Rel.list (R : c.R σ s) (h : σ.H a = some (.list xs)) : ∃ vs n, s.heap.get? a = some { cls := .type "list", data := .seq vs n } ∧ vs.toList.map er = xs ∧ xs.length ≤ lim := by
 obtain ⟨_, o, ho, vs, n, rfl, e⟩ := R.objs a _ h; exact Ieea vs n ho e
theorem Rel.tup (R : c.R σ s) (h : σ.H a = some (.tup xs)) : ∃ vs n, s.heap.get? a = some { cls := .type "tuple", data := .seq vs n } ∧ vs.toList.map er = xs ∧ xs.length ≤ lim := by
 obtain ⟨_, o, ho, vs, n, rfl, e⟩ := R.objs a _ h; exact Ieea vs n ho e
theorem Rel.dict (R : c.R σ s) (h : σ.H a = some (.dict es ep)) : ∃ kvs, s.heap.DictAt (strKind c.prog c.w) a kvs ep ∧ kvs.map (fun p => (p.1, er p.2)) = es ∧ es.length ≤ lim := by
 (refine Oaeaeeaaaa (R.objs a _ h) ?_; intro U o ho ds kvs h1 h2 h3 h4 z_1; (refine Oa z_1 ?_; clear z_1; intro h5 e)); exact Iea kvs ⟨o, ds, ho, h1, h2, h3, h4, h5⟩ e
theorem Zaj {h : Heap} {vs n} (e : h.get? a = some { cls := .type "list", data := .seq vs n }) : h.IsList a vs := (Ieaae _ e rfl n rfl)
theorem Zb6 {h : Heap} {vs n} (e : h.get? a = some { cls := .type "tuple", data := .seq vs n }) : IsTup h a vs := (Ieaae _ e rfl n rfl)
theorem Zeb : lim = 4000 := rfl
theorem Rel.dict2 (R : c.R σ s) (h : σ.H a = some (.dict es ep)) : ∃ kvs, s.heap.DictOf (strKind c.prog c.w) a kvs ∧ kvs.map (fun p => (p.1, er p.2)) = es ∧ es.length ≤ lim :=
 Oea (R.dict h) fun kvs h1 h2 => (Iea kvs h1.dictOf h2)
theorem Zq4 {v : Value} {f : Addr → Prop} (h : vR (er v) f) : ∃ a, v = .ref a ∧ f a := by
 cases v with
 | ref a => exact Iea a rfl h
 | _ => exact h.elim
theorem Zt4 {v : Value} {f : Str → Prop} (h : vS (er v) f) : ∃ x t, v = .str x t ∧ f x := by
 cases v with
 | str x t => exact Ieea x t rfl h
 | _ => exact h.elim
theorem Zmk {v : Value} {f : Int → Prop} (h : vI (er v) f) : ∃ x t, v = .int x t ∧ f x := by
 cases v with
 | int x t => exact Ieea x t rfl h
 | _ => exact h.elim
@[elab_as_elim] theorem vR_el {v : Value} {f : Addr → Prop} {C : Value → Prop} (h : vR (er v) f) (k : ∀ a, f a → C (.ref a)) : C v := by
 cases v with
 | ref a => exact k a h
 | _ => exact h.elim
@[elab_as_elim] theorem vS_el {v : Value} {f : Str → Prop} {C : Value → Prop} (h : vS (er v) f) (k : ∀ x t, f x → C (.str x t)) : C v := by
 cases v with
 | str x t => exact k x t h
 | _ => exact h.elim
@[elab_as_elim] theorem vI_el {v : Value} {f : Int → Prop} {C : Value → Prop} (h : vI (er v) f) (k : ∀ x t, f x → C (.int x t)) : C v := by
 cases v with
 | int x t => exact k x t h
 | _ => exact h.elim
theorem Zt3 {v : Value} {f : String → Prop} (h : vT (er v) f) : ∃ x, v = .type x ∧ f x := by
 cases v with
 | type x => exact Iea x rfl h
 | _ => exact h.elim
theorem Zf4 {v : Value} {f : Prop} (h : vN (er v) f) : v = .none ∧ f := by
 cases v with
 | none => exact ⟨rfl, h⟩
 | _ => exact h.elim
theorem Zgz (B : Base c.prog c.w c.h₀ P) (v : Value) : Sd c A id (truthy v) (truth (er v)) := by
 intro Q X σ s C R hm
 cases v with
 | none => exact wpAny_pure (Iea σ R hm)
 | bool b => exact wpAny_pure (Iea σ R hm)
 | int i t => exact PySem.P.truthy_int (Iea σ R hm)
 | str x t =>
   refine Oa hm ?_; clear hm; intro hl hm; rw [Zeb] at hl; refine PySem.P.truthy_str (by exact q0 hl) (Iea σ (R.tk (Nat.succ_pos _)) ?_); have e : ((x.length : Int) != 0) = (x.length != 0) := by
     generalize x.length = k; cases k with
     | zero => rfl
     | succ k => rw [show ((k + 1 : Nat) != 0) = true from rfl]; simp only [bne_iff_ne, ne_eq]; exact q1
   refine (?_ : Q ((x.length : Int) != 0) σ); rw [e]; exact hm
 | ref a =>
   delta truth at hm; dsimp only [er] at hm; generalize h : σ.H a = o at hm; cases o with
   | none => exact hm.elim
   | some o =>
     cases o with
     | list xs =>
       refine Oeeaa (R.list h) ?_; intro vs k ho e hl; have hsz := Zcg e; refine wpAny_truthy_list (Zaj ho) (by rw [hsz]; rw [Zeb] at hl; exact q2 hl hsz) (Iea σ (R.tk (Nat.succ_pos _)) ?_); have e2 : (!vs.isEmpty) = !xs.isEmpty := by rw [← e]; rcases vs with ⟨l⟩; cases l <;> rfl
       refine (?_ : Q (!vs.isEmpty) σ); rw [e2]; exact hm
     | tup xs =>
       refine Oeeaa (R.tup h) ?_; intro vs k ho e hl; have hsz := Zcg e; refine truthy_tuple (Zb6 ho) (by rw [hsz]; rw [Zeb] at hl; exact q2 hl hsz) (Iea σ (R.tk (Nat.succ_pos _)) ?_); have e2 : (!vs.isEmpty) = !xs.isEmpty := by rw [← e]; rcases vs with ⟨l⟩; cases l <;> rfl
       first
         | (refine (?_ : Q (!vs.isEmpty) σ); rw [e2]; exact hm)
         | skip
     | dict es ep =>
       refine Oeaa (R.dict2 h) ?_; intro kvs hd e hl; refine wpAny_truthy_dict (notBlt R h B.sys) hd (by rw [← e] at hl; simp only [List.length_map] at hl; rw [Zeb] at hl; exact q3 hl) (Iea σ (R.tk (Nat.succ_pos _)) ?_); have e2 : (!kvs.isEmpty) = !es.isEmpty := by rw [← e]; cases kvs <;> rfl
       refine (?_ : Q (!kvs.isEmpty) σ); rw [e2]; exact hm
     | _ => exact hm.elim
 | _ => exact hm.elim
theorem Zsk (e : vs.toList.map er = xs) (hl : xs.length ≤ lim) : OR prog w (.list xs) { cls := .type "list", data := .seq vs n } := (Ieeaa _ _ rfl e hl)
theorem Zp6 {x y : Int} (h : 0 < y) : x.fdiv y = x / y := by
 rw [Int.fdiv_eq_ediv]; simp [Int.le_of_lt h]
theorem Zp1 {x y : Int} (h : 0 < y) : x.fmod y = x % y := by
 rw [Int.fmod_eq_emod]; simp [Int.le_of_lt h]
theorem Zja {t : Tok} {Q : Value → Shared → Prop} (hl : x.length + y.length ≤ lim) (h : ∀ t' tk, 0 < tk → Q (.str (x ++ y) t') { s with toks := tk }) (tp : 0 < s.toks) :
   (if x.length == 0 then Made.val (.str y u) else if y.length == 0 then Made.val (.str x t) else Made.str (x ++ y)).post Q s := by
 have e0 : ∀ z : Str, z.length = 0 → z = Str.empty := fun z hz => by
   rcases z with ⟨cps⟩
   have : cps.size = 0 := hz; rw [show cps = #[] from Array.eq_empty_of_size_eq_zero this]; rfl
 by_cases hx : x.length = 0
 · rw [if_pos (by simp [hx])]
   have := h u s.toks tp; rw [e0 x hx, Str.empty_append] at this; exact this
 · rw [if_neg (by simp [hx])]
   by_cases hy : y.length = 0
   · rw [if_pos (by simp [hy])]
     have := h t s.toks tp; rw [e0 y hy, show x ++ Str.empty = x from by rcases x with ⟨c⟩; refine (?_ : Str.mk (c ++ #[]) = _); simp] at this; exact this
   · rw [if_neg (by simp [hy])]
     refine ⟨?_, h _ _ (Nat.succ_pos _)⟩; rw [slim, Str.length_append]; rw [Zeb] at hl; exact q4 hl
theorem Zue (B : Base c.prog c.w c.h₀ P) (op : Operator) (a b : Value) : Sd c A er (binaryOp op a b) (binD P op (er a) (er b)) := by
 intro Q X σ s C R hm
 cases op with
 | Add =>
   cases a with
   | int x t =>
     refine vI_el hm ?_; clear hm; intro y u hm; exact PySem.P.add_int (Iea σ (R.tk (Nat.succ_pos _)) hm)
   | str x t =>
     refine vS_el hm ?_; clear hm; intro y u hm; refine Oa hm ?_; clear hm; intro hl hm; exact PySem.P.add_str (Zja hl (fun t' tk tp => (Iea σ (R.grow (h' := s.heap) (fun U U e => e) tp) hm)) R.tok)
   | ref l =>
     refine vR_el hm ?_; clear hm; intro m hm; replace hm := Za9 hm; (refine Oea hm ?_; clear hm; intro xs h1 hm); replace hm := Za9 hm; (refine Oeaa hm ?_; clear hm; intro ys h2 hl hm); refine Oeeaa (R.list h1) ?_; intro vs n1 ho1 f1 U; refine Oeeaa (R.list h2) ?_; intro ws n2 ho2 f2 U; refine Oe R.fr ?_; intro mm F; have s1 := Zcg f1; have s2 := Zcg f2; refine add_arrays F (R.news []) (Zaj ho1) (Zaj ho2) (fun h' F' N' => ?_) (by rw [slim, s1, s2]; rw [Zeb] at hl; exact q5 hl s1 s2); exact Iea _ (R.backMake F F' N' (Zae _) (Zsk (xs := xs ++ ys) (by simp [f1, f2]) (by simpa using hl)) R.tok) (hm _ (R.H_none (Zae _)))
   | _ => exact hm.elim
 | Sub =>
   refine vI_el hm ?_; clear hm; intro x t hm; refine vI_el hm ?_; clear hm; intro y u hm; exact PySem.P.sub_int (Iea σ (R.tk (Nat.succ_pos _)) hm)
 | FloorDiv =>
   refine vI_el hm ?_; clear hm; intro x t hm; refine vI_el hm ?_; clear hm; intro y u hm; refine Oaa hm ?_; clear hm; intro h0 h1 hm; refine floordiv_int (by exact q6 h0 h1) (Iea σ (R.tk (Nat.succ_pos _)) ?_) (.inl (PyProof.noPylong_small (by omega))); rw [Zp6 h0]; exact hm
 | Mod =>
   refine vI_el hm ?_; clear hm; intro x t hm; refine vI_el hm ?_; clear hm; intro y u hm; refine Oaa hm ?_; clear hm; intro h0 h1 hm; refine mod_int' (by exact q6 h0 h1) (Iea σ (R.tk (Nat.succ_pos _)) ?_); rw [Zp1 h0]; exact hm
 | Pow =>
   refine vI_el hm ?_; clear hm; intro x t hm; replace hm := Zmk hm; (refine Oeeaaaa hm ?_; clear hm; intro y u e_1; obtain rfl := e_1; intro e_2; obtain rfl := e_2; intro h0 h1 hm); exact pow_int_small h0 (by exact Int.le_of_lt (Int.lt_trans h1 (by decide))) (by decide) (Iea σ (R.tk (Nat.succ_pos _)) hm)
 | _ => exact hm.elim
end
section
variable {c : Cx} {A : Around} {n : Nat} {g : SE} {P : Par}
open PySem.SeqAt
theorem Zhk {f : AV → AV → Option Bool} (xs : List AV) : ∀ {ys : List AV} {r : Bool}, deqs f xs ys = some r → xs.length = ys.length ∧
   ∃ e : Nat → Bool, (∀ j (h1 : j < xs.length) (h2 : j < ys.length), f xs[j] ys[j] = some (e j)) ∧ r = (List.range xs.length).all e := by
 induction xs with
 | nil =>
   intro ys r h; cases ys with
   | nil => cases h; exact Iaea rfl (fun U => true) (fun j h1 => absurd h1 (Nat.not_lt_zero _)) rfl
   | cons y ys => exact Zab h
 | cons x xs ih =>
   intro ys r h; cases ys with
   | nil => exact Zab h
   | cons y ys =>
     refine Oea (Option.bind_eq_some_iff.mp h) ?_; intro a h1 h2; refine Oea (Option.map_eq_some_iff.mp h2) ?_; intro b h3 e_1; obtain rfl := e_1; refine Oaea (ih h3) ?_; intro hl e he e_1; obtain rfl := e_1; refine (Iaea (congrArg (· + 1) hl) (fun j => if j = 0 then a else e (j - 1)) (fun j g1 g2 => ?_) ?_)
     · cases j with
       | zero => exact h1
       | succ j => exact he j (Nat.lt_of_succ_lt_succ g1) (Nat.lt_of_succ_lt_succ g2)
     · rw [List.length_cons, List.range_succ_eq_map, List.all_cons, List.all_map]; rfl
theorem Zkw {f : AV → AV → Option Bool} {x y : Addr} {r : Bool} (h : deqR H f x y = some r) :
   (∃ xs ys, H x = some (.list xs) ∧ H y = some (.list ys) ∧ xs.length = ys.length ∧ deqs f xs ys = some r) ∨
   (∃ xs ys, H x = some (.list xs) ∧ H y = some (.list ys) ∧ xs.length ≠ ys.length ∧ r = false) ∨
   ∃ xs ys, H x = some (.tup xs) ∧ H y = some (.tup ys) ∧ xs.length = ys.length ∧ deqs f xs ys = some r := by
 delta deqR at h
 split at h
 · rename_i xs hx
   split at h
   · rename_i ys hy
     by_cases hl : xs.length = ys.length
     · rw [if_pos hl] at h; exact .inl (Ieeaaa xs ys hx hy hl h)
     · rw [if_neg hl] at h; cases h; exact .inr (.inl (Ieeaaa xs ys hx hy hl rfl))
   · exact Zab h
 · rename_i xs hx
   split at h
   · rename_i ys hy
     by_cases hl : xs.length = ys.length
     · rw [if_pos hl] at h; exact .inr (.inr (Ieeaaa xs ys hx hy hl h))
     · rw [if_neg hl] at h; exact Zab h
   · exact Zab h
 · exact Zab h
theorem Zn8 {f : AV → AV → Option Bool} (hf : ∀ v r, f v v = some r → r = true) {x : Addr} {r : Bool} (h : deqR H f x x = some r) : r = true := by
 have go : ∀ {xs ys : List AV}, xs = ys → deqs f xs ys = some r → r = true := fun e h => by
   subst e; refine Oaea (Zhk _ h) ?_; intro U e he e_1; obtain rfl := e_1; exact List.all_eq_true.mpr fun j hj => hf _ _ (he j (List.mem_range.mp hj) (List.mem_range.mp hj))
 rcases Zkw h with ⟨xs, ys, h1, h2, h3⟩ | ⟨xs, ys, h1, h2, h3, _⟩ | ⟨xs, ys, h1, h2, h3⟩
 · exact go (by rw [h1] at h2; cases h2; rfl) h3.2
 · rw [h1] at h2; cases h2; exact (h3 rfl).elim
 · exact go (by rw [h1] at h2; cases h2; rfl) h3.2
theorem Zit {k : Addr → Addr → Option Bool} (hk : ∀ x r, k x x = some r → r = true) (v : AV) (r : Bool) (h : deq0 k v v = some r) : r = true := by
 cases v with
 | none => cases h; rfl
 | bool b => cases h; exact beq_self_eq_true b
 | int b => cases h; exact beq_self_eq_true b
 | str b => cases h; exact beq_self_eq_true b
 | ref a => exact hk a r h
 | _ => exact Zab h
theorem Zqg (H : AH) (n : Nat) : ∀ v r, deq H n v v = some r → r = true := by
 induction n with
 | zero => exact Zit fun x r h => nomatch h
 | succ n ih => exact Zit fun x r h => Zn8 ih h
theorem Zs9 {k : Addr → Addr → Option Bool} {u v : Value} {r : Bool} {M : Value → Value → Bool → Prop} (h : deq0 k (er u) (er v) = some r) (hn : M .none .none true) (hb : ∀ x y, M (.bool x) (.bool y) (x == y))
   (hi : ∀ x t y u, M (.int x t) (.int y u) (x == y)) (hs : ∀ x t y u, M (.str x t) (.str y u) (x == y)) (hr : ∀ x y, k x y = some r → M (.ref x) (.ref y) r) : M u v r := by
 cases u with
 | none => cases v <;> first | exact Zab h | (cases h; exact hn)
 | bool x => cases v <;> first | exact Zab h | (cases h; exact hb _ _)
 | int x t => cases v <;> first | exact Zab h | (cases h; exact hi _ _ _ _)
 | str x t => cases v <;> first | exact Zab h | (cases h; exact hs _ _ _ _)
 | ref x => cases v <;> first | exact Zab h | exact hr _ _ h
 | _ => exact Zab h
theorem Zdf {h : Heap} {vs n} (e : h.get? a = some { cls := .type "tuple", data := .seq vs n }) : h.IsTuple a vs := (Ieaae _ e rfl n rfl)
noncomputable def Eqs (A : Around) (s : Shared) (u v : Value) (r : Bool) : Prop := EqAt A s u v r ∧ RcAt A s u v r ∧ RcNeAt A s u v (!r)
theorem Zrg {u v : Value} {r : Bool} {k : Addr → Addr → Option Bool} (h : deq0 k (er u) (er v) = some r) (hk : ∀ a b, k a b = some r → Eqs A s (.ref a) (.ref b) r) : Eqs A s u v r :=
 Zs9 (M := Eqs A s) h ⟨EqAt.same _, RcAt.none_none, RcNeAt.none_none⟩ (fun U U => ⟨EqAt.bool_bool _ _, RcAt.bool_bool _ _, RcNeAt.bool_bool _ _⟩)
   (fun U U U U => ⟨EqAt.int_int _ _ _ _, RcAt.int_int _ _ _ _, RcNeAt.int_int _ _ _ _⟩) (fun U U U U => ⟨EqAt.str_str _ _ _ _, RcAt.str_str _ _ _ _, RcNeAt.str_str _ _ _ _⟩) hk
theorem Zrc {f : AV → AV → Option Bool} (hf : ∀ u v r, f (er u) (er v) = some r → Eqs A s u v r) {ws : Array Value} {ys : List AV} (f1 : vs.toList.map er = xs) (f2 : ws.toList.map er = ys) {e : Nat → Bool}
   (he : ∀ j (h1 : j < xs.length) (h2 : j < ys.length), f xs[j] ys[j] = some (e j)) (j : Nat) (g1 : j < vs.size) (g2 : j < ws.size) : EqAt A s vs[j] ws[j] (e j) := by
 subst f1 f2
 refine (hf _ _ _ (Eq.trans ?_ (he j (by simpa using g1) (by simpa using g2)))).1
 rw [List.getElem_map, List.getElem_map]; rfl
theorem Zkv (R : c.R σ s) (n : Nat) : ∀ (A : Around) (u v : Value) (r : Bool), A.units + n < cLine → deq σ.H n (er u) (er v) = some r → Eqs A s u v r := by
 induction n with
 | zero => exact fun A u v r U h => Zrg h fun a b h => nomatch h
 | succ n ih =>
   intro A u v r hu h; refine Zrg h fun a b hk => ?_; have hu1 : A.in1.units + n < cLine := by simp only [Around.in1_units]; exact Nat.lt_of_le_of_lt (Nat.le_of_eq (Nat.succ_add_eq_add_succ _ _)) hu
   have hu2 : A.units < cLine := by exact Nat.lt_of_le_of_lt (Nat.le_add_right _ _) hu
   have key : RcAt A s (.ref a) (.ref b) r ∧ RcNeAt A s (.ref a) (.ref b) (!r) := by
     clear h; rcases Zkw hk with ⟨xs, ys, h1, h2, hl, h⟩ | ⟨xs, ys, h1, h2, hl, h⟩ | ⟨xs, ys, h1, h2, hl, h⟩
     · refine Oeeaa (R.list h1) ?_; intro vs k1 ho1 f1 U
       refine Oeeaa (R.list h2) ?_; intro ws k2 ho2 f2 U; refine Oaea (Zhk _ h) ?_; intro U e he e_1; obtain rfl := e_1; have hit := Zrc (fun u v r => ih A.in1 u v r hu1) f1 f2 he; have s1 := Zcg f1; rw [← s1] at hl ⊢; rw [← Zcg f2] at hl; exact ⟨RcAt.lists (Zaj ho1) (Zaj ho2) hl hu2 hit, RcNeAt.lists (Zaj ho1) (Zaj ho2) hl hu2 hit⟩
     · refine Oeeaa (R.list h1) ?_; intro vs k1 ho1 f1 U
       refine Oeeaa (R.list h2) ?_; intro ws k2 ho2 f2 U; subst h; rw [← Zcg f1, ← Zcg f2] at hl; have hs : (vs.size != ws.size) = true := bne_iff_ne.mpr hl; exact ⟨RcAt.lists_lengths (Zaj ho1) (Zaj ho2) hs hu2, RcNeAt.lists_lengths (Zaj ho1) (Zaj ho2) hs hu2⟩
     · refine Oeeaa (R.tup h1) ?_; intro vs k1 ho1 f1 U
       refine Oeeaa (R.tup h2) ?_; intro ws k2 ho2 f2 U; refine Oaea (Zhk _ h) ?_; intro U e he e_1; obtain rfl := e_1; have hit := Zrc (fun u v r => ih A.in1 u v r hu1) f1 f2 he; have q1 := RcAt.tuples (Zdf ho1) (Zdf ho2) hu2 hit; have q2 := RcNeAt.tuples (Zdf ho1) (Zdf ho2) hu2 hit; rw [show ((List.range (min vs.size ws.size)).all e && vs.size == ws.size) = (List.range xs.length).all e from by rw [Zcg f1, Zcg f2, ← hl]; simp] at q1 q2; exact ⟨q1, q2⟩
   refine ⟨?_, key⟩; by_cases hab : a = b
   · subst hab
     rw [Zqg σ.H (n + 1) (.ref a) r hk]; exact EqAt.same _
   · exact EqAt.of_refs hab key.1
theorem Zbe : ∀ {xs : List AV} {ys : List Str}, strsOf xs = some ys → xs = ys.map .str
 | [], ys, h => by simp only [strsOf, Option.some.injEq] at h; subst h; rfl
 | .str x :: xs, ys, h => by
   simp only [strsOf, Option.map_eq_some_iff] at h; refine Oea h ?_; clear h; intro zs hz e_1; obtain rfl := e_1; rw [Zbe hz]; rfl
 | .none :: _, _, h | .bool _ :: _, _, h | .int _ :: _, _, h | .ref _ :: _, _, h | .ty _ :: _, _, h | .bi _ :: _, _, h | .other :: _, _, h => by simp [strsOf] at h
theorem Zcj : ∀ {vs : List Value} {ys : List Str}, vs.map er = ys.map .str → StrsAre vs ys
 | [], [], _ => .nil
 | v :: vs, y :: ys, h => by
   simp only [List.map_cons, List.cons.injEq] at h; refine Oe (Zev h.1) ?_; intro t e_1; obtain rfl := e_1; exact .cons y t (Zcj h.2)
 | [], _ :: _, h => by simp at h
 | _ :: _, [], h => by simp at h
theorem Zex (ys : List Str) (x : Str) : (ys.any fun z => z == x) = ys.contains x := by
 rw [List.contains_eq_any_beq]; congr 1; funext z
 by_cases h : z = x
 · subst h; rfl
 · rw [beq_eq_false_iff_ne.mpr h, beq_eq_false_iff_ne.mpr (Ne.symm h)]
theorem Ztb (v : Value) (x : Bool) : (v == Value.bool x) = (AV.bool x == er v) := by
 cases v with
 | bool b => cases b <;> cases x <;> rfl
 | _ => (first | (rw [beq_eq_false_iff_ne.mpr (by simp), beq_eq_false_iff_ne.mpr (by intro q; cases q)]))
theorem Zde (x : Str) : lookA (kvs.map fun p => (p.1, er p.2)) x = (valueAt kvs x).map er := by
 delta lookA valueAt
 induction kvs with
 | nil => rfl
 | cons p r ih =>
   simp only [List.map_cons, List.find?_cons]; by_cases h : p.1 = x
   · simp [h]
   · simp only [h, decide_false]; exact ih
theorem Zls (B : Base c.prog c.w c.h₀ P) {tk : Tok} {r : Addr} {Q : AV → St → Prop} (R : c.R σ s) (hm : inD x (σ.H r) fun r => Q (.bool r) σ) :
   wpAny c.M A (compareOp .In (.str x tk) (.ref r)) (OK c er Q) (EX c X) s := by
 generalize h : σ.H r = o at hm
 cases o with
 | none => exact hm.elim
 | some o =>
 cases o with
 | list xs =>
   replace hm := Zdr hm; obtain ⟨ys, hy, hm⟩ := hm; obtain ⟨vs, k, ho, e, hl⟩ := R.list h; rw [Zbe hy] at e; refine in_list_strs (vs := vs.toList) (Zaj ho) (Zcj e) ?_; rw [Zex]; exact ⟨σ, R, hm⟩
 | dict es ep =>
   obtain ⟨kvs, hd, e, hl⟩ := R.dict2 h; refine wpAny_in_of (strKind_is c.prog c.w x tk) (notBlt R h B.sys) hd.mapOf ⟨σ, R.tk (Nat.succ_pos _), ?_⟩; have hm : Q (.bool (lookA es x).isSome) σ := hm; rw [← e, Zde, Option.isSome_map] at hm; exact hm
 | set S k it =>
   obtain ⟨_, o, ho, hs, hk⟩ := R.objs _ _ h; exact wpAny_inSet_of (strKind_is c.prog c.w x tk) rfl (hs.setOf ho hk.1) ⟨σ, R.tk (Nat.succ_pos _), hm⟩
 | _ => exact hm.elim
theorem Zjv {x : Bool} {r : Addr} {Q : AV → St → Prop} (R : c.R σ s) (h : σ.H r = some (.list xs)) (hb : allB xs = true) (hm : Q (.bool (xs.contains (.bool x))) σ) :
   wpAny c.M A (compareOp .In (.bool x) (.ref r)) (OK c er Q) (EX c X) s := by
 obtain ⟨vs, k, ho, e, hl⟩ := R.list h
 refine in_listAt (fun y => y == .bool x) (Zaj ho) (fun y hy => ?_) ⟨σ, R, ?_⟩
 · have q := List.all_eq_true.mp hb (er y) (by rw [← e]; exact List.mem_map_of_mem (by simpa using hy))
   cases y with
   | bool b =>
     rw [show (Value.bool b == Value.bool x) = (b == x) from by cases b <;> cases x <;> rfl]; exact EqAt.bool_bool b x
   | _ => exact nomatch q
 · have e4 : (vs.any fun y => y == .bool x) = xs.contains (.bool x) := by
     rw [← e]; rcases vs with ⟨l⟩
     simp only [List.any_toArray, List.contains_eq_any_beq, List.any_map]
     congr 1
     funext y
     exact Ztb y x
   refine (?_ : Q (.bool _) σ); rw [e4]; exact hm
theorem Zq5 (B : Base c.prog c.w c.h₀ P) (hu : A.units + 3 < cLine) (op : CmpOp) (a b : Value) : Sd c A er (compareOp op a b) (cmpD op (er a) (er b)) := by
 intro Q X σ s C R hm
 cases op with
 | Eq =>
   replace hm := Zcu hm; (refine Oea hm ?_; clear hm; intro r h hm); exact (Zkv R 3 A a b r hu h).2.1 _ _ _ _ (Iea σ R hm)
 | NotEq =>
   replace hm := Zcu hm; (refine Oea hm ?_; clear hm; intro r h hm); exact (Zkv R 3 A a b r hu h).2.2 _ _ _ _ (Iea σ R hm)
 | Lt =>
   cases a with
   | int x t => (refine vI_el hm ?_; clear hm; intro y u hm); exact PySem.P.lt_int (Iea σ R hm)
   | str x t => (refine vS_el hm ?_; clear hm; intro y u hm); exact PySem.P.lt_str (Iea σ R hm)
   | _ => exact hm.elim
 | Gt =>
   cases a with
   | int x t => (refine vI_el hm ?_; clear hm; intro y u hm); exact PySem.P.gt_int (Iea σ R hm)
   | str x t => (refine vS_el hm ?_; clear hm; intro y u hm); exact PySem.P.gt_str (Iea σ R hm)
   | _ => exact hm.elim
 | Is =>
   cases a with
   | type x =>
     replace hm := Zt3 hm; (refine Oea hm ?_; clear hm; intro y e_1; obtain rfl := e_1; intro hm); refine wpAny_bind (wpAny_pure (wpAny_pure (Iea σ R ?_))); have e : ((Value.type x == Value.type y) : Bool) = (x == y) := by
       by_cases h : x = y
       · subst h; simp
       · rw [beq_eq_false_iff_ne.mpr h]; simpa using h
     refine (?_ : Q (.bool (Value.type x == Value.type y)) σ); rw [e]; exact hm
   | none => replace hm := Zf4 hm; (refine Oa hm ?_; clear hm; intro e_1; obtain rfl := e_1; intro hm); exact is_none_none (Iea σ R hm)
   | ref r => replace hm := Zf4 hm; (refine Oa hm ?_; clear hm; intro e_1; obtain rfl := e_1; intro hm); exact is_none_ne (by simp) (Iea σ R hm)
   | str x t => replace hm := Zf4 hm; (refine Oa hm ?_; clear hm; intro e_1; obtain rfl := e_1; intro hm); exact is_none_ne (by simp) (Iea σ R hm)
   | _ => exact hm.elim
 | IsNot =>
   cases a with
   | none => replace hm := Zf4 hm; (refine Oa hm ?_; clear hm; intro e_1; obtain rfl := e_1; intro hm); exact isnot_none_none (Iea σ R hm)
   | ref r => replace hm := Zf4 hm; (refine Oa hm ?_; clear hm; intro e_1; obtain rfl := e_1; intro hm); exact isnot_none_ne (by simp) (Iea σ R hm)
   | _ => exact hm.elim
 | In =>
   cases a with
   | str x t =>
     cases b with
     | str y u => exact PySem.P.in_str (Iea σ R hm)
     | ref r => exact Zls B R hm
     | _ => exact hm.elim
   | bool x =>
     replace hm := Zq4 hm; obtain ⟨r, rfl, hm⟩ := hm; replace hm := Za9 hm; obtain ⟨xs, h, hb, hm⟩ := hm; exact Zjv R h hb hm
   | _ => exact hm.elim
 | NotIn =>
   refine vS_el hm ?_; clear hm; intro x t hm; refine vR_el hm ?_; clear hm; intro r hm; replace hm := Za9 hm; (refine Oea hm ?_; clear hm; intro xs h hm); replace hm := Zdr hm; (refine Oea hm ?_; clear hm; intro ys hy hm); refine Oeeaa (R.list h) ?_; intro vs k ho e hl; rw [Zbe hy] at e; refine notin_list_strs (vs := vs.toList) (Zaj ho) (Zcj e) ?_; rw [Zex]; exact Iea σ R hm
 | _ => exact hm.elim
end
section
variable {prog : Program} {w : World} {A : Around} {E : Value → Shared → Prop} {h : Heap} {g : Array GenState} {d : Drawn} {t : Nat} {os : OsState} {a l : Addr} {o : Obj} {i : Int}
theorem Zkr : Slot "list_iterator" "__getattribute__" "object.__getattribute__" :=
 .of (owner := "object") (n := "__getattribute__") (by rw [typeLookup_type, builtinLookup_eq_fast]; kernel_rfl) (by decide +kernel) (by decide +kernel) (by decide +kernel)
   (by first | exact .inl (by decide +kernel) | exact .inr (by decide +kernel)) (by rw [isSubtype_type]; kernel_rfl)
theorem Zdo : Slot "wrapper_descriptor" "__get__" "wrapper_descriptor.__get__" :=
 .of (owner := "wrapper_descriptor") (n := "__get__") (by rw [typeLookup_type, builtinLookup_eq_fast]; kernel_rfl) (by decide +kernel) (by decide +kernel) (by decide +kernel)
   (by first | exact .inl (by decide +kernel) | exact .inr (by decide +kernel)) (by rw [isSubtype_type]; kernel_rfl)
theorem Zin : entryFor table "wrapper_descriptor.__get__" = some Builtin.«wrapper_descriptor.__get__» := entryFor_of_tree (by kernel_rfl)
theorem Zj6 (a b c : Value) : argsOk "wrapper_descriptor.__get__" ⟨[a, b, c], []⟩ := by delta argsOk; kernel_rfl
theorem Zb5 : typeOf (.builtin "list_iterator.__next__") = pure (.type "wrapper_descriptor") := by kernel_rfl
theorem Zfx : (".".intercalate ("list_iterator.__next__".cutAt '.').dropLast) = "list_iterator" := by
 have e0 : "list_iterator.__next__".cutAt '.' = ["list_iterator", "__next__"] := by first | rfl | decide +kernel
 rw [e0]; decide +kernel
theorem Zgx : isSubtype (.type "list_iterator") (.type (".".intercalate ("list_iterator.__next__".cutAt '.').dropLast)) = pure true := by
 rw [Zfx, isSubtype_type]; kernel_rfl
theorem Zni : typeLookup (.type "wrapper_descriptor") "__set__" = pure none := by rw [typeLookup_type, builtinLookup_eq_fast]; kernel_rfl
theorem Zig : typeLookup (.type "wrapper_descriptor") "__delete__" = pure none := by rw [typeLookup_type, builtinLookup_eq_fast]; kernel_rfl
theorem Zt2 {R : Result → Shared → Prop} (hx : h.get? a = some o) (hc : o.cls = .type "list_iterator") (hq : ∀ h' b, h.get? b = none → (∀ b' o, h.get? b' = some o → h'.get? b' = some o) → (∃ o, h'.get? b = some o ∧ o.cls = .type "method-wrapper" ∧ o.data = .fields #[.builtin "list_iterator.__next__", .ref a]) → R (.ok (.ret (.ref b))) ⟨h', g, d, t, os⟩) :
   codeAny (model prog w) A (.call (.builtin "wrapper_descriptor.__get__") ⟨[.builtin "list_iterator.__next__", .ref a, .type "list_iterator"], []⟩) R ⟨h, g, d, t, os⟩ := by
 have hT : (⟨h, g, d, t, os⟩ : Shared).TypeIs (.ref a) "list_iterator" := (Iea _ hx hc)
 have hT5 : (⟨h, g, d, t, os⟩ : Shared).TypeIs (.builtin "list_iterator.__next__") "wrapper_descriptor" := Zb5
 refine codeAny_call_builtin Zdo.plain Zin (Zdo.check _ _ _ _ _ _ _ _ hT5 (Zj6 _ _ _) ?_)
 have f8 := Zgx
 repeat (any_goals (first | assumption | wp_step))
 exact hq _ _ (Heap.get?_none_of_le (Nat.le_refl _)) (fun b' o' e => Heap.get?_push_of_some _ e) (Ieaa _ (Heap.get?_push_size _ rfl) rfl rfl)
theorem Zlk {tk : Tok} {Q : Fin → Shared → Prop} (hx : h.get? a = some o) (hc : o.cls = .type "list_iterator") (hd : o.dict = none) (hf : o.data = .fields #[.ref l, .int i 0]) (hq : ∀ h' b, h.get? b = none → (∀ b' o, h.get? b' = some o → h'.get? b' = some o) → (∃ o, h'.get? b = some o ∧ o.cls = .type "method-wrapper" ∧ o.data = .fields #[.builtin "list_iterator.__next__", .ref a]) → Q (.done (.ret (.ref b))) ⟨h', g, d, t, os⟩) :
   wpAny (model prog w) A (Builtin.«object.__getattribute__» ⟨[.ref a, .str "__next__" tk], []⟩) Q E ⟨h, g, d, t, os⟩ := by
 have hT : (⟨h, g, d, t, os⟩ : Shared).TypeIs (.ref a) "list_iterator" := (Iea _ hx hc)
 have hT5 : (⟨h, g, d, t, os⟩ : Shared).TypeIs (.builtin "list_iterator.__next__") "wrapper_descriptor" := Zb5
 have f4 := slot_listiter_next.lookup
 have f5 := Zb5
 have f6 := Zdo.lookup
 have f7 := Zni
 have f8 := Zig
 repeat (any_goals (first | assumption | wp_step))
 rw [hf]
 dsimp only
 delta instanceDict
 repeat (any_goals (first | assumption | wp_step))
 rw [hc]
 dsimp only
 repeat (any_goals (first | assumption | wp_step))
 rw [hd]
 dsimp only
 repeat (any_goals (first | assumption | wp_step))
 exact Zt2 hx hc fun h' b h1 h2 h3 => wpAny_pure (hq h' b h1 h2 h3)
theorem Zio : entryFor table "object.__getattribute__" = some Builtin.«object.__getattribute__» := entryFor_of_tree (by kernel_rfl)
theorem Zj7 (a b : Value) : argsOk "object.__getattribute__" ⟨[a, b], []⟩ := by delta argsOk; kernel_rfl
theorem Zsn {tk : Tok} {Q : Value → Shared → Prop} (hx : h.get? a = some o) (hc : o.cls = .type "list_iterator") (hd : o.dict = none) (hf : o.data = .fields #[.ref l, .int i 0]) (hq : ∀ h' b, h.get? b = none → (∀ b' o, h.get? b' = some o → h'.get? b' = some o) → (∃ o, h'.get? b = some o ∧ o.cls = .type "method-wrapper" ∧ o.data = .fields #[.builtin "list_iterator.__next__", .ref a]) → Q (.ref b) ⟨h', g, d, t, os⟩) :
   wpAny (model prog w) A (getAttrBy (.ref a) (.str "__next__" tk) true true) Q E ⟨h, g, d, t, os⟩ := by
 have hT : (⟨h, g, d, t, os⟩ : Shared).TypeIs (.ref a) "list_iterator" := (Iea _ hx hc)
 have f2 := Zkr.lookup
 have f3 := Zkr.bind (.ref a)
 repeat (any_goals (first | assumption | wp_step))
 refine codeAny_call_builtin Zkr.plain Zio (Zkr.check _ _ _ _ _ _ _ _ hT (Zj7 _ _) (Zlk hx hc hd hf fun h' b h1 h2 h3 => ?_))
 repeat (any_goals (first | assumption | wp_step))
 exact hq h' b h1 h2 h3
theorem Znb {Q : Value → Shared → Prop} (hx : s.heap.get? a = some o) (hc : o.cls = .type "list_iterator") (hd : o.dict = none) (hf : o.data = .fields #[.ref l, .int i 0]) (hq : ∀ h' b, s.heap.get? b = none → (∀ b' o, s.heap.get? b' = some o → h'.get? b' = some o) → (∃ o, h'.get? b = some o ∧ o.cls = .type "method-wrapper" ∧ o.data = .fields #[.builtin "list_iterator.__next__", .ref a]) → Q (.ref b) { s with heap := h', toks := s.toks + 1 }) :
   wpAny (model prog w) A (getAttr (.ref a) "__next__" true) Q E s := by
 delta getAttr
 refine wpAny_bind (wpAny_mkText ?_)
 exact Zsn hx hc hd hf hq
end
section
variable {c : Cx} {A : Around} {n : Nat} {g : SE} {P : Par}
theorem Zks (prog : Program) (w : World) (x : Str) (v : Value) : v.isStr x = (PySem.strKind prog w).is x v := isStr_of x v
theorem Zhg {ds : Array DictEntry} (hk : PySem.KeysOf (PySem.strKind prog w) ds) (hp : Pairs (PySem.strKind prog w) ds.toList kvs) (x : Str) :
   getL x ds.toList = some (valueAt kvs x) := by
 delta getL
 have e : (fun d : DictEntry => d.key.isStr x) = fun d => (PySem.strKind prog w).is x d.key := funext fun d => Zks prog w x d.key
 rw [e]
 have h := hp.find x
 cases hf : ds.toList.find? fun d => (PySem.strKind prog w).is x d.key with
 | some d => rw [hf] at h; dsimp only; rw [← h]; rfl
 | none =>
   rw [hf] at h; dsimp only; rw [← h]; have : ds.toList.any (·.refKey) = false := by
     rw [List.any_eq_false]; intro d hd; refine Oea (hk d (by simpa using hd)) ?_; intro k hk1 U; refine Oe (Value.isStrOf_shape hk1) ?_; intro t ht; simp [DictEntry.refKey, ht]
   rw [if_neg (by rw [this]; decide)]; rfl
theorem Rel.instAt (R : c.R σ s) (h : σ.H a = some (.inst C d)) (hd : σ.H d = some (.dict es ep)) :
   ∃ ox ds kvs, W.InstAt s.heap a ox C (some (dictOf ds ep)) ∧ ox.dict = some d ∧ s.heap.get? d = some (dictOf ds ep) ∧ PySem.KeysOf (PySem.strKind c.prog c.w) ds.toArray ∧ Pairs (PySem.strKind c.prog c.w) ds kvs ∧ (kvs.map (·.1)).Nodup ∧
     kvs.map (fun p => (p.1, er p.2)) = es ∧ es.length ≤ lim := by
 refine Oaea (R.objs a _ h) ?_; intro U o ho e_1; obtain rfl := e_1
 refine Oaeaeeaaaa (R.objs d _ hd) ?_; intro U od hod ds kvs z_1 h2 h3 h4 z_2; (refine Oaa z_1 ?_; clear z_1; intro e1 e2 e3); (refine Oaa z_2 ?_; clear z_2; intro h5 h6 h7)
 have eo : od = dictOf ds.toList ep := by
   obtain ⟨cc, dd, dt, sl⟩ := od; simp only at e1 e2 e3 h2; subst e1 e2 e3 h2; rfl
 subst eo
 exact Ieeeaaaaa _ ds.toList kvs ⟨ho, rfl, rfl, hod⟩ rfl hod h3 h4 (Iaa h5 h6 h7)
theorem Zgh (h : clsD C = true) : C = 79 ∨ C = 199 := by
 delta clsD at h
 rcases Bool.or_eq_true_iff.mp h with h | h
 · exact .inl (beq_iff_eq.mp h)
 · exact .inr (beq_iff_eq.mp h)
theorem handed {v : Value} (h : noBi (er v) = true) : handedIn v = true := by
 cases v <;> first | rfl | (simp [er, noBi] at h)
theorem Zif {u : AV} (h : lookA (kvs.map fun p => (p.1, er p.2)) x = some u) : ∃ v, valueAt kvs x = some v ∧ er v = u := by
 rw [Zde] at h
 cases e : valueAt kvs x with
 | none => rw [e] at h; exact Zab h
 | some v => rw [e] at h; cases h; exact Iea v rfl rfl
theorem Zlj : noGet K none = true := rfl
theorem Rel.nodeAt (R : c.R σ s) {vs : List (Option AV)} (h : σ.H a = some (.node C d vs)) (hd : (σ.H d).isSome = true) :
   ∃ sl od, W.InstAt s.heap a { cls := .ref C, dict := some d, data := .plain, slots := sl } C (some od) ∧ sl.toList.map (·.map er) = vs := by
 obtain ⟨_, o, ho, sl, rfl, e⟩ := R.objs a _ h
 refine Oe (Option.isSome_iff_exists.mp hd) ?_; intro ao hao
 refine Oaea (R.objs d _ hao) ?_; intro U od hod U
 exact Ieea sl od ⟨ho, rfl, rfl, hod⟩ e
theorem Zt8 (B : Base c.prog c.w c.h₀ P) (v : Value) (nm : Str) : Sd c A er (getAttr v nm true) (gaD (er v) nm) := by
 intro Q X σ s C R hm
 cases v with
 | ref a =>
   delta gaD at hm; dsimp only [er] at hm; refine Oea B.k ?_; intro K hK ST; refine Oe R.fr ?_; intro m F; generalize h : σ.H a = o at hm; cases o with
   | none => exact hm.elim
   | some o =>
     cases o with
     | inst C d =>
       dsimp only at hm; refine Oaa hm ?_; clear hm; intro hC hnm hm; generalize hd : σ.H d = o at hm; cases o with
       | none => exact hm.elim
       | some o =>
         cases o with
         | dict es ep =>
           dsimp only at hm; generalize hx : lookA es nm = ox at hm; cases ox with
           | none => exact hm.elim
           | some x =>
             refine Oa hm ?_; clear hm; intro hb hm; refine Oeeeaaaaaa (R.instAt h hd) ?_; intro ox ds kvs I U U hk hp U z_1; (refine Oa z_1 ?_; clear z_1; intro e U); refine Oaaa (ST.inst C hC nm hnm) ?_; intro s1 s2 s3 U; rw [← e] at hx; refine Oea (Zif hx) ?_; intro u hu e_1; obtain rfl := e_1; have hg := Zhg hk hp nm; rw [hu] at hg; exact get_own F hK I s1 s2 s3 Zlj hg (handed hb) (Iea σ (R.tk (Nat.succ_pos _)) hm)
         | _ => exact hm.elim
     | node C d vs =>
       dsimp only at hm; refine Oaa hm ?_; clear hm; intro e_1; obtain rfl := e_1; intro hd hm; generalize hi : slotIx nm = oi at hm; cases oi with
       | none => exact hm.elim
       | some i =>
         dsimp only at hm; generalize hx : vs[i]? = ox at hm; cases ox with
         | none => exact hm.elim
         | some ox =>
           cases ox with
           | none => exact hm.elim
           | some x =>
             refine Oa hm ?_; clear hm; intro hb hm; refine Oeea (R.nodeAt h hd) ?_; intro sl od I e; obtain ⟨s1, s2, _, p, s3, s4, s5, s6, _⟩ := ST.node nm i hi; have : ∃ u, (sl[i]?).join = some u ∧ er u = x := by
               rw [← e, List.getElem?_map] at hx; cases q : sl.toList[i]? with
               | none => rw [q] at hx; exact Zab hx
               | some y =>
                 rw [q] at hx; cases y with
                 | none => cases hx
                 | some u => cases hx; exact Iea u (by rw [← Array.getElem?_toList, q]; rfl) rfl
             refine Oea this ?_; clear this; intro u hu e_1; obtain rfl := e_1; exact get_slot F hK I s1 s2 s3 s4 s5 s6 hu (handed hb) (Iea σ (R.tk (Nat.succ_pos _)) hm)
     | liter l i =>
       dsimp only at hm; refine Oa hm ?_; clear hm; intro e_1; obtain rfl := e_1; intro hm; refine Oaea (R.objs _ _ h) ?_; intro U o ho e_1; obtain rfl := e_1; refine Znb ho rfl rfl rfl fun h' b h1 h2 z => Oeaa z fun o' ho' hc' hd' => ?_; have hb0 := (R.away h1).1; exact Iea _ (R.make (ao := .bnd "list_iterator.__next__" a) h1 h2 ho' ⟨hc', hd'⟩ (Nat.succ_pos _)) (hm b (R.H_none h1) (B.fns b hb0).1 (B.fns b hb0).2)
     | _ => exact hm.elim
 | _ => exact hm.elim
end
section
variable {prog : Program} {w : World} {A : Around} {E : Value → Shared → Prop} {s : Shared}
theorem Zlm (t : SetTable) (es : Array (Int × Value)) (h : Int) (x : Value) : (layNew t es h x).2.1.led = t.led := by
 delta layNew
 split
 · dsimp only [SetTable.put]
   have key : ∀ (u : SetTable) n, (u.orStandIn n).led = u.led := fun u n => by delta SetTable.orStandIn; split <;> rfl
   rw [key]
 · rfl
theorem Zln {mask finger moves : Nat} {plain : Bool} {hs : Array Int} {r : SetTable × Array Nat} (h : SetTable.laid mask finger moves led plain hs = some r) : r.1.led = led ∧ r.1.plain = plain := by
 delta SetTable.laid at h
 cases hq : SetTable.layClean mask hs with
 | none => rw [hq] at h; exact Zab h
 | some owner => rw [hq] at h; cases h; exact ⟨rfl, rfl⟩
theorem Zfw (t : SetTable) (es : Array (Int × Value)) (n : Nat) (hp : t.plain = false) : (relayAll t es n).2.1.led = t.led ∧ (relayAll t es n).2.1.plain = false := by
 unfold relayAll
 split
 · rename_i t' order hr
   refine Oa (Zln hr) ?_; intro a b; dsimp only
   split
   · exact ⟨a, b.trans hp⟩
   · exact ⟨rfl, rfl⟩
 · exact ⟨rfl, rfl⟩
noncomputable def StrSet (prog : Program) (w : World) (led : Bool) (h : Heap) (a : Addr) (S : Str → Bool) (n : Nat) : Prop :=
 ∃ es ep t, h.get? a = some { cls := .type "set", data := .set es ep t } ∧ ElemsOf (strKind prog w) es.toList ∧ (∀ k, S k = true ↔ ∃ e ∈ es.toList, (strKind prog w).is k e.2 = true) ∧ es.size = n ∧ n < scanBound ∧ t.fits es.size = true ∧
   t.led = led ∧ (es = #[] ∨ t.plain = false)
theorem Zm1 {h : Heap} {es : Array (Int × Value)} {t : SetTable} (ho : h.get? a = some { cls := .type "set", data := .set es ep t }) (es' : Array (Int × Value)) (t' : SetTable) :
   (h.update a (Obj.putSet es' t')).get? a = some { cls := .type "set", data := .set es' (ep + 1) t' } := Heap.get?_update_self (Obj.putSet es' t') ho rfl
theorem Zk1 {g : Bool → Sem Unit} (hg : ∀ (b : Bool) (s₁ : Shared) (Q' : Unit → Shared → Prop), Q' () s₁ → wpAny (model prog w) A (g b) Q' E s₁)
   {es : Array (Int × Value)} {t : SetTable} (ho : s.heap.get? a = some { cls := .type "set", data := .set es ep t })
   {es1 : Array (Int × Value)} {t2 : SetTable} {S' : Str → Bool} (hel1 : ElemsOf (strKind prog w) es1.toList) (hmem1 : ∀ k', S' k' = true ↔ ∃ e ∈ es1.toList, (strKind prog w).is k' e.2 = true)
   (hb1 : es1.size < scanBound) (hf2 : t2.fits es1.size = true) (hl : t2.led = led) (hp : t2.plain = false) {wasDummy : Bool} {R : Option Bool → Shared → Prop}
   (h : ∀ h', Heap.SameBut a s.heap h' → StrSet prog w led h' a S' es1.size → R (some true) { s with heap := h' }) :
   wpAny (model prog w) A (do
       storeSet a es1 t2
       if (!wasDummy && t2.tooFull) = true then do
           g (relayAll t2 es1 (SetTable.grown es1.size)).2.2
           storeSet a (relayAll t2 es1 (SetTable.grown es1.size)).1 (relayAll t2 es1 (SetTable.grown es1.size)).2.1
           pure (some true)
         else pure (some true)) R E s := by
 refine wpAny_bind (wpAny_storeSet_of ho rfl ?_ (fits_of_scanBound hb1))
 have ho1 := Zm1 ho es1 t2
 have hsb1 := Heap.SameBut.update s.heap a (Obj.putSet es1 t2)
 split
 · have hpe := relayAll_perm t2 es1 (SetTable.grown es1.size)
   have hfr := relayAll_fits t2 es1 (SetTable.grown es1.size); refine Oa (Zfw t2 es1 (SetTable.grown es1.size) hp) ?_; intro k1 k2; generalize hRl : relayAll t2 es1 (SetTable.grown es1.size) = Rl at hpe hfr k1 k2 ⊢; obtain ⟨es2, t3, gave2⟩ := Rl; dsimp only at hpe hfr k1 k2 ⊢; have hel2 : ElemsOf (strKind prog w) es2.toList := hel1.perm hpe; have hmem2 : ∀ k', S' k' = true ↔ ∃ e ∈ es2.toList, (strKind prog w).is k' e.2 = true := fun k' => (hmem1 k').trans ⟨fun z => Oea z fun e he q => (Iea e (hpe.mem_iff.mpr he) q), fun z => Oea z fun e he q => (Iea e (hpe.mem_iff.mp he) q)⟩; have hsz : es2.size = es1.size := by rw [← Array.length_toList, hpe.length_eq, Array.length_toList]
   have hb2 : es2.size < scanBound := by rw [hsz]; exact hb1
   refine wpAny_bind (hg _ _ _ ?_); refine wpAny_bind (wpAny_storeSet_of ho1 rfl ?_ (fits_of_scanBound hb2)); refine wpAny_pure (h _ (hsb1.trans (Heap.SameBut.update _ a _)) (Ieeeaaaaa es2 _ t3 (Zm1 ho1 es2 t3) hel2 hmem2 hsz (by exact hb1) (Iaa hfr (k1.trans hl) (.inr k2))))
 · exact wpAny_pure (h _ hsb1 (Ieeeaaaaa es1 _ t2 ho1 hel1 hmem1 rfl hb1 (Iaa hf2 hl (.inr hp))))
theorem Zjd {S : Str → Bool} {tk : Tok} {Q : Bool → Shared → Prop} (hS : StrSet prog w led s.heap a S n) (hroom : n + 1 < scanBound)
   (h : ∀ b h', Heap.SameBut a s.heap h' → StrSet prog w led h' a (fun k' => S k' || decide (k' = x)) (if S x then n else n + 1) → Q b { s with heap := h' }) :
   wpAny (model prog w) A (setAddHashed a (.str x tk) ((strKind prog w).hash x)) Q E s := by
 refine Oeeeaaaaaa hS ?_; clear hS; intro es ep t ho hel hmem hn hb hf z_1; (refine Oa z_1 ?_; clear z_1; intro hl hp)
 have hkey := strKind_is prog w x tk
 have hsc : (Value.str x tk).scannable = true := rfl
 have hb0 : es.size < scanBound := by exact qe hn (Nat.lt_of_succ_lt hroom)
 delta setAddHashed setAddHashedIn
 refine wpAny_holding (wpAny_bind (wpAny_setState_of ho rfl hf ?_))
 dsimp only
 rw [byScan_of hsc hb0 hel]
 simp only [↓reduceIte]
 delta setAddByScan
 refine wpAny_bind ?_
 refine wpAny_bind (wpAny_rule ?_)
 refine wpAny_bind (wpAny_setScan_of hkey ho rfl hf hel ?_)
 cases hr : List.findIdx? (fun e => (strKind prog w).is x e.2) es.toList with
 | some j =>
   dsimp only; refine Opa (List.findIdx?_eq_some_iff_getElem.mp hr) ?_; intro hj hpj U; have hSk : S x = true := (hmem x).mpr (Iea (es.toList[j]) (List.getElem_mem hj) hpj); refine wpAny_pure (wpAny_pure ?_); have e : s = { s with heap := s.heap } := by cases s; rfl
   have := h false s.heap (Heap.SameBut.refl a s.heap) ⟨es, ep, t, ho, hel, fun k' => by
     rw [Bool.or_eq_true, decide_eq_true_eq, ← hmem k']; exact ⟨fun hk => hk.elim id (fun e => e ▸ hSk), .inl⟩, by rw [hSk]; exact hn, by rw [hSk]; exact hb, hf, hl, hp⟩
   rw [e]; exact this
 | none =>
   dsimp only; have hSk : S x = false := by
     cases hk : S x with
     | false => rfl
     | true => (refine Oea ((hmem x).mp hk) ?_; intro e he hp); have := List.findIdx?_eq_none_iff.mp hr e he; rw [hp] at this; exact Bool.noConfusion this
   have hgw : ∀ (b : Bool) {s₁ : Shared} {Q' : Unit → Shared → Prop}, Q' () s₁ → wpAny (model prog w) A (match b with | true => rule "set.scan.the-table-gave-way" | false => pure ()) Q' E s₁ :=
     fun b s₁ Q' hq => by cases b <;> first | exact wpAny_pure hq | exact wpAny_rule hq
   have hperm := layNew_perm t es ((strKind prog w).hash x) (.str x tk); have hfits := layNew_fits t es ((strKind prog w).hash x) (.str x tk); have hled := Zlm t es ((strKind prog w).hash x) (.str x tk); generalize hL : layNew t es ((strKind prog w).hash x) (.str x tk) = L at hperm hfits hled ⊢; obtain ⟨es1, t1, wasDummy, gave⟩ := L; dsimp only at hperm hfits hled ⊢; rw [Array.toList_push] at hperm; have hel1 : ElemsOf (strKind prog w) es1.toList := (hel.push hkey hsc).perm hperm; have hmem1 : ∀ k', (S k' || decide (k' = x)) = true ↔ ∃ e ∈ es1.toList, (strKind prog w).is k' e.2 = true := mem_push_iff hkey hmem hperm; have hsz1 : es1.size = n + 1 := by rw [← Array.length_toList, hperm.length_eq, List.length_append, Array.length_toList, hn]; rfl
   have hb1' : es1.size < scanBound := by exact qe hsz1 hroom
   refine wpAny_bind (hgw _ ?_); have hend : ∀ b h', Heap.SameBut a s.heap h' → StrSet prog w led h' a (fun k' => S k' || decide (k' = x)) es1.size → Q b { s with heap := h' } := by
     intro b h' hsb hS'; refine h b h' hsb ?_; rw [hSk]; rw [hsz1] at hS'; exact hS'
   split
   · refine wpAny_bind ?_
     rw [hashByValue_scannable 8 hsc]; refine wpAny_pure ?_; refine Zk1 ?_ ho hel1 hmem1 hb1' ?_ (led := led) ?_ rfl ?_
     · intro b s₁ Q' hq; cases b <;> first | exact wpAny_pure hq | exact wpAny_rule hq
     · split
       · exact hfits
       · exact SetTable.fits_plain_off hfits
     · split <;> exact hled.trans hl
     · intro h' hsb hS'; dsimp only; exact wpAny_pure (hend _ h' hsb hS')
   · rename_i hpl
     refine wpAny_bind (wpAny_pure ?_); simp only [↓reduceIte]; refine Zk1 ?_ ho hel1 hmem1 hb1' hfits (hled.trans hl) (by simpa using hpl) ?_
     · intro b s₁ Q' hq; cases b <;> first | exact wpAny_pure hq | exact wpAny_rule hq
     · intro h' hsb hS'; dsimp only; exact wpAny_pure (hend _ h' hsb hS')
theorem Zd2 (h : ys[i]? = some y) (k : Str) : ((ys.take i).contains k || decide (k = y)) = (ys.take (i + 1)).contains k := by
 rw [List.take_add_one, h, Option.toList_some, List.contains_eq_any_beq, List.contains_eq_any_beq, List.any_append]
 congr 1
 simp only [List.any_cons, List.any_nil, Bool.or_false]
 by_cases e : k = y
 · subst e; simp
 · rw [decide_eq_false e, beq_eq_false_iff_ne.mpr e]
theorem StrSet.keep {h : Heap} {S S' : Str → Bool} {n' : Nat} (x : StrSet prog w led h a S n) (k : ∀ o, h.get? a = some o → h'.get? a = some o) (e : ∀ y, S y = S' y) (en : n = n') : StrSet prog w led h' a S' n' := by
 have : S = S' := funext e
 subst this; subst en
 refine Oeeea x ?_; clear x; intro es ep t ho r
 exact Ieeea es ep t (k _ ho) r
theorem Zpa (hh : A.handled = none) {S : Addr} (nIl : I ≠ l) (nIS : I ≠ S) (nlS : l ≠ S) (hv : vs.toList.map er = ys.map .str) (hb : vs.size + 1 < scanBound) {R : Result → Shared → Prop} :
   ∀ (k i n : Nat) (s : Shared), vs.size - i = k → i ≤ vs.size → s.heap.IsListIter I l i → s.heap.IsList l vs → StrSet prog w led s.heap S (fun k' => (ys.take i).contains k') n → n ≤ i →
     (∀ h' tk n, s.toks ≤ tk → (∀ b o, b ≠ I → b ≠ S → s.heap.get? b = some o → h'.get? b = some o) → StrSet prog w led h' S (fun k' => ys.contains k') n → R (.ok (.ret .none)) { s with heap := h', toks := tk }) →
     codeAny (model prog w) A (.builtin "set.update.loop" ⟨[.ref S, .ref I], []⟩) R s := by
 have hlen : vs.size = ys.length := by have := congrArg List.length hv; simpa using this
 intro k
 induction k with
 | zero =>
   intro i n s hk hi hI hL hS hn hR; have hin : i = vs.size := by exact Nat.le_antisymm hi (Nat.le_of_sub_eq_zero hk)
   subst hin; refine codeAny_builtin F.entry_set_update_loop ?_; rw [Around.under_plainId F.plain_set_update_loop _]; refine (?_ : wpAny _ A.in1 (pyNext (.ref I) >>= _) _ _ s); refine wpAny_bind (wpAny_pyNext_list_end hh hI hL (by simp) fun h' he => ?_); refine (?_ : wpAny _ A.in1 (PySem.ret Value.none) _ _ _); refine wpAny_pure (hR h' s.toks n (Nat.le_refl _) (fun b o h1 h2 e => he b o h1 e) (hS.keep (fun o e => he _ _ (Ne.symm nIS) e) (fun y => ?_) rfl)); rw [List.take_of_length_le (by exact Nat.le_of_eq hlen.symm)]
 | succ k ih =>
   intro i n s hk hi hI hL hS hn hR; have hlt : i < vs.size := by exact Nat.lt_of_sub_eq_succ hk
   have hy : ys[i]? = some ys[i] := List.getElem?_eq_getElem (by exact Nat.lt_of_lt_of_eq hlt hlen); have hx : ∃ t, vs[i]? = some (.str ys[i] t) := by
     have h1 : (vs.toList.map er)[i]? = some (.str ys[i]) := by rw [hv, List.getElem?_map, hy]; rfl
     rw [List.getElem?_map, Array.getElem?_toList] at h1; cases q : vs[i]? with
     | none => rw [q] at h1; exact Zab h1
     | some v => rw [q] at h1; (refine Oe (Zev (Option.some.inj h1)) ?_; intro t e_1; obtain rfl := e_1); exact ⟨t, rfl⟩
   refine Oe hx ?_; clear hx; intro t hx; refine codeAny_builtin F.entry_set_update_loop ?_; rw [Around.under_plainId F.plain_set_update_loop _]; refine (?_ : wpAny _ A.in1 (pyNext (.ref I) >>= _) _ _ s); refine wpAny_bind (wpAny_pyNext_list_item hI hL hx fun h' hI' hs1 => ?_); refine (?_ : wpAny _ A.in1 (holding [Value.str ys[i] t] (setAdd S (.str ys[i] t)) >>= _) _ _ _); refine wpAny_bind (wpAny_holding ?_); delta setAdd; refine wpAny_holding ?_; refine wpAny_bind ((strKind prog w).pyHash (k := ys[i]) (strKind_is _ _ _ _) ?_); have hS1 : StrSet prog w led h' S (fun k' => (ys.take i).contains k') n := hS.keep (fun o e => (hs1.2 _ (Ne.symm nIS)).trans e) (fun U => rfl) rfl; refine Zjd (led := led) (S := fun k' => (ys.take i).contains k') (n := n) hS1 (by exact Nat.lt_trans (Nat.succ_lt_succ (Nat.lt_of_le_of_lt hn hlt)) hb) fun b h2 hs2 hS2 => ?_; refine wpAny_pure ⟨plainId_quiet F.plain_set_update_loop _, ih (i + 1) _ _ (by exact congrArg Nat.pred hk) hlt ?_ ?_ (hS2.keep (fun U e => e) (fun y => Zd2 hy y) rfl) (by split <;> omega) fun h3 tk n3 ht hk3 hS3 => ?_⟩
   · refine Oea hI' ?_; clear hI'; intro o ho r
     exact Iea o ((hs2.2 _ nIS).trans ho) r
   · refine Oea hL ?_; clear hL; intro o ho r
     exact Iea o ((hs2.2 _ nlS).trans ((hs1.2 _ (Ne.symm nIl)).trans ho)) r
   · refine hR h3 tk n3 (Nat.le_trans (Nat.le_succ _) ht) (fun b o h1 h2 e => hk3 b o h1 h2 ((hs2.2 _ h2).trans ((hs1.2 _ h1).trans e))) hS3
noncomputable def ledOf (w : World) : Bool := !w.params.followText "set-order"
theorem Zjc (a : Value) {Q₁ : Value → Shared → Prop}
   (h : Q₁ (.ref s.heap.objs.size) { s with heap := s.heap.push { cls := .type "set", dict := none, data := .set #[] 0 (.fresh 0 0 (ledOf w)) } }) :
   codeAny (model prog w) A (.call (.builtin "set.__new__") ⟨[.type "set", a], []⟩) (wants Q₁ E) s := by
 refine codeAny_of_tree ?_
 refine (?_ : wpAny _ A.in1 (do checkBuiltinCall "set.__new__" ⟨[.type "set", a], []⟩; again (.builtin "set.__new__" ⟨[.type "set", a], []⟩)) _ _ s)
 refine wpAny_bind (wpAny_of_eq (PySem.F.newCall_set_1 a) (wpAny_pure ⟨plainId_quiet PySem.F.plain_set_new _, codeAny_builtin PySem.F.entry_set_new ?_⟩))
 rw [Around.under_plainId PySem.F.plain_set_new _]
 delta Builtin.«set.__new__» Builtin.Frozenset.newClass
 have hsub := sub_set_self
 obtain ⟨hp, g, d, tk, os⟩ := s
 dsimp only
 wp_walk
 refine wpAny_askSetting (wpAny_pure ?_)
 dsimp only
 simp only [newObj]
 refine wpAny_bind (wpAny_alloc (wpAny_pure ?_))
 exact wpAny_pure h
set_option maxHeartbeats 3200000 in
theorem Zhn {items : Array Value} {Q : Value → Shared → Prop}
   (hh : A.handled = none) (hl : s.heap.IsList l items) (hi : items.toList.map er = ys.map .str) (hb : items.size + 1 < scanBound)
   (h : ∀ (h' : Heap) (tk n : Nat), s.toks ≤ tk → StrSet prog w (ledOf w) h' s.heap.objs.size (fun k' => ys.contains k') n →
     (∀ b o, b < s.heap.objs.size → s.heap.get? b = some o → h'.get? b = some o) → Q (.ref s.heap.objs.size) { s with heap := h', toks := tk }) :
   wpAny (model prog w) A (call (.type "set") [.ref l]) Q E s := by
 refine Oee PySem.F.called_set.mro ?_; intro c tl hmro
 have hmade := PySem.F.called_set.made
 have hsub := PySem.F.called_set.sub
 refine wpAny_call (codeAny_of_tree ?_)
 refine (?_ : wpAny _ _ (callAny (.type "set") _) _ _ _)
 refine wpAny_pure ⟨Code.quiet_builtin _ (by decide +kernel), codeAny_builtin PySem.F.entry_type_call ?_⟩
 rw [Around.under_plain (weight_type_call_type "set" [.ref l] []) rfl]
 have h1 := PySem.F.called_set.notType
 have h2 := PySem.F.called_set.canCreate
 have hct := PySem.F.typeCall_set_1 (.ref l)
 repeat (any_goals (first | assumption | wp_step))
 refine codeAny_mono (Zjc (.ref l) (E := E) (Q₁ := fun obj s₁ => obj = .ref s.heap.objs.size ∧ s₁ = { s with heap := s.heap.push { cls := .type "set", dict := none, data := .set #[] 0 (.fresh 0 0 (ledOf w)) } }) ⟨rfl, rfl⟩) fun r s₁ hr => ?_
 cases r with
 | error e => exact hr
 | ok fl =>
   cases fl with
   | ret obj =>
     refine Oa hr ?_; clear hr; intro e_1; obtain rfl := e_1; intro e_2; obtain rfl := e_2; have hS : (s.heap.push { cls := .type "set", dict := none, data := .set #[] 0 (.fresh 0 0 (ledOf w)) }).get? s.heap.objs.size = some { cls := .type "set", dict := none, data := .set #[] 0 (.fresh 0 0 (ledOf w)) } := Heap.get?_push_size _ rfl; have hT : Shared.TypeIs { s with heap := s.heap.push { cls := .type "set", dict := none, data := .set #[] 0 (.fresh 0 0 (ledOf w)) } } (.ref s.heap.objs.size) "set" := (Iea _ hS rfl); have hli := PySem.F.called_set.init.lookup; have hbi := PySem.F.called_set.init.bind (.ref s.heap.objs.size)
     repeat (any_goals (first | assumption | wp_step))
     refine codeAny_mono (codeAny_call_builtin (R := wants (fun r s₂ => r = .none ∧ ∃ h' tk n, s₂ = { s with heap := h', toks := tk } ∧ s.toks ≤ tk ∧
         StrSet prog w (ledOf w) h' s.heap.objs.size (fun k' => ys.contains k') n ∧
         (∀ b o, b < s.heap.objs.size → s.heap.get? b = some o → h'.get? b = some o)) E) PySem.F.called_set.init.plain PySem.F.entry_set_init (check_set_init_1 hT ?_)) fun r₂ s₂ hr₂ => ?_
     · refine Oeaae hl ?_; clear hl; intro ol hol hcl nl hdl
       obtain ⟨ocls, odict, odata, oslots⟩ := ol; simp only at hcl hdl; subst hcl; subst hdl; have hol' : (s.heap.push { cls := .type "set", dict := none, data := .set #[] 0 (.fresh 0 0 (ledOf w)) }).get? l = some { cls := .type "list", dict := odict, data := .seq items nl, slots := oslots } := Heap.get?_push_of_some _ hol; have hsls := PySem.F.sub_list_set; have hslf := PySem.F.sub_list_frozenset; have hne : (Value.type "list" == Value.type "dict") = false := by decide
       have hl1 : (s.heap.push { cls := .type "set", dict := none, data := .set #[] 0 (.fresh 0 0 (ledOf w)) }).IsList l items := (Ieaae _ hol' rfl nl rfl); delta Builtin.«set.__init__» noKeywords Builtin.Frozenset.updateFrom; generalize hPI : pyIter = PI
       wp_walk
       subst hPI; refine wpAny_pyIter_list hl1 ?_; refine wpAny_bind (wpAny_runValue ?_); have hlS : l < s.heap.objs.size := Heap.lt_size hol; have hh3 : A.in1.in1.handled = none := by simp [hh]
       have hz : (s.heap.push { cls := .type "set", dict := none, data := .set #[] 0 (.fresh 0 0 (ledOf w)) }).objs.size = s.heap.objs.size + 1 := Heap.size_push ..; have hget : ((s.heap.push { cls := .type "set", dict := none, data := .set #[] 0 (.fresh 0 0 (ledOf w)) }).push { cls := .type "list_iterator", data := .fields #[.ref l, .int 0 0] }).get? s.heap.objs.size
             = some { cls := .type "set", dict := none, data := .set #[] 0 (.fresh 0 0 (ledOf w)) } := Heap.get?_push_of_some _ hS
       refine Zpa (led := ledOf w) hh3 (I := (s.heap.push { cls := .type "set", dict := none, data := .set #[] 0 (.fresh 0 0 (ledOf w)) }).objs.size) (l := l) (by rw [hz]; exact Nat.ne_of_gt (Nat.lt_succ_of_lt hlS)) (by rw [hz]; exact Nat.succ_ne_self _) (Nat.ne_of_lt hlS) hi hb (items.size - 0) 0 0 _ (by exact rfl) (Nat.zero_le _) ?hI ?hL ?hS0 (Nat.le_refl _) ?hR
       case hI => exact Ieaa _ (Heap.get?_push_size _ rfl) rfl rfl
       case hL => exact hl1.push _
       case hS0 => exact Ieeeaaaaa (#[]) 0 (.fresh 0 0 (ledOf w)) hget (fun e he => by simp at he) (fun k => by simp) rfl (by delta scanBound; exact Nat.le_of_ble_eq_true rfl) (Iaa (by rfl) rfl (.inl rfl))
       intro h' tk n ht hk hS'; refine (?_ : wpAny _ _ _ _ _ _); refine wpAny_pure ?_; refine (?_ : wpAny _ _ (PySem.ret Value.none) _ _ _); refine wpAny_pure ⟨rfl, h', tk, n, rfl, ht, hS', fun b o hb e => ?_⟩; exact hk b o (by rw [hz]; exact Nat.ne_of_lt (Nat.lt_succ_of_lt hb)) (Nat.ne_of_lt hb) (Heap.get?_push_of_some _ (Heap.get?_push_of_some _ e))
     · cases r₂ with
       | error e => exact hr₂
       | ok fl₂ =>
         cases fl₂ with
         | ret r =>
           obtain ⟨rfl, h', tk, n, rfl, ht, hS', hk'⟩ := hr₂
           repeat (any_goals (first | assumption | wp_step))
           exact h _ _ n ht hS' hk'
         | _ => exact hr₂.elim
   | _ => exact hr.elim
end
section
variable {c : Cx} {A : Around} {n : Nat} {g : SE} {P : Par}
structure Held (c : Cx) (A : Around) : Prop where
 calm : c.lv = 0 → A.handled = none
 held : c.lv = 2 → ∃ hx ox vs, A.handled = some (.ref hx) ∧ (hx, ox) ∈ c.hid ∧ ox.data = .fields vs ∧ vs[2]? = some .none
 lv : c.lv ≤ 3
theorem Held.in1 (H : Held c A) : Held c A.in1 := ⟨H.calm, H.held, H.lv⟩
theorem Zhi : entryFor PySem.table "proto.unchain" = some Builtin.«proto.unchain» := entryFor_of_tree (by kernel_rfl)
theorem Zfl (R : c.R σ s) {tk : Nat} {e : Addr} {k : String} (tp : 0 < tk) (hn : Heap.NewExc s.heap h' e k) (p : Prop) :
   c.R σ { s with heap := h', toks := tk } ∧ Flies c σ h' e k p := by
 obtain ⟨kp, nw, ob, t, he, hc, hd⟩ := hn
 refine Oaaaaa (R.away nw) ?_; intro a1 a2 a3 a4 a5 a6
 exact ⟨R.grow kp tp, ⟨a1, R.H_none nw, a2, a3, a4, a5, a6⟩, ob, _, he, hc, hd, by refine (?_ : 2 < 6); exact q21, Ia (fun U => rfl) (.inl rfl)⟩
theorem Zlg {α : Type} {M : Model} (hM : M = model prog w) {cls msg : String} {Q : α → Shared → Prop} (hp : PlainExc cls) {hx : Addr} {ox : Obj} (hh : A.handled = some (.ref hx))
   (ho : s.heap.get? hx = some ox) (hd : ox.data = .fields vs) (h2 : vs[2]? = some .none)
   (h : ∀ h' tk e t, (∀ b o, s.heap.get? b = some o → h'.get? b = some o) → s.heap.get? e = none →
     h'.get? e = some { cls := .type cls, data := .fields #[t, .none, .ref hx, .none, .bool false, .none] } → E (.ref e) { s with heap := h', toks := tk }) :
   wpAny M A (raiseErrorWords cls msg : Sem α) Q E s := by
 subst hM
 delta raiseErrorWords
 refine wpAny_bind (wpAny_mkText (wpAny_bind ?_))
 delta newExc newTuple
 refine wpAny_bind (wpAny_newObj_type ?_)
 refine wpAny_bind (m := firstArgMember _ _) (wpAny_of_eq (a := Value.none) (by simp only [firstArgMember, hp.first]; rfl) ?_)
 rw [hp.own]
 refine wpAny_newObj_type ?_
 delta raiseNew
 refine wpAny_bind (wpAny_handled ?_)
 rw [hh]
 dsimp only
 have lt : hx < s.heap.objs.size := Heap.lt_size ho
 generalize hh1 : s.heap.push { cls := .type "tuple", data := .seq [Value.str (Str.ofString msg) s.toks].toArray } = h1
 have sz : h1.objs.size = s.heap.objs.size + 1 := by rw [← hh1]; simp
 have ho1 : h1.get? hx = some ox := by rw [← hh1]; exact Heap.get?_push_of_some _ ho
 have ne : hx ≠ h1.objs.size := by rw [sz]; exact Nat.ne_of_lt (Nat.lt_succ_of_lt lt)
 rw [if_pos (by simpa using ne)]
 refine wpAny_bind (wpAny_holding (wpAny_runValue (codeAny_builtin Zhi ?_)))
 delta Builtin.«proto.unchain»
 dsimp only
 refine wpAny_bind (wpAny_field (Heap.get?_push_of_some _ ho1) hd h2 ?_)
 rw [if_pos (by decide)]
 refine wpAny_pure ?_
 dsimp only
 delta updateField
 have he := Heap.get?_push_size h1 (o := { cls := .type cls, data := .fields #[Value.ref s.heap.objs.size, .none, .none, .none, .bool false, .none] }) rfl
 refine wpAny_bind (wpAny_bind (wpAny_load he ?_))
 dsimp only
 rw [if_pos (by refine (?_ : 2 < 6); exact q21)]
 refine wpAny_update he (wpAny_throw (h _ _ _ _ (fun b o hb => ?_) ?_ (Heap.get?_update_self _ he rfl)))
 · have hb1 : h1.get? b = some o := by rw [← hh1]; exact Heap.get?_push_of_some _ hb
   rw [Heap.get?_update_other _ _ (Nat.ne_of_gt (Heap.lt_size hb1))]; exact Heap.get?_push_of_some _ hb1
 · exact Heap.get?_none_of_le (by rw [sz]; exact Nat.le_succ _)
theorem Zcs {α : Type} (H : Held c A) (C : Calm c X) {cls msg : String} (hp : PlainExc cls) (R : c.R σ s) (hm : X ⟨cls, false⟩ σ) {Q : α → Shared → Prop} :
   wpAny c.M A (raiseErrorWords cls msg : Sem α) Q (EX c X) s := by
 have lv := H.lv
 by_cases h0 : c.lv = 0
 · refine wpAny_with_toks (n := 1) R.tok (wpAny_raiseErrorWords hp (H.calm h0) fun h' tk e hn tp => ?_)
   refine Oa (Zfl R tp hn (c.lv < 2 ∧ (Exn.mk cls false).ch = false)) ?_; intro r1 r2; exact Ieeeaaa σ ⟨cls, false⟩ e rfl r1 r2 hm
 · by_cases h2 : c.lv = 2
   · refine Oeeeaaa (H.held h2) ?_; intro hx ox vs g1 g2 g3 g4
     refine wpAny_with_toks (n := 1) R.tok (Zlg rfl hp g1 (R.hidk _ g2).2.2 g3 g4 fun h' tk e t kp nw he tp => ?_); refine Oaaaaa (R.away nw) ?_; intro a1 a2 a3 a4 a5 a6; exact Ieeeaaa σ ⟨cls, false⟩ e rfl (R.grow kp tp) (Iaeeaaaaa ⟨a1, R.H_none nw, a2, a3, a4, a5, a6⟩ _ _ he rfl rfl (by refine (?_ : 2 < 6); exact q21) (fun q => absurd q.1 (by omega)) (.inl rfl)) hm
   · exact absurd hm (C (by first | lia | omega) _ _)
theorem Zjq (H : Held c A) (C : Calm c X) (R : c.R σ s) {items : Array Value} {k : Int} {t : Tok} {Q : Value → Shared → Prop} (hl : s.heap.IsList l items)
   (h0 : 0 ≤ k) (hout : items[k.toNat]? = none) (hhi : k < 2 ^ 40) (hm : X ⟨"IndexError", false⟩ σ) : wpAny c.M A (getItem (.ref l) (.int k t)) Q (EX c X) s := by
 refine Oeaae (id hl) ?_; intro o ho hc ne hd
 delta getItem
 try with_reducible refine wpAny_holding ?_
 first | refine wpAny_bind (wpAny_pure ?_) | skip
 refine wpAny_bind (wpAny_sequenceKey hl.typeIs (by decide) ?_)
 refine wpAny_bind (wpAny_callSpecial?_slot (name := Str.ofString "__getitem__") hl.typeIs slot_list_getitem
   (wpAny_call_entry slot_list_getitem hl.typeIs entry_list_getitem ?_ (args_list_getitem _ _)))
 refine (?_ : wpAny _ _ (Builtin.List.listSubscript? (.int k t) >>= _) _ _ s)
 refine wpAny_bind (wpAny_listSubscript_int (fitsIndex_both (by exact q23 h0 hhi) (by exact q24 h0 hhi)) ?_)
 refine Oe (Int.eq_ofNat_of_zero_le h0) ?_; intro j e_1; obtain rfl := e_1
 have hx : items[j]? = none := by simpa using hout
 refine (?_ : wpAny _ _ ((seqItemAt l j >>= fun r => pure (r.map (j, ·))) >>= _) _ _ s)
 refine wpAny_bind (wpAny_bind (wpAny_seqItemAt ho hd (wpAny_pure ?_)))
 rw [hx]
 first
   | exact wpAny_bind (wpAny_rule (Zcs H.in1 C plainExc_IndexError R hm))
   | exact wpAny_bind (wpAny_rule (wpAny_bind (Zcs H.in1 C plainExc_IndexError R hm)))
   | exact wpAny_bind (wpAny_bind (wpAny_rule (Zcs H.in1 C plainExc_IndexError R hm)))
   | exact wpAny_rule (Zcs H.in1 C plainExc_IndexError R hm)
noncomputable def notSlice (e : Expr) : Bool := (sliceE e).isNone
theorem Zft {slice : Expr} (h : notSlice slice = true) (o i : Value) : subscripted slice false o i = operate [o, i] (getItem o i) := by
 cases slice <;> first | rfl | exact Zai h
theorem Zvm (H : Held c A) {value slice : Expr} (hs : notSlice slice = true) (v i : Value) : Sd c A er (subscriptTail value slice v i) (itD (er v) (er i)) := by
 intro Q X σ s C R hm
 refine vR_el hm ?_; clear hm; intro a hm
 have hsub := Zft hs (.ref a)
 generalize h : σ.H a = o at hm
 cases o with
 | none => exact hm.elim
 | some o =>
   cases o with
   | list xs =>
     dsimp only at hm; refine vI_el hm ?_; clear hm; intro k t hm; refine Oeeaa (R.list h) ?_; intro vs kk ho e hl; have hL := Zaj ho; refine tail_any hL.typeIs slot_list_getitem.lookup ?_ (hsub _)
     split at hm
     · rename_i h0
       refine Oa hm ?_; clear hm; intro h1 hm; cases hx : vs[k.toNat]? with
       | some x =>
         have : xs[k.toNat]? = some (er x) := by rw [← e, List.getElem?_map, Array.getElem?_toList, hx]; rfl
         rw [this] at hm; exact wpAny_getItem_list hL h0 (by exact q24 h0 h1) hx (Iea σ R hm)
       | none =>
         have : xs[k.toNat]? = none := by rw [← e, List.getElem?_map, Array.getElem?_toList, hx]; rfl
         rw [this] at hm; exact Zjq H C R hL h0 hx h1 hm
     · refine Oa hm ?_; clear hm; intro e_1; obtain rfl := e_1; intro hm
       replace hm := Zcu hm; (refine Oea hm ?_; clear hm; intro x hx hm); have hsz := Zcg e; have hlt : 0 < vs.size := by
         rw [hsz]; cases xs with
         | nil => exact Zab hx
         | cons => exact Nat.succ_pos _
       have e1 : ((-1 : Int) + vs.size).toNat = vs.size - 1 := by exact (congrArg Int.toNat (Int.add_comm _ _)).trans (Int.toNat_sub _ 1)
       have hv : ∃ u, vs[((-1 : Int) + vs.size).toNat]? = some u ∧ er u = x := by
         rw [e1, ← Array.getElem?_toList]; rw [List.getLast?_eq_getElem?, ← e, List.getElem?_map, List.length_map, Array.length_toList] at hx; exact Option.map_eq_some_iff.mp hx
       refine Oea hv ?_; clear hv; intro u hu e_1; obtain rfl := e_1
       first
         | exact wpAny_getItem_list_neg hL (by exact by decide) (by exact Int.neg_le_neg (Int.ofNat_le.2 hlt)) (by exact by decide) hu ⟨σ, R, hm⟩
         | exact wpAny_getItem_list_neg hL (by omega) (by omega) hu ⟨σ, R, hm⟩
   | tup xs =>
     dsimp only at hm; refine vI_el hm ?_; clear hm; intro k t hm; refine Oaa hm ?_; clear hm; intro h0 h1 hm; replace hm := Zcu hm; (refine Oea hm ?_; clear hm; intro y hx hm); refine Oeeaa (R.tup h) ?_; intro vs kk ho e hl; have hsz := Zcg e; rw [← e, List.getElem?_map, Array.getElem?_toList] at hx; replace hx := Option.map_eq_some_iff.mp hx; (refine Oea hx ?_; clear hx; intro x hx e_1; obtain rfl := e_1); have hlt : k.toNat < vs.size := (Array.getElem?_eq_some_iff.mp hx).1; exact tail_any (Zb6 ho).typeIs slot_tuple_getitem.lookup (PyProof.Rows.getItem_tuple (Zb6 ho) (by exact q23 h0 h1) (by exact q24 h0 h1) (seqIndex_of h0 (by exact (Int.toNat_lt h0).1 hlt)) hx (Iea σ R hm)) (hsub _)
   | dict es ep =>
     dsimp only at hm; refine vS_el hm ?_; clear hm; intro k t hm; replace hm := Zcu hm; (refine Oea hm ?_; clear hm; intro x hx hm); refine Oeaa (R.dict2 h) ?_; intro kvs hd e hl; rw [← e] at hx; refine Oea (Zif hx) ?_; intro u hu e_1; obtain rfl := e_1; exact tail_any hd.mapOf.typeIs slot_dict_getitem.lookup (wpAny_getItem_of (strKind_is c.prog c.w k t) hd.mapOf hu (Iea σ (R.tk (Nat.succ_pos _)) hm)) (hsub _)
   | _ => exact hm.elim
theorem Zm4 {h : Heap} (hd : h.DictOf (PySem.strKind prog w) d kvs) (e : kvs.map (fun p => (p.1, er p.2)) = es) (hl : es.length ≤ lim) :
   ∃ o ep, h.get? d = some o ∧ OR prog w (.dict es ep) o := by
 obtain ⟨o, ds, ep, ho, h1, h2, h3, h4, h5⟩ := hd
 exact ⟨o, ep, ho, ds, kvs, h1, h2, h3, Iaaa h4 h5 e hl⟩
theorem Zh3 (kvs : List (Str × Value)) (k : Str) (v : Value) : (stored kvs k v).map (fun p => (p.1, er p.2)) = putA (kvs.map fun p => (p.1, er p.2)) k (er v) := by
 delta stored putA
 have h : ((kvs.map fun p => (p.1, er p.2)).any fun p => decide (p.1 = k)) = kvs.any fun kv => decide (kv.1 = k) := by rw [List.any_map]; rfl
 rw [h]
 split
 · rw [List.map_map, List.map_map]
   apply List.map_congr_left; intro p U; simp only [Function.comp]
   split <;> rfl
 · simp
theorem Zkk (es : List (Str × AV)) (k : Str) (v : AV) : (putA es k v).length ≤ es.length + 1 := by
 delta putA; split <;> simp
theorem Zd6 {h : Heap} (hs : Heap.SameBut a h h') : ∀ b o, b ≠ a → h.get? b = some o → h'.get? b = some o := fun b o ne e => (hs.2 b ne).trans e
theorem Zvl (v i x : Value) : Sd c A id (setItem v i x) (siD (er v) (er i) (er x)) := by
 intro Q X σ s C R hm
 refine vR_el hm ?_; clear hm; intro a hm
 refine vS_el hm ?_; clear hm; intro k t hm
 replace hm := Zg1 hm; (refine Oeeaa hm ?_; clear hm; intro es ep h hlt hm)
 refine Oeaa (R.dict2 h) ?_; intro kvs hd e hl
 have hk : kvs.length = es.length := by rw [← e]; simp
 refine wpAny_setItem_pairs (strKind_is c.prog c.w k t) hd (fun h' hd' hs => ?_) (by rw [slim, hk]; rw [Zeb] at hl; exact q30 hl hk)
 refine Oeea (Zm4 hd' (Zh3 kvs k x) (by rw [e]; have := Zkk es k (er x); exact Nat.le_trans this hlt)) ?_; intro o' ep' ho' r
 rw [e] at r
 exact Iea _ (R.turn h (Zd6 hs) ho' r (Nat.succ_pos _)) (hm ep')
theorem Zk5 (kvs : List (Str × Value)) (k : Str) : (without kvs k).map (fun p => (p.1, er p.2)) = delA (kvs.map fun p => (p.1, er p.2)) k := by
 delta without delA
 rw [List.filter_map]; rfl
theorem Zvo (v i : Value) : Sd c A id (delItem v i) (diD (er v) (er i)) := by
 intro Q X σ s C R hm
 refine vR_el hm ?_; clear hm; intro a hm
 refine vS_el hm ?_; clear hm; intro k t hm
 replace hm := Zg1 hm; (refine Oeeaa hm ?_; clear hm; intro es ep h hin hm)
 refine Oeaa (R.dict2 h) ?_; intro kvs hd e hl
 have hk : kvs.length = es.length := by rw [← e]; simp
 rw [← e, Zde, Option.isSome_map] at hin
 delta delItem
 try with_reducible refine wpAny_holding ?_
 refine wpAny_bind (wpAny_sequenceKey hd.typeIs (by decide) ?_)
 refine wpAny_bind (wpAny_callSpecial?_slot (name := Str.ofString "__delitem__") hd.typeIs PySem.F.slot_dict_delitem
   (call_meetsIn PySem.F.slot_dict_delitem hd.typeIs PySem.F.entry_dict_delitem (PySem.F.args_dict_delitem_2 _ _) (meets_dict_delitem_pairs (PySem.strKind c.prog c.w) a (strKind_is c.prog c.w k t)) (Ieaaa kvs hd (by rw [slim, hk]; rw [Zeb] at hl; exact q30 hl hk) hin (fun h' hd' hs => ?_))))
 refine Oeea (Zm4 hd' (Zk5 kvs k) (by rw [e]; have := List.length_filter_le (fun p => decide (p.1 ≠ k)) es; delta delA; exact Nat.le_trans this hl)) ?_; intro o' ep' ho' r
 rw [e] at r
 exact wpAny_pure (Iea _ (R.turn h (Zd6 hs) ho' r (Nat.succ_pos _)) (hm ep'))
end
section
variable {c : Cx} {A : Around} {n : Nat} {g : SE} {P : Par}
theorem Zf9 (nm : Str) (hsh : Int) (t : Tok) (v : Value) : ∀ {ds : List DictEntry} {kvs : List (Str × Value)}, Pairs (PySem.strKind prog w) ds kvs → (kvs.map (·.1)).Nodup →
   Pairs (PySem.strKind prog w) (putL nm hsh (.str nm t) v ds) (stored kvs nm v) := by
 intro ds kvs hp
 induction hp with
 | nil => intro U; exact .cons (strKind_is prog w nm t) rfl .nil
 | @cons e kv es kvs h1 h2 hr ih =>
   intro hn; simp only [List.map_cons, List.nodup_cons] at hn; unfold putL; rw [Zks prog w, KeyKind.is_eq_decide h1 nm]; by_cases hk : nm = kv.1
   · rw [if_pos (by simpa using hk)]
     have e1 : stored (kv :: kvs) nm v = (kv.1, v) :: kvs := by
       delta stored; rw [if_pos (by simp [hk]), List.map_cons, if_pos hk.symm, hk, map_store_of_not_mem kvs kv.1 v hn.1]
     rw [e1]; exact .cons h1 rfl hr
   · rw [if_neg (by simpa using hk)]
     have e1 : stored (kv :: kvs) nm v = kv :: stored kvs nm v := by
       delta stored; have hk' : ¬ kv.1 = nm := fun q => hk q.symm; simp only [List.any_cons, hk', decide_false, Bool.false_or, List.map_cons, if_false]
       split <;> rfl
     rw [e1]; exact .cons h1 h2 (ih hn.2)
theorem Zia {prog : Program} {w : World} (nm : Str) (t : Tok) (v : Value) : ∀ {ds : List DictEntry}, (∀ e ∈ ds, ∃ k, (PySem.strKind prog w).is k e.key = true ∧ e.hash = (PySem.strKind prog w).hash k) →
   ∀ e ∈ putL nm (PyData.keyHash w.params nm) (.str nm t) v ds, ∃ k, (PySem.strKind prog w).is k e.key = true ∧ e.hash = (PySem.strKind prog w).hash k
 | [], _, e, he => by
   simp only [putL, List.mem_singleton] at he; subst he; exact Iea nm (strKind_is prog w nm t) rfl
 | d :: r, h, e, he => by
   unfold putL at he
   split at he
   · rcases List.mem_cons.mp he with rfl | he
     · exact h d (.head _)
     · exact h e (.tail _ he)
   · rcases List.mem_cons.mp he with rfl | he
     · exact h _ (.head _)
     · exact Zia nm t v (fun e he => h e (.tail _ he)) e he
theorem Zh2 (hn : (kvs.map (·.1)).Nodup) (k : Str) (v : Value) : ((stored kvs k v).map (·.1)).Nodup := by
 delta stored
 split
 · rw [keys_map_store]; exact hn
 · rename_i h
   rw [List.map_append, List.nodup_append]; refine ⟨hn, by simp, ?_⟩; intro a ha b hb q; simp only [List.map_cons, List.map_nil, List.mem_singleton] at hb; subst hb q; refine Oea (List.mem_map.mp ha) ?_; intro p hp e_1; obtain rfl := e_1; exact h (List.any_eq_true.mpr (Iea p hp (by simp)))
theorem Zt7 (B : Base c.prog c.w c.h₀ P) (v : Value) (nm : Str) (x : Value) : Sd c A id (setAttr v nm x) (saD (er v) nm (er x)) := by
 intro Q X σ s C R hm
 delta saD at hm
 split at hm
 · rename_i a ea
   cases Zn2 ea; refine Oea B.k ?_; intro K hK ST; refine Oe R.fr ?_; intro m F; have hKs := hK.keeps R.base
   split at hm
   · rename_i C' d h
     refine Oaa hm ?_; clear hm; intro hC hnm hm
     split at hm
     · rename_i es ep hd
       refine Oa hm ?_; clear hm; intro hlen hm; refine Oeeeaaaaaa (R.instAt h hd) ?_; intro ox ds kvs I hod hgd hk hp hn z_1; (refine Oa z_1 ?_; clear z_1; intro e hl); refine Oaaa (ST.inst C' hC nm hnm) ?_; intro s1 s2 s3 s4; refine Oa (ST.setat C' ((Zgh hC).elim .inl fun q => .inr (.inl q))) ?_; intro s5 s6; have hle : ds.length = es.length := by rw [hp.length, ← e]; simp
       have hle2 : (putL nm (PyData.keyHash c.w.params nm) (.str nm (s.toks + 1)) x ds).length ≤ ds.length + 1 := by
         rw [(Zf9 nm _ _ x hp hn).length, hp.length]; exact stored_length_le kvs nm x
       refine set_plain hKs I s5 (osa_dict (s := { s with toks := s.toks + 1 }) (es := putL nm (PyData.keyHash c.w.params nm) (.str nm (s.toks + 1)) x ds) (n := putN nm ds ep) (pre := []) (post := allBut c.h₀ s.heap [c.env.locals, d]) F (R.newsAt hd hgd) hKs I hod s6 s4 s2 ?_
         (fun U hp => nomatch hp) (Zi0 (.tail _ (.head _))) (putName_dict _ _ _ _ _ _) rfl (by exact Nat.le_trans hle2 (Nat.le_trans (Nat.succ_le_succ (Nat.le_of_eq hle)) (qL hlen rfl))) fun h' F' N' => ?_)
       · refine (?_ : (getL nm ds).isSome = true)
         have := Zhg (ds := ds.toArray) hk hp nm; rw [show ds.toArray.toList = ds from rfl] at this; rw [this]; rfl
       · refine (Iea _ (R.backTurn (ao' := .dict (putA es nm (er x)) (putN nm ds ep)) hd F F' N' (fun p hp => .tail _ hp) (N' _ (.head _)).1 ?_ (Nat.succ_pos _)) (hm _))
         refine (Ieeaaaaaa ((putL nm (PyData.keyHash c.w.params nm) (.str nm (s.toks + 1)) x ds).toArray) (stored kvs nm x) ⟨rfl, rfl, rfl⟩ rfl ?_ (Zf9 nm _ _ x hp hn) (Zh2 hn _ _) ?_ ?_)
         · intro e' he'
           exact Zia nm _ x (fun e he => hk e (by simpa using he)) e' (by simpa using he')
         · rw [Zh3, e]
         · have := Zkk es nm (er x); rw [Zeb]; exact Nat.le_trans this (qL hlen rfl)
     · exact hm.elim
   · rename_i C' d vs h
     refine Oaa hm ?_; clear hm; intro e_1; obtain rfl := e_1; intro hd hm
     split at hm
     · rename_i i hi
       refine Oeea (R.nodeAt h hd) ?_; intro sl od I e; refine Oa (ST.setat 102 (.inr (.inr rfl))) ?_; intro s5 s6; obtain ⟨_, _, hlt, p, _, _, _, s7, s8, s9⟩ := ST.node nm i hi; refine set_plain hKs I s5 (osa_descr (s := { s with toks := s.toks + 1 }) KF.slot_mset hKs I s6 s8 s9 (slot_set (s := { s with toks := s.toks + 1 }) (pre := []) (post := allBut c.h₀ s.heap [c.env.locals, a]) F (R.newsAt h I.at_) hKs I s7 hlt
         (fun U hp => nomatch hp) (Zi0 (.tail _ (.head _))) rfl rfl fun h' F' N' => ?_))
       refine (Iea _ (R.backTurn (ao' := .node 102 d ((vs ++ List.replicate (i + 1 - vs.length) none).set i (some (er x)))) h F F' N' (fun p hp => .tail _ hp) (N' _ (.head _)).1 ?_ (Nat.succ_pos _)) hm); refine (Iea _ rfl ?_); rw [← e]; simp only [Array.toList_setIfInBounds, Array.toList_append, Array.toList_replicate, List.map_set, List.map_append, List.map_replicate, Option.map_some, Option.map_none, List.length_map, Array.length_toList]
     · exact hm.elim
   · exact hm.elim
 · exact hm.elim
end
section
variable {prog : Program} {w : World} {h₀ : Heap} {os₀ : OsState} {fs fs' : List Env} {hfr hid hfr' hid' : List (Addr × Obj)} {env env' : Env} {wr wr' : List Str} {σ σ' : St} {s s' : Shared}
noncomputable def park (h₀ : Heap) (env : Env) (σ : St) (s : Shared) : List (Addr × Obj) :=
 env.cells.filterMap fun p => if (h₀.get? p.2).isNone && (σ.H p.2).isNone && ((env.kindOf p.1 == some .cell || env.kindOf p.1 == some .free) && env.cells.lookup p.1 == some p.2) then (s.heap.get? p.2).map fun o => (p.2, o) else none
theorem Zcd {o : Obj} : (b, o) ∈ park h₀ env σ s ↔ (∃ x, (x, b) ∈ env.cells ∧ (env.kindOf x = some .cell ∨ env.kindOf x = some .free) ∧ env.cells.lookup x = some b) ∧ h₀.get? b = none ∧ σ.H b = none ∧ s.heap.get? b = some o := by
 delta park
 simp only [List.mem_filterMap]
 constructor
 · intro y_1; refine Oea y_1 ?_; clear y_1; intro z_2 ha e; obtain ⟨x, a⟩ := z_2
   split at e
   · rename_i h
     simp only [Bool.and_eq_true, Bool.or_eq_true, Option.isNone_iff_eq_none, beq_iff_eq] at h; cases hg : s.heap.get? a with
     | none => rw [hg] at e; exact Zab e
     | some o' => rw [hg] at e; cases e; exact ⟨(Iea x ha h.2), h.1.1, h.1.2, hg⟩
   · exact Zab e
 · intro y_1; refine Oaaa y_1 ?_; clear y_1; intro z_2 h1 h2 h3; obtain ⟨x, hx, hk⟩ := z_2
   refine (Iea (x, b) hx ?_); rw [if_pos (by simp only [Bool.and_eq_true, Bool.or_eq_true, Option.isNone_iff_eq_none, beq_iff_eq]; exact ⟨⟨h1, h2⟩, hk⟩), h3]; rfl
theorem Zar {x : Str} {a : Addr} : ∀ {l : List (Str × Addr)}, l.lookup x = some a → (x, a) ∈ l
 | (y, k') :: l, h => by
   rw [List.lookup_cons] at h
   split at h
   · rename_i e; cases h; rw [beq_iff_eq.mp e]; exact .head _
   · exact .tail _ (Zar h)
theorem Rel.own (R : Rel prog w h₀ os₀ fs hfr hid env wr σ s) : ∃ o m es ep, s.heap.get? env.locals = some o ∧ o.data = .dict es ep ∧ s.heap.Ns env.locals m ∧ ∀ x, env.kindOf x = some .local → σ.loc x = (m x).map er :=
 Oea (R.loc) fun m hn hm => Oeeeaa (id hn) fun o es ep ho hd U => (Ieeeeaaa o m es ep ho hd hn hm)
theorem Rel.unpark (R : Rel prog w h₀ os₀ fs hfr hid env wr σ s) (hL : s.heap.get? env.locals = some oL) (R' : Rel prog w h₀ os₀ fs' hfr' hid' env' wr' σ' s')
   (hfs : ∀ e ∈ fs, e ∈ fs') (hh : ∀ p ∈ hid, p ∈ hid') (hf : ∀ p ∈ hfr, p ∈ hfr') (hp : ∀ p ∈ park h₀ env σ s, p ∈ hid') (hl : (env.locals, oL) ∈ hfr') :
   Rel prog w h₀ os₀ fs hfr hid env wr ⟨σ.loc, σ'.H⟩ s' where
 base := R'.base
 objs := R'.objs
 hidk p hp := R'.hidk p (hh p hp)
 hfrk p hp := R'.hfrk p (hf p hp)
 fsk e he := R'.fsk e (hfs e he)
 loc := by
   refine Oea R.loc ?_; intro m z_1 hm; (refine Oeeeaaa z_1 ?_; clear z_1; intro o es ep ho hd hk hfd); rw [hL] at ho; cases ho; refine Oaae (R'.hfrk _ hl) ?_; intro U U sl hg; exact Iea m (Ieeeaaa _ es ep hg hd hk hfd) hm
 cel x k hk hc := by
   refine Oeeaaaa (R.cel x k hk hc) ?_; intro a v h1 z_1 h3 h4 h5; (refine Oea z_1 ?_; clear z_1; intro o ho hd); cases q : h₀.get? a with
   | some y =>
     have : o = y := by have := R.base _ _ q; rw [ho] at this; cases this; rfl
     subst this; refine (Ieeaaaa a v h1 (Iea o (R'.base _ _ q) hd) h3 ?_ h5); cases e : σ'.H a with
     | none => rfl
     | some ao => have := (R'.objs a ao e).1; rw [q] at this; exact Zab (Eq.symm this)
   | none =>
     have hm := hp _ (Zcd.mpr ⟨(Ieaa x (Zar h1) (hc.elim (fun e => .inl (e ▸ hk)) (fun e => .inr (e ▸ hk))) h1), q, h4, ho⟩); exact Ieeaaaa a v h1 (Iea o ((R'.hidk _ hm).2.2) hd) h3 ((R'.hidk _ hm).2.1) h5
 hfd := R.hfd
 lnew := ⟨R.lnew.1, (R'.hfrk _ hl).2.1, R.lnew.2.2⟩
 wrs := R.wrs
 gens := R'.gens
 os := R'.os
 tok := R'.tok
theorem Rel.hide {ms : List (Addr × Obj)} (R : Rel prog w h₀ os₀ fs hfr hid env wr σ s) (hm : ∀ p ∈ ms, h₀.get? p.1 = none ∧ σ.H p.1 = none ∧ s.heap.get? p.1 = some p.2 ∧ p.1 ≠ env.locals ∧ (∀ x ∈ wr, env.kindOf x = some .cell → env.cells.lookup x ≠ some p.1) ∧ ∀ e ∈ fs, e.frame ≠ some p.1) :
   Rel prog w h₀ os₀ fs hfr (ms ++ hid) env wr σ s where
 base := R.base
 objs := R.objs
 hidk p hp := (List.mem_append.mp hp).elim (fun h => Oaaa (hm p h) fun a b c U => ⟨a, b, c⟩) (R.hidk p)
 hfrk := R.hfrk
 fsk := R.fsk
 loc := R.loc
 cel := R.cel
 hfd e he p hp := (List.mem_append.mp hp).elim (fun h => (hm p h).2.2.2.2.2 e he) (R.hfd e he p)
 lnew := ⟨R.lnew.1, R.lnew.2.1, (fun h => by
   rw [List.map_append, List.mem_append] at h; rcases h with h | h
   · (refine Oea (List.mem_map.mp h) ?_; intro p hp e); exact (hm p hp).2.2.2.1 e
   · exact R.lnew.2.2.1 h), R.lnew.2.2.2⟩
 wrs x hx := (R.wrs x hx).imp id fun z => Oa z fun hk h => ⟨hk, fun a ha => by
   refine Oaaa (h a ha) ?_; intro g1 g2 g3 g4; refine ⟨g1, fun q => ?_, g3, g4⟩; rw [List.map_append, List.mem_append] at q; rcases q with q | q
   · (refine Oea (List.mem_map.mp q) ?_; intro p hp e_1; obtain rfl := e_1); exact (hm p hp).2.2.2.2.1 x hx hk ha
   · exact g2 q⟩
 gens := R.gens
 os := R.os
 tok := R.tok
theorem Rel.show_ {ms : List (Addr × Obj)} (R : Rel prog w h₀ os₀ fs hfr (ms ++ hid) env wr σ s) : Rel prog w h₀ os₀ fs hfr hid env wr σ s where
 base := R.base
 objs := R.objs
 hidk p hp := R.hidk p (List.mem_append_right _ hp)
 hfrk := R.hfrk
 fsk := R.fsk
 loc := R.loc
 cel := R.cel
 hfd e he p hp := R.hfd e he p (List.mem_append_right _ hp)
 lnew := ⟨R.lnew.1, R.lnew.2.1, (fun h => R.lnew.2.2.1 (by rw [List.map_append]; exact List.mem_append_right _ h)), R.lnew.2.2.2⟩
 wrs x hx := (R.wrs x hx).imp id fun z => Oa z fun hk h => ⟨hk, fun a ha => Oaaa (h a ha) fun g1 g2 g3 g4 => ⟨g1, fun q => g2 (by rw [List.map_append]; exact List.mem_append_right _ q), g3, g4⟩⟩
 gens := R.gens
 os := R.os
 tok := R.tok
theorem Rel.step {ms ms' : List (Addr × Obj)} {tk : Nat} (R : Rel prog w h₀ os₀ fs hfr (ms ++ hid) env wr σ s)
   (nd : ∀ p ∈ ms, p.1 ∉ hid.map (·.1) ∧ p.1 ∉ hfr.map (·.1) ∧ (∀ e ∈ fs, e.frame ≠ some p.1) ∧ ∀ x k, env.kindOf x = some k → (k = .cell ∨ k = .free) → env.cells.lookup x ≠ some p.1)
   (k : ∀ b o, b ∉ ms.map (·.1) → s.heap.get? b = some o → h'.get? b = some o) (hm : ∀ p ∈ ms', h'.get? p.1 = some p.2 ∧ (p.1 ∈ ms.map (·.1) ∨ s.heap.get? p.1 = none)) (tp : 0 < tk) :
   Rel prog w h₀ os₀ fs hfr (ms' ++ hid) env wr σ { s with heap := h', toks := tk } ∧ ∀ p ∈ ms', p.1 ∉ hid.map (·.1) ∧ p.1 ∉ hfr.map (·.1) ∧ (∀ e ∈ fs, e.frame ≠ some p.1) ∧ ∀ x k, env.kindOf x = some k → (k = .cell ∨ k = .free) → env.cells.lookup x ≠ some p.1 := by
 have hms : ∀ b ∈ ms.map (·.1), h₀.get? b = none ∧ σ.H b = none ∧ b ≠ env.locals := fun b hb => by
   refine Oea (List.mem_map.mp hb) ?_; intro p hp e_1; obtain rfl := e_1; refine Oaa (R.hidk p (List.mem_append_left _ hp)) ?_; intro x y U; exact ⟨x, y, fun q => R.lnew.2.2.1 (by rw [List.map_append]; exact List.mem_append_left _ (q ▸ List.mem_map_of_mem hp))⟩
 have hms' : ∀ p ∈ ms', h₀.get? p.1 = none ∧ σ.H p.1 = none ∧ p.1 ≠ env.locals ∧ p.1 ∉ hid.map (·.1) ∧ p.1 ∉ hfr.map (·.1) ∧ (∀ e ∈ fs, e.frame ≠ some p.1) ∧ ∀ x k, env.kindOf x = some k → (k = .cell ∨ k = .free) → env.cells.lookup x ≠ some p.1 := fun p hp => by
   rcases (hm p hp).2 with h | h
   · refine Oaa (hms _ h) ?_; intro a1 a2 a3
     refine Oea (List.mem_map.mp h) ?_; intro q hq e; refine Oaaa (nd q hq) ?_; intro b1 b2 b3 b4; rw [e] at b1 b2 b3 b4; exact ⟨a1, a2, a3, b1, b2, b3, b4⟩
   · have ⟨a1, a2, a3, a4, a5, a6⟩ := R.show_.away h
     exact ⟨a1, R.H_none h, a4, a2, a3, a5, a6⟩
 have keep : ∀ b o, b ∉ ms.map (·.1) → s.heap.get? b = some o → h'.get? b = some o := k
 have R1 : Rel prog w h₀ os₀ fs hfr hid env wr σ { s with heap := h', toks := tk } := {
   base := fun b o e => k b o (fun q => by rw [(hms b q).1] at e; exact Zab e) (R.base b o e)
   objs := fun b ao e => Oaea (R.objs b ao e) fun x o ho r => (Iaea x o (k b o (fun q => by rw [(hms b q).2.1] at e; exact Zab e) ho) r)
   hidk := fun p hp => by
     refine Oaa (R.hidk p (List.mem_append_right _ hp)) ?_; intro x y z; refine ⟨x, y, k _ _ (fun q => ?_) z⟩; refine Oea (List.mem_map.mp q) ?_; intro p' hp' e; exact (nd p' hp').1 (e ▸ List.mem_map_of_mem hp)
   hfrk := fun p hp => by
     refine Oaae (R.hfrk p hp) ?_; intro x y sl z; refine (Iaae x y sl (k _ _ (fun q => ?_) z)); refine Oea (List.mem_map.mp q) ?_; intro p' hp' e; exact (nd p' hp').2.1 (e ▸ List.mem_map_of_mem hp)
   fsk := fun e he => by
     refine Oaeeaaaa (R.fsk e he) ?_; intro x L o hf h1 h2 h3 h4; refine (Iaeeaaaa x L o hf h1 h2 (k _ _ (fun q => ?_) h3) h4); refine Oea (List.mem_map.mp q) ?_; intro p' hp' e'; exact (nd p' hp').2.2.1 e he (e' ▸ hf)
   loc := Oea R.loc fun m hn hm => (Iea m (Oeeea hn fun o es ep ho r => (Ieeea o es ep (k _ _ (fun q => (hms _ q).2.2 rfl) ho) r)) hm)
   cel := fun x kk hk hc => by
     refine Oeeaaaa (R.cel x kk hk hc) ?_; intro ca v h1 z_1 h3 h4 h5; (refine Oea z_1 ?_; clear z_1; intro o ho hd); refine (Ieeaaaa ca v h1 (Iea o (k _ _ (fun q => ?_) ho) hd) h3 h4 h5); refine Oea (List.mem_map.mp q) ?_; intro p' hp' e'; exact (nd p' hp').2.2.2 x kk hk hc (e' ▸ h1)
   hfd := R.show_.hfd
   lnew := R.show_.lnew
   wrs := R.show_.wrs
   gens := R.gens
   os := R.os
   tok := tp }
 exact ⟨R1.hide fun p hp => Oaaaaaa (hms' p hp) fun a1 a2 a3 U U a6 a7 => ⟨a1, a2, (hm p hp).1, a3, fun x U hk => a7 x _ hk (.inl rfl), a6⟩, fun p hp => (hms' p hp).2.2.2⟩
end
abbrev Cx.with (c : Cx) (ms : List (Addr × Obj)) : Cx := { c with hid := ms ++ c.hid }
theorem Fit.with (F : Fit c n g A) (ms : List (Addr × Obj)) : Fit (c.with ms) n g A :=
 { frames := F.frames, depth := F.depth, units := F.units, lv := F.lv, le := F.le, calm := F.calm,
   held := fun h => Oeeeaa (F.held h) fun hx ox vs a b d => (Ieeeaa hx ox vs a (List.mem_append_right _ b) d),
   sc := F.sc, kind := F.kind, glob := F.glob, blt := F.blt, wr := F.wr, fr := F.fr, nm := F.nm, top := F.top }
theorem OK.shown {ms : List (Addr × Obj)} {α β : Type} {r : α → β} {Q : β → St → Prop} {a : α} (h : OK (c.with ms) r Q a s) : OK c r Q a s :=
 Oea (h) fun σ R q => (Iea σ R.show_ q)
theorem EX.shown {ms : List (Addr × Obj)} {v : Value} (h : EX (c.with ms) X v s) : EX c X v s := by
 refine Oeeeaaa h ?_; clear h; intro σ k e e_1; obtain rfl := e_1; intro R F q
 have off : ∀ a, (c.with ms).off σ a → c.off σ a := fun a z => Oaaa z fun h1 h2 h3 h4 => ⟨h1, h2, fun q => h3 (by rw [List.map_append]; exact List.mem_append_right _ q), h4⟩
 refine (Ieeeaaa σ k e rfl R.show_ ⟨off _ F.1, ?_⟩ q)
 obtain ⟨oe, vs, h1, h2, h3, h4, h5, h6⟩ := F.2
 exact ⟨oe, vs, h1, h2, h3, h4, h5, h6.imp id fun z => Oeeeeaaa z fun T oT ts fl a1 a2 a3 a4 => (Ieeeeaaa T oT ts fl a1 a2 (off _ a3) a4)⟩
theorem EX.none {v : Value} (h : EX c noX v s) : False := Oeeeaaa (h) fun U U U U U U q => q
noncomputable def Gives (h : Heap) : Item → Value → Prop
 | .one a, v => er v = a
 | .two a b, v => ∃ T x y, v = .ref T ∧ h.IsTuple T #[x, y] ∧ er x = a ∧ er y = b
noncomputable def okT : Item → Expr → Prop
 | .one _, t => ∃ x p, t = .Name x p
 | .two _ _, t => ∃ ts k p, t = .Tuple ts k p
abbrev Objs (prog : Program) (w : World) (H : AH) (h : Heap) : Prop := ∀ a ao, H a = some ao → ∃ o, h.get? a = some o ∧ OR prog w ao o
abbrev Hid (H : AH) (h : Heap) (hs : List (Addr × Obj)) : Prop := ∀ p ∈ hs, h.get? p.1 = some p.2 ∧ H p.1 = none
structure Wk (prog : Program) (w : World) (A : Around) (I : Addr) (src : Src) (J : Nat → List (Addr × Obj) → Prop) : Prop where
 item : ∀ i it H (s : Shared) hs (Q : Option Value → Shared → Prop) (E : Value → Shared → Prop), Objs prog w H s.heap → src.holds H → Hid H s.heap hs → J i hs → src.items[i]? = some it → 0 < s.toks →
   (∀ v h' tk, 0 < tk → (∀ tgt (Q' : Unit → Shared → Prop) (E' : Value → Shared → Prop), okT it tgt →
       (∀ h2 hs', J (i + 1) hs' → (∀ p ∈ hs', h2.get? p.1 = some p.2 ∧ (p.1 ∈ hs.map (·.1) ∨ s.heap.get? p.1 = none)) → (∀ b o, b ∉ hs.map (·.1) → s.heap.get? b = some o → h2.get? b = some o) → Gives h2 it v →
         Q' () { s with heap := h2, toks := tk }) → wpAny (model prog w) A (letOwnedTupleGo tgt (.ref I) v) Q' E' { s with heap := h', toks := tk }) → Q (some v) { s with heap := h', toks := tk }) →
   wpAny (model prog w) A (pyNext (.ref I)) Q E s
 done : ∀ H (s : Shared) hs (Q : Option Value → Shared → Prop) (E : Value → Shared → Prop), Objs prog w H s.heap → src.holds H → Hid H s.heap hs → J src.items.length hs →
   (∀ h', (∀ b o, b ∉ hs.map (·.1) → s.heap.get? b = some o → h'.get? b = some o) → Q none { s with heap := h' }) → wpAny (model prog w) A (pyNext (.ref I)) Q E s
 self : ∀ i H (s : Shared) hs (Q : Value → Shared → Prop) (E : Value → Shared → Prop), Hid H s.heap hs → J i hs → Q (.ref I) s → wpAny (model prog w) A (pyIter (.ref I)) Q E s
section
variable {prog : Program} {w : World} {A : Around}
theorem Wk.single {src : Src} (K : Nat → Obj → Prop)
   (item : ∀ i a H (s : Shared) o (Q : Option Value → Shared → Prop) (E : Value → Shared → Prop), Objs prog w H s.heap → src.holds H → s.heap.get? I = some o → H I = none → K i o → src.items[i]? = some (.one a) → 0 < s.toks →
     (∀ v h' tk o', 0 < tk → er v = a → h'.get? I = some o' → K (i + 1) o' → (∀ b x, b ≠ I → s.heap.get? b = some x → h'.get? b = some x) → Q (some v) { s with heap := h', toks := tk }) → wpAny (model prog w) A (pyNext (.ref I)) Q E s)
   (ones : ∀ (i : Nat) (it : Item), src.items[i]? = some it → ∃ a, it = Item.one a)
   (done : ∀ H (s : Shared) o (Q : Option Value → Shared → Prop) (E : Value → Shared → Prop), Objs prog w H s.heap → src.holds H → s.heap.get? I = some o → H I = none → K src.items.length o →
     (∀ h', Heap.ExtBut I s.heap h' → Q none { s with heap := h' }) → wpAny (model prog w) A (pyNext (.ref I)) Q E s)
   (self : ∀ i (s : Shared) o (Q : Value → Shared → Prop) (E : Value → Shared → Prop), s.heap.get? I = some o → K i o → Q (.ref I) s → wpAny (model prog w) A (pyIter (.ref I)) Q E s) :
   Wk prog w A I src (fun i hs => ∃ o, hs = [(I, o)] ∧ K i o) where
 item := by
   intro i it H s hs Q E ho hS hH y_1; refine Oea y_1 ?_; clear y_1; intro o e_2; obtain rfl := e_2; intro hK; intro hi tp hQ; refine Oe (ones i it hi) ?_; intro a e_1; obtain rfl := e_1; refine item i a H s o Q E ho hS (hH _ (.head _)).1 (hH _ (.head _)).2 hK hi tp fun v h' tk o' tk0 hv hg hK' hk => hQ v h' tk tk0 fun tgt Q' E' ht h2 => ?_; refine Oee ht ?_; clear ht; intro x p e_1; obtain rfl := e_1; refine wpAny_of_eq (a := ()) rfl (h2 h' [(I, o')] (Iea o' rfl hK') (fun p hp => ?_) (fun b x hb e => hk b x (by simpa using hb) e) hv); rcases List.mem_singleton.mp hp with rfl
   exact ⟨hg, .inl (by simp)⟩
 done := by
   intro H s hs Q E ho hS hH y_1; refine Oea y_1 ?_; clear y_1; intro o e_2; obtain rfl := e_2; intro hK; intro hQ; exact done H s o Q E ho hS (hH _ (.head _)).1 (hH _ (.head _)).2 hK fun h' he => hQ h' fun b x hb e => he b x (by simpa using hb) e
 self := by
   intro i H s hs Q E hH y_1; refine Oea y_1 ?_; clear y_1; intro o e_2; obtain rfl := e_2; intro hK; intro hQ; exact self i s o Q E (hH _ (.head _)).1 hK hQ
theorem Zax {α : Type} {f : α → AV} {xs : List α} {it : Item} (h : (xs.map fun x => Item.one (f x))[i]? = some it) : ∃ x, xs[i]? = some x ∧ it = .one (f x) := by
 rw [List.getElem?_map] at h
 cases e : xs[i]? with
 | none => rw [e] at h; exact Zab h
 | some x => rw [e] at h; cases h; exact Iea x rfl rfl
theorem Zbs {h : Heap} (ho : Objs prog w H h) (e : H a = some (.list xs)) : ∃ vs : Array Value, h.IsList a vs ∧ vs.toList.map er = xs := by
 obtain ⟨o, hg, vs, n, rfl, hv, _⟩ := ho a _ e
 exact Iea vs (Ieaae _ hg rfl n rfl) hv
theorem Zec {h : Heap} (ho : Objs prog w H h) (e : H a = some (.tup xs)) : ∃ vs : Array Value, h.IsTuple a vs ∧ vs.toList.map er = xs := by
 obtain ⟨o, hg, vs, n, rfl, hv, _⟩ := ho a _ e
 exact Iea vs (Ieaae _ hg rfl n rfl) hv
theorem Zdg (hv : vs.toList.map er = xs) : xs[i]? = (vs[i]?).map er := by
 rw [← hv, List.getElem?_map]; simp
theorem Wk.list (hh : A.handled = none) (I l : Addr) (xs : List AV) : Wk prog w A I (.list l xs) (fun i hs => ∃ o, hs = [(I, o)] ∧ o.cls = .type "list_iterator" ∧ o.data = .fields #[.ref l, .int i 0]) :=
 .single (src := .list l xs) (fun (i : Nat) o => o.cls = .type "list_iterator" ∧ o.data = .fields #[.ref l, .int i 0])
   (fun i a H s o Q E ho hS hg hI hK hi tp hQ => by
     refine Oea (Zbs ho hS) ?_; intro vs hl hv; refine Oea (Zax (f := fun a => a) hi) ?_; intro x hx e; cases e; rw [Zdg hv] at hx; cases hvx : vs[i]? with
     | none => rw [hvx] at hx; exact Zab hx
     | some v =>
       rw [hvx] at hx; cases hx; refine wpAny_pyNext_list_item (Iea o hg hK) hl hvx fun h' ⟨o', hg', hK'⟩ hs => hQ v h' s.toks o' tp rfl hg' hK' fun b x hb e => hs.extBut b x hb e)
   (fun i it hi => Oea (Zax (f := fun a => a) hi) fun x U e => ⟨x, e⟩)
   (fun H s o Q E ho hS hg hI hK hQ => by
     refine Oea (Zbs ho hS) ?_; intro vs hl hv; refine wpAny_pyNext_list_end hh (Iea o hg hK) hl ?_ hQ; have e : (xs.map Item.one).length = vs.size := by rw [List.length_map, ← hv, List.length_map, Array.length_toList]
     refine (?_ : vs[(xs.map Item.one).length]? = none); rw [e]; simp)
   (fun i s o Q E hg hK hq => wpAny_pyIter_listiter (Iea o hg hK) hq)
theorem Wk.tup (hh : A.handled = none) (I l : Addr) (xs : List AV) : Wk prog w A I (.tup l xs) (fun i hs => ∃ o, hs = [(I, o)] ∧ o.cls = .type "tuple_iterator" ∧ o.data = .fields #[.ref l, .int i 0]) :=
 .single (src := .tup l xs) (fun (i : Nat) o => o.cls = .type "tuple_iterator" ∧ o.data = .fields #[.ref l, .int i 0])
   (fun i a H s o Q E ho hS hg hI hK hi tp hQ => by
     refine Oea (Zec ho hS) ?_; intro vs hl hv; refine Oea (Zax (f := fun a => a) hi) ?_; intro x hx e; cases e; rw [Zdg hv] at hx; cases hvx : vs[i]? with
     | none => rw [hvx] at hx; exact Zab hx
     | some v =>
       rw [hvx] at hx; cases hx; refine wpAny_pyNext_tuple_item (Iea o hg hK) hl hvx fun h' ⟨o', hg', hK'⟩ hs => hQ v h' s.toks o' tp rfl hg' hK' fun b x hb e => hs.extBut b x hb e)
   (fun i it hi => Oea (Zax (f := fun a => a) hi) fun x U e => ⟨x, e⟩)
   (fun H s o Q E ho hS hg hI hK hQ => by
     refine Oea (Zec ho hS) ?_; intro vs hl hv; refine wpAny_pyNext_tuple_end hh (Iea o hg hK) hl ?_ hQ; have e : (xs.map Item.one).length = vs.size := by rw [List.length_map, ← hv, List.length_map, Array.length_toList]
     refine (?_ : vs[(xs.map Item.one).length]? = none); rw [e]; simp)
   (fun i s o Q E hg hK hq => wpAny_pyIter_tupleiter (Iea o hg hK) hq)
theorem Zcn {h : Heap} (ho : Objs prog w H h) (e : H a = some (.dict es ep)) : ∃ kvs, h.DictAt (strKind prog w) a kvs ep ∧ kvs.map (fun p => (p.1, er p.2)) = es := by
 refine Oeaeeaaaaa (ho a _ e) ?_; intro o hg ds kvs h1 h2 h3 h4 h5 z_1; (refine Oa z_1 ?_; clear z_1; intro h6 U)
 exact Iea kvs ⟨o, ds, hg, h1, h2, h3, h4, h5⟩ h6
theorem Wk.dict (hh : A.handled = none) (I d : Addr) (es : List (Str × AV)) (ep : Nat) : Wk prog w A I (.dict d es ep) (fun i hs => ∃ o, hs = [(I, o)] ∧ o.cls = .type "dict_keyiterator" ∧ o.data = .fields #[.ref d, .int i 0, .int es.length 0, .int ep 0]) :=
 .single (src := .dict d es ep) (fun (i : Nat) o => o.cls = .type "dict_keyiterator" ∧ o.data = .fields #[.ref d, .int i 0, .int es.length 0, .int ep 0])
   (fun i a H s o Q E ho hS hg hI hK hi tp hQ => by
     refine Oea (Zcn ho hS) ?_; intro kvs hd hv; refine Oea (Zax (f := fun p : Str × AV => AV.str p.1) hi) ?_; intro x hx e; cases e; have hlen : es.length = kvs.length := by rw [← hv, List.length_map]
     rw [hlen] at hK; rw [← hv, List.getElem?_map] at hx; cases hvx : kvs[i]? with
     | none => rw [hvx] at hx; exact Zab hx
     | some kv =>
       rw [hvx] at hx; cases hx; refine wpAny_pyNext_dict_item (knd := strKind prog w) (Iea o hg hK) hd hvx fun key h' hkey ⟨o', hg', hK'⟩ hs => ?_; refine Oe (Value.isStrOf_shape hkey) ?_; intro u e_1; obtain rfl := e_1; exact hQ _ h' s.toks o' tp rfl hg' (by rw [hlen]; exact hK') fun b x hb e => hs.extBut b x hb e)
   (fun i it hi => Oea (Zax (f := fun p : Str × AV => AV.str p.1) hi) fun x U e => ⟨_, e⟩)
   (fun H s o Q E ho hS hg hI hK hQ => by
     refine Oea (Zcn ho hS) ?_; intro kvs hd hv; have hlen : es.length = kvs.length := by rw [← hv, List.length_map]
     have e : (Src.dict d es ep).items.length = kvs.length := (List.length_map ..).trans hlen; rw [hlen, e] at hK; exact wpAny_pyNext_dict_end (knd := strKind prog w) hh (Iea o hg hK) hd (by simp) hQ)
   (fun i s o Q E hg hK hq => wpAny_pyIter_keyiter (Iea o hg hK) hq)
theorem Wk.vals (hh : A.handled = none) (I v d : Addr) (es : List (Str × AV)) (ep : Nat) : Wk prog w A I (.vals v d es ep) (fun i hs => ∃ o, hs = [(I, o)] ∧ o.cls = .type "dict_valueiterator" ∧ o.data = .fields #[.ref d, .int i 0, .int es.length 0, .int ep 0]) :=
 .single (src := .vals v d es ep) (fun (i : Nat) o => o.cls = .type "dict_valueiterator" ∧ o.data = .fields #[.ref d, .int i 0, .int es.length 0, .int ep 0])
   (fun i a H s o Q E ho hS hg hI hK hi tp hQ => by
     refine Oea (Zcn ho hS.2) ?_; intro kvs hd hv; refine Oea (Zax (f := fun p : Str × AV => p.2) hi) ?_; intro x hx e; cases e; have hlen : es.length = kvs.length := by rw [← hv, List.length_map]
     rw [hlen] at hK; rw [← hv, List.getElem?_map] at hx; cases hvx : kvs[i]? with
     | none => rw [hvx] at hx; exact Zab hx
     | some kv =>
       rw [hvx] at hx; cases hx; refine wpAny_pyNext_values_item (knd := strKind prog w) (Iea o hg hK) hd hvx fun h' ⟨o', hg', hK'⟩ hs => ?_; exact hQ _ h' s.toks o' tp rfl hg' (by rw [hlen]; exact hK') fun b x hb e => hs.extBut b x hb e)
   (fun i it hi => Oea (Zax (f := fun p : Str × AV => p.2) hi) fun x U e => ⟨_, e⟩)
   (fun H s o Q E ho hS hg hI hK hQ => by
     refine Oea (Zcn ho hS.2) ?_; intro kvs hd hv; have hlen : es.length = kvs.length := by rw [← hv, List.length_map]
     have e : (Src.vals v d es ep).items.length = kvs.length := (List.length_map ..).trans hlen; rw [hlen, e] at hK; exact wpAny_pyNext_values_end (knd := strKind prog w) hh (Iea o hg hK) hd (by simp) hQ)
   (fun i s o Q E hg hK hq => wpAny_pyIter_valiter (Iea o hg hK) hq)
theorem Wk.rng (hh : A.handled = none) (I r : Addr) (lo : Int) (n : Nat) : Wk prog w A I (.rng r lo n) (fun i hs => ∃ o, hs = [(I, o)] ∧ o = { cls := .type "range_iterator", dict := none, data := .fields #[rawInt (lo + (i : Nat)), rawInt ((n : Int) - (i : Nat)), rawInt 1], slots := #[] }) :=
 .single (src := .rng r lo n) (fun (i : Nat) o => o = { cls := .type "range_iterator", dict := none, data := .fields #[rawInt (lo + (i : Nat)), rawInt ((n : Int) - (i : Nat)), rawInt 1], slots := #[] })
   (fun i a H s o Q E ho hS hg hI hK hi tp hQ => by
     refine Oea (Zax (f := fun i : Nat => AV.int (lo + (i : Int))) hi) ?_; intro x hx e; cases e; obtain ⟨hlt, rfl⟩ : i < n ∧ i = x := by
       by_cases h : i < n
       · rw [List.getElem?_range h] at hx; cases hx; exact ⟨h, rfl⟩
       · rw [List.getElem?_eq_none (by simpa using h)] at hx; exact Zab hx
     subst hK; refine wpAny_pyNext_range_item hg (by exact Int.sub_pos_of_lt (Int.ofNat_lt.2 hlt)) fun h' hg' hs => hQ _ h' _ _ (Nat.succ_pos _) rfl hg' ?_ fun b x hb e => hs.extBut b x hb e; have e1 : lo + (i : Int) + 1 = lo + ((i + 1 : Nat) : Int) := by push_cast; exact Int.add_assoc _ _ _
     have e2 : (n : Int) - (i : Int) - 1 = (n : Int) - ((i + 1 : Nat) : Int) := by push_cast; exact Int.sub_sub _ _ _
     rw [e1, e2])
   (fun i it hi => Oea (Zax (f := fun i : Nat => AV.int (lo + (i : Int))) hi) fun x U e => ⟨_, e⟩)
   (fun H s o Q E ho hS hg hI hK hQ => by
     subst hK; refine wpAny_pyNext_range_end hh hg ?_ hQ; have : (Src.rng r lo n).items.length = n := by simp [Src.items]
     rw [this]; exact Int.le_of_eq (Int.sub_self _))
   (fun i s o Q E hg hK hq => by subst hK; exact wpAny_pyIter_rangeiter hg hq)
end
theorem Zaq : Slot "set_iterator" "__next__" "set_iterator.__next__" :=
 .of (owner := "set_iterator") (n := "__next__") (by rw [typeLookup_type, builtinLookup_eq_fast]; kernel_rfl) (by decide +kernel) (by decide +kernel) (by decide +kernel)
   (by first | exact .inl (by decide +kernel) | exact .inr (by decide +kernel)) (by rw [isSubtype_type]; kernel_rfl)
theorem Zc2 : Slot "set_iterator" "__iter__" "set_iterator.__iter__" :=
 .of (owner := "set_iterator") (n := "__iter__") (by rw [typeLookup_type, builtinLookup_eq_fast]; kernel_rfl) (by decide +kernel) (by decide +kernel) (by decide +kernel)
   (by first | exact .inl (by decide +kernel) | exact .inr (by decide +kernel)) (by rw [isSubtype_type]; kernel_rfl)
theorem Zbl : entryFor table "set_iterator.__next__" = some Builtin.«set_iterator.__next__» := entryFor_of_tree (by kernel_rfl)
theorem Ze0 : entryFor table "set_iterator.__iter__" = some Builtin.«dict_keyiterator.__iter__» :=
 entryFor_alias (id' := "dict_keyiterator.__iter__") (by kernel_rfl) rfl (by decide +kernel) (by kernel_rfl)
theorem Zf1 : entryFor table "set.__iter__" = some Builtin.«frozenset.__iter__» :=
 entryFor_alias (id' := "frozenset.__iter__") (by kernel_rfl) rfl (by decide +kernel) (by kernel_rfl)
theorem Zbt (a : Value) : argsOk "set_iterator.__next__" ⟨[a], []⟩ := by delta argsOk; kernel_rfl
theorem Zfp (a : Value) : argsOk "set_iterator.__iter__" ⟨[a], []⟩ := by delta argsOk; kernel_rfl
section
variable {prog : Program} {w : World} {A : Around} {E : Value → Shared → Prop} {s : Shared}
theorem Zeq {α : Type} : ∀ {l : List α} {i : Nat} (h : i < l.length), (l[i] :: l.eraseIdx i).Perm l
 | _ :: _, 0, _ => .rfl
 | x :: l, i + 1, h => by
   rw [List.getElem_cons_succ, List.eraseIdx_cons_succ]; exact (List.Perm.swap ..).trans ((Zeq (by simpa using h)).cons x)
theorem Zhz {M : Model} {src : Source} {Q : Nat → Shared → Prop} (hn : n ≠ 0) (h : ∀ i dr, i < n → Q i { s with drawn := dr }) : wpAny M A (choose src n) Q E s := fun Γ p U => by
 refine (?_ : Sem.wp M Γ (Sem.choose src n .pure) _ _ p s)
 rw [Sem.wp]
 refine ⟨hn, ?_⟩
 rw [Sem.wp]
 exact h _ _ (Nat.mod_lt _ (Nat.pos_of_ne_zero hn))
theorem Zlr {M : Model} {α : Type} (n : Nat) : ∀ (xs : List α) (s : Shared) (Q : List α → Shared → Prop), xs.length = n → (∀ out dr, out.Perm xs → Q out { s with drawn := dr }) → wpAny M A (drawOrder n xs) Q E s := by
 induction n with
 | zero =>
   intro xs s Q hn h; have hx : xs = [] := List.length_eq_zero_iff.mp hn; rw [hx] at h ⊢; exact wpAny_pure (h [] s.drawn .rfl)
 | succ n ih =>
   intro xs s Q hn h; have hl : 0 < xs.length := by exact Nat.lt_of_lt_of_eq (Nat.succ_pos _) hn.symm
   cases xs with
   | nil => cases hl
   | cons x xs =>
   refine wpAny_bind (Zhz (Nat.ne_of_gt hl) fun i dr hi => ?_); rw [List.getElem?_eq_getElem hi]; refine wpAny_bind (ih ((x :: xs).eraseIdx i) _ _ (by rw [List.length_eraseIdx_of_lt hi]; exact q40 hn) fun out dr' hp => wpAny_pure ?_); exact h _ dr' ((hp.cons _).trans (Zeq hi))
theorem Zm3 {α : Type} (next : Nat → Nat) : ∀ (fuel k : Nat) (left : List α) (out : Array α), left.length = fuel → (pickOrder.go next fuel k left out).toList.Perm (out.toList ++ left)
 | 0, k, [], out, _ => by unfold pickOrder.go; simp
 | fuel + 1, k, x :: left, out, hl => by
   unfold pickOrder.go; have hi : next k % (x :: left).length < (x :: left).length := Nat.mod_lt _ (by simp); rw [List.getElem?_eq_getElem hi]; dsimp only; refine (Zm3 next fuel (k + 1) _ _ (by rw [List.length_eraseIdx_of_lt hi]; simp at hl ⊢; exact hl)).trans ?_; rw [Array.toList_push, List.append_assoc]; exact List.Perm.append_left _ (Zeq hi)
theorem Zm2 {α : Type} (next : Nat → Nat) (xs : Array α) : (pickOrder next xs).toList.Perm xs.toList := by
 delta pickOrder
 exact (Zm3 next xs.size 0 xs.toList #[] (by simp)).trans (by simp)
noncomputable def sitObj (first : Value) (i : Nat) (a : Addr) (n ep : Nat) : Obj := { cls := .type "set_iterator", data := .fields #[first, .int i 0, .ref a, .int n 0, .int ep 0] }
theorem Zki {first : Value} {Q : Value → Shared → Prop} (hI : s.heap.get? I = some (sitObj first i a n ep)) (h : Q (.ref I) s) : wpAny (model prog w) A (pyIter (.ref I)) Q E s := by
 have hT : s.TypeIs (.ref I) "set_iterator" := (Iea _ hI rfl)
 refine wpAny_pyIter_slot hT Zc2 (wpAny_call_entry Zc2 hT Ze0 ?_ (Zfp _))
 refine (?_ : wpAny _ _ (PySem.ret (.ref I)) _ _ s)
 exact wpAny_pure ⟨_, rfl, "set_iterator", _, hT, Zaq.lookup, h⟩
theorem Zg5 {next : Nat} {es : Array (Int × Value)} {t : SetTable} {x : Value} {Q : Option Value → Shared → Prop} (hI : s.heap.get? I = some (sitObj (.int slot 0) i a n ep)) (ha : s.heap.get? a = some oa) (hd : oa.data = .set es ep t) (hf : t.fits es.size = true) (hn : es.size = n)
   (hN : ∀ (A : Around) (Q : Option (Value × Nat) → Shared → Prop) (E : Value → Shared → Prop), Q (some (x, next)) s → wpAny (model prog w) A (setNext a (slot : Int).toNat (i : Int).toNat (ep : Int).toNat) Q E s)
   (h : ∀ h', h'.get? I = some (sitObj (.int next 0) (i + 1) a n ep) → Heap.SameBut I s.heap h' → Q (some x) { s with heap := h' }) :
   wpAny (model prog w) A (pyNext (.ref I)) Q E s := by
 have hT : s.TypeIs (.ref I) "set_iterator" := (Iea _ hI rfl)
 unfold pyNext
 refine wpAny_bind (wpAny_attempt (wpAny_callSpecial?_slot (name := Str.ofString "__next__") hT Zaq
   (wpAny_call_entry Zaq hT Zbl ?_ (Zbt _))))
 delta Builtin.«set_iterator.__next__»
 repeat (any_goals (first | assumption | with_reducible refine wpAny_setEntries_of ha hd hf ?_ | with_reducible refine hN _ _ _ ?_ | wp_step))
 refine (Iea x rfl (wpAny_pure (h _ ?_ ((Heap.SameBut.update ..).trans (Heap.SameBut.update ..)))))
 exact Heap.get?_update_self _ (Heap.get?_update_self _ hI rfl) rfl
theorem Zic (hh : A.handled = none) {es : Array (Int × Value)} {t : SetTable} {Q : Option Value → Shared → Prop} (hI : s.heap.get? I = some (sitObj (.int slot 0) i a n ep)) (ha : s.heap.get? a = some oa) (hd : oa.data = .set es ep t) (hf : t.fits es.size = true) (hn : es.size = n)
   (hN : ∀ (A : Around) (Q : Option (Value × Nat) → Shared → Prop) (E : Value → Shared → Prop), Q none s → wpAny (model prog w) A (setNext a (slot : Int).toNat (i : Int).toNat (ep : Int).toNat) Q E s)
   (h : ∀ h', Heap.ExtBut I s.heap h' → Q none { s with heap := h' }) :
   wpAny (model prog w) A (pyNext (.ref I)) Q E s := by
 have hT : s.TypeIs (.ref I) "set_iterator" := (Iea _ hI rfl)
 unfold pyNext
 refine wpAny_bind (wpAny_attempt (wpAny_callSpecial?_slot (name := Str.ofString "__next__") hT Zaq
   (wpAny_call_entry Zaq hT Zbl ?_ (Zbt _))))
 delta Builtin.«set_iterator.__next__»
 repeat (any_goals (first | assumption | with_reducible refine wpAny_setEntries_of ha hd hf ?_ | with_reducible refine hN _ _ _ ?_ | wp_step))
 delta raiseNew
 refine wpAny_bind (wpAny_handled ?_)
 rw [show A.in1.handled = none from hh]
 refine wpAny_bind (wpAny_pure (wpAny_throw ?_))
 refine wpAny_bind (wpAny_isInstance (T := "StopIteration") (b := true) (Iea _ (Heap.get?_push_size _ rfl) rfl) isSubtype_stop ?_)
 exact wpAny_pure (h _ (((Heap.SameBut.update ..).extBut.push _).push _))
theorem Zfy {place k : Nat} {places : Array Value} {es : Array (Int × Value)} {t : SetTable} {h₁ : Int} {x : Value} {Q : Option Value → Shared → Prop} (hI : s.heap.get? I = some (sitObj (.ref T) i a n ep)) (hTu : s.heap.get? T = some { cls := .type "tuple", data := .seq places k }) (ha : s.heap.get? a = some oa) (hd : oa.data = .set es ep t) (hf : t.fits es.size = true) (hn : es.size = n)
   (hp : places[i]? = some (.int place 0)) (hx : es[place]? = some (h₁, x))
   (h : ∀ h', h'.get? I = some (sitObj (.ref T) (i + 1) a n ep) → Heap.SameBut I s.heap h' → Q (some x) { s with heap := h' }) :
   wpAny (model prog w) A (pyNext (.ref I)) Q E s := by
 have hT : s.TypeIs (.ref I) "set_iterator" := (Iea _ hI rfl)
 unfold pyNext
 refine wpAny_bind (wpAny_attempt (wpAny_callSpecial?_slot (name := Str.ofString "__next__") hT Zaq
   (wpAny_call_entry Zaq hT Zbl ?_ (Zbt _))))
 delta Builtin.«set_iterator.__next__»
 have hN : ∀ (A : Around) (Q : Value → Shared → Prop) (E : Value → Shared → Prop), Q x s → wpAny (model prog w) A (setNextDrawn a (place : Int).toNat (ep : Int).toNat) Q E s := fun A Q E h => by
   delta setNextDrawn; refine wpAny_bind (wpAny_setState_of ha hd hf ?_); dsimp only; rw [if_neg (by simp), show ((place : Int).toNat) = place from Int.toNat_natCast _, hx]; exact wpAny_pure h
 have hS : ∀ (A : Around) (Q : Option (Array Value) → Shared → Prop) (E : Value → Shared → Prop), Q (some places) s → wpAny (model prog w) A (seqItems? (.ref T)) Q E s := fun A Q E h => wpAny_seqItems hTu rfl h
 have hp' : places[(i : Int).toNat]? = some (.int place 0) := by rw [Int.toNat_natCast]; exact hp
 repeat (any_goals (first | assumption | with_reducible refine wpAny_setEntries_of ha hd hf ?_ | with_reducible refine hN _ _ _ ?_ | with_reducible refine hS _ _ _ ?_ | wp_step | (rw [hp']; dsimp only)))
 refine (Iea x rfl (wpAny_pure (h _ ?_ (Heap.SameBut.update ..))))
 exact Heap.get?_update_self _ hI rfl
theorem Zg6 (hh : A.handled = none) {k : Nat} {places : Array Value} {es : Array (Int × Value)} {t : SetTable} {Q : Option Value → Shared → Prop} (hI : s.heap.get? I = some (sitObj (.ref T) i a n ep)) (hTu : s.heap.get? T = some { cls := .type "tuple", data := .seq places k }) (ha : s.heap.get? a = some oa) (hd : oa.data = .set es ep t) (hf : t.fits es.size = true) (hn : es.size = n)
   (hp : places[i]? = none)
   (h : ∀ h', Heap.ExtBut I s.heap h' → Q none { s with heap := h' }) :
   wpAny (model prog w) A (pyNext (.ref I)) Q E s := by
 have hT : s.TypeIs (.ref I) "set_iterator" := (Iea _ hI rfl)
 unfold pyNext
 refine wpAny_bind (wpAny_attempt (wpAny_callSpecial?_slot (name := Str.ofString "__next__") hT Zaq
   (wpAny_call_entry Zaq hT Zbl ?_ (Zbt _))))
 delta Builtin.«set_iterator.__next__»
 have hS : ∀ (A : Around) (Q : Option (Array Value) → Shared → Prop) (E : Value → Shared → Prop), Q (some places) s → wpAny (model prog w) A (seqItems? (.ref T)) Q E s := fun A Q E h => wpAny_seqItems hTu rfl h
 have hp' : places[(i : Int).toNat]? = none := by rw [Int.toNat_natCast]; exact hp
 repeat (any_goals (first | assumption | with_reducible refine wpAny_setEntries_of ha hd hf ?_ | with_reducible refine hS _ _ _ ?_ | wp_step | (rw [hp']; dsimp only)))
 delta raiseNew
 refine wpAny_bind (wpAny_handled ?_)
 rw [show A.in1.handled = none from hh]
 refine wpAny_bind (wpAny_pure (wpAny_throw ?_))
 refine wpAny_bind (wpAny_isInstance (T := "StopIteration") (b := true) (Iea _ (Heap.get?_push_size _ rfl) rfl) isSubtype_stop ?_)
 exact wpAny_pure (h _ ((((Heap.SameBut.update ..).trans (Heap.SameBut.update ..)).extBut.push _).push _))
end
section
variable {prog : Program} {w : World} {A : Around} {E : Value → Shared → Prop} {s : Shared}
theorem Zh6 {es : Array (Int × Value)} {t : SetTable} {Q : Bool → Shared → Prop} (ha : s.heap.get? a = some oa) (hd : oa.data = .set es ep t) (hf : t.fits es.size = true)
   (h : Q (!w.params.followText "set-order" && (!t.plain && decide (es.size > 1))) s) : wpAny (model prog w) A (setDrawn a) Q E s := by
 delta setDrawn setsByText
 refine wpAny_bind (wpAny_setState_of ha hd hf ?_)
 exact wpAny_bind (wpAny_bind (wpAny_askSetting (wpAny_pure (wpAny_pure h))))
theorem Zli {es : Array (Int × Value)} {t : SetTable} (ha : s.heap.get? a = some oa) (hc : oa.cls = .type "set") (hd : oa.data = .set es ep t) (hf : t.fits es.size = true) (hn : es.size = n) (hb : n < scanBound) {Q : Value → Shared → Prop}
   (h1 : (!w.params.followText "set-order" && (!t.plain && decide (es.size > 1))) = false → Q (.ref s.heap.objs.size) { s with heap := s.heap.push (sitObj (.int 0 0) 0 a n ep) })
   (h2 : (!w.params.followText "set-order" && (!t.plain && decide (es.size > 1))) = true → ∀ (out : List Nat) dr, out.Perm (List.range n) → Q (.ref (s.heap.objs.size + 1)) { s with heap := (s.heap.push { cls := .type "tuple", data := .seq (out.map fun (i : Nat) => rawInt i).toArray }).push (sitObj (.ref s.heap.objs.size) 0 a n ep), drawn := dr }) :
   wpAny (model prog w) A (pyIter (.ref a)) Q E s := by
 have hT : s.TypeIs (.ref a) "set" := (Iea _ ha hc)
 refine wpAny_pyIter_slot hT PySem.F.slot_set_iter (wpAny_call_entry PySem.F.slot_set_iter hT Zf1 ?_ (PySem.F.args_set_iter_1 _))
 delta Builtin.«frozenset.__iter__»
 subst hn
 cases hq : (!w.params.followText "set-order" && (!t.plain && decide (es.size > 1))) with
 | false =>
   have hD : ∀ (A : Around) (Q : Bool → Shared → Prop) (E : Value → Shared → Prop), Q false s → wpAny (model prog w) A (setDrawn a) Q E s := fun A Q E h => Zh6 ha hd hf (by rw [hq]; exact h); have hP : ∀ (A : Around) (Q : Nat → Shared → Prop) (E : Value → Shared → Prop), Q ep s → wpAny (model prog w) A (setEpoch a) Q E s := fun A Q E h => wpAny_setEpoch_of ha hd hf h
   repeat (any_goals (first | assumption | with_reducible refine wpAny_setEntries_of ha hd hf ?_ | with_reducible refine hD _ _ _ ?_ | with_reducible refine hP _ _ _ ?_ | wp_step))
   exact ⟨_, rfl, "set_iterator", _, Iea _ (Heap.get?_push_size _ rfl) rfl, Zaq.lookup, h1 hq⟩
 | true =>
   have hD : ∀ (A : Around) (Q : Bool → Shared → Prop) (E : Value → Shared → Prop), Q true s → wpAny (model prog w) A (setDrawn a) Q E s := fun A Q E h => Zh6 ha hd hf (by rw [hq]; exact h)
   repeat (any_goals (first | assumption | with_reducible refine wpAny_setEntries_of ha hd hf ?_ | with_reducible refine hD _ _ _ ?_ | wp_step))
   refine Zlr _ _ _ _ (by simp) fun out dr hp => ?_; have hl : out.length = es.size := by rw [hp.length_eq]; simp
   delta newTuple; refine wpAny_bind (wpAny_newObj_type ?_ ?hz)
   case hz =>
     refine (?_ : (out.map fun (i : Nat) => rawInt i).toArray.size ≤ _); simp only [List.size_toArray, List.length_map]; rw [hl]; exact fits_of_scanBound hb
   refine wpAny_bind (wpAny_setEpoch_of (Heap.get?_push_of_some _ ha) hd hf ?_); delta newFields; refine wpAny_bind (wpAny_newObj_type ?_); refine wpAny_pure ⟨_, rfl, "set_iterator", _, Iea _ (Heap.get?_push_size _ rfl) rfl, Zaq.lookup, ?_⟩; have := h2 hq out dr hp; rw [show (s.heap.push { cls := .type "tuple", data := .seq (out.map fun (i : Nat) => rawInt i).toArray }).objs.size = s.heap.objs.size + 1 from Heap.size_push ..]; exact this
theorem Zm8 {es : Array (Int × Value)} {t : SetTable} {Q : Option (Value × Nat) → Shared → Prop} (ht : w.params.followText "set-order" = true) (ha : s.heap.get? a = some oa) (hd : oa.data = .set es ep t) (hf : t.fits es.size = true)
   (h : Q (((pickOrder (w.params.setOrder a ep) es)[i]?).map fun e => (e.2, slot)) s) : wpAny (model prog w) A (setNext a (slot : Int).toNat (i : Int).toNat (ep : Int).toNat) Q E s := by
 unfold setNext setsByText setWalk
 simp only [Int.toNat_natCast]
 refine wpAny_bind (wpAny_setState_of ha hd hf ?_)
 refine wpAny_bind (wpAny_bind (wpAny_askSetting (wpAny_pure ?_)))
 rw [show ((⟨(model prog w).prog, (model prog w).w.params⟩ : Setting).params.followText "set-order") = true from ht, if_pos rfl]
 dsimp only
 rw [if_neg (by simp)]
 delta setsByText
 refine wpAny_bind (wpAny_bind (wpAny_setState_of ha hd hf ?_))
 refine wpAny_bind (wpAny_bind (wpAny_askSetting (wpAny_pure ?_)))
 rw [show ((⟨(model prog w).prog, (model prog w).w.params⟩ : Setting).params.followText "set-order") = true from ht, if_pos rfl]
 refine wpAny_bind (wpAny_askSetting (wpAny_pure ?_))
 exact wpAny_pure h
theorem Zg2 {es : Array (Int × Value)} {t : SetTable} (h : es = #[] ∨ (t.led = true ∧ t.plain = false)) (h1 : es.size ≤ 1) {Q : Option (Value × Nat) → Shared → Prop} (ht : w.params.followText "set-order" = false) (ha : s.heap.get? a = some oa) (hd : oa.data = .set es ep t) (hf : t.fits es.size = true)
   (hq : Q (match es[SetTable.below t.place slot]?, t.place[SetTable.below t.place slot]? with | some (_, x), some j => some (x, j + 1) | _, _ => none) s) : wpAny (model prog w) A (setNext a (slot : Int).toNat (i : Int).toNat (ep : Int).toNat) Q E s := by
 delta setNext setsByText
 simp only [Int.toNat_natCast]
 refine wpAny_bind (wpAny_setState_of ha hd hf ?_)
 refine wpAny_bind (wpAny_bind (wpAny_askSetting (wpAny_pure ?_)))
 rw [show ((⟨(model prog w).prog, (model prog w).w.params⟩ : Setting).params.followText "set-order") = false from ht, if_neg (by decide)]
 dsimp only
 split
 · rename_i hx
   have hx' : (!t.plain && decide (es.size > 1)) = true := hx; rw [decide_eq_false (by exact Nat.not_lt.2 h1)] at hx'; simp at hx'
 · refine wpAny_bind (wpAny_of_eq (a := ()) ?_ (wpAny_pure hq))
   rcases h with rfl | ⟨hl, hp⟩
   · obtain ⟨mask, place, dummies, finger, led, moves, plain⟩ := t
     cases led <;> rfl
   · obtain ⟨mask, place, dummies, finger, led, moves, plain⟩ := t
     dsimp only at hl hp; subst hl; rfl
theorem Zoe {k : Nat} : SetTable.below #[j] k = if j < k then 1 else 0 := by
 delta SetTable.below
 refine (?_ : SetTable.below.go #[j] k 1 0 1 = _)
 unfold SetTable.below.go
 rw [if_pos (by decide)]
 refine (?_ : (if (#[j] : Array Nat).getD 0 k < k then _ else _) = _)
 refine (?_ : (if j < k then _ else _) = _)
 by_cases h : j < k
 · rw [if_pos h, if_pos h]; unfold SetTable.below.go; rfl
 · rw [if_neg h, if_neg h]; unfold SetTable.below.go; rfl
end
section
variable {prog : Program} {w : World} {A : Around}
noncomputable def strIn : Value → Str
 | .str x _ => x
 | _ => default
theorem Zh7 {h : Heap} {S : Str → Bool} {es : Array (Int × Value)} {t : SetTable} (ho : Objs prog w H h) (e : H a = some (.set S n (some (.set es ep t)))) :
   ∃ o, h.get? a = some o ∧ o.cls = .type "set" ∧ o.data = .set es ep t ∧ t.fits es.size = true ∧ es.size = n ∧ n < scanBound ∧ (∀ e ∈ es.toList, ∃ x tk, e.2 = .str x tk) ∧ ∀ k, S k = true ↔ k ∈ es.toList.map fun e => strIn e.2 := by
 refine Oeaaa (ho a _ e) ?_; intro o hg z_1 hb hi; obtain ⟨hx, es', ep', t', hd, hel, hm, hn, hf⟩ := z_1
 refine Oa (hi _ rfl) ?_; intro hd' U
 rw [hd] at hd'
 injection hd' with e1 e2 e3
 subst e1; subst e2; subst e3
 have hs : ∀ e ∈ es'.toList, ∃ x tk, e.2 = .str x tk := fun e he => by
   refine Oa (hel e he) ?_; intro z_1 U; (refine Oea z_1 ?_; clear z_1; intro k hk U); refine Oe (Value.isStrOf_shape hk) ?_; intro tk htk; exact ⟨k, tk, htk⟩
 refine (Ieaaaaaaa o hg hx.1 hd hf hn hb hs (fun k => ?_))
 rw [hm k, List.mem_map]
 constructor
 · intro y_1; refine Oea y_1 ?_; clear y_1; intro e he hk
   refine Oe (Value.isStrOf_shape hk) ?_; intro tk htk; exact Iea e he (by rw [htk]; rfl)
 · intro y_1; refine Oea y_1 ?_; clear y_1; intro e he hk
   refine (Iea e he ?_); refine Oee (hs e he) ?_; intro x tk hx; rw [hx] at hk ⊢; subst hk; exact strKind_is prog w x tk
theorem Wk.setInt (hh : A.handled = none) (I a : Addr) (S : Str → Bool) (n : Nat) (es : Array (Int × Value)) (ep : Nat) (t : SetTable) (vs : List Value) (hv : ∀ v ∈ vs, ∃ x tk, v = .str x tk) (slot : Nat → Nat)
   (hN : ∀ (i : Nat) (s : Shared) (o : Obj) (A : Around) (Q : Option (Value × Nat) → Shared → Prop) (E : Value → Shared → Prop), s.heap.get? a = some o → o.data = .set es ep t → t.fits es.size = true → Q ((vs[i]?).map fun v => (v, slot (i + 1))) s → wpAny (model prog w) A (setNext a (slot i : Int).toNat (i : Int).toNat (ep : Int).toNat) Q E s) :
   Wk prog w A I (.set a S n (some (.set es ep t)) (vs.map strIn)) (fun i hs => ∃ o, hs = [(I, o)] ∧ o = sitObj (.int (slot i) 0) i a n ep) :=
 .single (src := .set a S n (some (.set es ep t)) (vs.map strIn)) (fun (i : Nat) o => o = sitObj (.int (slot i) 0) i a n ep)
   (fun i b H s o Q E ho hS hg hI hK hi tp hQ => by
     refine Oea (Zax (f := fun x => AV.str x) hi) ?_; intro x hx e; cases e; refine Oeaaaaa (Zh7 ho hS) ?_; intro oa ha hc hd hf hn U; subst hK; rw [List.getElem?_map] at hx; cases hvx : vs[i]? with
     | none => rw [hvx] at hx; exact Zab hx
     | some v =>
       rw [hvx] at hx; cases hx; refine Oee (hv v (List.mem_of_getElem? hvx)) ?_; intro x tk e_1; obtain rfl := e_1; exact Zg5 hg ha hd hf hn (fun A Q E h => hN i s oa A Q E ha hd hf (by rw [hvx]; exact h)) fun h' g1 g2 => hQ _ h' s.toks _ tp rfl g1 rfl fun b x hb e => g2.extBut b x hb e)
   (fun i it hi => Oea (Zax (f := fun x => AV.str x) hi) fun x U e => ⟨_, e⟩)
   (fun H s o Q E ho hS hg hI hK hQ => by
     refine Oeaaaaa (Zh7 ho hS) ?_; intro oa ha hc hd hf hn U; have e : ((vs.map strIn).map fun x => Item.one (.str x)).length = vs.length := by simp
     have hK' : o = sitObj (.int (slot vs.length) 0) vs.length a n ep := by rw [← e]; exact hK
     subst hK'; exact Zic hh hg ha hd hf hn (fun A Q E h => hN _ s oa A Q E ha hd hf (by rw [List.getElem?_eq_none (Nat.le_refl _)]; exact h)) hQ)
   (fun i s o Q E hg hK hq => by subst hK; exact Zki hg hq)
theorem Wk.setDraw (hh : A.handled = none) (I T a : Addr) (nTI : T ≠ I) (S : Str → Bool) (n : Nat) (es : Array (Int × Value)) (ep : Nat) (t : SetTable) (hv : ∀ e ∈ es.toList, ∃ x tk, e.2 = .str x tk) (out : List Nat) (hout : ∀ j ∈ out, j < es.size) :
   Wk prog w A I (.set a S n (some (.set es ep t)) (out.map fun j => strIn (es.getD j default).2)) (fun i hs => hs = [(I, sitObj (.ref T) i a n ep), (T, { cls := .type "tuple", data := .seq (out.map fun (i : Nat) => rawInt i).toArray })]) where
 item := by
   rintro i it H s hs Q E ho hS hH rfl hi tp hQ; refine Oea (Zax (f := fun x => AV.str x) hi) ?_; intro x hx e_1; obtain rfl := e_1; refine Oeaaaaa (Zh7 ho hS) ?_; intro oa ha hc hd hf hn U; have hI := (hH _ (.head _)).1; have hT := (hH _ (.tail _ (.head _))).1; rw [List.getElem?_map] at hx; cases hj : out[i]? with
   | none => rw [hj] at hx; exact Zab hx
   | some j =>
     rw [hj] at hx; cases hx; have hjl := hout j (List.mem_of_getElem? hj); have hes : es[j]? = some es[j] := Array.getElem?_eq_getElem hjl; have hD : es.getD j default = es[j] := by rw [Array.getD_eq_getD_getElem?, hes]; rfl
     refine Oee (hv es[j] (by simp)) ?_; intro x tk hx; refine Zfy hI hT ha hd hf hn (place := j) (h₁ := es[j].1) (x := es[j].2) (by simp [hj, rawInt]) hes fun h' g1 g2 => ?_; refine hQ _ h' s.toks tp fun tgt Q' E' ht hq => ?_; refine Oee ht ?_; clear ht; intro y p e_1; obtain rfl := e_1; refine wpAny_of_eq (a := ()) rfl (hq h' _ rfl (fun p hp => ?_) (fun b o hb e => g2.extBut b o (fun q => hb (by simp [q])) e) ?_)
     · rcases List.mem_cons.mp hp with rfl | hp
       · exact ⟨g1, .inl (by simp)⟩
       · rcases List.mem_singleton.mp hp with rfl
         exact ⟨(g2.2 _ nTI).trans hT, .inl (by simp)⟩
     · refine (?_ : er es[j].2 = .str (strIn (es.getD j default).2))
       rw [hD, hx]; rfl
 done := by
   rintro H s hs Q E ho hS hH rfl hQ; refine Oeaaaaa (Zh7 ho hS) ?_; intro oa ha hc hd hf hn U; have hI := (hH _ (.head _)).1; have hT := (hH _ (.tail _ (.head _))).1; refine Zg6 hh hI hT ha hd hf hn (by simp [Src.items]) fun h' he => hQ h' fun b o hb e => he b o (fun q => hb (by simp [q])) e
 self := by
   rintro i H s hs Q E hH rfl hQ; exact Zki (hH _ (.head _)).1 hQ
theorem Zpj (hh : A.handled = none) {S : Str → Bool} {it : Option Data} {Q : Value → Shared → Prop} (ho : Objs prog w H s.heap) (hS : H a = some (.set S n it)) (hit : it.isSome = true)
   (k : ∀ xs I J hs h' dr, (∀ k, S k = true ↔ k ∈ xs) → Wk prog w A I (.set a S n it xs) J → J 0 hs → (∀ p ∈ hs, h'.get? p.1 = some p.2 ∧ s.heap.get? p.1 = none) → (∀ b o, s.heap.get? b = some o → h'.get? b = some o) → Q (.ref I) { s with heap := h', drawn := dr }) :
   wpAny (model prog w) A (pyIter (.ref a)) Q E s := by
 refine Oe (Option.isSome_iff_exists.mp hit) ?_; intro d e_1; obtain rfl := e_1
 refine Oeaaa (ho a _ hS) ?_; intro o0 hg0 U U hi0
 obtain ⟨_, es, ep, t, rfl, hcase⟩ := hi0 _ rfl
 obtain ⟨o, hg, hc, hd, hf, hn, hb, hs, hm⟩ := Zh7 ho hS
 have one : ∀ p ∈ [(s.heap.objs.size, sitObj (.int ((0 : Nat) : Int) 0) 0 a n ep)], (s.heap.push (sitObj (.int 0 0) 0 a n ep)).get? p.1 = some p.2 ∧ s.heap.get? p.1 = none := fun p hp => by
   rcases List.mem_singleton.mp hp with rfl; exact ⟨Heap.get?_push_size _ rfl, Zae _⟩
 refine Zli hg hc hd hf hn hb (fun hq => ?_) (fun hq out dr hp => ?_)
 · cases ht : w.params.followText "set-order" with
   | true =>
     have pp := Zm2 (w.params.setOrder a ep) es; refine k ((pickOrder (w.params.setOrder a ep) es).toList.map (fun e => e.2) |>.map strIn) _ _ _ _ s.drawn (fun y => ?_) (Wk.setInt hh s.heap.objs.size a S n es ep t ((pickOrder (w.params.setOrder a ep) es).toList.map fun e => e.2) (fun v hv => ?_) (fun U => 0) fun i s' o' A' Q' E' ha' hd' hf' hq' => ?_) ⟨_, rfl, rfl⟩ one (fun b o e => Heap.get?_push_of_some _ e)
     · rw [hm y, List.map_map]
       exact ⟨fun h => (pp.map _).mem_iff.mpr h, fun h => (pp.map _).mem_iff.mp h⟩
     · refine Oea (List.mem_map.mp hv) ?_; intro e he e_1; obtain rfl := e_1
       exact hs e (pp.mem_iff.mp he)
     · refine Zm8 (slot := 0) ht ha' hd' hf' ?_
       rw [List.getElem?_map, Array.getElem?_toList, Option.map_map] at hq'; exact hq'
   | false =>
     have hcase' : es = #[] ∨ (t.led = true ∧ t.plain = false) := by
       rcases hcase with h | h | h
       · rw [ht] at h; exact Zai h
       · exact .inl h
       · exact .inr h
     have h1 : es.size ≤ 1 := by
       rcases hcase' with h | h
       · rw [h]; decide
       · rw [ht, h.2] at hq
         simpa using hq
     refine k (es.toList.map (fun e => e.2) |>.map strIn) _ _ _ _ s.drawn (fun y => ?_) (Wk.setInt hh s.heap.objs.size a S n es ep t (es.toList.map fun e => e.2) (fun v hv => ?_) (fun i => if i = 0 then 0 else t.place.getD 0 0 + 1) fun i s' o' A' Q' E' ha' hd' hf' hq' => ?_) ⟨_, rfl, rfl⟩ one (fun b o e => Heap.get?_push_of_some _ e)
     · rw [hm y, List.map_map]; rfl
     · refine Oea (List.mem_map.mp hv) ?_; intro e he e_1; obtain rfl := e_1
       exact hs e he
     · refine Zg2 hcase' h1 ht ha' hd' hf' ?_
       have hps : t.place.size = es.size := by
         simp only [SetTable.fits, Bool.and_eq_true, beq_iff_eq, decide_eq_true_eq] at hf'; exact hf'.1
       rw [List.getElem?_map, Array.getElem?_toList, Option.map_map] at hq'; generalize t.place = pl at hps hq' ⊢; rcases es with ⟨l⟩
       rcases pl with ⟨pl⟩
       rcases l with _ | ⟨e, _ | ⟨e2, l⟩⟩
       · simpa using hq'
       · rcases pl with _ | ⟨j, _ | ⟨j2, pl⟩⟩
         · simp at hps
         · have hb1 := fun k => Zoe (j := j) (k := k)
           rw [show (⟨[j]⟩ : Array Nat) = #[j] from rfl] at hq' ⊢; rw [hb1]; rcases i with _ | i
           · simpa using hq'
           · simpa using hq'
         · simp at hps
       · simp at h1
 · have hr : ∀ j ∈ out, j < es.size := fun j hj => by rw [hn]; simpa using hp.mem_iff.mp hj
   refine k _ (s.heap.objs.size + 1) _ _ _ dr (fun y => ?_) (Wk.setDraw hh (s.heap.objs.size + 1) s.heap.objs.size a (Nat.ne_of_lt (Nat.lt_succ_self _)) S n es ep t hs out hr) rfl (fun p hp => ?_) (fun b o e => Heap.get?_push_of_some _ (Heap.get?_push_of_some _ e))
   · rw [hm y]
     have e : es.toList.map (fun e => strIn e.2) = (List.range n).map fun j => strIn (es.getD j default).2 := by
       subst hn; refine List.ext_getElem (by simp) fun i h1 h2 => ?_; have hi : i < es.size := by simpa using h1
       simp [Array.getD_eq_getD_getElem?, hi]
     rw [e]; exact (hp.map _).mem_iff.symm
   · have hz : (s.heap.push { cls := .type "tuple", data := .seq (out.map fun (i : Nat) => rawInt i).toArray }).objs.size = s.heap.objs.size + 1 := Heap.size_push ..
     rcases List.mem_cons.mp hp with rfl | hp
     · exact ⟨by rw [← hz]; exact Heap.get?_push_size _ rfl, Heap.get?_none_of_le (Nat.le_succ _)⟩
     · rcases List.mem_singleton.mp hp with rfl
       exact ⟨Heap.get?_push_of_some _ (Heap.get?_push_size _ rfl), Zae _⟩
end
section
variable {prog : Program} {w : World} {A : Around}
noncomputable def JZip (I l1 l2 : Addr) (i : Nat) (hs : List (Addr × Obj)) : Prop := ∃ TI TO i1 i2 a b o1 o2, ZipApart I TI TO i1 i2 l1 l2 ∧
 hs = [(I, { cls := .type "zip", data := .fields #[.none, .bool false, .bool false, .ref TI, .ref TO] }), (TI, { cls := .type "tuple", data := .seq #[.ref i1, .ref i2] }), (TO, { cls := .type "tuple", data := .seq #[a, b] }), (i1, o1), (i2, o2)] ∧
 (o1.cls = .type "list_iterator" ∧ o1.data = .fields #[.ref l1, .int i 0]) ∧ o2.cls = .type "list_iterator" ∧ o2.data = .fields #[.ref l2, .int i 0]
theorem Wk.zip (hh : A.handled = none) (I l1 l2 : Addr) (xs ys : List AV) (hl : xs.length = ys.length) : Wk prog w A I (.zip l1 l2 xs ys) (JZip I l1 l2) where
 item := by
   intro i it H s hs Q E ho hS hH y_1; refine Oeeeeeeeea y_1 ?_; clear y_1; intro TI TO i1 i2 a b o1 o2 D z_2; refine Oaa z_2 ?_; clear z_2; intro e_3; obtain rfl := e_3; intro k1 k2; intro hi tp hQ; refine Oea (Zbs ho hS.1) ?_; intro vs hv1 ev; refine Oea (Zbs ho hS.2) ?_; intro us hu1 eu; have hi' : ((xs.zip ys).map fun p => Item.two p.1 p.2)[i]? = some it := hi; rw [List.getElem?_map] at hi'; cases hz : (xs.zip ys)[i]? with
   | none => rw [hz] at hi'; exact Zab hi'
   | some p =>
     rw [hz] at hi'; cases hi'; refine Oa (List.getElem?_zip_eq_some.mp hz) ?_; intro hx hy; rw [Zdg ev] at hx; rw [Zdg eu] at hy; cases hvx : vs[i]? with
     | none => rw [hvx] at hx; exact Zab hx
     | some x =>
     cases huy : us[i]? with
     | none => rw [huy] at hy; exact Zab hy
     | some y =>
     rw [hvx] at hx; rw [huy] at hy; have hz0 := (hH _ (.head _)).1; have hTI := (hH _ (.tail _ (.head _))).1; have hTO := (hH _ (.tail _ (.tail _ (.head _)))).1; have h1 := (hH _ (.tail _ (.tail _ (.tail _ (.head _))))).1; have h2 := (hH _ (.tail _ (.tail _ (.tail _ (.tail _ (.head _)))))).1; refine wpAny_pyNext_zip_item D hz0 hTI hTO (Iea o1 h1 k1) (Iea o2 h2 k2) hv1 hu1 hvx huy fun h' a1 a2 a3 a4 a5 U a7 => ?_; refine hQ _ h' s.toks tp fun tgt Q' E' ht hq => ?_; refine Oeee ht ?_; clear ht; intro ts k pp e_1; obtain rfl := e_1; refine wpAny_letOwnedTupleGo_zip a1 fun h2' hz2 hs2 => ?_; refine Oea a3 ?_; clear a3; intro o1' g1 k1'; refine Oea a4 ?_; clear a4; intro o2' g2 k2'; have nT : s.heap.objs.size ≠ I := Nat.ne_of_gt (Heap.lt_size hz0); refine hq h2' [(I, _), (TI, _), (TO, _), (i1, o1'), (i2, o2')] ⟨TI, TO, i1, i2, x, y, o1', o2', Iaaa D rfl k1' k2'⟩ (fun p hp => ?_) (fun b' o' hb e => ?_) (Ieeeaaa _ x y rfl (Ieaae _ (hs2.extBut _ _ nT a5) rfl 0 rfl) ?_ ?_)
     · simp only [List.mem_cons, List.not_mem_nil, or_false] at hp
       rcases hp with rfl | rfl | rfl | rfl | rfl
       · exact ⟨hz2, .inl (by simp)⟩
       · exact ⟨hs2.extBut _ _ D.TIz (a7 _ _ D.TIz D.TITO D.TIi1 D.TIi2 hTI), .inl (by simp)⟩
       · exact ⟨hs2.extBut _ _ D.TOz a2, .inl (by simp)⟩
       · exact ⟨hs2.extBut _ _ D.i1z g1, .inl (by simp)⟩
       · exact ⟨hs2.extBut _ _ D.i2z g2, .inl (by simp)⟩
     · simp only [List.map_cons, List.map_nil, List.mem_cons, List.not_mem_nil, or_false, not_or] at hb
       exact hs2.extBut _ _ hb.1 (a7 _ _ hb.1 hb.2.2.1 hb.2.2.2.1 hb.2.2.2.2 e)
     · exact Option.some.inj hx
     · exact Option.some.inj hy
 done := by
   intro H s hs Q E ho hS hH y_1; refine Oeeeeeeeea y_1 ?_; clear y_1; intro TI TO i1 i2 a b o1 o2 D z_2; refine Oaa z_2 ?_; clear z_2; intro e_3; obtain rfl := e_3; intro k1 k2; intro hQ; refine Oea (Zbs ho hS.1) ?_; intro vs hv1 ev; refine Oea (Zbs ho hS.2) ?_; intro us hu1 eu; have hz0 := (hH _ (.head _)).1; have hTI := (hH _ (.tail _ (.head _))).1; have hTO := (hH _ (.tail _ (.tail _ (.head _)))).1; have h1 := (hH _ (.tail _ (.tail _ (.tail _ (.head _))))).1; have h2 := (hH _ (.tail _ (.tail _ (.tail _ (.tail _ (.head _)))))).1; refine wpAny_pyNext_zip_end hh D hz0 hTI hTO (Iea o1 h1 k1) (Iea o2 h2 k2) hv1 hu1 (.inl ?_) fun h' hk => hQ h' fun b' o' hb e => ?_
   · have e : (Src.zip l1 l2 xs ys).items.length = vs.size := by
       simp only [Src.items, List.length_map, List.length_zip]; rw [← hl, Nat.min_self, ← ev]; simp
     rw [e]; simp
   · simp only [List.map_cons, List.map_nil, List.mem_cons, List.not_mem_nil, or_false, not_or] at hb
     exact hk _ _ hb.1 hb.2.2.1 hb.2.2.2.1 hb.2.2.2.2 e
 self := by
   intro i H s hs Q E hH y_1; refine Oeeeeeeeea y_1 ?_; clear y_1; intro TI TO i1 i2 a b o1 o2 D z_2; refine Oaa z_2 ?_; clear z_2; intro e_3; obtain rfl := e_3; intro k1 k2; intro hQ; exact wpAny_pyIter_zip (hH _ (.head _)).1 hQ
end
section
variable {c : Cx} {A : Around} {n : Nat} {g : SE} {P : Par}
theorem Rel.objs' (R : c.R σ s) : Objs c.prog c.w σ.H s.heap := fun a ao e => (R.objs a ao e).2
theorem Zuj (a b : Int) : Builtin.Range.rangeSize a b 1 = ((b - a).toNat : Int) := by
 rw [rangeSize_one]
 by_cases h : a < b
 · rw [if_pos h]; exact (Int.toNat_of_nonneg (Int.sub_nonneg_of_le (Int.le_of_lt h))).symm
 · rw [if_neg h, Int.toNat_of_nonpos (Int.sub_nonpos_of_le (Int.not_lt.mp h))]; rfl
theorem Zg0 (B : Base c.prog c.w c.h₀ P) (hh : A.handled = none) {v : Value} {Q' : Src → St → Prop} {Q : Value → Shared → Prop} (R : c.R σ s) (hm : srcD (er v) Q' X σ)
   (k : ∀ src I J hs h' dr, Wk c.prog c.w A I src J → J 0 hs → (∀ p ∈ hs, h'.get? p.1 = some p.2 ∧ s.heap.get? p.1 = none) → (∀ b o, s.heap.get? b = some o → h'.get? b = some o) → Q' src σ → Q (.ref I) { s with heap := h', drawn := dr }) :
   wpAny c.M A (pyIter v) Q E s := by
 have one : ∀ (o : Obj) (hf : o.isFreed = false), (∀ p ∈ [(s.heap.objs.size, o)], (s.heap.push o).get? p.1 = some p.2 ∧ s.heap.get? p.1 = none) := fun o hf p hp => by
   rcases List.mem_singleton.mp hp with rfl; exact ⟨Heap.get?_push_size _ hf, Zae _⟩
 delta srcD at hm
 cases v with
 | ref a =>
   dsimp only [er] at hm; generalize h : σ.H a = o at hm; cases o with
   | none => exact hm.elim
   | some o =>
     cases o with
     | list xs =>
       refine Oea (Zbs R.objs' h) ?_; intro vs hl U; exact wpAny_pyIter_list hl (k _ _ _ _ _ _ (Wk.list hh _ a xs) ⟨_, rfl, rfl, rfl⟩ (one _ rfl) (fun b o e => Heap.get?_push_of_some _ e) hm)
     | tup xs =>
       refine Oea (Zec R.objs' h) ?_; intro vs hl U; exact wpAny_pyIter_tuple hl (k _ _ _ _ _ _ (Wk.tup hh _ a xs) ⟨_, rfl, rfl, rfl⟩ (one _ rfl) (fun b o e => Heap.get?_push_of_some _ e) hm)
     | dict es ep =>
       refine Oea (Zcn R.objs' h) ?_; intro kvs hd hv; have hlen : es.length = kvs.length := by rw [← hv, List.length_map]
       refine wpAny_pyIter_dict (notBlt R h B.sys) hd (k _ _ _ _ _ _ (Wk.dict hh _ a es ep) ⟨_, rfl, rfl, ?_⟩ (one _ rfl) (fun b o e => Heap.get?_push_of_some _ e) hm); rw [hlen]; rfl
     | vals d =>
       dsimp only at hm; generalize hd' : σ.H d = o2 at hm; cases o2 with
       | none => exact hm.elim
       | some o2 =>
         cases o2 with
         | dict es ep =>
           refine Oea (Zcn R.objs' hd') ?_; intro kvs hd hv; have hlen : es.length = kvs.length := by rw [← hv, List.length_map]
           obtain ⟨_, o, ho, h1, h2⟩ := R.objs _ _ h; refine wpAny_pyIter_values (Ieaa o ho h1 h2) hd (k _ _ _ _ _ _ (Wk.vals hh _ a d es ep) ⟨_, rfl, rfl, ?_⟩ (one _ rfl) (fun b o e => Heap.get?_push_of_some _ e) hm); rw [hlen]; rfl
         | _ => exact hm.elim
     | set S m it =>
       exact Zpj hh R.objs' h hm.1 fun xs I J hs h' dr hx W hJ hhs hk => k _ _ _ _ _ dr W hJ hhs hk (hm.2 xs hx)
     | rng lo m =>
       refine Oaeaeeeeaa (R.objs _ _ h) ?_; intro U o ho b t u v e_1; obtain rfl := e_1; intro s1 z_2; (refine Oa z_2 ?_; clear z_2; intro s2 e_1; obtain rfl := e_1); have hn := Zuj lo b; refine wpAny_pyIter_range (a := lo) (b := b) (c := 1) ho ?_ (k _ _ _ _ _ _ (Wk.rng hh _ a lo _) ⟨_, rfl, ?_⟩ (one _ rfl) (fun b o e => Heap.get?_push_of_some _ e) hm)
       · have := s1.1; have := s1.2; have := s2.1; have := s2.2
         delta Builtin.Range.small; rw [rangeSize_one]; simp only [Builtin.Range.rangeFitsLong, Bool.and_eq_true, Bool.or_eq_true, decide_eq_true_eq, beq_iff_eq, show ((1 : Int) > 0) by decide, if_true]
         split <;> (first | lia | omega)
       · rw [hn]; simp
     | _ => exact hm.elim
 | _ => exact hm.elim
theorem Ze1 {R : Result → Shared → Prop} {target it body env} (I : Nat → Shared → Prop)
   (turn : ∀ n s, I n s → wpAny (model prog w) A (pyNext it) (fun r s₁ => match r with
     | none => R (.ok .next) s₁
     | some v => wpAny (model prog w) A (letOwnedTupleGo target it v) (fun U s₁' => wpAny (model prog w) A (assign target env v) (fun U s₂ => wpAny (model prog w) A (execs body env) (fun f s₃ => match f with
         | .next | .cont => ∃ m, m < n ∧ I m s₃
         | .brk => R (.ok .next) s₃
         | .ret v => R (.ok (.ret v)) s₃) (fun U U => False) s₂) (fun U U => False) s₁') (fun U U => False) s₁) (fun U U => False) s)
   (n : Nat) (h : I n s) : codeAny (model prog w) A (.forLoop target it body [] env) R s := by
 refine codeAny_loop' rfl I (fun n s hI => ?_) n h
 refine (?_ : wpAny _ A ((forTurn target it body [] env).onRaise (fun x => do noteFrame x env; theTreesLotGoes x)) _ _ s)
 refine wpAny_noted ?_
 simp only [forTurn]
 refine wpAny_bind (wpAny_standAt (wpAny_bind (wpAny_onRaise (wpAny_mono (turn n s hI) (fun r s₁ h₁ => ?_) fun U U h' => h'.elim))))
 cases r with
 | none => exact wpAny_pure (.inr ⟨rfl, codeAny_block (wpAny_execs_nil h₁)⟩)
 | some v =>
   refine wpAny_bind (wpAny_mono h₁ (fun U s₁' h₁' => ?_) fun U U h' => h'.elim); refine wpAny_bind (wpAny_mono h₁' (fun U s₂ h₂ => wpAny_bind (wpAny_mono h₂ (fun f s₃ h₃ => ?_) fun U U h' => h'.elim)) fun U U h' => h'.elim); cases f with
   | next => exact wpAny_pure (.inl ⟨rfl, h₃⟩)
   | cont => exact wpAny_pure (.inl ⟨rfl, h₃⟩)
   | brk => exact wpAny_pure h₃
   | ret v => exact wpAny_pure h₃
noncomputable def fl : Flow → DFlow
 | .next => .next
 | .brk => .brk
 | .cont => .cont
 | .ret v => .ret (er v)
theorem Zhj {α : Type} {l : List α} {a : α} (h : l[i]? = some a) : l.drop i = a :: l.drop (i + 1) := by
 refine Op (List.getElem?_eq_some_iff.mp h) ?_; intro hlt e_1; obtain rfl := e_1
 rw [List.drop_eq_getElem_cons hlt]
theorem Zdt {e : Expr} (h : isSetE e = false) (env : Env) (x : Value) : foldedSetIterable e env x = pure x := by
 cases e <;> first | rfl | exact Zai (Eq.symm h)
noncomputable def Nd (c : Cx) (hs : List (Addr × Obj)) : Prop := ∀ p ∈ hs, p.1 ∉ c.hid.map (·.1) ∧ p.1 ∉ c.hfr.map (·.1) ∧ (∀ e ∈ c.fs, e.frame ≠ some p.1) ∧ ∀ x k, c.env.kindOf x = some k → (k = .cell ∨ k = .free) → c.env.cells.lookup x ≠ some p.1
theorem Rel.draw (R : c.R σ s) (dr : Drawn) : c.R σ { s with drawn := dr } :=
 ⟨R.base, R.objs, R.hidk, R.hfrk, R.fsk, R.hfd, R.loc, R.cel, R.lnew, R.wrs, R.gens, R.os, R.tok⟩
theorem Rel.hidNew {dr : Drawn} (R : c.R σ s) (hn : ∀ p ∈ hs, h'.get? p.1 = some p.2 ∧ s.heap.get? p.1 = none) (hk : ∀ b o, s.heap.get? b = some o → h'.get? b = some o) :
   (c.with hs).R σ { s with heap := h', drawn := dr } ∧ Nd c hs :=
 ⟨((R.grow hk R.tok).draw dr).hide fun p hp => Oaaaaa (R.away (hn p hp).2) fun a1 U U a4 a5 a6 => ⟨a1, R.H_none (hn p hp).2, (hn p hp).1, a4, fun x U hk => a6 x _ hk (.inl rfl), a5⟩,
   fun p hp => (R.away (hn p hp).2).2.imp id fun h => h.imp id fun h => h.2⟩
theorem Rel.hidOf (R : (c.with hs).R σ s) : Hid σ.H s.heap hs := fun p hp => ⟨(R.hidk p (List.mem_append_left _ hp)).2.2, (R.hidk p (List.mem_append_left _ hp)).2.1⟩
theorem Zt9 (B : Base c.prog c.w c.h₀ P) (F : Fit c n g A) (hlv : g.lv < 2) (hset : isSetE iter = false) (hi : Sd c A er (eval iter c.env) mi)
   (hb : ∀ hs, Sd (c.with hs) A fl (execs body c.env) mb) :
   Sd c A fl (exec (.For (.Name x px) iter body [] pos) c.env) (bnd mi fun v => bnd (srcD v) fun src => fun Q U σ => forGo (asgI g (.Name x px)) mb (fun σ' => src.holds σ'.H) src.items Q noX σ) := by
 intro Q X σ s C R hm
 have hh := F.calm hlv
 refine wpAny_For (wpAny_mono (hi _ X σ s C R hm) (fun v s1 h1 => ?_) fun U U h => h) (Zdt hset c.env)
 refine Oea h1 ?_; clear h1; intro σ1 R1 hm1
 refine Zg0 B hh R1 hm1 fun src I J hs h' dr W hJ hhs hk hm2 => ?_
 refine Oa (R1.hidNew (dr := dr) hhs hk) ?_; intro R2 nd
 have hCn : ∀ hs, Calm (c.with hs) noX := fun U U U U h => h
 refine Ze1 (fun m s' => ∃ i hs σ, m = src.items.length + 1 - i ∧ i ≤ src.items.length ∧ J i hs ∧ Nd c hs ∧ (c.with hs).R σ s' ∧ forGo (asgI g (.Name x px)) mb (fun σ' => src.holds σ'.H) (src.items.drop i) Q noX σ) ?_ (src.items.length + 1)
   (Ieeeaaaaa 0 hs σ1 rfl (Nat.zero_le _) hJ nd R2 (by rw [List.drop_zero]; exact hm2))
 intro m s3 y_1; refine Oeeeaaaaa y_1 ?_; clear y_1; intro i hs σ3 e_2; obtain rfl := e_2; intro hi3 hJ3 nd3 R3 hm3
 cases hit : src.items[i]? with
 | none =>
   have hlen : i = src.items.length := Nat.le_antisymm hi3 (by simpa using hit); subst hlen; rw [List.drop_length] at hm3; refine Oa hm3 ?_; clear hm3; intro hS hq; refine W.done σ3.H s3 hs _ _ R3.objs' hS R3.hidOf hJ3 fun h4 hk4 => ?_; refine Oa (R3.step (ms' := []) nd3 hk4 (fun U hp => nomatch hp) R3.tok) ?_; intro R4 U; exact Iea σ3 R4 hq
 | some it =>
   rw [Zhj hit] at hm3; refine Oa hm3 ?_; clear hm3; intro hS hq; obtain ⟨a, rfl⟩ : ∃ a, it = .one a := by
     cases it with
     | one a => exact ⟨a, rfl⟩
     | two a b => exact hq.elim
   have hlt : i < src.items.length := (List.getElem?_eq_some_iff.mp hit).1; refine W.item i _ σ3.H s3 hs _ _ R3.objs' hS R3.hidOf hJ3 hit R3.tok fun v h4 tk tp hgo => ?_; refine hgo _ _ _ ⟨x, px, rfl⟩ fun h5 hs5 hJ5 hh5 hk5 hv => ?_; refine Oa (R3.step nd3 hk5 hh5 tp) ?_; intro R5 nd5; have hv' : er v = a := hv; subst hv'; have eA : asgI g (.Name x px) (.one (er v)) = stN g x (er v) := rfl; rw [eA] at hq; refine wpAny_assign_Name (wpAny_mono (Zdd (F.with hs5) x v _ noX σ3 _ (hCn _) R5 hq) (fun U s5 h5 => ?_) fun U U h => h.none); refine Oea h5 ?_; clear h5; intro σ5 R5 hm5; refine wpAny_mono (hb hs5 _ noX σ5 s5 (hCn _) R5 hm5) (fun f s6 h6 => ?_) fun U U h => h.none; refine Oea h6 ?_; clear h6; intro σ6 R6 hm6; cases f with
   | next => exact ⟨_, by exact q42 hlt, i + 1, hs5, σ6, rfl, hlt, hJ5, Iaa nd5 R6 hm6⟩
   | cont => exact ⟨_, by exact q42 hlt, i + 1, hs5, σ6, rfl, hlt, hJ5, Iaa nd5 R6 hm6⟩
   | brk => exact Iea σ6 R6.show_ hm6
   | ret v => exact Iea σ6 R6.show_ hm6
end
theorem Zeo {env : Env} : ∀ (names : List (Str × NameKind)) (acc : List (Str × Addr)), (∀ p ∈ names, p.2 = .free → ∃ a, env.cells.lookup p.1 = some a) →
   ∃ cl, (forIn names acc (fun (x : Str × NameKind) (cs : List (Str × Addr)) => match x with
     | (name, kind) => if (kind == .free) = true then do let a ← cellOf env name; pure (ForInStep.yield ((name, a) :: cs)) else pure (ForInStep.yield cs)) : Sem (List (Str × Addr))) = pure cl ∧
     (∀ p ∈ cl, p ∈ acc ∨ ((p.1, NameKind.free) ∈ names ∧ env.cells.lookup p.1 = some p.2)) ∧ (∀ x, (x, NameKind.free) ∈ names → ∃ a, (x, a) ∈ cl) ∧ ∀ p ∈ acc, p ∈ cl
 | [], acc, _ => ⟨acc, rfl, fun U h => .inl h, fun U h => (nomatch h), fun U h => h⟩
 | (n, k) :: r, acc, h => by
   have hr : ∀ p ∈ r, p.2 = .free → ∃ a, env.cells.lookup p.1 = some a := fun p hp => h p (.tail _ hp); cases hk : k == NameKind.free with
   | true =>
     refine Oe (h (n, k) (.head _) (beq_iff_eq.mp hk)) ?_; intro a ha; refine Oeaaa (Zeo r ((n, a) :: acc) hr) ?_; intro cl e h1 h2 h3; refine (Ieaaa cl ?_ (fun p hp => ?_) (fun x hx => ?_) (fun p hp => h3 p (.tail _ hp)))
     · rw [List.forIn_cons]
       simp only [hk, if_true, cellOf, ha]; exact e
     · rcases h1 p hp with h | h
       · rcases List.mem_cons.mp h with rfl | h
         · exact .inr ⟨by rw [← beq_iff_eq.mp hk]; exact .head _, ha⟩
         · exact .inl h
       · exact .inr ⟨.tail _ h.1, h.2⟩
     · rcases List.mem_cons.mp hx with e | hx
       · cases e; exact ⟨a, h3 _ (.head _)⟩
       · exact h2 x hx
   | false =>
     refine Oeaaa (Zeo r acc hr) ?_; intro cl e h1 h2 h3; refine (Ieaaa cl ?_ (fun p hp => ?_) (fun x hx => ?_) h3)
     · rw [List.forIn_cons]
       simp only [hk, Bool.false_eq_true, if_false]; exact e
     · exact (h1 p hp).imp id fun h => ⟨.tail _ h.1, h.2⟩
     · rcases List.mem_cons.mp hx with e | hx
       · cases e; exact Zai (Eq.symm hk)
       · exact h2 x hx
theorem Zhm (h : ∀ p ∈ scope.names, p.2 = .free → ∃ a, env.cells.lookup p.1 = some a) :
   ∃ cl, closureFor scope env = pure cl ∧ (∀ p ∈ cl, (p.1, NameKind.free) ∈ scope.names ∧ env.cells.lookup p.1 = some p.2) ∧ (∀ x, (x, NameKind.free) ∈ scope.names → ∃ a, (x, a) ∈ cl) := by
 refine Oeaaa (Zeo scope.names [] h) ?_; intro cl e h1 h2 U
 refine (Ieaa cl ?_ (fun p hp => (h1 p hp).elim (fun h => nomatch h) id) h2)
 delta closureFor
 refine (?_ : ((forIn scope.names ([] : List (Str × Addr)) (fun (x : Str × NameKind) (cs : List (Str × Addr)) => match x with
     | (name, kind) => if (kind == .free) = true then do let a ← cellOf env name; pure (ForInStep.yield ((name, a) :: cs)) else pure (ForInStep.yield cs)) : Sem (List (Str × Addr))) >>= fun cs => pure cs) = pure cl)
 rw [e]; rfl
theorem Za5 : ∀ (names : List (Str × NameKind)) (n : Nat) (acc : List (Str × Addr)), cellsFrom n names acc = cellsFrom n names [] ++ acc
 | [], _, _ => rfl
 | (x, k) :: r, n, acc => by
   unfold cellsFrom
   split
   · rw [Za5 r (n + 1) ((x, n) :: acc), Za5 r (n + 1) [(x, n)], List.append_assoc]; rfl
   · rw [Za5 r n acc]
theorem Zcx : ∀ (names : List (Str × NameKind)) (n : Nat) {p : Str × Addr}, p ∈ cellsFrom n names [] → (p.1, NameKind.cell) ∈ names
 | (x, k) :: r, n, p, h => by
   unfold cellsFrom at h
   split at h
   · rename_i hk
     rw [Za5, List.mem_append] at h; rcases h with h | h
     · exact .tail _ (Zcx r _ h)
     · rcases List.mem_singleton.mp h with rfl; rw [← beq_iff_eq.mp hk]; exact .head _
   · exact .tail _ (Zcx r _ h)
theorem Za7 : ∀ (names : List (Str × NameKind)) (n : Nat) {x : Str}, (x, NameKind.cell) ∈ names → ∃ a, (x, a) ∈ cellsFrom n names []
 | (y, k) :: r, n, x, h => by
   unfold cellsFrom; rcases List.mem_cons.mp h with e | h
   · cases e
     simp only [beq_self_eq_true, if_true]; rw [Za5]; exact ⟨n, List.mem_append_right _ (.head _)⟩
   · split
     · rw [Za5]
       refine Oe (Za7 r (n + 1) h) ?_; intro a ha; exact ⟨a, List.mem_append_left _ ha⟩
     · exact Za7 r n h
theorem Zas {α : Type} {x : Str} {a : α} : ∀ {l : List (Str × α)}, (x, a) ∈ l → ∃ b, l.lookup x = some b
 | (y, k) :: r, h => by
   rw [List.lookup_cons]; cases hb : x == y with
   | true => exact ⟨k, rfl⟩
   | false =>
     rcases List.mem_cons.mp h with e | h
     · cases e; rw [beq_self_eq_true] at hb; exact Zai (Eq.symm hb)
     · exact Zas h
theorem Zdm {α : Type} {x : Str} : ∀ {l : List (Str × α)}, (∀ a, (x, a) ∉ l) → l.lookup x = none
 | [], _ => rfl
 | (y, k) :: r, h => by
   rw [List.lookup_cons]; cases hb : x == y with
   | true => rw [beq_iff_eq.mp hb] at h; exact absurd (.head _) (h k)
   | false => exact Zdm fun a ha => h a (.tail _ ha)
theorem Zaf {α : Type} {x : Str} {k : α} : ∀ {l : List (Str × α)}, (l.map (·.1)).Nodup → (x, k) ∈ l → l.lookup x = some k
 | (y, j) :: r, nd, h => by
   rw [List.map_cons, List.nodup_cons] at nd; rw [List.lookup_cons]; rcases List.mem_cons.mp h with e | h
   · cases e; rw [beq_self_eq_true]
   · cases hb : x == y with
     | true => rw [beq_iff_eq.mp hb] at h; exact absurd (List.mem_map_of_mem (f := (·.1)) h) nd.1
     | false => exact Zaf nd.2 h
theorem Zii {α : Type} {k j : α} {l : List (Str × α)} (nd : (l.map (·.1)).Nodup) (h : (x, k) ∈ l) (h' : (x, j) ∈ l) : k = j := by
 have a := Zaf nd h
 have b := Zaf nd h'
 rw [a] at b; exact Option.some.inj b
noncomputable def cenvOf (c : Cx) (sc : Scope) (cl : List (Str × Addr)) (L : Addr) : Env :=
 { newEnv sc L c.env.globals (cellsFrom (L + 1) sc.names cl) c.env.qual none .none (some c.env) builtinsNs with scope := relabel sc c.env }
noncomputable def compCx (c : Cx) (σ : St) (s : Shared) (sc : Scope) (cl : List (Str × Addr)) (oL : Obj) : Cx :=
 { c with hfr := (c.env.locals, oL) :: c.hfr, hid := park c.h₀ c.env σ s ++ c.hid, env := cenvOf c sc cl s.heap.objs.size, wr := ownNames sc, lv := 1 }
theorem Zey {M : Model} {globals : Addr} {cl : List (Str × Addr)} {qual : Str} {outer : Env} {Q : Env → Shared → Prop}
   (h : Q (newEnv scope s.heap.objs.size globals (cellsFrom (s.heap.objs.size + 1) scope.names cl) qual none .none (some outer) builtinsNs) { s with heap := pushCells (s.heap.push { cls := .type "dict", data := .dict #[] }) scope.names }) :
   wpAny M A (newFunctionEnv scope globals cl [] qual none .none (some outer)) Q E s := by
 simp only [newFunctionEnv, Option.isSome_some, if_true]
 refine wpAny_bind (wpAny_alloc ?_)
 refine wpAny_bind (wpAny_layCells _ (fun name kind cells => by cases hkc : kind == NameKind.cell <;> simp [hkc]) _ _ _ _ ?_)
 rw [show ({ s with heap := s.heap.push { cls := .type "dict", data := .dict #[] } } : Shared).heap.objs.size = s.heap.objs.size + 1 from Heap.size_push ..]
 refine wpAny_bind (m := forIn [] _ _) ?_
 rw [List.forIn_nil]
 exact wpAny_pure (wpAny_pure h)
structure ScOk (g : SE) (sc : Scope) : Prop where
 kind : sc.kind = .function
 nd : (sc.names.map (·.1)).Nodup
 nm : ∀ p ∈ sc.names, p.1 ≠ ("__debug__" : Str) ∧ p.1 ≠ ("__classdict__" : Str)
 dot : ∀ p ∈ sc.names, p.2 = .local ∨ p.1 ≠ (".0" : Str)
 free : ∀ p ∈ sc.names, p.2 = .free → g.kind p.1 = some .cell ∨ g.kind p.1 = some .free
theorem Zh9 (h : scOk g sc = true) : ScOk g sc := by
 delta scOk at h
 simp only [Bool.and_eq_true, Bool.not_eq_true', decide_eq_true_eq, List.all_eq_true, bne_iff_ne, ne_eq, Bool.or_eq_true, beq_iff_eq] at h
 refine Oa h ?_; clear h; intro z_1 h5; (refine Oa z_1 ?_; clear z_1; intro z_1 h4; obtain ⟨⟨h1, _⟩, _⟩ := z_1)
 refine ⟨h1, h4, fun p hp => ⟨(h5 p hp).1.1.1, (h5 p hp).1.1.2⟩, fun p hp => (h5 p hp).1.2, fun p hp hf => ?_⟩
 rcases (h5 p hp).2 with (h | h) | h
 · exact absurd hf h
 · exact .inl h
 · exact .inr h
theorem Zdl {env : Env} {x : Str} : ∀ {names : List (Str × NameKind)},
   (names.map fun (n, k) => if (k == NameKind.free && env.scope.kind == .function && env.kindOf n == some .cell) then (n, NameKind.cell) else (n, k)).lookup x =
     (names.lookup x).map fun k => if (k == NameKind.free && env.scope.kind == .function && env.kindOf x == some .cell) then NameKind.cell else k
 | [] => rfl
 | (n, k) :: r => by
   have ih := @Zdl env x r; refine (?_ : List.lookup x ((if (k == NameKind.free && env.scope.kind == .function && env.kindOf n == some .cell) = true then (n, NameKind.cell) else (n, k)) :: _) = _); rw [List.lookup_cons]; cases hx : x == n with
   | true =>
     have e := beq_iff_eq.mp hx; subst e; by_cases hc : (k == NameKind.free && env.scope.kind == .function && env.kindOf x == some .cell) = true
     · rw [if_pos hc, List.lookup_cons, hx]; simp only [Option.map_some]; rw [if_pos hc]
     · rw [if_neg hc, List.lookup_cons, hx]; simp only [Option.map_some]; rw [if_neg hc]
   | false =>
     by_cases hc : (k == NameKind.free && env.scope.kind == .function && env.kindOf n == some .cell) = true
     · rw [if_pos hc, List.lookup_cons, hx]; exact ih
     · rw [if_neg hc, List.lookup_cons, hx]; exact ih
theorem Zbn : x ∈ ownNames sc ↔ ((x, NameKind.local) ∈ sc.names ∨ (x, NameKind.cell) ∈ sc.names) ∧ x ≠ (".0" : Str) := by
 delta ownNames
 simp only [List.mem_map, List.mem_filter, Bool.and_eq_true, Bool.or_eq_true, beq_iff_eq, bne_iff_ne]
 constructor
 · intro y_1; refine Oea y_1 ?_; clear y_1; intro z_2 z_3 e_4; obtain rfl := e_4; obtain ⟨y, k⟩ := z_2; obtain ⟨h1, h2, h3⟩ := z_3
   simp only at h2 h3; rcases h2 with rfl | rfl
   · exact ⟨.inl h1, h3⟩
   · exact ⟨.inr h1, h3⟩
 · rintro ⟨h1 | h1, h2⟩
   · exact Iea (x, _) ⟨h1, .inl rfl, h2⟩ rfl
   · exact Iea (x, _) ⟨h1, .inr rfl, h2⟩ rfl
theorem Zmm {α : Type} {l : List α} (h : l.length = 2) : ∃ a b, l = [a, b] := by
 cases l with
 | nil => cases h
 | cons a r => cases r with
   | nil => cases h
   | cons b r => cases r with
     | nil => exact ⟨_, _, rfl⟩
     | cons _ _ => cases h
theorem Zml {us : Array Value} (h : us.toList.map er = xs) (h2 : xs.length = 2) : ∃ a b, us = #[a, b] := by
 rw [← h, List.length_map] at h2
 refine Oee (Zmm h2) ?_; intro a b e
 exact ⟨a, b, by rw [← Array.toList_inj, e]⟩
section
variable {c : Cx} {A : Around} {n : Nat} {g : SE} {P : Par} {sc : Scope} {cl : List (Str × Addr)} {σ : St} {s : Shared} {oL : Obj}
theorem Fit.compEq (F : Fit c n g A) : relabel sc c.env = compSc g.sc sc := by
 delta relabel compSc
 have e : ∀ x, c.env.kindOf x = g.sc.names.lookup x := fun x => F.kindOf x
 simp only [F.sc, e]
theorem Fit.comp (F : Fit c n g A) (hlv : g.lv < 2) (S : ScOk g sc) : Fit (compCx c σ s sc cl oL) n (compSE g sc) A where
 frames := F.frames
 depth := F.depth
 units := F.units
 lv := rfl
 le := (by refine (?_ : 1 ≤ 3); decide)
 calm := fun U => F.calm hlv
 held := fun h => nomatch h
 sc := F.compEq
 kind := S.kind
 glob := F.glob
 blt := F.blt
 wr := rfl
 fr := F.fr
 nm := by
   rw [List.all_eq_true]; intro p hp; refine Oea (List.mem_map.mp hp) ?_; intro q hq e_1; obtain rfl := e_1; refine Oa (S.nm q hq) ?_; intro a b; obtain ⟨y, k⟩ := q; simp only [Bool.and_eq_true, bne_iff_ne]
   split <;> exact ⟨a, b⟩
 top := fun h => absurd rfl h
theorem Zeh (x : Str) : (cenvOf c sc cl s.heap.objs.size).kindOf x = (sc.names.lookup x).map fun k => if (k == NameKind.free && c.env.scope.kind == .function && c.env.kindOf x == some .cell) then NameKind.cell else k := by
 refine (?_ : (relabel sc c.env).names.lookup x = _)
 exact Zdl
theorem Zqh (F : Fit c n g A) (S : ScOk g sc) (R : c.R σ s) (hL : s.heap.get? c.env.locals = some oL) (c1 : ∀ p ∈ cl, (p.1, NameKind.free) ∈ sc.names ∧ c.env.cells.lookup p.1 = some p.2) (c2 : ∀ x, (x, NameKind.free) ∈ sc.names → ∃ a, (x, a) ∈ cl) :
   (compCx c σ s sc cl oL).R ⟨enterL (ownNames sc) σ.loc, σ.H⟩ { s with heap := pushCells (s.heap.push { cls := .type "dict", data := .dict #[] }) sc.names } := by
 have up : ∀ b o, s.heap.get? b = some o → (pushCells (s.heap.push { cls := .type "dict", data := .dict #[] }) sc.names).get? b = some o := fun b o e => pushCells_keeps _ _ b o (Heap.get?_push_of_some _ e)
 have ok := cellsFrom_ok sc.names (s.heap.push { cls := .type "dict", data := .dict #[] }) (s.heap.objs.size + 1) [] ⟨fun U U hm => (nomatch hm), List.Pairwise.nil⟩ (by rw [Heap.size_push]; exact Nat.le_refl _)
 rw [Heap.size_push] at ok
 have hcells : (cenvOf c sc cl s.heap.objs.size).cells = cellsFrom (s.heap.objs.size + 1) sc.names [] ++ cl := Za5 ..
 have hloc : (cenvOf c sc cl s.heap.objs.size).locals = s.heap.objs.size := rfl
 have fresh : ∀ a, s.heap.objs.size ≤ a → s.heap.get? a = none := fun a ha => Heap.get?_none_of_le ha
 have lkFree : ∀ x, (x, NameKind.free) ∈ sc.names → (cenvOf c sc cl s.heap.objs.size).cells.lookup x = c.env.cells.lookup x := fun x hx => by
   rw [hcells, List.lookup_append, Zdm (l := cellsFrom _ _ _) fun a ha => by have := Zii S.nd (Zcx _ _ ha) hx; cases this]; refine Oe (c2 x hx) ?_; intro a ha; refine Oe (Zas ha) ?_; intro b hb; rw [Option.none_or, hb]; exact ((c1 _ (Zar hb)).2).symm
 have lkCell : ∀ x, (x, NameKind.cell) ∈ sc.names → ∃ a, (cenvOf c sc cl s.heap.objs.size).cells.lookup x = some a ∧ (x, a) ∈ cellsFrom (s.heap.objs.size + 1) sc.names [] := fun x hx => by
   refine Oe (Za7 sc.names (s.heap.objs.size + 1) hx) ?_; intro a ha; refine Oe (Zas ha) ?_; intro b hb; exact Iea b (by rw [hcells, List.lookup_append, hb]; rfl) (Zar hb)
 have freeIn : ∀ x, (x, NameKind.free) ∈ sc.names → c.env.kindOf x = some .cell ∨ c.env.kindOf x = some .free := fun x hx => by
   rw [F.kindOf]; exact S.free _ hx rfl
 have notOwn : ∀ x, (x, NameKind.free) ∈ sc.names → enterL (ownNames sc) σ.loc x = σ.loc x := fun x hx => by
   delta enterL; rw [if_neg]; simp only [Bool.or_eq_true, List.contains_iff_mem, beq_iff_eq, not_or]; refine ⟨fun hm => ?_, fun e => ?_⟩
   · rcases (Zbn.mp hm).1 with h | h <;> (have := Zii S.nd h hx; cases this)
   · rcases S.dot _ hx with h | h
     · cases h
     · exact h e
 have newNone : ∀ p ∈ park c.h₀ c.env σ s ++ c.hid, s.heap.get? p.1 = some p.2 := fun p hp => by
   rcases List.mem_append.mp hp with h | h
   · exact (Zcd.mp h).2.2.2
   · exact (R.hidk p h).2.2
 have newNone' : ∀ p ∈ (c.env.locals, oL) :: c.hfr, ∃ o, s.heap.get? p.1 = some o := fun p hp => by
   rcases List.mem_cons.mp hp with rfl | h
   · exact ⟨_, hL⟩
   · (refine Oaae (R.hfrk p h) ?_; intro U U sl e); exact ⟨_, e⟩
 refine { base := fun b o e => up b o (R.base b o e), objs := ?_, hidk := ?_, hfrk := ?_, fsk := ?_, loc := ?_, cel := ?_, hfd := ?_, lnew := ?_, wrs := ?_, gens := R.gens, os := R.os, tok := R.tok }
 · intro a ao e; (refine Oaea (R.objs a ao e) ?_; intro x o ho r); exact Iaea x o (up _ _ ho) r
 · intro p hp
   rcases List.mem_append.mp hp with h | h
   · (refine Oaaa (Zcd.mp h) ?_; intro U h1 h2 h3); exact ⟨h1, h2, up _ _ h3⟩
   · (refine Oaa (R.hidk p h) ?_; intro h1 h2 h3); exact ⟨h1, h2, up _ _ h3⟩
 · intro p hp
   rcases List.mem_cons.mp hp with rfl | h
   · exact Iaae R.lfresh R.lnew.2.1 oL.slots (up _ _ hL)
   · (refine Oaae (R.hfrk p h) ?_; intro h1 h2 sl h3); exact Iaae h1 h2 sl (up _ _ h3)
 · intro e he
   refine Oaeeaaaa (R.fsk e he) ?_; intro x1 L o hf h1 h2 h3 h4; exact Iaeeaaaa x1 L o hf h1 h2 (up _ _ h3) h4
 · intro e he p hp q
   rcases List.mem_append.mp hp with h | h
   · refine Oaaa (Zcd.mp h) ?_; intro z_1 U U hg; (refine Oeaa z_1 ?_; clear z_1; intro x U hk hlk)
     refine Oaeeaaaaee (R.fsk e he) ?_; intro U L oo hf U U h3 U U h4; rw [hf] at q; cases q; obtain ⟨a, v, h1, ⟨oc, hoc, hdc⟩, _⟩ : ∃ a v, c.env.cells.lookup x = some a ∧ s.heap.IsCell a v ∧ True := hk.elim (fun h => Oeeaa (R.cel x _ h (.inl rfl)) fun a v h1 h2 U => (Ieeaa a v h1 h2 trivial)) fun h => Oeeaa (R.cel x _ h (.inr rfl)) fun a v h1 h2 U => (Ieeaa a v h1 h2 trivial); rw [hlk] at h1; cases h1; rw [hoc] at h3; cases h3; rw [hdc] at h4; cases h4
   · exact R.hfd e he p h q
 · refine (Iea (fun U => none) ((Heap.Ns.new s.heap (.type "dict")).keeps (pushCells_keeps _ _)) (fun x hx => ?_))
   have hx' : (cenvOf c sc cl s.heap.objs.size).kindOf x = some .local := hx; rw [Zeh] at hx'; cases hl : sc.names.lookup x with
   | none => rw [hl] at hx'; exact Zab hx'
   | some k =>
     rw [hl] at hx'; simp only [Option.map_some] at hx'
     split at hx'
     · cases hx'
     · cases hx'
       refine (?_ : enterL (ownNames sc) σ.loc x = none); delta enterL; rw [if_pos]; simp only [Bool.or_eq_true, List.contains_iff_mem, beq_iff_eq]; by_cases h0 : x = (".0" : Str)
       · exact .inr h0
       · exact .inl (Zbn.mpr ⟨.inl (Za1 hl), h0⟩)
 · intro x k hx hc
   have hx' : (cenvOf c sc cl s.heap.objs.size).kindOf x = some k := hx; rw [Zeh] at hx'; cases hl : sc.names.lookup x with
   | none => rw [hl] at hx'; exact Zab hx'
   | some j =>
     rw [hl] at hx'; have hm := Za1 hl; have viaFree : (x, NameKind.free) ∈ sc.names → ∃ ca v, (cenvOf c sc cl s.heap.objs.size).cells.lookup x = some ca ∧ (pushCells (s.heap.push { cls := .type "dict", data := .dict #[] }) sc.names).IsCell ca v ∧
         enterL (ownNames sc) σ.loc x = v.map er ∧ σ.H ca = none ∧ ca ≠ s.heap.objs.size := fun hf => by
       obtain ⟨kk, hkk, hcc⟩ : ∃ kk, c.env.kindOf x = some kk ∧ (kk = .cell ∨ kk = .free) := (freeIn x hf).elim (fun h => (Iea _ h (.inl rfl))) fun h => (Iea _ h (.inr rfl)); refine Oeeaaaa (R.cel x kk hkk hcc) ?_; intro a v h1 z_1 h3 h4 h5; (refine Oea z_1 ?_; clear z_1; intro o ho hd); exact Ieeaaaa a v ((lkFree x hf).trans h1) (Iea o (up _ _ ho) hd) ((notOwn x hf).trans h3) h4 (Nat.ne_of_lt (Heap.lt_size ho))
     simp only [Option.map_some] at hx'; cases j with
     | free => exact viaFree hm
     | cell =>
       refine Oea (lkCell x hm) ?_; intro a ha hma; refine Oa (ok.empty _ _ hma) ?_; intro hce hlo; refine (Ieeaaaa a none ha hce ?_ (R.H_none (fresh a (Nat.le_of_succ_le hlo))) (Nat.ne_of_gt hlo)); refine (?_ : enterL (ownNames sc) σ.loc x = none); delta enterL; rw [if_pos]; simp only [Bool.or_eq_true, List.contains_iff_mem, beq_iff_eq]; by_cases h0 : x = (".0" : Str)
       · exact .inr h0
       · exact .inl (Zbn.mpr ⟨.inr hm, h0⟩)
     | _ => exfalso; revert hx'; simp; rintro rfl; rcases hc with h | h <;> cases h
 · refine ⟨?_, R.H_none (Zae _), fun h => ?_, fun h => ?_⟩
   · have := R.lnew.1
     refine Oeeeea R.own ?_; intro U m U U ho U; exact Nat.le_trans this (Nat.le_of_lt (Heap.lt_size ho))
   · refine Oea (List.mem_map.mp h) ?_; intro p hp e
     have := newNone p hp; rw [e] at this; rw [show s.heap.get? (compCx c σ s sc cl oL).env.locals = none from Zae s.heap] at this; exact Zab this
   · refine Oea (List.mem_map.mp h) ?_; intro p hp e
     refine Oe (newNone' p hp) ?_; intro o this; rw [e] at this; rw [show s.heap.get? (compCx c σ s sc cl oL).env.locals = none from Zae s.heap] at this; exact Zab this
 · intro x hx
   have hx' := Zbn.mp hx; rcases hx'.1 with h | h
   · left
     refine (?_ : (cenvOf c sc cl s.heap.objs.size).kindOf x = some .local); rw [Zeh, Zaf S.nd h]; rfl
   · right
     refine ⟨?_, fun a ha => ?_⟩
     · refine (?_ : (cenvOf c sc cl s.heap.objs.size).kindOf x = some .cell)
       rw [Zeh, Zaf S.nd h]; rfl
     · refine Oea (lkCell x h) ?_; intro b hb hbm
       have ha' : (cenvOf c sc cl s.heap.objs.size).cells.lookup x = some a := ha; rw [hb] at ha'; cases ha'; refine Oa (ok.empty _ _ hbm) ?_; intro hce hlo; have hnone := fresh a (Nat.le_of_succ_le hlo); refine ⟨(R.away hnone).1, fun q => ?_, fun q => ?_, fun y hy q => ?_⟩
       · refine Oea (List.mem_map.mp q) ?_; intro p hp e
         have := newNone p hp; rw [e, hnone] at this; exact Zab this
       · refine Oea (List.mem_map.mp q) ?_; intro p hp e
         refine Oe (newNone' p hp) ?_; intro o this; rw [e, hnone] at this; exact Zab this
       · have q' : (cenvOf c sc cl s.heap.objs.size).cells.lookup y = some a := q
         have hm := Zar q'; rw [hcells, List.mem_append] at hm; rcases hm with hm | hm
         · exact hy (name_of_addr ok.apart hm hbm)
         · refine Oa (c1 _ hm) ?_; intro h1 h2
           rcases freeIn y h1 with hk | hk
           · refine Oeeaa (R.cel y _ hk (.inl rfl)) ?_; intro a' v e1 z_1 U; (refine Oea z_1 ?_; clear z_1; intro o ho U)
             rw [e1] at h2; cases h2; rw [hnone] at ho; exact Zab ho
           · refine Oeeaa (R.cel y _ hk (.inr rfl)) ?_; intro a' v e1 z_1 U; (refine Oea z_1 ?_; clear z_1; intro o ho U)
             rw [e1] at h2; cases h2; rw [hnone] at ho; exact Zab ho
end
noncomputable def Emits (prog : Program) (w : World) (A : Around) (gens : List Comprehension) (d : Nat) (elt : Expr) (scope : Scope) (pos : Pos) (acc : Value) (env : Env) (Q : Shared → Prop) (s : Shared) : Prop :=
 match gens[d + 1]? with
 | none => wpAny (model prog w) A (eval elt env) (fun x s' => wpAny (model prog w) A (call (.builtin "list.append") [acc, x]) (fun U s'' => Q s'') (fun U U => False) s') (fun U U => False) s
 | some g' => g'.is_async = 0 ∧ wpAny (model prog w) A (eval g'.iter env) (fun x s1 => wpAny (model prog w) A (foldedSetIterable g'.iter env x) (fun x s2 => wpAny (model prog w) A (pyIter x) (fun it' s3 =>
     codeAny (model prog w) A (.compStart (.ListComp elt gens scope pos) (d + 1) it' acc env) (fun r s4 => match r with | .ok _ => Q s4 | .error _ => False) s3) (fun U U => False) s2) (fun U U => False) s1) (fun U U => False) s
theorem Zer {R : Result → Shared → Prop} {target : Expr} {gens : List Comprehension} {it acc : Value} {d : Nat}
   (hg : gens[d]? = some ⟨target, iter, ifs, 0⟩) (I : Nat → Shared → Prop)
   (turn : ∀ n s, I n s → wpAny (model prog w) A (pyNext it) (fun r s₁ => match r with
     | none => R (.ok .next) s₁
     | some v => wpAny (model prog w) A (letOwnedTupleGo target it v) (fun U s₁' => wpAny (model prog w) A (assign target env v) (fun U s₂ =>
         wpAny (model prog w) A (forIn ifs true fun c r => if r = true then do let ok ← isTrue c env (eval c env); pure (ForInStep.yield ok) else pure (ForInStep.yield r)) (fun ok s₃ =>
           if ok = true then Emits prog w A gens d elt scope pos acc env (fun s₄ => ∃ m, m < n ∧ I m s₄) s₃ else ∃ m, m < n ∧ I m s₃) (fun U U => False) s₂) (fun U U => False) s₁') (fun U U => False) s₁) (fun U U => False) s)
   (n : Nat) (h : I n s) : codeAny (model prog w) A (.compLoop (.ListComp elt gens scope pos) d it acc env) R s := by
 refine codeAny_loop rfl I (fun n s hI => ?_) n h
 refine (?_ : wpAny _ A ((compTurn (.ListComp elt gens scope pos) d it acc env).onRaise (fun x => do noteFrame x env; theTreesLotGoes x)) _ _ s)
 refine wpAny_noted ?_
 delta compTurn
 simp only [hg, bne_self_eq_false, Bool.false_eq_true, if_false]
 refine wpAny_bind (wpAny_standAt (wpAny_bind (wpAny_mono (turn n s hI) (fun r s₁ h₁ => ?_) fun U U h' => h'.elim)))
 cases r with
 | none => exact wpAny_pure h₁
 | some v =>
   refine wpAny_bind (wpAny_mono h₁ (fun U s₁' h₁' => ?_) fun U U h' => h'.elim); refine wpAny_bind (wpAny_mono h₁' (fun U s₂ h₂ => wpAny_bind (wpAny_mono h₂ (fun ok s₃ h₃ => ?_) fun U U h' => h'.elim)) fun U U h' => h'.elim); cases ok with
   | false => exact wpAny_pure ⟨rfl, h₃⟩
   | true =>
     simp only [if_true] at h₃ ⊢; delta Emits at h₃
     split at h₃
     · rename_i hn
       simp only [hn]; exact wpAny_bind (wpAny_bind (wpAny_mono h₃ (fun x s₄ h₄ => wpAny_bind (wpAny_mono h₄ (fun U s₅ h₅ => wpAny_pure (wpAny_pure ⟨rfl, h₅⟩)) fun U U h' => h'.elim)) fun U U h' => h'.elim))
     · rename_i g' hn
       simp only [hn]; refine Oa h₃ ?_; clear h₃; intro ha h₃; refine wpAny_bind (wpAny_mono h₃ (fun x s₄ h₄ => wpAny_bind (wpAny_standAt ?_)) fun U U h' => h'.elim); simp only [ha, bne_self_eq_false, Bool.false_eq_true, if_false]; refine wpAny_bind (wpAny_mono h₄ (fun x s₅ h₅ => wpAny_bind (wpAny_holding (wpAny_mono h₅ (fun it' s₆ h₆ => ?_) fun U U h' => h'.elim))) fun U U h' => h'.elim); refine wpAny_bind (wpAny_runOwn (codeAny_mono h₆ fun r s₇ h₇ => ?_)); cases r with
       | ok f => exact wpAny_pure ⟨rfl, h₇⟩
       | error e => exact h₇.elim
theorem Zce {R : Result → Shared → Prop} {target : Expr} {gens : List Comprehension} {it acc : Value} {d : Nat}
   (hg : gens[d]? = some ⟨target, iter, ifs, 0⟩)
   (h0 : codeAny (model prog w) A (.compLoop (.ListComp elt gens scope pos) d it acc env) R s)
   (h : wpAny (model prog w) A (pyIter it) (fun it' s' => codeAny (model prog w) A (.compLoop (.ListComp elt gens scope pos) d it' acc env) R s') (fun U U => False) s) :
   codeAny (model prog w) A (.compStart (.ListComp elt gens scope pos) d it acc env) R s := by
 refine codeAny_of_tree ?_
 refine (?_ : wpAny _ _ ((compStart (.ListComp elt gens scope pos) d it acc env).onRaise (fun x => do noteFrame x env; standAt theWindowsPlace)) _ _ s)
 refine wpAny_notedAt ?_
 delta compStart
 have hc : (clausesOf (.ListComp elt gens scope pos))[d]? = some ⟨target, iter, ifs, 0⟩ := hg
 simp only [hc, Option.elim_some, bne_self_eq_false, Bool.false_eq_true, if_false]
 refine wpAny_bind (wpAny_askSetting ?_)
 split
 · first
     | exact wpAny_bind (wpAny_pure (wpAny_pure (And.intro rfl h0)))
     | exact wpAny_pure (And.intro rfl h0)
 · first
     | exact wpAny_bind (wpAny_rule (wpAny_bind (wpAny_standAt (wpAny_bind (wpAny_mono h (fun it' s' h' => wpAny_pure (And.intro rfl h')) fun U U x => x.elim)))))
     | (refine wpAny_bind (wpAny_rule ?_); exact wpAny_bind (wpAny_standAt (wpAny_bind (wpAny_mono h (fun it' s' h' => wpAny_pure (And.intro rfl h')) fun U U x => x.elim))))
section
variable {c : Cx} {A : Around} {n : Nat} {g : SE} {P : Par}
theorem Zb1 {env : Env} : ∀ {ts : List Expr}, (∀ t ∈ ts, ∃ x p, t = .Name x p) → (assignEach ts env).length = ts.length ∧ (assignEach ts env).findIdx? (·.1) = none
 | [], _ => ⟨rfl, rfl⟩
 | t :: r, h => by
   refine Oee (h t (.head _)) ?_; intro x p e_1; obtain rfl := e_1; refine Oa (Zb1 (env := env) (ts := r) fun t ht => h t (.tail _ ht)) ?_; intro a b; have e : assignEach (.Name x p :: r) env = (false, assign (.Name x p) env) :: assignEach r env := rfl; rw [e, List.length_cons, a]; refine ⟨rfl, ?_⟩; rw [List.findIdx?_cons]; simp [b]
theorem Zdc : ∀ {ts : List Expr} {vs : List AV} {Q : Unit → St → Prop} {X : Exn → St → Prop} {σ : St}, unpD g ts vs Q X σ → (∀ t ∈ ts, ∃ x p, t = .Name x p) ∧ vs.length = ts.length
 | [], [], _, _, _, _ => ⟨fun U h => (nomatch h), rfl⟩
 | [], _ :: _, _, _, _, h => h.elim
 | t :: ts, [], _, _, _, h => by cases t <;> exact h.elim
 | t :: ts, v :: vs, Q, X, σ, h => by
   cases t with
   | Name x p =>
     have h' : stN g x v (fun U σ' => unpD g ts vs Q X σ') X σ := h; refine Oa (Zdc h'.2) ?_; intro a b; exact ⟨fun t ht => (List.mem_cons.mp ht).elim (fun e => ⟨x, p, e⟩) (a t), by rw [List.length_cons, List.length_cons, b]⟩
   | _ => exact h.elim
theorem Zmt (F : Fit c n g A) : ∀ (ts : List Expr) (vs : List Value) (Q : Unit → St → Prop) (X : Exn → St → Prop) (σ : St) (s : Shared), Calm c X → c.R σ s → unpD g ts (vs.map er) Q X σ →
   wpAny c.M A (assignInOrder ((assignEach ts c.env).map (·.2)) vs) (OK c id Q) (EX c X) s
 | [], [], Q, X, σ, s, _, R, h => wpAny_pure (Iea σ R h)
 | [], _ :: _, _, _, _, _, _, _, h => h.elim
 | t :: ts, [], _, _, _, _, _, _, h => by cases t <;> exact h.elim
 | t :: ts, v :: vs, Q, X, σ, s, C, R, h => by
   cases t with
   | Name x p =>
     have h' : stN g x (er v) (fun U σ' => unpD g ts (vs.map er) Q X σ') X σ := h; have e : assignInOrder ((assignEach (.Name x p :: ts) c.env).map (·.2)) (v :: vs) = (PySem.holding vs (assign (.Name x p) c.env v) >>= fun U => assignInOrder ((assignEach ts c.env).map (·.2)) vs) := rfl; rw [e]; refine wpAny_bind (wpAny_holding (wpAny_assign_Name (wpAny_mono (Zdd F x v _ X σ s C R h') (fun U s1 h1 => ?_) fun U U h => h))); refine Oea h1 ?_; clear h1; intro σ1 R1 h1; exact Zmt F ts vs Q X σ1 s1 C R1 h1
   | _ => exact h.elim
theorem Zse (F : Fit c n g A) (hh : A.handled = none) {it : Item} {v : Value} {Q : Unit → St → Prop} (C : Calm c X) (R : c.R σ s) (ht : okT it tgt) (hv : Gives s.heap it v) (h : asgI g tgt it Q X σ) :
   wpAny c.M A (assign tgt c.env v) (OK c id Q) (EX c X) s := by
 cases it with
 | one a =>
   refine Oee ht ?_; clear ht; intro x p e_1; obtain rfl := e_1; have hv' : er v = a := hv; subst hv'; have eA : asgI g (.Name x p) (.one (er v)) = stN g x (er v) := rfl; rw [eA] at h; exact wpAny_assign_Name (Zdd F x v _ X σ s C R h)
 | two a b =>
   refine Oeee ht ?_; clear ht; intro ts k p e_1; obtain rfl := e_1; refine Oeeeaaa hv ?_; clear hv; intro T x y e_1; obtain rfl := e_1; intro hT e_2; obtain rfl := e_2; intro e_3; obtain rfl := e_3; have eA : asgI g (.Tuple ts k p) (.two (er x) (er y)) = if (namesOf ts).Nodup then unpD g ts [er x, er y] else fail := rfl
   rw [eA] at h
   split at h
   · refine Oa (Zdc h) ?_; intro hn hl
     refine Oa (Zb1 (env := c.env) hn) ?_; intro e1 e2; refine wpAny_assign_Tuple hh hT (by rw [e1, ← hl]; rfl) e2 fun h' hk => ?_; exact Zmt F ts [x, y] Q X σ _ C (R.grow (fun b o e => hk b o (Nat.ne_of_lt (Heap.lt_size e)) e) R.tok) h
   · exact h.elim
theorem Zkz {it : Item} {Q : Unit → St → Prop} (h : asgI g tgt it Q X σ) : okT it tgt := by
 cases it with
 | one a => cases tgt with
   | Name x p => exact ⟨x, p, rfl⟩
   | _ => exact h.elim
 | two a b => cases tgt with
   | Tuple ts k p => exact ⟨ts, k, p, rfl⟩
   | _ => exact h.elim
abbrev accO (D : Addr) (vs : List Value) (m : Nat) : Addr × Obj := (D, { cls := .type "list", data := .seq vs.toArray m })
noncomputable def Puts (c : Cx) (D : Addr) (vs : List Value) (k : Nat) (Q : List AV → St → Prop) (s : Shared) : Prop :=
 ∃ us m σ, (c.with [accO D (vs ++ us) m]).R σ s ∧ vs.length = k ∧ Q (us.map er) σ
noncomputable def EmitSd (c : Cx) (A : Around) (gens : List Comprehension) (d : Nat) (elt : Expr) (ifs : List Expr) (scope : Scope) (pos : Pos) (m : Nat → AM (List AV)) : Prop :=
 ∀ (ms : List (Addr × Obj)) (D : Addr) (vs : List Value) (j : Nat) (Q : List AV → St → Prop) (σ : St) (s : Shared), Nd (c.with ms) [accO D vs j] → ((c.with ms).with [accO D vs j]).R σ s → m vs.length Q noX σ →
   wpAny c.M A (forIn ifs true fun t r => if r = true then do let ok ← isTrue t c.env (eval t c.env); pure (ForInStep.yield ok) else pure (ForInStep.yield r)) (fun ok s₃ =>
     if ok = true then Emits c.prog c.w A gens d elt scope pos (.ref D) c.env (fun s₄ => Puts (c.with ms) D vs vs.length Q s₄) s₃ else Puts (c.with ms) D vs vs.length Q s₃) (fun U U => False) s
theorem Znc {o : Obj} (h : Nd c [(D, o)]) : Nd c [(D, o')] := fun p hp => by
 rcases List.mem_singleton.mp hp with rfl; exact h (D, o) (.head _)
theorem Rel.rehide {os₀ : OsState} {fs : List Env} {hfr hid hid' : List (Addr × Obj)} {wr : List Str} (R : Rel prog w h₀ os₀ fs hfr hid env wr σ s) (h : ∀ p ∈ hid', p ∈ hid) : Rel prog w h₀ os₀ fs hfr hid' env wr σ s :=
 have hm : ∀ a, a ∈ hid'.map (·.1) → a ∈ hid.map (·.1) := fun a ha => Oea (List.mem_map.mp ha) fun p hp e => List.mem_map.mpr (Iea p (h p hp) e)
 { base := R.base, objs := R.objs, hidk := fun p hp => R.hidk p (h p hp), hfrk := R.hfrk, fsk := R.fsk, loc := R.loc, cel := R.cel
   hfd := fun e he p hp => R.hfd e he p (h p hp)
   lnew := ⟨R.lnew.1, R.lnew.2.1, fun q => R.lnew.2.2.1 (hm _ q), R.lnew.2.2.2⟩
   wrs := fun x hx => (R.wrs x hx).imp id fun z => Oa z fun hk h => ⟨hk, fun a ha => Oaaa (h a ha) fun g1 g2 g3 g4 => ⟨g1, fun q => g2 (hm _ q), g3, g4⟩⟩
   gens := R.gens, os := R.os, tok := R.tok }
theorem Rel.swap {ms : List (Addr × Obj)} (R : ((c.with ms).with ps).R σ s) : ((c.with ps).with ms).R σ s :=
 R.rehide fun q hq => by
   simp only [List.mem_append] at hq ⊢; rcases hq with h | h | h
   · exact .inr (.inl h)
   · exact .inl h
   · exact .inr (.inr h)
end
section
variable {c : Cx} {A : Around} {n : Nat} {g : SE} {P : Par}
theorem Zb4 {ms : List (Addr × Obj)} : (c.with ms).with ps = c.with (ps ++ ms) := by
 refine (?_ : ({ c with hid := ps ++ (ms ++ c.hid) } : Cx) = { c with hid := (ps ++ ms) ++ c.hid })
 rw [List.append_assoc]
theorem Zsp {o : Obj} (h : Nd (c.with [(D, o)]) hs) : Nd (c.with [(D, o')]) hs := fun p hp => Oa (h p hp) fun a b => ⟨a, b⟩
theorem Zra (h : Nd (c.with ps) hs) : Nd c hs := fun p hp => Oa (h p hp) fun a b => ⟨fun q => a (by rw [List.map_append]; exact List.mem_append_right _ q), b⟩
theorem Zso (h : Nd (c.with ps) hs) (h' : Nd c ps) : Nd (c.with hs) ps := fun p hp => by
 refine Oa (h' p hp) ?_; intro a b
 refine ⟨fun q => ?_, b⟩
 rw [List.map_append, List.mem_append] at q
 rcases q with q | q
 · refine Oea (List.mem_map.mp q) ?_; intro r hr e
   exact (h r hr).1 (by rw [List.map_append, e]; exact List.mem_append_left _ (List.mem_map_of_mem hp))
 · exact a q
theorem Ziv (F : Fit c n g A) (hh : A.handled = none) {gens : List Comprehension} {d : Nat} {m : Nat → AM (List AV)} (hg : gens[d]? = some ⟨tgt, iter, ifs, 0⟩)
   (hE : EmitSd c A gens d elt ifs scope pos m) {src : Src} {J : Nat → List (Addr × Obj) → Prop} (W : Wk c.prog c.w A I src J) {vs : List Value} {Q : List AV → St → Prop} 
   (hJ : J 0 hs) (nd : Nd (c.with [accO D vs j]) hs) (ndD : Nd c [accO D vs j]) (R : ((c.with [accO D vs j]).with hs).R σ s) (hm : compGo (asgI g tgt) m (fun σ' => src.holds σ'.H) src.items vs.length Q noX σ) :
   codeAny c.M A (.compLoop (.ListComp elt gens scope pos) d (.ref I) (.ref D) c.env) (fun r s' => match r with | .ok _ => Puts c D vs vs.length Q s' | .error _ => False) s := by
 refine Zer hg (fun k s' => ∃ i hs σ us j, k = src.items.length + 1 - i ∧ i ≤ src.items.length ∧ J i hs ∧ Nd (c.with [accO D (vs ++ us) j]) hs ∧ ((c.with [accO D (vs ++ us) j]).with hs).R σ s' ∧
     compGo (asgI g tgt) m (fun σ' => src.holds σ'.H) (src.items.drop i) (vs.length + us.length) (fun zs σ' => Q (us.map er ++ zs) σ') noX σ) ?_ (src.items.length + 1)
   (Ieeeeeaaa 0 hs σ [] j rfl (Nat.zero_le _) hJ (Iaa (by rw [List.append_nil]; exact nd) (by rw [List.append_nil]; exact R) (by rw [List.drop_zero]; exact hm)))
 intro k s3 y_1; refine Oeeeeeaaaa y_1 ?_; clear y_1; intro i hs σ3 us j3 e_3; obtain rfl := e_3; intro hi3 hJ3 nd3 z_2; refine Oa z_2 ?_; clear z_2; intro R3 hm3
 cases hit : src.items[i]? with
 | none =>
   have hlen : i = src.items.length := Nat.le_antisymm hi3 (by simpa using hit); subst hlen; rw [List.drop_length] at hm3; refine Oa hm3 ?_; clear hm3; intro hS hq; refine W.done σ3.H s3 hs _ _ R3.objs' hS R3.hidOf hJ3 fun h4 hk4 => ?_; refine Oa (Rel.step (ms := hs) (ms' := []) R3 nd3 hk4 (fun U hp => nomatch hp) R3.tok) ?_; intro R4 U; exact Ieeeaa us j3 σ3 R4 rfl (by dsimp only at hq; rw [List.append_nil] at hq; exact hq)
 | some it =>
   rw [Zhj hit] at hm3; refine Oa hm3 ?_; clear hm3; intro hS hq; have hlt : i < src.items.length := (List.getElem?_eq_some_iff.mp hit).1; refine W.item i _ σ3.H s3 hs _ _ R3.objs' hS R3.hidOf hJ3 hit R3.tok fun v h4 tk tp hgo => ?_; refine hgo _ _ _ (Zkz hq) fun h5 hs5 hJ5 hh5 hk5 hv => ?_; refine Oa (Rel.step (ms := hs) (ms' := hs5) R3 nd3 hk5 hh5 tp) ?_; intro R5 nd5; have R5' := Rel.swap (c := c) (ms := [accO D (vs ++ us) j3]) (ps := hs5) R5; have ndD5 : Nd (c.with hs5) [accO D (vs ++ us) j3] := Zso nd5 (Znc ndD); refine wpAny_mono (Zse ((F.with hs5).with [accO D (vs ++ us) j3]) hh (fun U U U h => h) R5' (Zkz hq) hv hq) (fun U s6 h6 => ?_) fun U U h => h.none; refine Oea h6 ?_; clear h6; intro σ6 R6 hm6; have hm6' : m (vs.length + us.length) _ noX σ6 := hm6; rw [← List.length_append] at hm6'; refine wpAny_mono (hE hs5 D (vs ++ us) j3 _ σ6 s6 ndD5 R6 hm6') (fun ok s7 h7 => ?_) fun U U h => h; have fin : ∀ s8, Puts (c.with hs5) D (vs ++ us) (vs ++ us).length (fun ys σ2 => compGo (asgI g tgt) m (fun σ' => src.holds σ'.H) (src.items.drop (i + 1)) ((vs ++ us).length + ys.length) (fun zs σ3 => Q (us.map er ++ (ys ++ zs)) σ3) noX σ2) s8 →
       ∃ m', m' < src.items.length + 1 - i ∧ ∃ i hs σ us j, m' = src.items.length + 1 - i ∧ i ≤ src.items.length ∧ J i hs ∧ Nd (c.with [accO D (vs ++ us) j]) hs ∧ ((c.with [accO D (vs ++ us) j]).with hs).R σ s8 ∧
         compGo (asgI g tgt) m (fun σ' => src.holds σ'.H) (src.items.drop i) (vs.length + us.length) (fun zs σ' => Q (us.map er ++ zs) σ') noX σ := by
     intro s8 y_1; refine Oeeeaa y_1 ?_; clear y_1; intro us2 j8 σ8 R8 U hm8; have R8' := Rel.swap (c := c) (ms := hs5) (ps := [accO D (vs ++ us ++ us2) j8]) R8; refine ⟨_, by exact q42 hlt, i + 1, hs5, σ8, us ++ us2, j8, rfl, Iaaaa hlt hJ5 ?_ ?_ ?_⟩
     · exact Zsp nd5
     · rw [← List.append_assoc]; exact R8'
     · dsimp only at hm8; rw [List.length_map, List.length_append] at hm8
       rw [List.length_append, ← Nat.add_assoc, List.map_append]; have e : (fun zs σ' => Q (List.map er us ++ List.map er us2 ++ zs) σ') = fun zs σ' => Q (List.map er us ++ (List.map er us2 ++ zs)) σ' := by funext zs σ'; rw [List.append_assoc]
       rw [e]; exact hm8
   cases ok with
   | false => exact fin _ h7
   | true =>
     have h7' : Emits c.prog c.w A gens d elt scope pos (.ref D) c.env _ s7 := h7; refine (?_ : Emits c.prog c.w A gens d elt scope pos (.ref D) c.env _ s7); delta Emits at h7' ⊢
     split at h7'
     · exact wpAny_mono h7' (fun x s8 h8 => wpAny_mono h8 (fun U s9 h9 => fin _ h9) fun U U h => h) fun U U h => h
     · refine ⟨h7'.1, wpAny_mono h7'.2 (fun x s8 h8 => wpAny_mono h8 (fun x s9 h9 => wpAny_mono h9 (fun it s10 h10 => codeAny_mono h10 fun r s11 h11 => ?_) fun U U h => h) fun U U h => h) fun U U h => h⟩
       cases r with
       | ok f => exact fin _ h11
       | error e => exact h11
theorem Zcl {env : Env} : ∀ (ifs : List Expr), (forIn ifs false fun t r => if r = true then do let ok ← isTrue t env (eval t env); pure (ForInStep.yield ok) else pure (ForInStep.yield r) : Sem Bool) = pure false
 | [] => rfl
 | t :: r => by
   rw [List.forIn_cons]; simp only [Bool.false_eq_true, if_false, pure_bind]; exact Zcl r
theorem Zn4 {gens : List Comprehension} {d : Nat} {m : Nat → AM (List AV)} (ht : ∀ ms, Sd (c.with ms) A id (isTrue t c.env (eval t c.env)) mt) (hE : EmitSd c A gens d elt ifs scope pos m) :
   EmitSd c A gens d elt (t :: ifs) scope pos (fun k => bnd mt fun b => if b then m k else ret []) := by
 intro ms D vs j Q σ s nd R hm
 rw [List.forIn_cons]
 simp only [if_true]
 have R' : (c.with ([accO D vs j] ++ ms)).R σ s := by rw [← Zb4]; exact R
 refine wpAny_bind (wpAny_bind (wpAny_mono (ht _ _ noX σ s (fun U U U h => h) R' hm) (fun b s1 h1 => wpAny_pure ?_) fun U U h => h.none))
 refine Oea h1 ?_; clear h1; intro σ1 R1 h1
 have R1' : ((c.with ms).with [accO D vs j]).R σ1 s1 := by rw [Zb4]; exact R1
 cases b with
 | true => exact hE ms D vs j Q σ1 s1 nd R1' h1
 | false =>
   refine (?_ : wpAny c.M A (forIn ifs false _) _ _ s1); rw [Zcl]; refine wpAny_pure ?_; exact Ieeeaa [] j σ1 (by rw [List.append_nil]; exact R1') rfl h1
theorem Zbb : lim ≤ sizeLine := by decide
theorem Zn6 {gens : List Comprehension} {d : Nat} (hn : gens[d + 1]? = none) (he : ∀ ms, Sd (c.with ms) A er (eval elt c.env) me) :
   EmitSd c A gens d elt [] scope pos (fun k => bnd me fun y => fun Q U σ => k < lim ∧ Q [y] σ) := by
 intro ms D vs j Q σ s nd R hm
 rw [List.forIn_nil]
 refine wpAny_pure ?_
 simp only [if_true]
 delta Emits
 rw [hn]
 have R' : (c.with ([accO D vs j] ++ ms)).R σ s := by rw [← Zb4]; exact R
 refine wpAny_mono (he _ _ noX σ s (fun U U U h => h) R' hm) (fun x s1 h1 => ?_) fun U U h => h.none
 refine Oeaa h1 ?_; clear h1; intro σ1 R1 hk h1
 have R1' : ((c.with ms).with [accO D vs j]).R σ1 s1 := by rw [Zb4]; exact R1
 have hacc := (R1'.hidk _ (.head _)).2.2
 refine wpAny_list_append_plain ⟨j, hacc⟩ (fun h' ⟨j', hpl⟩ hs => ?_) (by have := Zbb; simp; exact q43 hk this)
 (refine Oa (Rel.step (ms := [accO D vs j]) (ms' := [accO D (vs ++ [x]) j']) R1' nd (fun b o hb e => hs.extBut b o (by simpa using hb) e) (fun p hp => by
   rcases List.mem_singleton.mp hp with rfl
   exact ⟨by rw [hpl]; simp, .inl (by simp)⟩) R1'.tok) ?_; intro R2 U)
 exact Ieeeaa [x] j' σ1 R2 rfl h1
theorem Zn5 (B : Base c.prog c.w c.h₀ P) (F : Fit c n g A) (hh : A.handled = none) {gens : List Comprehension} {d : Nat} {m : Nat → AM (List AV)} (hn : gens[d + 1]? = some ⟨tgt, iter, ifs, 0⟩) (hset : isSetE iter = false)
   (hi : ∀ ms, Sd (c.with ms) A er (eval iter c.env) mi) (hE : EmitSd c A gens (d + 1) elt ifs scope pos m) :
   EmitSd c A gens d elt [] scope pos (fun k => bnd mi fun v => bnd (srcD v) fun src => compGo (asgI g tgt) m (fun σ' => src.holds σ'.H) src.items k) := by
 intro ms D vs j Q σ s nd R hm
 rw [List.forIn_nil]
 refine wpAny_pure ?_
 simp only [if_true]
 delta Emits
 rw [hn]
 refine ⟨rfl, ?_⟩
 have R' : (c.with ([accO D vs j] ++ ms)).R σ s := by rw [← Zb4]; exact R
 refine wpAny_mono (hi _ _ noX σ s (fun U U U h => h) R' hm) (fun v s1 h1 => ?_) fun U U h => h.none
 refine Oea h1 ?_; clear h1; intro σ1 R1 h1
 have R1' : ((c.with ms).with [accO D vs j]).R σ1 s1 := by rw [Zb4]; exact R1
 refine wpAny_of_eq (Zdt hset c.env v) ?_
 refine Zg0 (c := (c.with ms).with [accO D vs j]) B hh R1' h1 fun src I J hs h' dr W hJ hhs hk hm2 => ?_
 refine Oa (Rel.hidNew (dr := dr) (c := (c.with ms).with [accO D vs j]) R1' hhs hk) ?_; intro R2 ndh
 have hE' : EmitSd (c.with ms) A gens (d + 1) elt ifs scope pos m := fun ms' D' vs' j' Q' σ' s' nd' R' hm' => by
   have e : (c.with ms).with ms' = c.with (ms' ++ ms) := Zb4
   rw [e] at nd' R'; have := hE (ms' ++ ms) D' vs' j' Q' σ' s' nd' R' hm'; rw [← e] at this; exact this
 have hloop := Ziv (c := c.with ms) (F.with ms) hh hn hE' W hJ ndh nd R2 hm2
 have hloop' : codeAny c.M A (.compLoop (.ListComp elt gens scope pos) (d + 1) (.ref I) (.ref D) c.env) (fun r s4 => match r with | .ok _ => Puts (c.with ms) D vs vs.length Q s4 | .error _ => False) _ := hloop
 exact Zce hn hloop' (W.self 0 σ1.H _ hs _ _ R2.hidOf hJ hloop')
end
section
variable {c : Cx} {A : Around} {n : Nat} {g : SE} {P : Par}
noncomputable def SrcSd (c : Cx) (A : Around) (iter : Expr) (m : AM Src) : Prop :=
 ∀ (Q : Src → St → Prop) (X : Exn → St → Prop) (σ : St) (s : Shared), Calm c X → c.R σ s → m Q X σ →
   wpAny c.M A (eval iter c.env) (fun x s1 => wpAny c.M A (pyIter x) (fun it s2 => ∃ src I J hs σ2, it = .ref I ∧ Wk c.prog c.w A I src J ∧ J 0 hs ∧ Nd c hs ∧ (c.with hs).R σ2 s2 ∧ Q src σ2) (EX c X) s1) (EX c X) s
theorem Zmp (B : Base c.prog c.w c.h₀ P) (hh : A.handled = none) (hi : Sd c A er (eval iter c.env) mi) : SrcSd c A iter (bnd mi srcD) := by
 intro Q X σ s C R hm
 refine wpAny_mono (hi _ X σ s C R hm) (fun v s1 h1 => ?_) fun U U h => h
 refine Oea h1 ?_; clear h1; intro σ1 R1 h1
 refine Zg0 B hh R1 h1 fun src I J hs h' dr W hJ hhs hk hm2 => ?_
 refine Oa (R1.hidNew (dr := dr) hhs hk) ?_; intro R2 ndh
 exact Ieeeeeaaa src I J hs σ1 rfl W hJ (Iaa ndh R2 hm2)
theorem Zn9 {σ' : St} {cl : List (Str × Addr)} {us : List Value} {m : Nat} (F : Fit c n g A) (R : c.R σ s) (hL : s.heap.get? c.env.locals = some oL) (ndD : Nd c [accO D us m]) (hDl : D ≠ c.env.locals)
   (R' : ((compCx c σ s sc cl oL).with [accO D us m]).R σ' s') (hlen : us.length ≤ lim) :
   ∃ oC, (c.with [(s.heap.objs.size, oC)]).R ⟨σ.loc, upd σ'.H D (.list (us.map er))⟩ s' ∧ Nd c [(s.heap.objs.size, oC)] ∧ (∃ mC, s'.heap.Ns s.heap.objs.size mC) ∧ s'.heap.get? s.heap.objs.size = some oC := by
 obtain ⟨oC, mC, es, ep, hoC, _, hns, _⟩ := R'.own
 have R1 : c.R ⟨σ.loc, σ'.H⟩ s' := R.unpark hL R' (fun U h => h) (fun p h => List.mem_append_right _ (List.mem_append_right _ h)) (fun p h => .tail _ h) (fun p h => List.mem_append_right _ (List.mem_append_left _ h)) (.head _)
 refine Oaa (R'.hidk _ (.head _)) ?_; intro d1 d2 d3
 refine Oaaa (ndD _ (.head _)) ?_; intro n1 n2 n3 n4
 refine Oaaaaa (R.away (Zae s.heap)) ?_; intro a1 a2 a3 a4 a5 a6
 have hCH : σ'.H s.heap.objs.size = none := R'.lnew.2.1
 have hDC : D ≠ s.heap.objs.size := fun e => R'.lnew.2.2.1 (by
   rw [show ((compCx c σ s sc cl oL).with [accO D us m]).env.locals = s.heap.objs.size from rfl, ← e]; exact List.mem_map.mpr (Iea (accO D us m) (.head _) rfl))
 have R2 : c.R ⟨σ.loc, upd σ'.H D (.list (us.map er))⟩ s' := R1.tell d3 (Ieeaa us.toArray m rfl (by simp) (by simpa using hlen)) d1 n1 n2 hDl n3 n4
 refine (Ieaaa oC (R2.hide (ms := [(s.heap.objs.size, oC)]) fun p hp => ?_) (fun p hp => ?_) ⟨mC, hns⟩ hoC)
 · rcases List.mem_singleton.mp hp with rfl
   exact ⟨a1, (Zay _ _ (Ne.symm hDC)).trans hCH, hoC, a4, fun x U hk => a6 x _ hk (.inl rfl), a5⟩
 · rcases List.mem_singleton.mp hp with rfl
   exact ⟨a2, a3, a5, a6⟩
theorem Zlt {cl : List (Str × Addr)} {L : Addr} (F : Fit c n g A) (S : ScOk g sc) (c1 : ∀ p ∈ cl, (p.1, NameKind.free) ∈ sc.names ∧ c.env.cells.lookup p.1 = some p.2) {h : Heap} (hL : h.objs.size = L) (hx : (cenvOf c sc cl L).cells.lookup x = some a) :
   L + 1 ≤ a ∨ ∃ k, c.env.kindOf x = some k ∧ (k = .cell ∨ k = .free) ∧ c.env.cells.lookup x = some a := by
 have hcells : (cenvOf c sc cl L).cells = cellsFrom (L + 1) sc.names [] ++ cl := Za5 ..
 rw [hcells] at hx
 have hm := Zar hx
 rw [List.mem_append] at hm
 rcases hm with hm | hm
 · left
   have ok := cellsFrom_ok sc.names (h.push { cls := .type "dict", data := .dict #[] }) (L + 1) [] ⟨fun U U hm => (nomatch hm), List.Pairwise.nil⟩ (by rw [Heap.size_push, hL]; exact Nat.le_refl _); rw [Heap.size_push, hL] at ok; exact (ok.empty _ _ hm).2
 · right
   refine Oa (c1 _ hm) ?_; intro h1 h2; have hk := S.free _ h1 rfl; rw [← F.kindOf] at hk; rcases hk with h | h
   · exact Ieaa _ h (.inl rfl) h2
   · exact Ieaa _ h (.inr rfl) h2
theorem Zix (F : Fit c n g A) (hlv : g.lv < 2) (S : ScOk g sc) {gens : List Comprehension} {ipos : Pos} {mi : AM Src} {m : Nat → AM (List AV)} (hset : isSetE iter = false) (hi : SrcSd c A iter mi)
   (hE : ∀ c' : Cx, c'.prog = c.prog → c'.w = c.w → c'.h₀ = c.h₀ → Fit c' n (compSE g sc) A → EmitSd c' A (⟨tgt, iter, ifs, 0⟩ :: gens) 0 elt ifs sc pos m)
   {use : Option (Value → Sem Unit)} {Qr : Value → Shared → Prop} {Q : AV → St → Prop} (C : Calm c X) (R : c.R σ s)
   (hm : bnd mi (fun src => fun Q X σ => compGo (asgI (compSE g sc) tgt) m (fun σ' => src.holds σ'.H) src.items 0 (fun ys σ' => ys.length ≤ lim ∧ newA (.list ys) Q X ⟨σ.loc, σ'.H⟩) noX ⟨enterL (ownNames sc) σ.loc, σ.H⟩) Q X σ)
   (post : ∀ a oa v σ3 s3 f, (c.with [(a, oa)]).R σ3 s3 → Nd c [(a, oa)] → (∃ ma, s3.heap.Ns a ma) → s3.heap.get? a = some oa → Q (er v) σ3 → compPost c.M A (EX c X) use Qr v a (.ok f) s3) :
   wpAny c.M A (comprehension (.ListComp elt (⟨tgt, iter, ifs, 0⟩ :: gens) sc pos) sc c.env ipos (newList []) false (eval iter c.env) use) Qr (EX c X) s := by
 have hh := F.calm hlv
 (refine Oeaa (Zhm (scope := sc) (env := c.env) fun p hp hf => by
   have hk := S.free p hp hf; rw [← F.kindOf] at hk; rcases hk with h | h
   · (refine Oeea (R.cel _ _ h (.inl rfl)) ?_; intro a U h1 U); exact ⟨a, h1⟩
   · (refine Oeea (R.cel _ _ h (.inr rfl)) ?_; intro a U h1 U); exact ⟨a, h1⟩) ?_; intro cl hcl c1 c2)
 refine wpAny_comprehension_free rfl (Zdt hset c.env) hcl S.kind (fun x hx hl => by
   obtain ⟨y, k⟩ := x; have hl' : k = .local := hl; subst hl'; exact Zaf S.nd hx) ?_
 refine wpAny_mono (hi _ X σ s C R hm) (fun x s1 h1 => wpAny_mono h1 (fun it s2 h2 => ?_) fun U U h => h) fun U U h => h
 refine Oeeeeeaaaa h2 ?_; clear h2; intro src I J hs σ2 e_1; obtain rfl := e_1; intro W hJ ndh z_2; (refine Oa z_2 ?_; clear z_2; intro R2 hm2)
 refine wpAny_newObj_type (Zey ?_)
 have keep3 : ∀ b o, s2.heap.get? b = some o → (s2.heap.push { cls := .type "list", data := .seq ([] : List Value).toArray }).get? b = some o := fun b o e => Heap.get?_push_of_some _ e
 (refine Oa (Rel.hidNew (dr := s2.drawn) (c := c.with hs) (hs := [accO s2.heap.objs.size [] 0]) R2 (fun p hp => by
   rcases List.mem_singleton.mp hp with rfl; exact ⟨Heap.get?_push_size _ rfl, Zae _⟩) keep3) ?_; intro R3 ndD)
 have hDl : s2.heap.objs.size ≠ c.env.locals := by (refine Oeeeea R2.own ?_; intro U U U U ho U); exact Nat.ne_of_gt (Heap.lt_size ho)
 have R3c : c.R σ2 { s2 with heap := s2.heap.push { cls := .type "list", data := .seq ([] : List Value).toArray } } := R3.show_.show_
 refine Oeeeea R3c.own ?_; intro oL U U U hL U
 have R4 := Zqh (cl := cl) (oL := oL) ((F.with hs).with [accO s2.heap.objs.size [] 0]) S R3 hL c1 c2
 let s3 : Shared := { s2 with heap := s2.heap.push { cls := .type "list", data := .seq ([] : List Value).toArray } }
 let cc := compCx c σ2 s3 sc cl oL
 have R5 : ((cc.with [accO s2.heap.objs.size [] 0]).with hs).R ⟨enterL (ownNames sc) σ2.loc, σ2.H⟩ { s2 with heap := pushCells ((s2.heap.push { cls := .type "list", data := .seq ([] : List Value).toArray }).push { cls := .type "dict", data := .dict #[] }) sc.names } := by
   refine R4.rehide fun p hp => ?_; simp only [cc, s3, compCx, List.mem_append] at hp ⊢; rcases hp with h | h | h | h
   · exact .inr (.inr (.inl h))
   · exact .inr (.inl h)
   · exact .inl h
   · exact .inr (.inr (.inr h))
 have Fcc : Fit cc n (compSE g sc) A := F.comp hlv S
 have notPark : ∀ ms, Nd c ms → ∀ p ∈ ms, p.1 ∉ (park c.h₀ c.env σ2 { s2 with heap := s2.heap.push { cls := .type "list", data := .seq ([] : List Value).toArray } }).map (·.1) := fun ms hnd p hp q => by
   refine Oea (List.mem_map.mp q) ?_; intro r hr e; refine Oa (Zcd.mp hr) ?_; intro z_1 U; (refine Oeaa z_1 ?_; clear z_1; intro x U hk hlk); rw [e] at hlk; exact hk.elim (fun h => (hnd p hp).2.2.2 x _ h (.inl rfl) hlk) fun h => (hnd p hp).2.2.2 x _ h (.inr rfl) hlk
 have ndcc : ∀ ms, Nd c ms → (∀ p ∈ ms, p.1 ≠ c.env.locals ∧ p.1 < s3.heap.objs.size) → Nd cc ms := fun ms hnd hlt p hp => by
   refine Oaaa (hnd p hp) ?_; intro n1 n2 n3 n4; refine ⟨fun q => ?_, fun q => ?_, n3, fun x k hx hk q => ?_⟩
   · rw [show cc.hid = park c.h₀ c.env σ2 s3 ++ c.hid from rfl, List.map_append, List.mem_append] at q
     exact q.elim (notPark ms hnd p hp) n1
   · rw [show cc.hfr = (c.env.locals, oL) :: c.hfr from rfl, List.map_cons, List.mem_cons] at q
     exact q.elim (hlt p hp).1 n2
   · rcases Zlt F S c1 (L := s3.heap.objs.size) (h := s3.heap) rfl q with h | ⟨kk, h1, h2, h3⟩
     · exact absurd (hlt p hp).2 (Nat.not_lt.mpr (Nat.le_of_succ_le h))
     · exact n4 x kk h1 h2 h3
 have hsz3 : s3.heap.objs.size = s2.heap.objs.size + 1 := Heap.size_push ..
 have ndA : Nd cc [accO s2.heap.objs.size [] 0] := ndcc _ (Zra ndD) fun p hp => by
   rcases List.mem_singleton.mp hp with rfl; exact ⟨hDl, by rw [hsz3]; exact Nat.lt_succ_self _⟩
 have ndH : Nd (cc.with [accO s2.heap.objs.size [] 0]) hs := fun p hp => by
   have hlt : p.1 < s2.heap.objs.size := Heap.lt_size (R2.hidOf p hp).1; refine Oa (ndcc hs ndh (fun p hp => ⟨fun e => R2.lnew.2.2.1 (List.mem_map.mpr (Iea p (List.mem_append_left _ hp) e)), by rw [hsz3]; exact Nat.lt_succ_of_lt (Heap.lt_size (R2.hidOf p hp).1)⟩) p hp) ?_; intro n1 n2; refine ⟨fun q => ?_, n2⟩; rw [List.map_append, List.mem_append] at q; refine q.elim (fun q => ?_) n1; have : p.1 = s2.heap.objs.size := by simpa using q
   exact absurd hlt (by rw [this]; exact Nat.lt_irrefl _)
 have hloop := Ziv (c := cc) Fcc hh (gens := ⟨tgt, iter, ifs, 0⟩ :: gens) (d := 0) rfl (hE cc rfl rfl rfl Fcc) W (vs := []) (j := 0) hJ ndH ndA R5 hm2
 have fin : codeAny c.M A (.compLoop (.ListComp elt (⟨tgt, iter, ifs, 0⟩ :: gens) sc pos) 0 (.ref I) (.ref s2.heap.objs.size) cc.env) (compPost c.M A (EX c X) use Qr (.ref s2.heap.objs.size) s3.heap.objs.size) _ :=
   codeAny_mono hloop fun r s' hr => by
     cases r with
     | error e => exact hr.elim
     | ok f =>
       refine Oeeeaaa hr ?_; clear hr; intro us m' σ' R' U hlen hq; refine Oeaaa (Zn9 F R3c hL (Znc (Zra ndD)) hDl R' (by rw [List.length_map] at hlen; exact hlen)) ?_; intro oC R6 nd6 hns hoC; exact post _ oC (.ref s2.heap.objs.size) _ s' f R6 nd6 hns hoC (hq _ (R'.hidk _ (.head _)).2.1)
 exact Zce (d := 0) rfl fin (W.self 0 _ _ hs _ _ R5.hidOf hJ fin)
theorem Ziw (R : (c.with [(a, oa)]).R σ s) (nd : Nd c [(a, oa)]) (hs : Heap.SameBut a s.heap h') : c.R σ { s with heap := h' } :=
 (Rel.step (ms := [(a, oa)]) (ms' := []) R nd (fun b o hb e => hs.extBut b o (by simpa using hb) e) (fun U hp => nomatch hp) R.tok).1
theorem Zjg (F : Fit c n g A) (hlv : g.lv < 2) (S : ScOk g sc) {gens : List Comprehension} {mi : AM Src} {m : Nat → AM (List AV)} (hset : isSetE iter = false) (hi : SrcSd c A iter mi)
   (hE : ∀ c' : Cx, c'.prog = c.prog → c'.w = c.w → c'.h₀ = c.h₀ → Fit c' n (compSE g sc) A → EmitSd c' A (⟨tgt, iter, ifs, 0⟩ :: gens) 0 elt ifs sc pos m) :
   Sd c A er (eval (.ListComp elt (⟨tgt, iter, ifs, 0⟩ :: gens) sc pos) c.env) (bnd mi fun src => fun Q X σ => compGo (asgI (compSE g sc) tgt) m (fun σ' => src.holds σ'.H) src.items 0 (fun ys σ' => ys.length ≤ lim ∧ newA (.list ys) Q X ⟨σ.loc, σ'.H⟩) noX ⟨enterL (ownNames sc) σ.loc, σ.H⟩) := by
 intro Q X σ s C R hm
 rw [eval_ListComp]
 refine Zix F hlv S hset hi hE C R hm fun a oa v σ3 s3 f R3 nd hns hoa hq => ?_
 refine Oe hns ?_; clear hns; intro ma hns
 exact Iea ma hns (fun h' hs => (Iea σ3 (Ziw R3 nd hs) hq))
theorem Zld (F : Fit c n g A) (hlv : g.lv < 2) (S : ScOk g sc) {gens : List Comprehension} {ipos : Pos} {mi : AM Src} {m : Nat → AM (List AV)} {u : Value → Sem Unit} {mu : AV → AM Unit} (hset : isSetE iter = false) (hi : SrcSd c A iter mi)
   (hE : ∀ c' : Cx, c'.prog = c.prog → c'.w = c.w → c'.h₀ = c.h₀ → Fit c' n (compSE g sc) A → EmitSd c' A (⟨tgt, iter, ifs, 0⟩ :: gens) 0 elt ifs sc pos m) (hu : ∀ ms v, Sd (c.with ms) A id (u v) (mu (er v)))
   (Q : Unit → St → Prop) (X : Exn → St → Prop) (σ : St) (s : Shared) (C : Calm c X) (R : c.R σ s)
   (hm : bnd mi (fun src => fun Q X σ => compGo (asgI (compSE g sc) tgt) m (fun σ' => src.holds σ'.H) src.items 0 (fun ys σ' => ys.length ≤ lim ∧ newA (.list ys) Q X ⟨σ.loc, σ'.H⟩) noX ⟨enterL (ownNames sc) σ.loc, σ.H⟩) (fun v σ' => mu v Q X σ') X σ) :
   wpAny c.M A (comprehension (.ListComp elt (⟨tgt, iter, ifs, 0⟩ :: gens) sc pos) sc c.env ipos (newList []) false (eval iter c.env) (some u)) (fun U s' => ∃ σ', c.R σ' s' ∧ Q () σ') (EX c X) s := by
 refine Zix F hlv S hset hi hE C R hm fun a oa v σ3 s3 f R3 nd hns hoa hq => ?_
 refine Oeeeea hns ?_; clear hns; intro ma o es ep ho hd
 rw [hoa] at ho; cases ho
 refine wpAny_mono (hu [(a, oa)] v Q X σ3 s3 (fun h => C h) R3 hq) (fun U s4 h4 => ?_) fun U U h => h.shown
 refine Oea h4 ?_; clear h4; intro σ4 R4 q4
 exact Iea ma (Ieeea oa es ep ((R4.hidk _ (.head _)).2.2) hd) (fun h' hs => (Iea σ4 (Ziw R4 nd hs) q4))
end
structure FnOk (h₀ : Heap) (f : Addr) (fd : FuncData) (body : List Stmt) : Prop where
 obj : ∃ o, h₀.get? f = some o ∧ o.data = .func fd
 body : fd.body = .stmts body
 code : h₀.CodeRec fd.code fd.qualname
 clo : fd.closure = []
 kind : fd.scope.kind = .function
 gen : fd.scope.isGenerator = false
 co : fd.scope.isCoroutine = false
 glob : fd.globals = mainGlobals
 blt : fd.builtins = builtinsNs
 nd : (fd.scope.names.map (·.1)).Nodup
 nm : (fd.scope.names.all fun p => p.1 != ("__debug__" : Str) && p.1 != ("__classdict__" : Str)) = true
 free : ∀ p ∈ fd.scope.names, p.2 ≠ .free
 dot : ∀ p ∈ fd.scope.names, p.1 ≠ (".0" : Str)
noncomputable def fnEnv (fd : FuncData) (f L : Addr) : Env := newEnv fd.scope L fd.globals (cellsFrom (L + 1) fd.scope.names []) (fd.qualname ++ ".<locals>.") (some f) fd.code none fd.builtins
noncomputable def fnCx (c : Cx) (σ : St) (s : Shared) (fd : FuncData) (f : Addr) (oL : Obj) : Cx :=
 { c with fs := fnEnv fd f s.heap.objs.size :: c.fs, hfr := (c.env.locals, oL) :: c.hfr, hid := park c.h₀ c.env σ s ++ c.hid, env := fnEnv fd f s.heap.objs.size, wr := ownNames fd.scope, lv := 0 }
theorem Zds {kind : Str → Option NameKind} {x : Str} (hx : kind x = some .local) : ∀ (binds : List (Str × Value)) (m : Str → Option Value) (ml : Str → Option AV), ml x = (m x).map er →
   locOf (binds.map fun p => (p.1, er p.2)) ml x = (bindL kind binds m x).map er
 | [], _, _, h => h
 | (y, v) :: r, m, ml, h => by
   refine Zds hx r _ (setL ml y (er v)) ?_; by_cases e : x = y
   · subst e; rw [Zff, if_pos hx]; simp
   · rw [Zdp _ _ e]
     split
     · simp only [if_neg e]; exact h
     · exact h
theorem Zen {kind : Str → Option NameKind} {x : Str} (hx : kind x = some .cell) : ∀ (binds : List (Str × Value)) (m : Str → Option Value) (ml : Str → Option AV), ml x = (m x).map er →
   locOf (binds.map fun p => (p.1, er p.2)) ml x = (bindC kind binds m x).map er
 | [], _, _, h => h
 | (y, v) :: r, m, ml, h => by
   refine Zen hx r _ (setL ml y (er v)) ?_; by_cases e : x = y
   · subst e
     rw [Zff, if_neg (by rw [hx]; decide)]; simp
   · rw [Zdp _ _ e]
     split
     · exact h
     · simp only [if_neg e]; exact h
section
variable {c : Cx} {A : Around} {n : Nat} {g : SE} {P : Par} {f : Addr} {fd : FuncData} {body : List Stmt}
structure Room (n : Nat) (A : Around) : Prop where
 depth : A.depth + 1 + 4 * n < 600
 units : A.units + 3 + 30 * n + 60 < cLine
theorem Fit.room (F : Fit c (n + 1) g A) : Room n A := ⟨by have := F.depth; exact q44 this, by have := F.units; exact Nat.lt_of_le_of_lt (Nat.add_le_add_right (qA (k := 3) (Nat.le_of_ble_eq_true rfl)) 60) this⟩
theorem Fit.less (F : Fit c (n + 1) g A) : Fit c n g A := { F with depth := by have := F.depth; exact Nat.lt_of_le_of_lt (qA (k := 0) (Nat.le_of_ble_eq_true rfl)) this, units := by have := F.units; exact Nat.lt_of_le_of_lt (Nat.add_le_add_right (qA (k := 0) (Nat.le_of_ble_eq_true rfl)) 60) this }
theorem Zut (K : FnOk c.h₀ f fd body) (F : Fit c n g A) (W : Room n A) (hlv : g.lv < 2) : Fit (fnCx c σ s fd f oL) n (fnSE fd.scope) (A.deeper (fnEnv fd f s.heap.objs.size)) where
 frames := by refine (?_ : A.frames.map _ = _); rw [F.frames]; rfl
 depth := W.depth
 units := W.units
 lv := rfl
 le := (by refine (?_ : 0 ≤ 3); decide)
 calm := fun U => F.calm hlv
 held := fun h => nomatch h
 sc := rfl
 kind := K.kind
 glob := K.glob
 blt := K.blt
 wr := rfl
 fr := ⟨_, rfl⟩
 nm := K.nm
 top := fun U => (Iea c.fs rfl rfl)
theorem Zus (K : FnOk c.h₀ f fd body) (R : c.R σ s) (hL : s.heap.get? c.env.locals = some oL) (tp : 0 < s'.toks)
   (x : InCallC s (fnEnv fd f s.heap.objs.size).locals (bindL (fnEnv fd f s.heap.objs.size).kindOf binds fun U => none) (fnEnv fd f s.heap.objs.size).cells (bindC (fnEnv fd f s.heap.objs.size).kindOf binds fun U => none) s') :
   (fnCx c σ s fd f oL).R ⟨locOf (binds.map fun p => (p.1, er p.2)) fun U => none, σ.H⟩ s' := by
 obtain ⟨x1, x2, x3, x4⟩ := x
 refine Oee x1.same ?_; intro h' tk e_1; obtain rfl := e_1
 have up := x1.keep
 have hloc : (fnEnv fd f s.heap.objs.size).locals = s.heap.objs.size := rfl
 have hcells : (fnEnv fd f s.heap.objs.size).cells = cellsFrom (s.heap.objs.size + 1) fd.scope.names [] := rfl
 have hkind : ∀ y, (fnEnv fd f s.heap.objs.size).kindOf y = fd.scope.names.lookup y := fun y => rfl
 have fresh : ∀ a, s.heap.objs.size ≤ a → s.heap.get? a = none := fun a ha => Heap.get?_none_of_le ha
 have newNone : ∀ p ∈ park c.h₀ c.env σ s ++ c.hid, s.heap.get? p.1 = some p.2 := fun p hp => by
   rcases List.mem_append.mp hp with h | h
   · exact (Zcd.mp h).2.2.2
   · exact (R.hidk p h).2.2
 have newNone' : ∀ p ∈ (c.env.locals, oL) :: c.hfr, ∃ o, s.heap.get? p.1 = some o := fun p hp => by
   rcases List.mem_cons.mp hp with rfl | h
   · exact ⟨_, hL⟩
   · (refine Oaae (R.hfrk p h) ?_; intro U U sl e); exact ⟨_, e⟩
 refine { base := fun b o e => up b o (R.base b o e), objs := ?_, hidk := ?_, hfrk := ?_, fsk := ?_, loc := ?_, cel := ?_, hfd := ?_, lnew := ?_, wrs := ?_, gens := R.gens, os := R.os, tok := tp }
 · intro a ao e; (refine Oaea (R.objs a ao e) ?_; intro x o ho r); exact Iaea x o (up _ _ ho) r
 · intro p hp
   rcases List.mem_append.mp hp with h | h
   · (refine Oaaa (Zcd.mp h) ?_; intro U h1 h2 h3); exact ⟨h1, h2, up _ _ h3⟩
   · (refine Oaa (R.hidk p h) ?_; intro h1 h2 h3); exact ⟨h1, h2, up _ _ h3⟩
 · intro p hp
   rcases List.mem_cons.mp hp with rfl | h
   · exact Iaae R.lfresh R.lnew.2.1 oL.slots (up _ _ hL)
   · (refine Oaae (R.hfrk p h) ?_; intro h1 h2 sl h3); exact Iaae h1 h2 sl (up _ _ h3)
 · intro e he
   rcases List.mem_cons.mp he with rfl | he
   · refine Oeeeaa x1.ns ?_; intro o es ep ho hd U
     refine (Iaeeaaaae ?_ s.heap.objs.size o rfl ((R.away (Zae _)).1) (R.H_none (Zae _)) ho _ (Ie _ hd)); refine (?_ : fd.scope.kind ≠ .module); rw [K.kind]; decide
   · refine Oaeeaaaa (R.fsk e he) ?_; intro x1 L o hf h1 h2 h3 h4
     exact Iaeeaaaa x1 L o hf h1 h2 (up _ _ h3) h4
 · intro e he p hp q
   rcases List.mem_cons.mp he with rfl | he
   · have := newNone p hp
     have q' : s.heap.objs.size = p.1 := Option.some.inj q; rw [← q', Zae] at this; exact Zab this
   · rcases List.mem_append.mp hp with h | h
     · refine Oaaa (Zcd.mp h) ?_; intro z_1 U U hg; (refine Oeaa z_1 ?_; clear z_1; intro x U hk hlk)
       refine Oaeeaaaaee (R.fsk e he) ?_; intro U L oo hf U U h3 U U h4; rw [hf] at q; cases q; obtain ⟨a, v, h1, ⟨oc, hoc, hdc⟩, _⟩ : ∃ a v, c.env.cells.lookup x = some a ∧ s.heap.IsCell a v ∧ True := hk.elim (fun h => Oeeaa (R.cel x _ h (.inl rfl)) fun a v h1 h2 U => (Ieeaa a v h1 h2 trivial)) fun h => Oeeaa (R.cel x _ h (.inr rfl)) fun a v h1 h2 U => (Ieeaa a v h1 h2 trivial); rw [hlk] at h1; cases h1; rw [hoc] at h3; cases h3; rw [hdc] at h4; cases h4
     · exact R.hfd e he p h q
 · exact Iea _ x1.ns (fun y hy => Zds (kind := (fnEnv fd f s.heap.objs.size).kindOf) hy binds _ _ rfl)
 · intro y k hy hc
   have hy' : fd.scope.names.lookup y = some k := hy; rcases hc with rfl | rfl
   · refine Oe (Za7 fd.scope.names (s.heap.objs.size + 1) (Za1 hy')) ?_; intro a ha
     refine Oe (Zas ha) ?_; intro b hb; have hlt : s.heap.objs.size < b := x4 _ _ (Zar hb); exact Ieeaaaa b _ hb (x2 y b hb) (Zen (kind := (fnEnv fd f s.heap.objs.size).kindOf) hy binds _ _ rfl) (R.H_none (fresh b (Nat.le_of_lt hlt))) (Nat.ne_of_gt hlt)
   · exact absurd rfl (K.free _ (Za1 hy'))
 · refine ⟨?_, R.H_none (Zae _), fun h => ?_, fun h => ?_⟩
   · refine Oeeeea R.own ?_; intro U m U U ho U
     exact Nat.le_trans R.lnew.1 (Nat.le_of_lt (Heap.lt_size ho))
   · refine Oea (List.mem_map.mp h) ?_; intro p hp e
     have := newNone p hp; rw [e] at this; rw [show s.heap.get? (fnCx c σ s fd f oL).env.locals = none from Zae s.heap] at this; exact Zab this
   · refine Oea (List.mem_map.mp h) ?_; intro p hp e
     refine Oe (newNone' p hp) ?_; intro o this; rw [e] at this; rw [show s.heap.get? (fnCx c σ s fd f oL).env.locals = none from Zae s.heap] at this; exact Zab this
 · intro y hy
   have hy' := Zbn.mp hy; rcases hy'.1 with h | h
   · exact .inl (Zaf K.nd h)
   · refine .inr ⟨Zaf K.nd h, fun a ha => ?_⟩
     have hm := Zar ha; have hlt : s.heap.objs.size < a := x4 _ _ hm; have hnone := fresh a (Nat.le_of_lt hlt); refine ⟨(R.away hnone).1, fun q => ?_, fun q => ?_, fun z hz q => hz (name_of_addr x3 (Zar q) hm)⟩
     · refine Oea (List.mem_map.mp q) ?_; intro p hp e
       have := newNone p hp; rw [e, hnone] at this; exact Zab this
     · refine Oea (List.mem_map.mp q) ?_; intro p hp e
       refine Oe (newNone' p hp) ?_; intro o this; rw [e, hnone] at this; exact Zab this
noncomputable def BindSd (c : Cx) (fd : FuncData) (args : List AV) (m : AM (List (Str × AV))) : Prop :=
 ∀ (vals : List Value) (A : Around) (E : Value → Shared → Prop) (Q : List (Str × AV) → St → Prop) (σ : St) (s : Shared), vals.map er = args → c.R σ s → m Q noX σ →
   wpAny c.M A (bindArgs fd ⟨vals, []⟩) (fun binds s₁ => ∃ H₁, c.R ⟨σ.loc, H₁⟩ s₁ ∧ (∀ p ∈ binds, (p.1, NameKind.local) ∈ fd.scope.names ∨ (p.1, NameKind.cell) ∈ fd.scope.names) ∧ Q (binds.map fun p => (p.1, er p.2)) ⟨σ.loc, H₁⟩) E s
theorem Zta (K : FnOk c.h₀ f fd body) (B : Base c.prog c.w c.h₀ P) (F : Fit c n g A) (W : Room n A) (hlv : g.lv < 2) {args : List AV} {m : AM (List (Str × AV))} (hb : BindSd c fd args m)
   (hbody : ∀ c' A', c'.prog = c.prog → c'.w = c.w → c'.h₀ = c.h₀ → Fit c' n (fnSE fd.scope) A' → Sd c' A' fl (execs body c'.env) mb) {vals : List Value} (hv : vals.map er = args) (R : c.R σ s)
   (hm : m (fun bs σ1 => mb (fun f σ' => match f with | .ret v => Q v σ'.H | .next => Q .none σ'.H | _ => False) noX ⟨locOf bs fun U => none, σ1.H⟩) noX ⟨σ.loc, σ.H⟩) :
   codeAny c.M A (.call (.ref f) ⟨vals, []⟩) (fun r s' => ∃ v H', r = .ok (.ret v) ∧ c.R ⟨σ.loc, H'⟩ s' ∧ Q (er v) H') s := by
 refine Oea K.obj ?_; intro o ho hdat
 have hF := F.depth
 refine codeAny_call_function (by simp only [recursionLimit]; exact Nat.lt_of_le_of_lt (Nat.le_add_right _ _) (qM hF rfl)) (R.base _ _ ho) hdat K.co K.gen K.body (K.code.keeps R.base) ?_
 refine wpAny_mono (hb vals A.in1 _ _ σ s hv R hm) (fun binds s1 h1 => ?_) fun U U h => h
 refine Oeaa h1 ?_; clear h1; intro H1 R1 hbn h1
 refine Oeeeea R1.own ?_; intro oL U U U hL U
 rw [K.clo]
 refine wpAny_with_toks (n := s1.toks) (Nat.le_refl _) ?_
 refine wpAny_newFunctionEnv_cells K.kind (fun y hy => ?_) fun env he s2 x tk => ?_
 · rcases hbn y hy with h | h
   · exact .inl (Zaf K.nd h)
   · refine Oe (Za7 fd.scope.names (s1.heap.objs.size + 1) h) ?_; intro a ha
     refine Oe (Zas ha) ?_; intro b hb; exact .inr ⟨Zaf K.nd h, by rw [hb]; rfl⟩
 · subst he
   have R2 := Zus (oL := oL) K R1 hL (Nat.lt_of_lt_of_le R1.tok tk) x; refine ⟨B.lim.keeps fun b o e => x.toInCall.keep b o (R1.base b o e), codeAny_func ?_⟩; refine wpAny_mono (hbody (fnCx c ⟨σ.loc, H1⟩ s1 fd f oL) _ rfl rfl rfl (Zut K F W hlv) _ noX _ s2 (fun U U U h => h) R2 h1) (fun fw s3 h3 => ?_) fun U U h => h.none.elim; refine Oea h3 ?_; clear h3; intro σ3 R3 h3; have R4 : c.R ⟨σ.loc, σ3.H⟩ s3 := R1.unpark hL R3 (fun U h => .tail _ h) (fun p h => List.mem_append_right _ h) (fun p h => .tail _ h) (fun p h => List.mem_append_left _ h) (.head _); cases fw with
   | ret v => exact Ieeaa v σ3.H rfl R4 h3
   | next => exact Ieeaa _ σ3.H rfl R4 h3
   | brk => exact h3.elim
   | cont => exact h3.elim
noncomputable def SoundF (prog : Program) (w : World) (h₀ : Heap) (P : Par) (n : Nat) : Prop :=
 ∀ (c : Cx) (A : Around) (g : SE) (f : Addr) (vals : List Value) (Q : AV → AH → Prop) (σ : St) (s : Shared), c.prog = prog → c.w = w → c.h₀ = h₀ → Fit c n g A → Room n A → g.lv < 2 → c.R σ s → P.F f (vals.map er) Q σ.H →
   (∃ o fd, c.h₀.get? f = some o ∧ o.data = .func fd) ∧ codeAny c.M A (.call (.ref f) ⟨vals, []⟩) (fun r s' => ∃ v H', r = .ok (.ret v) ∧ c.R ⟨σ.loc, H'⟩ s' ∧ Q (er v) H') s
end
section
variable {M : Model} {A : Around} {E : Value → Shared → Prop} {s : Shared}
theorem Zcf {f : Value} {first : List Value} {args : List (Bool × Sem Value)} {Q : Value → Shared → Prop}
   (h : wpAny M A (evalArgs f true args []) (fun a s₁ => wpAny M A (keeperOf f) (fun U s₂ => wpAny M A (call f (first ++ a.pos) a.kw) Q E s₂) E s₁) E s) : wpAny M A (callWith pos f first args []) Q E s := by
 delta callWith
 refine wpAny_bind (wpAny_holding (wpAny_mono h (fun a s₁ h₁ => wpAny_bind (wpAny_standAt ?_)) fun U U x => x))
 dsimp only
 refine wpAny_bind (wpAny_mono h₁ (fun k s₂ h₂ => ?_) fun U U x => x)
 have tail : ∀ {t : Sem Value}, wpAny M A t Q E s₂ → wpAny M A (t >>= fun r => holding [r] point >>= fun U => pure r) Q E s₂ :=
   fun ht => wpAny_bind (wpAny_mono ht (fun r s₂ hr => wpAny_bind (wpAny_holding (wpAny_point (wpAny_pure hr)))) fun U U x => x)
 have marked (mk : Value) : wpAny M A (callMarked mk f (first ++ a.pos) a.kw) Q E s₂ := by delta callMarked; exact Calls.wpAny_keep h₂
 have oper (vs : List Value) : wpAny M A (operate vs (call f (first ++ a.pos) a.kw)) Q E s₂ := fun Γ p hΓ => by rw [Sem.wp_operate]; exact h₂ Γ p hΓ
 generalize (args.any (·.1) || ([] : List (Option Str × Sem Value)).any (·.1.isNone)) = b
 cases k <;> cases b <;> dsimp only <;> first
   | exact tail h₂
   | exact tail (marked _)
   | exact tail (oper _)
   | (split <;> first | exact tail h₂ | exact tail (marked _))
end
section
variable {c : Cx} {A : Around} {n : Nat} {g : SE} {P : Par}
noncomputable def ArgSd (c : Cx) (A : Around) (f : Value) (trees : List (Bool × Sem Value)) (m : AM (List AV)) : Prop :=
 ∀ (Q : List AV → St → Prop) (X : Exn → St → Prop) (σ : St) (s : Shared), Calm c X → c.R σ s → m Q X σ →
   wpAny c.M A (evalArgs f true trees []) (fun a s' => a.kw = [] ∧ ∃ σ', c.R σ' s' ∧ Q (a.pos.map er) σ') (EX c X) s
theorem Zh4 {e : Expr} (h : starE e = none) : starEach (e :: r) env = (false, eval e env) :: starEach r env := by
 cases e with
 | Starred t p => cases h
 | _ => rfl
theorem Zfu (h : plainArgs args = true) : starEach args env = args.map fun e => (false, eval e env) := by
 induction args with
 | nil => rfl
 | cons e r ih =>
   have h' := Bool.and_eq_true_iff.mp (show ((starE e).isNone && plainArgs r) = true from h); rw [Zh4 (Option.isNone_iff_eq_none.mp h'.1), ih h'.2]; rfl
theorem Zbz (h : plainArgs args = true) : backTo pos (starEach args env) = args.map fun e => (false, eval e env) := by
 rw [Zfu h]
 delta backTo
 rw [List.map_map]
 rfl
theorem Zes {f : Value} {m : AM (List AV)} (hp : plainArgs args = true) (h : Sd c A (List.map er) (spliced (backTo pos (starEach args c.env))) m) : ArgSd c A f (backTo pos (starEach args c.env)) m := by
 intro Q X σ s C R hm
 have h' := h Q X σ s C R hm
 rw [Zbz hp] at h' ⊢
 cases args with
 | nil =>
   unfold evalArgs; refine (?_ : wpAny c.M A (spliced [] >>= _) _ _ s); refine wpAny_bind (wpAny_mono h' (fun vs s1 h1 => wpAny_bind (wpAny_pure ?_)) fun U U h => h); refine wpAny_holding ?_; exact wpAny_bind (wpAny_pure (wpAny_bind (wpAny_pure (wpAny_pure ⟨rfl, h1⟩))))
 | cons e r =>
   rw [List.map_cons] at h' ⊢; exact Calls.evalArgs_plain (wpAny_mono h' (fun vs s1 h1 => ⟨rfl, h1⟩) fun U U h => h)
theorem Zg3 {M : Model} {t : Addr} {items : Array Value} {Q : Bool → Shared → Prop} (ht : s.heap.IsTuple t items) (h : Q false s) : wpAny M A (notIterableAtAll (.ref t)) Q E s := by
 delta notIterableAtAll
 refine wpAny_bind (wpAny_specialOf ht.typeIs PySem.F.slot_tuple_iter.lookup ?_)
 exact wpAny_pure h
theorem Ziz {f : Value} {e : Expr} (h : Sd c A er (eval e c.env) me) : ArgSd c A f (backTo pos (starEach [.Starred e p] c.env)) (bnd me starD) := by
 intro Q X σ s C R hm
 refine (?_ : wpAny c.M A (evalArgs f true [(true, (do let v ← eval e c.env; standAt pos; pure v))] []) _ _ s)
 unfold evalArgs
 have h0 := wpAny_mono (h _ X σ s C R hm) (Q' := fun v s1 => wpAny c.M A (notIterableAtAll v) (fun b s2 => b = false ∧ wpAny c.M A (collect v) (fun vs s3 => ∃ σ', c.R σ' s3 ∧ Q (vs.map er) σ') (EX c X) s2) (EX c X) s1) (fun v s1 h1 => by
   refine Oea h1 ?_; clear h1; intro σ1 R1 h1; refine vR_el h1 ?_; clear h1; intro a h1; replace h1 := Zjn h1; refine Oea h1 ?_; clear h1; intro xs hx h1; obtain ⟨_, o, ho, vs, m, rfl, hv, hlen⟩ := R1.objs _ _ hx; refine Zg3 (Ieaae _ ho rfl m rfl) ⟨rfl, ?_⟩; refine wpAny_collect_seq a (.inr rfl) ho rfl rfl (fun h' hk => (Iea σ1 (R1.grow hk R1.tok) (by rw [hv]; exact h1))) ?_; have : vs.size = xs.length := by rw [← hv, List.length_map, Array.length_toList]
   have := Zbb
   omega) fun U U h => h
 first
   | refine wpAny_bind (wpAny_bind (wpAny_mono h0 (fun v s₁ h₁ => wpAny_bind (wpAny_standAt (wpAny_pure ?_))) fun U U x => x))
   | refine wpAny_bind (wpAny_bind (wpAny_bind (wpAny_mono h0 (fun v s₁ h₁ => wpAny_bind (wpAny_standAt (wpAny_pure (wpAny_pure ?_)))) fun U U x => x)))
 refine wpAny_holding ?_
 refine wpAny_bind (wpAny_pure ?_)
 refine wpAny_bind (wpAny_bind (wpAny_mono h₁ (fun b s₂ h₂ => ?_) fun U U x => x))
 refine Oa h₂ ?_; clear h₂; intro e_1; obtain rfl := e_1; intro h₂
 have z := wpAny_holding (vs := []) (wpAny_mono h₂ (fun vs s₃ h₃ => (wpAny_pure ⟨rfl, h₃⟩ : wpAny c.M A (pure (⟨vs, []⟩ : Args)) (fun a s' => a.kw = [] ∧ ∃ σ', c.R σ' s' ∧ Q (a.pos.map er) σ') (EX c X) s₃)) fun U U x => x)
 try simp only [Bool.false_eq_true, if_false]
 first
   | exact z
   | exact wpAny_bind (wpAny_pure z)
theorem Zdq {f : Value} {first : List Value} {trees : List (Bool × Sem Value)} {m : AM (List AV)} {mc : List AV → AM AV} (ha : ArgSd c A f trees m)
   (hc : ∀ vals Q X σ s, Calm c X → c.R σ s → mc (vals.map er) Q X σ → wpAny c.M A (keeperOf f) (fun U s₂ => wpAny c.M A (call f (first ++ vals)) (OK c er Q) (EX c X) s₂) (EX c X) s) :
   Sd c A er (callWith pos f first trees []) (bnd m mc) := by
 intro Q X σ s C R hm
 refine Zcf (wpAny_mono (ha _ X σ s C R hm) (fun a s1 h1 => ?_) fun U U h => h)
 refine Oaea h1 ?_; clear h1; intro hk σ1 R1 h1
 rw [hk]
 exact hc a.pos Q X σ1 s1 C R1 h1
theorem Znn {M : Model} {f : Addr} {o : Obj} (ho : s.heap.get? f = some o) (hd : o.data = .func fd) {Q : Keeper → Shared → Prop} (h : Q .frame s) : wpAny M A (keeperOf (.ref f)) Q E s := by
 delta keeperOf
 refine wpAny_bind (wpAny_load ho ?_)
 rw [hd]
 exact wpAny_pure h
theorem Zky (SF : SoundF c.prog c.w c.h₀ P n) (F : Fit c n g A) (W : Room n A) (hlv : g.lv < 2) {f : Addr} {vals : List Value} {Q : AV → St → Prop} (R : c.R σ s) (hm : callU P f (vals.map er) Q X σ) :
   wpAny c.M A (keeperOf (.ref f)) (fun U s₂ => wpAny c.M A (call (.ref f) vals) (OK c er Q) (EX c X) s₂) (EX c X) s := by
 refine Oa (SF c A g f vals _ σ s rfl rfl rfl F W hlv R hm) ?_; intro z_1 hcode; (refine Oeea z_1 ?_; clear z_1; intro o fd ho hd)
 refine Znn (R.base _ _ ho) hd (wpAny_call (codeAny_mono hcode fun r s' hr => ?_))
 refine Oeeaa hr ?_; clear hr; intro v H' e_1; obtain rfl := e_1; intro R' hq
 exact Iea _ R' hq
theorem Rel.freshOf (R : c.R σ s) (h0 : c.h₀.get? a = none) (hL : a ≠ c.env.locals) (hn : ∀ p ∈ allBut c.h₀ s.heap [c.env.locals], p.1 < a) : s.heap.get? a = none := by
 cases e : s.heap.get? a with
 | none => rfl
 | some o => exact absurd (hn (a, o) (Zck.mpr ⟨by simpa using hL, h0, e⟩)) (Nat.lt_irrefl _)
theorem Zoc (B : Base c.prog c.w c.h₀ P) (SF : SoundF c.prog c.w c.h₀ P n) (F : Fit c (n + 1) g A) (hlv : g.lv < 2) {fi : Addr} (hi : initOf C = some fi) {vals : List Value} {Q : AV → St → Prop} (R : c.R σ s)
   (hm : ∀ d x, σ.H d = none → σ.H x = none → d ≠ x → P.F fi (.ref x :: vals.map er) (fun v H' => v = .none ∧ Q (.ref x) ⟨σ.loc, H'⟩) (upd (upd σ.H d (.dict [] 0)) x (if C = 102 then .node C d [] else .inst C d))) :
   wpAny c.M A (keeperOf (.ref C)) (fun U s₂ => wpAny c.M A (call (.ref C) vals) (OK c er Q) (EX c X) s₂) (EX c X) s := by
 refine Oea B.k ?_; intro K hK ST
 refine Oaaa (ST.make C fi hi) ?_; intro k1 k2 k3 k4
 refine Oea (looks_keep (M := c.M) k4 (hK.keeps R.base)) ?_; intro k U Lk
 refine Lk.here ?_
 refine Oe R.fr ?_; intro m Fr0
 refine call_cls Fr0 hK (R.news []) k1 k2 k3 fun x dx h' Fr' N' hlt hxd => ?_
 have gx := N' _ (.head _)
 have gd := N' _ (.tail _ (.head _))
 have fd : s.heap.get? dx = none := R.freshOf gd.2.2 gd.2.1 hlt
 have fx : s.heap.get? x = none := R.freshOf gx.2.2 gx.2.1 fun p hp => Nat.lt_trans (hlt p hp) hxd
 have ndx : dx ≠ x := Nat.ne_of_lt hxd
 have R1 : c.R σ { s with heap := h' } := R.back Fr0 Fr' rfl N' (fun p hp => .tail _ (.tail _ hp)) R.tok
 refine Oaaaaa (R.away fd) ?_; intro a1 a2 a3 a4 a5 a6
 have R2 : c.R ⟨σ.loc, upd σ.H dx (.dict [] 0)⟩ { s with heap := h' } := R1.tell gd.1 (by
   refine (Ieeaaaaaa (#[]) [] ⟨rfl, rfl, rfl⟩ rfl (fun U h => by simp at h) (.nil) List.nodup_nil rfl (Nat.zero_le _))) a1 a2 a3 a4 a5 a6
 refine Oaaaaa (R.away fx) ?_; intro b1 b2 b3 b4 b5 b6
 have R3 : c.R ⟨σ.loc, upd (upd σ.H dx (.dict [] 0)) x (if C = 102 then .node C dx [] else .inst C dx)⟩ { s with heap := h' } := R2.tell gx.1 (by
   split
   · exact Iea (#[]) rfl rfl
   · exact rfl) b1 b2 b3 b4 b5 b6
 have hmF := hm dx x (R.H_none fd) (R.H_none fx) ndx
 have hw : (Code.builtin "type.__call__" ⟨.ref C :: vals, []⟩).weight = 1 := by kernel_rfl
 have hu : (Code.builtin "type.__call__" ⟨.ref C :: vals, []⟩).cUnits = 1 := by kernel_rfl
 have hfr : pushEnvs (Code.builtin "type.__call__" ⟨.ref C :: vals, []⟩).envs A.frames = A.frames := by
   have : (Code.builtin "type.__call__" ⟨.ref C :: vals, []⟩).envs = [] := by kernel_rfl
   rw [this]; cases A.frames <;> rfl
 have hF := F.depth
 have hU := F.units
 have F' : Fit c n g (A.under (.builtin "type.__call__" ⟨.ref C :: vals, []⟩)) := { F with
   frames := hfr.trans F.frames
   depth := by refine (?_ : A.depth + Code.weight _ + 4 * n < 600); rw [hw]; exact q44 hF
   units := by refine (?_ : A.units + Code.cUnits _ + 30 * n + 60 < cLine); rw [hu]; exact Nat.lt_of_le_of_lt (Nat.add_le_add_right (qA (k := 1) (Nat.le_of_ble_eq_true rfl)) 60) hU
   calm := F.calm
   held := F.held }
 have W' : Room n (A.under (.builtin "type.__call__" ⟨.ref C :: vals, []⟩)) := ⟨by refine (?_ : A.depth + Code.weight _ + 1 + 4 * n < 600); rw [hw]; exact Nat.lt_of_le_of_lt (qA (k := 2) (Nat.le_of_ble_eq_true rfl)) hF, by refine (?_ : A.units + Code.cUnits _ + 3 + 30 * n + 60 < cLine); rw [hu]; exact Nat.lt_of_le_of_lt (Nat.add_le_add_right (qA (k := 4) (Nat.le_of_ble_eq_true rfl)) 60) hU⟩
 refine Oa (SF c _ g fi (.ref x :: vals) _ _ _ rfl rfl rfl F' W' hlv R3 hmF) ?_; intro U hcode
 refine codeAny_mono hcode fun r s' hr => ?_
 refine Oeeaaa hr ?_; clear hr; intro v H' e_1; obtain rfl := e_1; intro R' hv hq
 cases Zs6 hv
 exact Iaea rfl _ R' hq
end
section
variable {c : Cx} {A : Around} {n : Nat} {g : SE} {P : Par}
theorem Rel.frames {X : List Addr} {tk : Nat} (R : c.R σ s) (hX : ∀ a ∈ X, c.off σ a)
   (k : ∀ b o, b ∉ X → s.heap.get? b = some o → (b ∉ c.fs.filterMap (·.frame) → h'.get? b = some o) ∧ ∃ sl, h'.get? b = some { o with slots := sl }) (tp : 0 < tk) : c.R σ { s with heap := h', toks := tk } := by
 have hfr : ∀ b, b ∈ c.fs.filterMap (·.frame) → ∃ e ∈ c.fs, e.frame = some b := fun b hb => by
   (refine Oea (List.mem_filterMap.mp hb) ?_; intro e he h); exact Iea e he h
 have fsL : ∀ b, b ∈ c.fs.filterMap (·.frame) → c.h₀.get? b = none ∧ σ.H b = none := fun b hb => by
   refine Oea (hfr b hb) ?_; intro e he h; refine Oaeeaaa (R.fsk e he) ?_; intro U L o hf h1 h2 U; rw [hf] at h; cases h; exact ⟨h1, h2⟩
 refine { base := ?_, objs := ?_, hidk := ?_, hfrk := ?_, fsk := ?_, hfd := R.hfd, loc := ?_, cel := ?_, lnew := R.lnew, wrs := R.wrs, gens := R.gens, os := R.os, tok := tp }
 · intro b o e
   refine (k b o (fun q => by rw [(hX b q).1] at e; exact Zab e) (R.base b o e)).1 fun q => ?_; rw [(fsL b q).1] at e; exact Zab e
 · intro a ao e
   refine Oaea (R.objs a ao e) ?_; intro x o ho r; refine (Iaea x o ((k a o (fun q => by rw [(hX a q).2.1] at e; exact Zab e) ho).1 fun q => ?_) r); rw [(fsL a q).2] at e; exact Zab e
 · intro p hp
   refine Oaa (R.hidk p hp) ?_; intro x y z; refine ⟨x, y, (k _ _ (fun q => (hX _ q).2.2.1 (List.mem_map_of_mem hp)) z).1 fun q => ?_⟩; refine Oea (hfr _ q) ?_; intro e he h; exact R.hfd e he p hp h
 · intro p hp
   refine Oaae (R.hfrk p hp) ?_; intro x y sl z; refine Oae (k _ _ (fun q => (hX _ q).2.2.2.1 (List.mem_map_of_mem hp)) z) ?_; intro U sl' z'; exact Iaae x y sl' z'
 · intro e he
   refine Oaeeaaaaee (R.fsk e he) ?_; intro x L o hf h1 h2 h3 es ep h4; refine Oae (k L o (fun q => (hX _ q).2.2.2.2.2.1 e he hf) h3) ?_; intro U sl z; exact Iaeeaaaae x L _ hf h1 h2 z es (Ie ep h4)
 · refine Oea R.loc ?_; intro m z_1 hm; (refine Oeeeaa z_1 ?_; clear z_1; intro o es ep ho hd r)
   refine Oae (k _ o (fun q => (hX _ q).2.2.2.2.1 rfl) ho) ?_; intro U sl z; exact Iea m (Ieeeaa _ es ep z hd r) hm
 · intro x kk hk hc
   refine Oeeaaaa (R.cel x kk hk hc) ?_; intro ca v h1 z_1 h3 h4 h5; (refine Oea z_1 ?_; clear z_1; intro o ho hd); refine Oae (k _ o (fun q => (hX _ q).2.2.2.2.2.2 x kk hk hc h1) ho) ?_; intro U sl z; exact Ieeaaaa ca v h1 (Iea _ z hd) h3 h4 h5
noncomputable def Noted (c : Cx) (σ : St) (h : Heap) (e : Addr) (k : String) (virgin : Prop) : Prop :=
 c.off σ e ∧ ∃ oe vs, h.get? e = some oe ∧ oe.cls = .type k ∧ oe.data = .fields vs ∧ 2 < vs.size ∧ (virgin → vs[2]? = some .none) ∧
   ∃ T oT ts, ∃ f : Addr, vs[1]? = some (.ref T) ∧ T ≠ e ∧ c.off σ T ∧ h.get? T = some oT ∧ oT.data = .fields ts ∧ ts[3]? = some (rawInt f) ∧ c.env.frame = some f
theorem Noted.flies {h : Heap} {e : Addr} {k : String} {v : Prop} (x : Noted c σ h e k v) : Flies c σ h e k v := by
 refine Oaeeaaaaae x ?_; clear x; intro o oe vs h1 h2 h3 h4 h5 T z_1; (refine Oeeeaaaaaa z_1 ?_; clear z_1; intro oT ts f a1 a2 a3 a4 a5 a6 a7)
 exact Iaeeaaaaa o oe vs h1 h2 h3 h4 h5 (.inr (Ieeeeaaaa T oT ts _ a1 a2 a3 a4 (Iaa a5 a6 (.inr (Iea f a7 rfl)))))
theorem Zlp (R : c.R σ s) : s.heap.FunFrames c.h₀ c.fs := by
 have : ∀ l, (∀ e ∈ l, e ∈ c.fs) → s.heap.FunFrames c.h₀ l := fun l => by
   induction l with
   | nil => exact fun U => trivial
   | cons e r ih =>
     intro h; refine Oaeeaaaaee (R.fsk e (h e (.head _))) ?_; intro x L o hf h1 h2 h3 es ep h4; exact ⟨x, (Ieeaaa L o hf h1 h3 (fun vs q => by rw [h4] at q; cases q)), ih fun e he => h e (.tail _ he)⟩
 exact this c.fs fun U h => h
theorem Zm5 (R : c.R σ s) (h : s.heap.get? a = none) : c.off σ a := by
 refine Oaaaaa (R.away h) ?_; intro a1 a2 a3 a4 a5 a6
 exact ⟨a1, R.H_none h, a2, a3, a4, a5, a6⟩
theorem Zgb {outer : List Env} {L : Addr} (hfs : c.fs = c.env :: outer) (hA : A.frames = some c.fs) (hf : c.env.frame = some L) {e : Addr} {k : String} {v : Prop} {oe : Obj} {head : Value} {hadNext : Bool} {Q : Unit → Shared → Prop} (R : c.R σ s) (off : c.off σ e)
   (he : s.heap.get? e = some oe) (hc : oe.cls = .type k) (hd : oe.data = .fields vs) (hsz : 2 < vs.size) (hv : v → vs[2]? = some .none)
   (h : ∀ h', c.R σ { s with heap := h' } → Noted c σ h' e k v → Q () { s with heap := h' }) :
   wpAny c.M A (do let a ← frameOf c.env; let pl ← entryPlaceOf L hadNext; let b ← EntryCells.newEntry head a .none (rawInt L) .none pl; setField (.ref e) 1 b) Q E s := by
 have hl := Zlp R
 rw [hfs] at hl
 have hene : e ∉ (c.env :: outer).filterMap (·.frame) := fun hm => by
   rw [← hfs] at hm; refine Oea (List.mem_filterMap.mp hm) ?_; intro x hx q; exact off.2.2.2.2.2.1 x hx q
 refine wpAny_bind (wpAny_frameOf_fun (hA.trans (by rw [hfs])) hl hf fun h₁ hs₁ => ?_)
 refine wpAny_bind (wpAny_entryPlaceOf fun pl hpl => ?_)
 delta EntryCells.newEntry newFields
 refine wpAny_bind (wpAny_newObj_type ?_ (hpl.sizeOk5 _ _ _ _ _))
 have he₁ : h₁.get? e = some oe := (hs₁.2.1 e hene).trans he
 have he₂ := Heap.get?_push_of_some (h := h₁) { cls := .type "traceback", dict := none, data := .fields ([head, .ref L, .none, rawInt L, .none] ++ (if pl.isEmpty then List.replicate 6 Value.none else pl)).toArray } he₁
 refine wpAny_setField he₂ hd (by exact q52 hsz) (h _ ?_ ?_)
 · refine R.frames (X := [e]) (fun a ha => by rcases List.mem_singleton.mp ha with rfl; exact off) (fun b o hb hbo => ?_) R.tok
   have hbe : b ≠ e := by simpa using hb
   refine Oe (hs₁.2.2 b o hbo) ?_; intro sl hs; refine (Iae (fun hbf => ?_) sl ?_)
   · rw [Heap.get?_update_other _ _ (Ne.symm hbe)]
     rw [hfs] at hbf; exact Heap.get?_push_of_some _ ((hs₁.2.1 b hbf).trans hbo)
   · rw [Heap.get?_update_other _ _ (Ne.symm hbe)]
     exact Heap.get?_push_of_some _ hs
 · have hTe : h₁.objs.size ≠ e := Nat.ne_of_gt (Heap.lt_size he₁)
   have hd₃ := Obj.data_mapFields hd (·.setIfInBounds 1 (Value.ref h₁.objs.size)); have he₃ := Heap.get?_update_self (Obj.mapFields (·.setIfInBounds 1 (Value.ref h₁.objs.size))) he₂ (Obj.isFreed_of_fields hd₃); have hT₃ := (Heap.get?_update_other (h₁.push { cls := .type "traceback", dict := none, data := .fields ([head, .ref L, .none, rawInt L, .none] ++ (if pl.isEmpty then List.replicate 6 Value.none else pl)).toArray })
     (Obj.mapFields (·.setIfInBounds 1 (Value.ref h₁.objs.size))) (Ne.symm hTe)).trans (Heap.get?_push_size h₁ rfl)
   refine (Iaeeaaaaa off _ _ he₃ ((Obj.cls_mapFields _ _).trans hc) hd₃ (by simpa using hsz) (fun hvv => by rw [Array.getElem?_setIfInBounds_ne (by decide)]; exact hv hvv) (Ieeeeaaaa h₁.objs.size _ _ L (by simp [show 1 < vs.size by exact q52 hsz]) hTe (Zm5 R (Heap.get?_none_of_le (by rw [hs₁.1]; exact Nat.le_refl _))) hT₃ (Iaa rfl ?_ hf)))
   first | (simp; done) | (rcases hpl with rfl | ⟨_, _, _, _, _, _, _, rfl⟩ <;> simp)
theorem Zci (F : Fit c n g A) (hlv : g.lv ≠ 1) {e : Addr} {k : String} {v : Prop} {Q : Unit → Shared → Prop} (R : c.R σ s) (Fl : Flies c σ s.heap e k v)
   (h : ∀ h', c.R σ { s with heap := h' } → Noted c σ h' e k v → Q () { s with heap := h' }) : wpAny c.M A (noteFrame (.ref e) c.env) Q E s := by
 refine Oea (F.top hlv) ?_; intro outer hfs hf
 obtain ⟨off, oe, vs, he, hc, hd, hsz, hv, h1⟩ := Fl
 delta noteFrame
 simp only [hf]
 rcases h1 with h1 | ⟨T, oT, ts, fl, h1, hTe, hoT, hT, hdT, h3, hfl⟩
 · refine wpAny_bind (wpAny_field he hd h1 ?_)
   rw [if_neg (by decide)]; exact Zgb hfs F.frames hf R off he hc hd hsz hv h
 · refine wpAny_bind (wpAny_field he hd h1 ?_)
   rw [if_pos (show (Value.ref T != Value.none) = true from by simp)]; refine wpAny_bind (wpAny_field hT hdT h3 ?_); rcases hfl with rfl | ⟨f, hff, rfl⟩
   · rw [if_neg (show ¬ ((Value.none == rawInt c.env.locals) = true) from by simp [rawInt])]
     refine wpAny_bind (wpAny_setField hT hdT (Array.getElem?_eq_some_iff.mp h3).1 ?_); have other : ∀ b, b ≠ T → (s.heap.update T (Obj.mapFields (·.setIfInBounds 3 Value.none))).get? b = s.heap.get? b := fun b hb => Heap.get?_update_other _ _ (Ne.symm hb); have R1 : c.R σ { s with heap := s.heap.update T (Obj.mapFields (·.setIfInBounds 3 Value.none)) } := R.frames (X := [T]) (fun a ha => by rcases List.mem_singleton.mp ha with rfl; exact hoT) (fun b o hb hbo => by
       have hbT : b ≠ T := by simpa using hb
       have e := (other b hbT).trans hbo; exact (Iae (fun U => e) o.slots e)) R.tok
     exact Zgb hfs F.frames hf R1 off ((other e (Ne.symm hTe)).trans he) hc hd hsz hv fun h' R' N' => h h' R' N'
   · rw [hf] at hff; cases hff
     rw [if_pos (by simp)]; refine wpAny_pure (h s.heap R (Iaeeaaaaa off oe vs he hc hd hsz hv (Ieeeeaaaa T oT ts _ h1 hTe hoT hT (Iaa hdT h3 hf))))
theorem Zdk {e : Addr} {k : Exn} (R : c.R σ s) (N : Noted c σ s.heap e k.cls (c.lv < 2 ∧ k.ch = false)) (hX : X k σ) : cameBackBy c.M A c.env (EX c X) (.ref e) s := by
 refine Oaeeaaaaae N ?_; clear N; intro off oe vs he hc hd hsz hv T z_1; (refine Oeeeaaaaaa z_1 ?_; clear z_1; intro oT ts f h1 hTe hoT hT hdT h3 hff)
 delta cameBackBy
 refine wpAny_bind (wpAny_field he hd h1 ?_)
 rw [if_neg (show ¬ ((Value.ref T == Value.none) = true) from by simp)]
 delta setFlight
 refine wpAny_bind (wpAny_field he hd h1 ?_)
 rw [if_pos (show (Value.ref T != Value.none) = true from by simp)]
 refine wpAny_setField hT hdT (Array.getElem?_eq_some_iff.mp h3).1 ?_
 have other : ∀ b, b ≠ T → (s.heap.update T (Obj.mapFields (·.setIfInBounds 3 (c.env.frame.elim Value.none fun f => rawInt f)))).get? b = s.heap.get? b := fun b hb => Heap.get?_update_other _ _ (Ne.symm hb)
 have R1 : c.R σ { s with heap := s.heap.update T (Obj.mapFields (·.setIfInBounds 3 (c.env.frame.elim Value.none fun f => rawInt f))) } := R.frames (X := [T]) (fun a ha => by rcases List.mem_singleton.mp ha with rfl; exact hoT) (fun b o hb hbo => by
   have hbT : b ≠ T := by simpa using hb
   have e := (other b hbT).trans hbo; exact (Iae (fun U => e) o.slots e)) R.tok
 have hdT' := Obj.data_mapFields hdT (·.setIfInBounds 3 (c.env.frame.elim Value.none fun f => rawInt f))
 refine (Ieeeaaa σ k e rfl R1 (Iaeeaaaaa off oe vs ((other e (Ne.symm hTe)).trans he) hc hd hsz hv (.inr (Ieeeeaaaa T _ _ (rawInt f) h1 hTe hoT (Heap.get?_update_self _ hT (Obj.isFreed_of_fields hdT')) (Iaa hdT' ?_ (.inr (Iea f hff rfl)))))) hX)
 have hlt := (Array.getElem?_eq_some_iff.mp h3).1
 rw [hff]
 simp [hlt]
theorem Zga (F : Fit c n g A) (hlv : g.lv ≠ 1) {v : Value} (h : EX c X v s) : notedBy c.M A c.env (fun e s' => cameBackBy c.M A c.env (EX c X) e s') v s := by
 refine Oeeeaaa h ?_; clear h; intro σ k e e_1; obtain rfl := e_1; intro R Fl hX
 exact Zci F hlv R Fl fun h' R' N' => Zdk R' N' hX
end
section
variable {c : Cx} {A : Around} {n : Nat} {g : SE} {P : Par}
theorem Zpc (F : Fit c n g A) (hlv : g.lv ≠ 1) {test : Expr} {mo : AM DFlow} (ht : Sd c A id (isTrue test c.env (eval test c.env)) mt) (hb : Sd c A fl (execs body c.env) mb) (ho : Sd c A fl (execs orelse c.env) mo) :
   Sd c A fl (exec (.While test body orelse pos) c.env) (fun Q X σ => ∀ I : St → Prop, (∀ σ', mt (fun b σ1 => if b then mb (fun f σ2 => match f with
       | .next | .cont => I σ2
       | .brk => Q .next σ2
       | .ret v => Q (.ret v) σ2) X σ1 else mo Q X σ1) X σ' → I σ') → I σ) := by
 intro Q X σ s C R hm
 refine wpAny_While ?_
 refine hm (fun σ' => ∀ s', c.R σ' s' → codeAny c.M A (.whileLoop test body orelse c.env) (fun r s' => match r with | .ok f => OK c fl Q f s' | .error e => cameBackBy c.M A c.env (EX c X) e s') s') (fun σ' hstep s' R' => ?_) s R
 refine codeAny_of_tree ?_
 refine (?_ : wpAny _ A ((whileTurn test body orelse c.env).onRaise (fun x => do noteFrame x c.env; theTreesLotGoes x)) _ _ s')
 refine wpAny_noted ?_
 refine wpAny_mono (E := EX c X) ?_ (fun U U h => h) fun v s' h => Zga F hlv h
 delta whileTurn
 refine wpAny_bind (wpAny_mono (ht _ X σ' s' C R' hstep) (fun b s1 h1 => ?_) fun U U h => h)
 refine Oea h1 ?_; clear h1; intro σ1 R1 h1
 cases b with
 | true =>
   simp only [if_true]; refine wpAny_bind (wpAny_mono (hb _ X σ1 s1 C R1 h1) (fun f s2 h2 => ?_) fun U U h => h); refine Oea h2 ?_; clear h2; intro σ2 R2 h2; cases f with
   | next => exact wpAny_pure ⟨rfl, h2 s2 R2⟩
   | cont => exact wpAny_pure ⟨rfl, h2 s2 R2⟩
   | brk => exact wpAny_pure (Iea σ2 R2 h2)
   | ret v => exact wpAny_pure (Iea σ2 R2 h2)
 | false =>
   simp only [Bool.false_eq_true, if_false]; refine wpAny_bind (wpAny_mono (ho Q X σ1 s1 C R1 h1) (fun f s2 h2 => wpAny_pure h2) fun U U h => h)
theorem Zdj {e : Addr} {k : String} {v : Prop} {Q : Unit → Shared → Prop} (R : c.R σ s) (N : Noted c σ s.heap e k v)
   (h : ∀ h' oe vs T oT ts, c.R σ { s with heap := h' } → c.off σ e → h'.get? e = some oe → oe.cls = .type k → oe.data = .fields vs → 2 < vs.size → (v → vs[2]? = some .none) → vs[1]? = some (.ref T) → T ≠ e → c.off σ T → h'.get? T = some oT → oT.data = .fields ts → 3 < ts.size → Q () { s with heap := h' }) :
   wpAny c.M A (setFlight (.ref e) none) Q E s := by
 refine Oaeeaaaaae N ?_; clear N; intro off oe vs he hc hd hsz hv T z_1; (refine Oeeeaaaaaa z_1 ?_; clear z_1; intro oT ts f h1 hTe hoT hT hdT h3 hff)
 delta setFlight
 refine wpAny_bind (wpAny_field he hd h1 ?_)
 rw [if_pos (show (Value.ref T != Value.none) = true from by simp)]
 have hlt := (Array.getElem?_eq_some_iff.mp h3).1
 refine wpAny_setField hT hdT hlt ?_
 have other : ∀ b, b ≠ T → (s.heap.update T (Obj.mapFields (·.setIfInBounds 3 ((none : Option Addr).elim Value.none fun f => rawInt f)))).get? b = s.heap.get? b := fun b hb => Heap.get?_update_other _ _ (Ne.symm hb)
 have R1 : c.R σ { s with heap := s.heap.update T (Obj.mapFields (·.setIfInBounds 3 ((none : Option Addr).elim Value.none fun f => rawInt f))) } := R.frames (X := [T]) (fun a ha => by rcases List.mem_singleton.mp ha with rfl; exact hoT) (fun b o hb hbo => by
   have hbT : b ≠ T := by simpa using hb
   have e := (other b hbT).trans hbo; exact (Iae (fun U => e) o.slots e)) R.tok
 have hdT' := Obj.data_mapFields hdT (·.setIfInBounds 3 ((none : Option Addr).elim Value.none fun f => rawInt f))
 exact h _ oe vs T _ _ R1 off ((other e (Ne.symm hTe)).trans he) hc hd hsz hv h1 hTe hoT (Heap.get?_update_self _ hT (Obj.isFreed_of_fields hdT')) hdT' (by simpa using hlt)
theorem Zha {ms : List (Addr × Obj)} (R : c.R σ s) (h : ∀ p ∈ ms, c.off σ p.1 ∧ s.heap.get? p.1 = some p.2) : (c.with ms).R σ s ∧ Nd c ms :=
 ⟨R.hide fun p hp => ⟨(h p hp).1.1, (h p hp).1.2.1, (h p hp).2, (h p hp).1.2.2.2.2.1, fun x U hk => (h p hp).1.2.2.2.2.2.2 x _ hk (.inl rfl), (h p hp).1.2.2.2.2.2.1⟩, fun p hp => ⟨(h p hp).1.2.2.1, (h p hp).1.2.2.2.1, (h p hp).1.2.2.2.2.2.1, (h p hp).1.2.2.2.2.2.2⟩⟩
theorem Zcb {M : Model} {e : Addr} {oe oT : Obj} {ts : Array Value} {fr : Option Addr} {Q : Unit → Shared → Prop} (he : s.heap.get? e = some oe) (hd : oe.data = .fields vs) (h1 : vs[1]? = some (.ref T)) (hT : s.heap.get? T = some oT) (hdT : oT.data = .fields ts) (h3 : 3 < ts.size)
   (h : ∀ h', (∀ b o, b ≠ T → s.heap.get? b = some o → h'.get? b = some o) → h'.get? T = some (Obj.mapFields (·.setIfInBounds 3 (fr.elim Value.none fun f => rawInt f)) oT) → Q () { s with heap := h' }) : wpAny M A (setFlight (.ref e) fr) Q E s := by
 delta setFlight
 refine wpAny_bind (wpAny_field he hd h1 ?_)
 rw [if_pos (show (Value.ref T != Value.none) = true from by simp)]
 refine wpAny_setField hT hdT h3 (h _ (fun b o hb e => (Heap.get?_update_other _ _ (Ne.symm hb)).trans e) (Heap.get?_update_self _ hT (Obj.isFreed_of_fields (Obj.data_mapFields hdT _))))
theorem Zn0 {T : String} (h : T ∈ excs) : isSubtype (.type T) (.type "BaseException") = pure true ∧ isSubtype (.type ((Manifest.find? T).elim "type" fun x => x.metatype)) (.type "tuple") = pure false ∧ isSubtype (.type T) (.type T) = pure true := by
 simp only [excs, List.mem_cons, List.not_mem_nil, or_false] at h
 rcases h with rfl | rfl | rfl <;> refine ⟨?_, ?_, ?_⟩ <;> rw [isSubtype_type] <;> kernel_rfl
theorem Zt5 (B : Base c.prog c.w c.h₀ P) (F : Fit c n g A) (hlv : g.lv = 0) {hpos : Pos} (hx : isGlob g x = true) {mh : AM DFlow} (h1 : Sd c A fl (execs body c.env) mb)
   (h2 : ∀ c' A', c'.prog = c.prog → c'.w = c.w → c'.h₀ = c.h₀ → c'.env = c.env → Fit c' n ⟨g.sc, g.wr, 3⟩ A' → Sd c' A' fl (execs hb c.env) mh) :
   Sd c A fl (exec (.Try body [.ExceptHandler (some (.Name x px)) none hb hpos] [] [] pos) c.env) (fun Q X σ => mb Q (fun k σ' => glob x = some (.ty k.cls) ∧ k.cls ∈ excs ∧ hb ≠ [] ∧ mh Q noX σ') σ) := by
 intro Q X σ s C R hm
 have hl0 : c.lv = 0 := F.lv.trans hlv
 refine wpAny_Try_except ?_
 have C' : Calm c (fun k σ' => glob x = some (.ty k.cls) ∧ k.cls ∈ excs ∧ hb ≠ [] ∧ mh Q noX σ') := fun h => by rw [hl0] at h; rcases h with h | h <;> cases h
 refine wpAny_mono (h1 _ _ σ s C' R hm) (fun f s1 h => ?_) fun v s1 h => ?_
 · cases f with
   | next => exact wpAny_execs_nil h
   | _ => exact h
 · refine Oeeeaaaaaa h ?_; clear h; intro σ1 k e e_1; obtain rfl := e_1; intro R1 Fl hg hk hne hm1
   refine Zci F (by rw [hlv]; decide) R1 Fl fun h' R' N' => ?_; refine Zdj R' N' fun h2' oe vs T oT ts R2 off he hc hd hsz hv hv1 hTe hoT hT hdT hts => ?_; refine Oee (List.exists_cons_of_ne_nil hne) ?_; intro b₀ suite e_1; obtain rfl := e_1; refine Oaa (Zn0 hk) ?_; intro e1 e2 e3; refine wpAny_handleBy_builtin (X := k.cls) (T := k.cls) (b := true) e1 e2 e3 ?_
   (refine Oa (Zha (ms := [(e, oe), (T, oT)]) R2 fun p hp => by
     simp only [List.mem_cons, List.not_mem_nil, or_false] at hp; rcases hp with rfl | rfl
     · exact ⟨off, he⟩
     · exact ⟨hoT, hT⟩) ?_; intro R2' nd2)
   have F3 : ∀ ms, Fit { (c.with ms) with lv := 3 } n ⟨g.sc, g.wr, 3⟩ (A.mark (some (.ref e))) := fun ms => { F with
     lv := rfl, le := (by refine (?_ : 3 ≤ 3); decide), calm := (fun h => absurd h (by refine (?_ : ¬ 3 < 2); decide)), held := (fun h => nomatch h), top := fun U => F.top (by rw [hlv]; decide) }
   have hrd : rdN ⟨g.sc, g.wr, 3⟩ x (fun v σ' => v = .ty k.cls ∧ σ' = σ1) noX σ1 := by
     delta rdN; have nv : isVar ⟨g.sc, g.wr, 3⟩ x = false := by
       have : g.kind x = some .globalImplicit := beq_iff_eq.mp hx; refine (?_ : (match g.kind x with | some .local | some .cell | some .free => true | _ => false) = false); rw [this]
     rw [nv]; have hx' : isGlob ⟨g.sc, g.wr, 3⟩ x = true := hx; rw [hx', hg]; exact ⟨rfl, rfl⟩
   refine wpAny_mono (Zc4 (c := { (c.with [(e, oe), (T, oT)]) with lv := 3 }) B (F3 _) x px _ noX σ1 _ (fun U U U h => h) R2' hrd) (fun v s3 h3 => ?_) fun U U h => h.none.elim; refine Oeaa h3 ?_; clear h3; intro σ3 R3 hv3 e_1; obtain rfl := e_1; have he3 := (R3.hidk _ (.head _)).2.2; have hT3 := (R3.hidk _ (.tail _ (.head _))).2.2; refine ⟨Zs5 hv3, (Iea oe he3 hc), ?_⟩; rw [if_pos rfl]; refine Zcb he3 hd hv1 hT3 hdT hts fun h4 hk4 hT4 => ?_; refine Oa (Rel.step (ms := [(e, oe), (T, oT)]) (ms' := []) R3 nd2 (fun b o hb e => hk4 b o (fun q => hb (by rw [q]; simp)) e) (fun U hp => nomatch hp) R3.tok) ?_; intro R4 U; exact wpAny_mono (h2 { c with lv := 3 } (A.mark (some (.ref e))) rfl rfl rfl rfl (F3 []) Q noX _ _ (fun U U U h => h) R4 hm1) (fun f s5 h5 => h5) fun U U h => h.none.elim
theorem Zlc (F : Fit c n g A) (hlv : g.lv = 0) {fin : List Stmt} (hne : fin.isEmpty = false) {mf m2 : AM DFlow} (h1 : Sd c A fl (execs body c.env) mb) (h2 : Sd c A fl (execs fin c.env) mf)
   (h3 : ∀ c' A', c'.prog = c.prog → c'.w = c.w → c'.h₀ = c.h₀ → c'.env = c.env → Fit c' n ⟨g.sc, g.wr, 2⟩ A' → Sd c' A' fl (execs fin c.env) m2) :
   Sd c A fl (exec (.Try body [] [] fin pos) c.env) (fun Q X σ => mb
       (fun f σ' => mf (fun f2 σ'' => match f2 with | .next => Q f σ'' | _ => False) X σ')
       (fun k σ' => k.ch = false ∧ m2 (fun f2 σ'' => match f2 with | .next => X k σ'' | _ => False) (fun k2 σ'' => X ⟨k2.cls, true⟩ σ'') σ') σ) := by
 intro Q X σ s C R hm
 have hl0 : c.lv = 0 := F.lv.trans hlv
 refine Oee (List.exists_cons_of_ne_nil (l := fin) (by rintro rfl; exact Zai (Eq.symm hne))) ?_; intro f₀ fs e_1; obtain rfl := e_1
 have C' : ∀ Y, Calm c Y := fun Y h => by rw [hl0] at h; rcases h with h | h <;> cases h
 have plain : ∀ f s1, OK c fl (fun f σ' => mf (fun f2 σ'' => match f2 with | .next => Q f σ'' | _ => False) X σ') f s1 →
     wpAny c.M A (execs (f₀ :: fs) c.env) (fun g s' => match g with | .next => OK c fl Q f s' | g => OK c fl Q g s') (notedBy c.M A c.env (cameBackBy c.M A c.env (EX c X))) s1 := fun f s1 z => Oea z fun σ1 R1 hm1 =>
   wpAny_mono (h2 _ X σ1 s1 C R1 hm1) (fun f2 s2 z => Oea z fun σ2 R2 hm2 => by
     cases f2 with
     | next => exact Iea σ2 R2 hm2
     | brk => exact hm2.elim
     | cont => exact hm2.elim
     | ret v => exact hm2.elim) fun U U h => Zga F (by rw [hlv]; decide) h
 refine wpAny_Try_finally ?_
 refine wpAny_mono (h1 _ _ σ s (C' _) R hm) (fun f s1 h => ?_) fun v s1 h => ?_
 · cases f with
   | next => exact wpAny_execs_nil (plain .next s1 h)
   | brk => exact plain .brk s1 h
   | cont => exact plain .cont s1 h
   | ret v => exact plain (.ret v) s1 h
 · obtain ⟨σ1, k, e, rfl, R1, Fl, hch, hm1⟩ := h
   refine Zci F (by rw [hlv]; decide) R1 Fl fun h' R' N' => ⟨ref_ne_byPass e, ?_⟩; refine Zci F (by rw [hlv]; decide) R' N'.flies fun h2' R2 N2 => ?_; refine Zdj R2 N2 fun h3' oe vs T oT ts R3 off he hc hd hsz hv hv1 hTe hoT hT hdT hts => ?_; have hv2 : vs[2]? = some .none := hv ⟨by rw [hl0]; decide, hch⟩
   (refine Oa (Zha (ms := [(e, oe), (T, oT)]) R3 fun p hp => by
     simp only [List.mem_cons, List.not_mem_nil, or_false] at hp; rcases hp with rfl | rfl
     · exact ⟨off, he⟩
     · exact ⟨hoT, hT⟩) ?_; intro R3' nd3)
   let c2 : Cx := { (c.with [(e, oe), (T, oT)]) with lv := 2 }; have F2 : Fit c2 n ⟨g.sc, g.wr, 2⟩ (A.mark (some (.ref e))) := { F with
     lv := rfl, le := (by refine (?_ : 2 ≤ 3); decide), calm := (fun h => absurd h (by refine (?_ : ¬ 2 < 2); decide)), held := fun U => (Ieeeaaa e oe vs rfl (.head _) hd hv2), top := fun U => F.top (by rw [hlv]; decide) }
   refine Oea (F.top (by rw [hlv]; decide)) ?_; intro outer U hf; refine wpAny_mono (h3 c2 (A.mark (some (.ref e))) rfl rfl rfl rfl F2 _ _ σ1 _ (fun h => by rcases h with h | h <;> cases h) R3' hm1) (fun f2 s4 h4 => ?_) fun v s4 h4 => ?_
   · refine Oea h4 ?_; clear h4; intro σ4 R4 hm4
     have hm4' : f2 = .next ∧ X k σ4 := by
       cases f2 with
       | next => exact ⟨rfl, hm4⟩
       | brk => exact hm4.elim
       | cont => exact hm4.elim
       | ret v => exact hm4.elim
     refine Oa hm4' ?_; clear hm4'; intro e_1; obtain rfl := e_1; intro hm4; have he4 := (R4.hidk _ (.head _)); have hT4 := (R4.hidk _ (.tail _ (.head _))); refine (?_ : wpAny c.M A (PySem.passOn "try.finally" (.ref e) c.env) _ _ s4); delta PySem.passOn; refine wpAny_bind (wpAny_field he4.2.2 hd hv1 ?_); rw [if_neg (show ¬ ((Value.ref T == Value.none) = true) from by simp)]; refine wpAny_bind (Zcb he4.2.2 hd hv1 hT4.2.2 hdT hts fun h5 hk5 hT5 => wpAny_throw ?_); refine Oa (Rel.step (ms := [(e, oe), (T, oT)]) (ms' := []) R4 nd3 (fun b o hb e => hk5 b o (fun q => hb (by rw [q]; simp)) e) (fun U hp => nomatch hp) R4.tok) ?_; intro R5 U; have offs : ∀ a, c.off σ1 a → σ4.H a = none → c.off σ4 a := fun a ⟨a1, _, a3⟩ h => ⟨a1, h, a3⟩; refine (Ieeeaaa σ4 k e rfl R5 (Iaeeaaaaa (offs e off he4.2.1) oe vs (hk5 e oe (Ne.symm hTe) he4.2.2) hc hd hsz hv (.inr (Ieeeeaaaa T _ _ _ hv1 hTe (offs T hoT hT4.2.1) hT5 (Iaa (Obj.data_mapFields hdT _) (by simp [hts]; rfl) (.inr (Iea c.env.locals hf ?_)))))) hm4); rw [hf]; rfl
   · refine Oeeeaaa h4 ?_; clear h4; intro σ4 k2 e2 e_1; obtain rfl := e_1; intro R4 Fl4 hm4
     refine Zci (c := c2) F2 (by refine (?_ : (2 : Nat) ≠ 1); decide) R4 Fl4 fun h5 R5 N5 => ?_; have N5' : Noted c σ4 h5 e2 k2.cls (c.lv < 2 ∧ (⟨k2.cls, true⟩ : Exn).ch = false) := by
       refine Oaeeaaaaae N5 ?_; clear N5; intro off2 oe2 vs2 b1 b2 b3 b4 b5 T2 z_1; (refine Oeeeaaaaaa z_1 ?_; clear z_1; intro oT2 ts2 f2 d1 d2 d3 d4 d5 d6 d7); have offc : ∀ a, c2.off σ4 a → c.off σ4 a := fun a z => Oaaa z fun a1 a2 a3 a4 => ⟨a1, a2, fun q => a3 (by refine (?_ : a ∈ ([(e, oe), (T, oT)] ++ c.hid).map (·.1)); rw [List.map_append]; exact List.mem_append_right _ q), a4⟩; exact Iaeeaaaaa (offc e2 off2) oe2 vs2 b1 b2 b3 b4 (fun h => nomatch h.2) (Ieeeeaaaa T2 oT2 ts2 f2 d1 d2 (offc T2 d3) d4 (Iaa d5 d6 d7))
     exact Zdk (k := ⟨k2.cls, true⟩) (Rel.show_ (ms := [(e, oe), (T, oT)]) R5) N5' hm4
end
section
variable {c : Cx} {A : Around} {n : Nat} {g : SE} {P : Par}
theorem Zct {v : Value} {o : Option Int} (h : optInt (er v) = some o) : IsPart v o ∧ ∃ p : Option (Int × Tok), p.map (·.1) = o ∧ v = partValue p := by
 cases v with
 | none => cases h; exact Iaea (.none) none rfl rfl
 | int i t => cases h; exact Iaea (.int i t) (some (i, t)) rfl rfl
 | _ => exact Zab h
theorem Zkx {i : Int} (h : 0 ≤ i) : clipAt n i = min i.toNat n := by
 obtain ⟨k, rfl⟩ := Int.eq_ofNat_of_zero_le h
 delta clipAt
 rw [if_neg (Int.not_lt.mpr h)]
 rcases Nat.le_total k n with q | q
 · rw [Int.min_eq_left (Int.ofNat_le.mpr q), Int.max_eq_right h]; exact (Nat.min_eq_left q).symm
 · rw [Int.min_eq_right (Int.ofNat_le.mpr q), Int.max_eq_right (Int.natCast_nonneg _)]; exact (Nat.min_eq_right q).symm
theorem Zuw {α : Type} (xs : List α) (a b : Nat) : (xs.take (min b xs.length)).drop (min a xs.length) = (xs.take b).drop a := by
 rw [← List.take_eq_take_min]
 by_cases h : a ≤ xs.length
 · rw [Nat.min_eq_left h]
 · have h' := Nat.le_of_lt (Nat.lt_of_not_le h)
   rw [Nat.min_eq_right h', List.drop_eq_nil_of_le (List.length_take_le' ..), List.drop_eq_nil_of_le (Nat.le_trans (List.length_take_le' ..) h')]
theorem Zo8 {items : Array Value} {l h : Option Int} (hl : l.getD 0 ≥ 0) (hh : h.getD 0 ≥ 0) : (slicePick items l h none).toList.map er = slL (items.toList.map er) l h := by
 rw [slicePick_plain]
 delta slL
 have e1 : l.elim 0 (clipAt items.size) = min (l.getD 0).toNat items.size := by
   cases l with
   | none => exact (Nat.zero_min _).symm
   | some i => exact Zkx hl
 have e2 : h.elim items.size (clipAt items.size) = min (h.getD (items.toList.map er).length).toNat items.size := by
   cases h with
   | none => rw [List.length_map, Array.length_toList]; exact (Nat.min_self _).symm
   | some i => exact Zkx hh
 rw [e1, e2]
 refine (?_ : List.map er (List.take _ (List.drop _ _)) = _)
 rw [← List.drop_take, List.map_drop, List.map_take, show items.size = (items.toList.map er).length from by rw [List.length_map, Array.length_toList]]
 exact Zuw _ _ _
theorem Zez {t sl : Addr} {a b : Value} {Q : Value → Shared → Prop} (ht : IsTup s.heap t #[a, b]) (hs : s.heap.IsSliceOf sl .none .none (.int (-1) u))
   (h : Q (.ref s.heap.objs.size) { s with heap := s.heap.push { cls := .type "tuple", data := .seq #[b, a] } }) : wpAny c.M A (getItem (.ref t) (.ref sl)) Q E s := by
 refine Oeaa (id hs) ?_; intro os hos hcs hds
 have hTs : s.TypeIs (.ref sl) "slice" := (Iea os hos hcs)
 delta getItem
 try with_reducible refine wpAny_holding ?_
 first | refine wpAny_bind (wpAny_pure ?_) | skip
 refine wpAny_bind (wpAny_sequenceKey ht.typeIs (by decide) ?_)
 refine wpAny_bind (wpAny_callSpecial?_slot (name := Str.ofString "__getitem__") ht.typeIs slot_tuple_getitem
   (wpAny_call_entry slot_tuple_getitem ht.typeIs entry_tuple_getitem ?_ (args_tuple_getitem _ _)))
 refine (?_ : wpAny _ _ (Builtin.Tuple.tupleItemsOf (.ref t) >>= _) _ _ s)
 refine wpAny_bind (tupleItemsOf_ ht ?_)
 refine wpAny_bind (wpAny_typeOf hTs ?_)
 rw [if_pos (by decide)]
 refine wpAny_bind ?_
 delta Builtin.Slice.sliceApplied Builtin.Slice.sliceFields
 refine wpAny_bind (wpAny_bind (wpAny_field hos hds (x := .none) rfl (wpAny_bind (wpAny_field hos hds (x := .none) rfl (wpAny_bind (wpAny_field hos hds (x := .int (-1) u) rfl (wpAny_pure ?_)))))))
 refine wpAny_bind (slicePart_int ?_)
 refine (?_ : wpAny _ _ (if ((-1 : Int) == 0) = true then _ else _) _ _ s)
 rw [if_neg (by decide)]
 refine wpAny_bind (slicePart_none (wpAny_bind (slicePart_none (wpAny_bind (wpAny_pure ?_)))))
 refine (?_ : wpAny _ _ (match Builtin.Slice.sliceAdjust none none (-1) (2 : Int) with | (lo, hi) => pure (lo, (-1 : Int), Builtin.Slice.slicePlaces lo hi (-1))) _ _ s)
 have ea : Builtin.Slice.sliceAdjust none none (-1) (2 : Int) = (1, -1) := by decide +kernel
 rw [ea]
 have ep : Builtin.Slice.slicePlaces 1 (-1) (-1) = 2 := by decide +kernel
 dsimp only
 rw [ep]
 refine wpAny_pure ?_
 refine (?_ : wpAny _ _ (if ((1 : Int) == 0 && (-1 : Int) == 1 && (2 : Nat) == (2 : Nat)) = true then _ else _) _ _ s)
 rw [if_neg (by decide)]
 refine (?_ : wpAny _ _ (Builtin.Tuple.tupleExact #[b, a] >>= fun v => PySem.ret v) _ _ s)
 refine wpAny_bind ?_
 delta Builtin.Tuple.tupleExact
 exact wpAny_newObj_type (wpAny_pure (Iea _ rfl (wpAny_pure h)))
theorem Zsx {vs : List Value} (h : IntsAre vs ns) : vs.map er = ns.map .int := by
 induction h with
 | nil => rfl
 | cons n t _ ih => rw [List.map_cons, List.map_cons, ih]; rfl
theorem Ze8 {lo hi st : Option Expr} (o i : Value) : ∃ ops, subscripted (.Slice lo hi st sp) false o i = operate ops (getItem o i) := by cases st <;> exact ⟨_, rfl⟩
section
variable {value : Expr} {lo hi st : Option Expr} {sp : Pos} {l h t : Value} {Q : AV → St → Prop} {X : Exn → St → Prop} {σ : St} {s : Shared} {sl : Addr}
theorem Zf6 (hS : s.heap.IsSliceOf sl l h t) (R : c.R σ s) {st' : Option Int} (hL : s.heap.IsList a vs) (pl : IsPart l lo') (ph : IsPart h hi') (pt : IsPart t st') (h0 : st' ≠ some 0) (hsz : vs.size ≤ lim)
   {ys : List Value} (he : (slicePick vs lo' hi' st').toList = ys) (hy : ys.length ≤ lim) (hm : newA (.list (ys.map er)) Q X σ) : wpAny c.M A (subscriptTail value (.Slice lo hi st sp) (.ref a) (.ref sl)) (OK c er Q) (EX c X) s := by
 refine Oe (Ze8 (lo := lo) (hi := hi) (st := st) (sp := sp) (.ref a) (.ref sl)) ?_; intro ops hops
 refine tail_any hL.typeIs slot_list_getitem.lookup (wpAny_getItem_list_slice hL hS pl ph pt h0 ?_ (Nat.le_trans hsz Zbb)) hops
 subst he
 exact ⟨_, R.make (ao := .list ((slicePick vs lo' hi' st').toList.map er)) (Zae _) (fun b o e => Heap.get?_push_of_some _ e) (Heap.get?_push_size _ rfl) ⟨slicePick vs lo' hi' st', 0, rfl, rfl, by rw [List.length_map]; exact hy⟩ R.tok, hm _ (R.H_none (Zae _))⟩
theorem Zfd (hS : s.heap.IsSliceOf sl l h .none) (R : c.R σ s) (hL : s.heap.IsList a vs) (pl : IsPart l lo') (ph : IsPart h hi') (e : vs.toList.map er = xs) (hsz : vs.size ≤ lim)
   (h1 : lo'.getD 0 ≥ 0) (h3 : hi'.getD 0 ≥ 0) (hm : newA (.list (slL xs lo' hi')) Q X σ) : wpAny c.M A (subscriptTail value (.Slice lo hi st sp) (.ref a) (.ref sl)) (OK c er Q) (EX c X) s := by
 have e4 := Zo8 (items := vs) h1 h3
 rw [e] at e4
 rw [← e4] at hm
 exact Zf6 hS R hL pl ph .none nofun hsz rfl (by rw [Array.length_toList]; exact Nat.le_trans (slicePick_size_le _ _ _ _) hsz) hm
theorem Zmr (B : Base c.prog c.w c.h₀ P) (hS : s.heap.IsSliceOf sl l h t) (R : c.R σ s) (e2 : optInt (er l) = some lo') (e3 : optInt (er h) = some hi') (hm : slR P a lo' hi' (er t) Q X σ) :
   wpAny c.M A (subscriptTail value (.Slice lo hi st sp) (.ref a) (.ref sl)) (OK c er Q) (EX c X) s := by
 have pl := (Zct e2).1
 have ph := (Zct e3).1
 clear e2 e3
 cases t with
 | none =>
   obtain ⟨h1, _, h3, _, hm⟩ := hm; generalize hx : σ.H a = o at hm; cases o with
   | none =>
     obtain ⟨rfl, hm⟩ := hm; obtain ⟨vs, ⟨oo, ho, hr⟩, hI, hn⟩ := B.scr; have e := Zsx hI; refine Zfd hS R (vs := vs.toArray) ⟨oo, R.base _ _ ho, hr⟩ pl ph e ?_ h1 h3 hm; have := congrArg List.length e; rw [List.length_map, List.length_map] at this; rw [List.size_toArray, this]; exact hn
   | some o =>
     cases o with
     | list xs =>
       obtain ⟨vs, kk, ho, e, hl⟩ := R.list hx; exact Zfd hS R (Zaj ho) pl ph e (by rw [Zcg e]; exact hl) h1 h3 hm
     | _ => exact hm.elim
 | int tk tt =>
   obtain ⟨rfl, rfl, rfl, hm⟩ := hm; generalize hx : σ.H a = o at hm; cases o with
   | none => exact hm.elim
   | some o =>
     cases o with
     | list xs =>
       obtain ⟨vs, kk, ho, e, hl⟩ := R.list hx; have hsz : vs.size ≤ lim := by rw [Zcg e]; exact hl
       subst e; exact Zf6 hS R (Zaj ho) pl ph (.int (-1) tt) (by decide) hsz (by rw [krv_pick]) (by rw [List.length_reverse, Array.length_toList]; exact hsz) (by rw [List.map_reverse]; exact hm)
     | tup ts =>
       replace hm := Zri hm; obtain ⟨x, y, rfl, hm⟩ := hm; obtain ⟨vs, kk, ho, e, hl⟩ := R.tup hx; obtain ⟨b1, b2, rfl⟩ := Zml e rfl; refine Oe (Ze8 (lo := lo) (hi := hi) (st := st) (sp := sp) (.ref a) (.ref sl)) ?_; intro ops hops; refine tail_any (Zb6 ho).typeIs slot_tuple_getitem.lookup (Zez (Zb6 ho) (by cases pl; cases ph; exact hS) ?_) hops; have e' : [er b1, er b2] = [x, y] := e; cases e'; exact ⟨_, R.make (ao := .tup [er b2, er b1]) (Zae _) (fun b o e => Heap.get?_push_of_some _ e) (Heap.get?_push_size _ rfl) ⟨#[b2, b1], 0, rfl, rfl, by refine (?_ : 2 ≤ 4000); decide⟩ R.tok, hm _ (R.H_none (Zae _))⟩
     | _ => exact hm.elim
 | _ => exact hm.elim
theorem Zmq (hst : st = none → t = .none) (hS : s.heap.IsSliceOf sl l h t) (R : c.R σ s) (e2 : optInt (er l) = some lo') (e3 : optInt (er h) = some hi') (hm : vN (er t) (x.length ≤ lim ∧ Q (.str (Txt.slice x lo' hi')) σ)) :
   wpAny c.M A (subscriptTail value (.Slice lo hi st sp) (.str x u) (.ref sl)) (OK c er Q) (EX c X) s := by
 obtain ⟨_, p1, rfl, rfl⟩ := Zct e2
 obtain ⟨_, p2, rfl, rfl⟩ := Zct e3
 replace hm := Zf4 hm
 obtain ⟨rfl, hl, hm⟩ := hm
 refine Oe (Ze8 (lo := lo) (hi := hi) (st := st) (sp := sp) (.str x u) (.ref sl)) ?_; intro ops hops
 exact tail_any (typeIs_str _ _ _) PySem.F.slot_str_getitem.lookup (wpAny_with_toks (n := 1) R.tok (wpAny_getItem_str_slice (l := p1) (u := p2) (st := none) hS rfl (post_val_or_str ⟨Nat.le_trans (Txt.slice_le x _ _) (Nat.le_trans hl Zbb), fun t' k tk => ⟨σ, R.tk tk, hm⟩⟩))) hops
end
theorem Zkj (B : Base c.prog c.w c.h₀ P) {value : Expr} {lo hi st : Option Expr} {v l h t : Value} (hst : st = none → t = .none) {Q : AV → St → Prop} (R : c.R σ s) (hm : slD P (er v) (er l) (er h) (er t) Q X σ) :
   wpAny c.M A (subscriptTail value (.Slice lo hi st sp) v (.ref s.heap.objs.size)) (OK c er Q) (EX c X) { s with heap := s.heap.push { cls := .type "slice", data := .fields #[l, h, t] } } := by
 have R1 : c.R σ { s with heap := s.heap.push { cls := .type "slice", data := .fields #[l, h, t] } } := R.grow (fun b o e => Heap.get?_push_of_some _ e) R.tok
 have hS := Heap.IsSliceOf.new s.heap l h t
 replace hm := Zcu hm
 obtain ⟨lo', e2, hm⟩ := hm
 replace hm := Zcu hm
 obtain ⟨hi', e3, hm⟩ := hm
 cases v with
 | ref a => exact Zmr B hS R1 e2 e3 hm
 | str x u => exact Zmq hst hS R1 e2 e3 hm
 | _ => exact hm.elim
end
section
variable {c : Cx} {A : Around} {n : Nat} {g : SE} {P : Par}
theorem Zid {ks : List (String × Mid)} {id : Mid} (h : mthB ks nm = some (.blt id)) : ∃ k ∈ ks, Str.ofString k.1 = nm ∧ id = k.2 := by
 delta mthB at h
 cases hf : ks.find? fun k => Str.ofString k.1 == nm with
 | none => rw [hf] at h; exact Zab h
 | some k =>
   rw [hf] at h; cases h; exact Ieaa k (List.mem_of_find?_eq_some hf) (beq_iff_eq.mp (List.find?_some (p := fun (k : String × Mid) => Str.ofString k.1 == nm) hf)) rfl
theorem Zkq (B : Base c.prog c.w c.h₀ P) {v : Value} {id : Mid} (R : c.R σ s) (h : mres σ.H (er v) nm = some (.blt id)) :
   ∃ T, PlainAttrs T ∧ Slot T nm id.id ∧ typeOf (.builtin id.id) = pure (.type "method_descriptor") ∧ s.TypeIs v T ∧ ∀ a, v = .ref a → ∃ ob, s.heap.get? a = some ob ∧ ob.dict = none := by
 delta mres at h
 split at h
 · rename_i x ex
   refine Oe (Zev ex) ?_; intro t e_1; obtain rfl := e_1; refine Oeaa (Zid h) ?_; intro k hk e_1; obtain rfl := e_1; intro e_2; obtain rfl := e_2; have hr : ∀ a, Value.str x t = .ref a → ∃ ob, s.heap.get? a = some ob ∧ ob.dict = none := fun a q => by cases q
   simp only [strMs, List.mem_cons, List.not_mem_nil, or_false] at hk; rcases hk with rfl | rfl | rfl | rfl | rfl | rfl
   · exact Ieaaaa ("str") PySem.F.plainAttrs_str PySem.F.slot_str_startswith PySem.F.type_str_startswith (typeIs_str _ _ _) hr
   · exact Ieaaaa ("str") PySem.F.plainAttrs_str PySem.F.slot_str_split PySem.F.type_str_split (typeIs_str _ _ _) hr
   · exact Ieaaaa ("str") PySem.F.plainAttrs_str PySem.F.slot_str_join PySem.F.type_str_join (typeIs_str _ _ _) hr
   · exact Ieaaaa ("str") PySem.F.plainAttrs_str PySem.F.slot_str_count PySem.F.type_str_count (typeIs_str _ _ _) hr
   · exact Ieaaaa ("str") PySem.F.plainAttrs_str PySem.F.slot_str_rfind PySem.F.type_str_rfind (typeIs_str _ _ _) hr
   · exact Ieaaaa ("str") PySem.F.plainAttrs_str PySem.F.slot_str_replace PySem.F.type_str_replace (typeIs_str _ _ _) hr
 · rename_i a ea
   cases Zn2 ea
   split at h
   · split at h
     · split at h
       · exact Zab h
       · rename_i C d hC _ es ep hd hn
         cases hm : meth C nm with
         | none => rw [hm] at h; exact Zab h
         | some f => rw [hm] at h; cases h
     · exact Zab h
   · rename_i _ o _ ho
     refine Oaea (R.objs _ _ ho) ?_; intro U ob hob hr
     · refine Oeaa (Zid h) ?_; intro k hk e_1; obtain rfl := e_1; intro e_2; obtain rfl := e_2
       cases o with
       | list xs =>
         refine Oeea hr ?_; clear hr; intro vs m e_1; obtain rfl := e_1; intro U; have hT : s.TypeIs (.ref a) "list" := (Iea _ hob rfl); have hn : ∀ b, Value.ref a = .ref b → ∃ ob, s.heap.get? b = some ob ∧ ob.dict = none := fun b q => by cases q; exact Iea _ hob rfl
         simp only [kindOfObj, List.mem_cons, List.not_mem_nil, or_false] at hk; rcases hk with rfl | rfl | rfl | rfl | rfl
         · exact Ieaaaa ("list") PySem.F.plainAttrs_list slot_list_append PySem.F.type_list_append hT hn
         · exact Ieaaaa ("list") PySem.F.plainAttrs_list PySem.F.slot_list_pop PySem.F.type_list_pop hT hn
         · exact Ieaaaa ("list") PySem.F.plainAttrs_list PySem.F.slot_list_clear PySem.F.type_list_clear hT hn
         · exact Ieaaaa ("list") PySem.F.plainAttrs_list PySem.F.slot_list_remove PySem.F.type_list_remove hT hn
         · exact Ieaaaa ("list") PySem.F.plainAttrs_list PySem.F.slot_list_extend PySem.F.type_list_extend hT hn
       | dict es ep =>
         refine Oeea hr ?_; clear hr; intro ds kvs z_1 U; (refine Oaa z_1 ?_; clear z_1; intro e1 e2 U); have hT : s.TypeIs (.ref a) "dict" := (Iea _ hob e1); have hn : ∀ b, Value.ref a = .ref b → ∃ ob, s.heap.get? b = some ob ∧ ob.dict = none := fun b q => by cases q; exact Iea _ hob e2
         simp only [kindOfObj, List.mem_cons, List.not_mem_nil, or_false] at hk; rcases hk with rfl | rfl
         · exact Ieaaaa ("dict") PySem.F.plainAttrs_dict PySem.F.slot_dict_get PySem.F.type_dict_get hT hn
         · exact Ieaaaa ("dict") PySem.F.plainAttrs_dict PySem.F.slot_dict_values PySem.F.type_dict_values hT hn
       | set S m it =>
         refine Oa hr ?_; clear hr; intro z_1 U; (refine Oa z_1 ?_; clear z_1; intro z_1 U; obtain ⟨e1, e2, _⟩ := z_1); have hT : s.TypeIs (.ref a) "set" := (Iea _ hob e1); have hn : ∀ b, Value.ref a = .ref b → ∃ ob, s.heap.get? b = some ob ∧ ob.dict = none := fun b q => by cases q; exact Iea _ hob e2
         simp only [kindOfObj, List.mem_cons, List.not_mem_nil, or_false] at hk; rcases hk with rfl
         exact Ieaaaa ("set") PySem.F.plainAttrs_set PySem.F.slot_set_add PySem.F.type_set_add hT hn
       | _ => cases hk
   · exact Zab h
 · exact Zab h
theorem Zko {ks : List (String × Mid)} {f : Addr} (h : mthB ks nm = some (.own f)) : False := by
 delta mthB at h
 cases hf : ks.find? fun k => Str.ofString k.1 == nm with
 | none => rw [hf] at h; exact Zab h
 | some k => rw [hf] at h; cases h
theorem Zkp {v : Value} {f : Addr} (h : mres H (er v) nm = some (.own f)) : ∃ a C d es ep, v = .ref a ∧ H a = some (.inst C d) ∧ H d = some (.dict es ep) ∧ lookA es nm = none ∧ meth C nm = some f := by
 delta mres at h
 split at h
 · exact (Zko h).elim
 · rename_i a ea
   cases Zn2 ea
   split at h
   · rename_i C d hC
     split at h
     · rename_i es ep hd
       split at h
       · exact Zab h
       · rename_i hn
         cases hm : meth C nm with
         | none => rw [hm] at h; exact Zab h
         | some f' =>
           rw [hm] at h; cases h; exact Ieeeeeaaa a C d es ep rfl hC hd (Ia (by simpa using hn) hm)
     · exact Zab h
   · exact (Zko h).elim
   · exact Zab h
 · exact Zab h
end
section
variable {c : Cx} {A : Around} {n : Nat} {g : SE} {P : Par}
theorem Rel.listTurn {ws : Array Value} {k : Nat} {tk : Nat} (R : c.R σ s) (ha : σ.H a = some (.list xs)) (hs : Heap.SameBut a s.heap h') (hg : h'.get? a = some { cls := .type "list", data := .seq ws k }) (hl : ws.size ≤ lim) (tp : 0 < tk) :
   c.R ⟨σ.loc, upd σ.H a (.list (ws.toList.map er))⟩ { s with heap := h', toks := tk } :=
 R.turn ha (fun b o ne e => hs.extBut b o ne e) hg (Ieeaa ws k rfl rfl (by rw [List.length_map, Array.length_toList]; exact hl)) tp
theorem Za4 (R : c.R σ s) (ha : σ.H a = some (.list xs)) : ∃ vs k, s.heap.get? a = some { cls := .type "list", data := .seq vs k } ∧ vs.toList.map er = xs ∧ vs.size ≤ lim := by
 obtain ⟨_, o, ho, vs, k, rfl, e, hl⟩ := R.objs _ _ ha
 exact Ieeaa vs k ho e (by rw [← e, List.length_map, Array.length_toList] at hl; exact hl)
theorem Zpd {t : Tok} {Q : AV → St → Prop} (R : c.R σ s) (hy1 : y.length = 1) (hx : x.length < lim) (hsp : (Txt.split x y).length ≤ lim) (hm : newA (.list ((Txt.split x y).map .str)) Q X σ) : wpAny c.M A (call (.builtin "str.split") [.str x t, .str y u]) (OK c er Q) (EX c X) s := by
 have hy : (y.length == 0) = false := by rw [hy1]; rfl
 have ll := Zbb
 have fin : ∀ (l : List (Str × Tok)) (tk : Nat), l.map (·.1) = Txt.split x y → 0 < tk → OK c er Q (.ref s.heap.objs.size) { s with heap := s.heap.push { cls := .type "list", data := .seq (strValues l).toArray }, toks := tk } := fun l tk hl tp => by
   have e : (strValues l).map er = (Txt.split x y).map .str := by rw [← hl]; delta strValues; rw [List.map_map, List.map_map]; rfl
   refine (Iea _ (R.make (ao := .list ((Txt.split x y).map .str)) (Zae _) (fun b o e => Heap.get?_push_of_some _ e) (Heap.get?_push_size _ rfl) (Ieeaa ((strValues l).toArray) 0 rfl (by rw [← e]) ?_) tp) (hm _ (R.H_none (Zae _)))); rw [List.length_map]; exact hsp
 refine wpAny_with_toks (n := 1) R.tok ?_
 cases h1 : (decide (x.length < y.length) || decide (Builtin.Str.strKind x < Builtin.Str.strKind y))
 · cases hf : (Builtin.Str.occurrences x y 0 x.length (x.length + 1)).isEmpty
   · have eparts : Txt.split x y = Builtin.Str.partsBetween x (Builtin.Str.occurrences x y 0 x.length (x.length + 1)) y.length := (if_neg (ne_true_of_eq_false h1)).trans (if_neg (ne_true_of_eq_false hf))
     refine call_meets PySem.F.slot_str_split (typeIs_str _ _ _) PySem.F.entry_str_split (PySem.F.args_str_split_2 _ _) (meets_str_split_sep x y t u h1 hy hf (by exact q43 hx ll) (by rw [← eparts]; exact Nat.le_trans hsp ll)) ?_; refine (?_ : wants _ _ _ { s with toks := _, heap := s.heap.push { cls := .type "list", data := .seq (strsFrom s.toks (Builtin.Str.partsBetween x (Builtin.Str.occurrences x y 0 x.length (x.length + 1)) y.length)).toArray } }); rw [strsFrom_eq]; exact fun tk => fin (numbered s.toks _) _ ((numbered_texts _ _).trans eparts.symm) tk
   · exact call_meets PySem.F.slot_str_split (typeIs_str _ _ _) PySem.F.entry_str_split (PySem.F.args_str_split_2 _ _) (meets_str_split_not_found x y t u h1 hy hf)
       (fun tk => fin [(x, t)] _ ((if_neg (ne_true_of_eq_false h1)).trans (if_pos hf)).symm tk)
 · exact call_meets PySem.F.slot_str_split (typeIs_str _ _ _) PySem.F.entry_str_split (PySem.F.args_str_split_2 _ _) (meets_str_split_cannot_occur x y t u h1)
     (fun tk => fin [(x, t)] _ (if_pos h1).symm tk)
theorem Ze9 : ∀ {vs : List Value} {ys : List Str}, vs.map er = ys.map .str → ∃ l : List (Str × Tok), strValues l = vs ∧ l.map (·.1) = ys
 | [], [], _ => (Iea [] rfl rfl)
 | v :: vs, y :: ys, h => by
   rw [List.map_cons, List.map_cons, List.cons.injEq] at h; refine Oe (Zev h.1) ?_; intro t e_1; obtain rfl := e_1; refine Oea (Ze9 h.2) ?_; intro l h1 h2; exact Iea ((y, t) :: l) (by rw [← h1]; rfl) (by rw [← h2]; rfl)
theorem Zim (k : Nat) : ∀ (ys : List Str) (a : Nat), ys.foldl (fun b y => b + y.length + k) a = a + (ys.map (·.length)).sum + ys.length * k
 | [], a => by simp
 | y :: r, a => by
   rw [List.foldl_cons, Zim k r, List.map_cons, List.sum_cons, List.length_cons, Nat.succ_mul]
   (first | lia | omega)
theorem Zsw (h : x.length ≤ 16) (hs : (ys.map (·.length)).sum + ys.length ≤ lim) : JoinOk x ys = true := by
 delta JoinOk Builtin.Str.tooLong
 rw [Bool.not_eq_true', decide_eq_false_iff_not]
 have e : ys.toArray.foldl (fun b y => b + y.length + x.length) 0 = ys.foldl (fun b y => b + y.length + x.length) 0 := by simp
 have h1 : ys.length * x.length ≤ ys.length * 16 := Nat.mul_le_mul_left _ h
 have h2 := slim
 have h3 : lim = 4000 := rfl
 rw [e, Zim]
 (first | lia | omega)
theorem Zp2 (vs : List Value) : ∀ {ys : List Str}, vs.map er = ys.map .str → x ∈ ys →
   ∃ j, j < vs.length ∧ (∀ v, vs[j]? = some v → er v = .str x) ∧ (∀ m v, m < j → vs[m]? = some v → er v ≠ .str x) ∧ (vs.eraseIdx j).map er = (ys.erase x).map .str := by
 induction vs with
 | nil =>
   intro ys h hx; cases ys with
   | nil => cases hx
   | cons _ _ => cases h
 | cons v vs ih =>
   intro ys h hx; cases ys with
   | nil => cases h
   | cons y ys =>
     have h1 := (List.cons.inj h).1; have h2 := (List.cons.inj h).2; by_cases e : y = x
     · subst e
       refine ⟨0, Nat.succ_pos _, fun u hu => by cases hu; exact h1, fun m u hm => absurd hm (Nat.not_lt_zero _), ?_⟩; rw [List.erase_cons_head]; exact h2
     · have hx' : x ∈ ys := (List.mem_cons.mp hx).resolve_left fun q => e q.symm
       obtain ⟨j, k1, k2, k3, k4⟩ := ih h2 hx'; refine ⟨j + 1, Nat.succ_lt_succ k1, fun u hu => k2 u hu, fun m u hm hu => ?_, ?_⟩
       · cases m with
         | zero => cases hu; intro q; exact e (by have w := h1.symm.trans q; injection w)
         | succ m => exact k3 m u (Nat.lt_of_succ_lt_succ hm) hu
       · rw [List.erase_cons_tail (by simpa using e)]
         exact congr (congrArg List.cons h1) k4
noncomputable def isX (x : Str) (v : Value) : Bool := match v with
 | .str z _ => z == x
 | _ => false
theorem Zno {t : Tok} {vs : List Value} (h : vs.map er = ys.map .str) : ∀ y ∈ vs, MeetsSeq.EqGives y (.str x t) (isX x y) := fun y hy => by
 have : er y ∈ ys.map .str := h ▸ List.mem_map_of_mem hy
 refine Oea (List.mem_map.mp this) ?_; intro z U hz
 refine Oe (Zev hz.symm) ?_; intro u e_1; obtain rfl := e_1
 exact eqGives_str z x u t
theorem Zmv (H : Held c A) (hr : c.lv < 2) {t : Tok} {Q : AV → St → Prop} (C : Calm c X) (R : c.R σ s) (h : σ.H a = some (.list xs)) (hys : strsOf xs = some ys)
   (hm : if ys.contains x then Q .none ⟨σ.loc, upd σ.H a (.list ((ys.erase x).map .str))⟩ else X ⟨"ValueError", false⟩ σ) : wpAny c.M A (call (.builtin "list.remove") [.ref a, .str x t]) (OK c er Q) (EX c X) s := by
 have ll := Zbb
 refine Oeeaa (Za4 R h) ?_; intro vs k ho e hl
 rw [Zbe hys] at e
 have hT : s.TypeIs (.ref a) "list" := (Iea _ ho rfl)
 have hg : ∀ y, y ∈ vs → MeetsSeq.EqGives y (.str x t) (isX x y) := fun y hy => Zno e y (Array.mem_toList_iff.mpr hy)
 split at hm
 · rename_i hc
   refine Oeaaa (Zp2 _ e (List.contains_iff_mem.mp hc)) ?_; intro j h1 h2 h3 h4; have h1' : j < vs.size := by rw [← Array.length_toList]; exact h1
   have hit : isX x vs[j] = true := by
     have := h2 vs[j] (by rw [Array.getElem?_toList]; simp [h1']); refine Oe (Zev this) ?_; intro u hu; rw [hu]; simp [isX]
   have hno : ∀ m (hm : m < vs.size), m < j → isX x vs[m] = false := fun m hm hmj => by
     have := h3 m vs[m] hmj (by rw [Array.getElem?_toList]; simp [hm]); cases q : vs[m] <;> first | rfl | skip
     rename_i z u
     rw [q] at this; simp only [isX, beq_eq_false_iff_ne]; intro hz; subst hz; exact this rfl
   refine call_meets PySem.F.slot_list_remove hT PySem.F.entry_list_remove (PySem.F.args_list_remove_2 _ _) (MeetsSeq.list_remove a vs k (.str x t) (isX x) hg j h1' hit hno (by exact q58 ll hl)) ⟨ho, ?_⟩; have hg2 : (s.heap.update a (Obj.mapSeq fun xs => xs.eraseIdxIfInBounds j)).get? a = some (Obj.mapSeq (fun xs => xs.eraseIdxIfInBounds j) { cls := .type "list", data := .seq vs k }) := Heap.get?_update_self _ ho rfl; refine (Iea _ (R.turn (ao' := .list ((ys.erase x).map .str)) h (fun b o ne e => (Heap.get?_update_other _ _ (Ne.symm ne)).trans e) hg2 (Ieeaa (vs.eraseIdxIfInBounds j) _ rfl (by rw [Array.toList_eraseIdxIfInBounds]; exact h4) ?_) R.tok) hm); rw [← h4, List.length_map]; exact Nat.le_trans (List.length_eraseIdx_le ..) (by rw [Array.length_toList]; exact hl)
 · rename_i hc
   by_cases h0 : c.lv = 0
   · have hno : ∀ m (hm : m < vs.size), isX x vs[m] = false := fun m hm => by
       have hmem : vs[m] ∈ vs.toList := Array.mem_toList_iff.mpr (Array.getElem_mem hm); have : er vs[m] ∈ ys.map .str := e ▸ List.mem_map_of_mem hmem; refine Oea (List.mem_map.mp this) ?_; intro z hz1 hz; refine Oe (Zev hz.symm) ?_; intro u hu; rw [hu]; simp only [isX, beq_eq_false_iff_ne]; intro q; subst q; exact hc (List.contains_iff_mem.mpr hz1)
     refine wpAny_with_toks (n := 1) R.tok (call_meets PySem.F.slot_list_remove hT PySem.F.entry_list_remove (PySem.F.args_list_remove_2 _ _) (MeetsSeq.list_remove_none a vs k (.str x t) (isX x) hg hno) ⟨ho, H.calm h0, fun h' tk e hn tp => ?_⟩); refine Oa (Zfl R tp hn (c.lv < 2 ∧ false = false)) ?_; intro R1 F1; exact Ieeeaaa σ ⟨"ValueError", false⟩ e rfl R1 F1 hm
   · exact absurd hm (C (.inl (by exact Nat.le_antisymm (Nat.le_of_lt_succ hr) (Nat.pos_of_ne_zero h0))) _ _)
theorem Zol {vals : List Value} {f : Prop} (h : a0 (vals.map er) f) : vals = [] ∧ f := by
 cases vals with
 | nil => exact ⟨rfl, h⟩
 | cons _ _ => exact h.elim
theorem Zb0 {vals : List Value} {f : AV → Prop} (h : a1 (vals.map er) f) : ∃ u, vals = [u] ∧ f (er u) := by
 cases vals with
 | nil => exact h.elim
 | cons u r =>
   cases r with
   | nil => exact Iea u rfl h
   | cons _ _ => exact h.elim
section
variable {Q : AV → St → Prop} {X : Exn → St → Prop} {σ : St} {s : Shared}
theorem Zpq {u : Value} (R : c.R σ s) (h : σ.H a = some (.list xs)) (hl0 : xs.length < lim) (hm : Q .none ⟨σ.loc, upd σ.H a (.list (xs ++ [er u]))⟩) : wpAny c.M A (call (.builtin "list.append") [.ref a, u]) (OK c er Q) (EX c X) s := by
 have ll := Zbb
 refine Oeeaa (Za4 R h) ?_; intro vs k ho e hl
 refine wpAny_list_append_plain ⟨k, ho⟩ (fun h' ⟨k', hg⟩ hs => ?_) (by exact q58 ll hl)
 have hlx : xs.length = vs.size := by rw [← e, List.length_map, Array.length_toList]
 have R1 := R.listTurn h hs hg (by rw [Array.size_push]; exact qe hlx.symm hl0) R.tok
 rw [show (vs.push u).toList.map er = xs ++ [er u] by rw [Array.toList_push, List.map_append, e]; rfl] at R1
 exact Iea _ R1 hm
theorem Zvs {x : AV} (R : c.R σ s) (h : σ.H a = some (.list xs)) (hx : xs.getLast? = some x) (hm : Q x ⟨σ.loc, upd σ.H a (.list xs.dropLast)⟩) : wpAny c.M A (call (.builtin "list.pop") [.ref a]) (OK c er Q) (EX c X) s := by
 have ll := Zbb
 refine Oeeaa (Za4 R h) ?_; intro vs k ho e hl
 have hne : vs.size ≠ 0 := fun q => by
   have : vs = #[] := Array.eq_empty_of_size_eq_zero q; subst this; rw [← e] at hx; exact Zab hx
 have hy : vs[vs.size - 1]? = some vs[vs.size - 1] := by simp
 refine Copied.pop_at ho hy (fun h' hs hg => ?_) (by exact q58 ll hl)
 have R1 := R.listTurn h hs hg (by rw [Array.size_pop]; exact Nat.le_trans (Nat.sub_le _ _) hl) R.tok
 have e1 : vs.pop.toList.map er = xs.dropLast := by rw [← e, Array.toList_pop, List.map_dropLast]
 rw [e1] at R1
 have e2 : er vs[vs.size - 1] = x := by
   rw [← e, List.getLast?_eq_getElem?, List.getElem?_map, List.length_map, Array.length_toList, Array.getElem?_toList, hy] at hx; exact Option.some.inj hx
 exact Iea _ R1 (by rw [e2]; exact hm)
theorem Zsr (R : c.R σ s) (h : σ.H a = some (.list xs)) (hm : Q .none ⟨σ.loc, upd σ.H a (.list [])⟩) : wpAny c.M A (call (.builtin "list.clear") [.ref a]) (OK c er Q) (EX c X) s := by
 have ll := Zbb
 refine Oeeaa (Za4 R h) ?_; intro vs k ho e hl
 refine call_meets PySem.F.slot_list_clear (Iea _ ho rfl) PySem.F.entry_list_clear (PySem.F.args_list_clear_1 _) (PySem.AutoSeq1.list_clear_list_0 a vs k (by exact q58 ll hl)) ⟨ho, ?_⟩
 have hg : (s.heap.update a (Obj.mapSeq fun U => #[])).get? a = some (Obj.mapSeq (fun U => #[]) { cls := .type "list", data := .seq vs k }) := Heap.get?_update_self _ ho rfl
 exact Iea _ (R.turn (ao' := .list []) h (fun b o ne e => (Heap.get?_update_other _ _ (Ne.symm ne)).trans e) hg (Ieeaa (#[]) _ rfl rfl (Nat.zero_le _)) R.tok) hm
theorem Zpp {ys : List AV} (R : c.R σ s) (h1 : σ.H a = some (.list xs)) (h2 : σ.H b = some (.list ys)) (hl0 : xs.length + ys.length < lim) (hm : Q .none ⟨σ.loc, upd σ.H a (.list (xs ++ ys))⟩) : wpAny c.M A (call (.builtin "list.extend") [.ref a, .ref b]) (OK c er Q) (EX c X) s := by
 have ll := Zbb
 refine Oeeaa (Za4 R h1) ?_; intro vs k ho e hl
 refine Oeeaa (Za4 R h2) ?_; intro us k2 ho2 e2 hl2
 have l1 : xs.length = vs.size := by rw [← e, List.length_map, Array.length_toList]
 have l2 : ys.length = us.size := by rw [← e2, List.length_map, Array.length_toList]
 have hlt : ¬ (!vs.isEmpty && Builtin.List.listTooLong (vs.size + us.size)) = true := by
   have : Builtin.List.listTooLong (vs.size + us.size) = false := by
     delta Builtin.List.listTooLong; rw [decide_eq_false_iff_not]; have := slim; have : lim = 4000 := rfl
     (first | lia | omega)
   rw [this, Bool.and_false]; decide
 refine call_meets PySem.F.slot_list_extend (Iea _ ho rfl) PySem.F.entry_list_extend (PySem.F.args_list_extend_2 _ _) (PySem.AutoSeq1.list_extend_list_list_0 a vs k b us k2 hlt (by exact q58 ll hl) (by exact l1 ▸ l2 ▸ Nat.le_succ_of_le (Nat.le_trans (Nat.le_of_lt hl0) ll))) ⟨ho, ho2, ?_⟩
 have hg : (s.heap.update a (Obj.mapSeq fun x => x ++ us)).get? a = some (Obj.mapSeq (fun x => x ++ us) { cls := .type "list", data := .seq vs k }) := Heap.get?_update_self _ ho rfl
 exact Iea _ (R.turn (ao' := .list (xs ++ ys)) h1 (fun b o ne e => (Heap.get?_update_other _ _ (Ne.symm ne)).trans e) hg (Ieeaa (vs ++ us) _ rfl (by rw [Array.toList_append, List.map_append, e, e2]) (by rw [List.length_append]; exact Nat.le_of_lt hl0)) R.tok) hm
theorem Zvt (B : Base c.prog c.w c.h₀ P) {t : Tok} (R : c.R σ s) (h : σ.H a = some (.dict es ep)) (hm : Q ((lookA es x).getD .none) σ) : wpAny c.M A (call (.builtin "dict.get") [.ref a, .str x t]) (OK c er Q) (EX c X) s := by
 refine Oeaa (R.dict2 h) ?_; intro kvs hd e hl
 refine call_meetsIn PySem.F.slot_dict_get hd.mapOf.typeIs PySem.F.entry_dict_get (PySem.F.args_dict_get_2 _ _) (meets_dict_get (PySem.strKind c.prog c.w) a (strKind_is c.prog c.w x t) (notBlt R h B.sys)) (Iea _ hd.mapOf ?_)
 refine (Iea σ (R.tk (Nat.succ_pos _)) ?_)
 rw [← e, Zde] at hm
 cases hv : valueAt kvs x with
 | none => rw [hv] at hm; exact hm
 | some w => rw [hv] at hm; exact hm
theorem Zpo (B : Base c.prog c.w c.h₀ P) (R : c.R σ s) (h : σ.H a = some (.dict es ep)) (hm : newA (.vals a) Q X σ) : wpAny c.M A (call (.builtin "dict.values") [.ref a]) (OK c er Q) (EX c X) s := by
 refine Oeaa (R.dict2 h) ?_; intro kvs hd e hl
 refine call_meetsIn PySem.F.slot_dict_values hd.mapOf.typeIs PySem.F.entry_dict_values (PySem.F.args_dict_values_1 _) (meets_dict_values (PySem.strKind c.prog c.w) a (notBlt R h B.sys)) ⟨⟨_, hd⟩, ?_⟩
 exact Iea _ (R.make (ao := .vals a) (Zae _) (fun b o e => Heap.get?_push_of_some _ e) (Heap.get?_push_size _ rfl) ⟨rfl, rfl⟩ R.tok) (hm _ (R.H_none (Zae _)))
theorem Zvu {t : Tok} {S : Str → Bool} {m : Nat} {it : Option Data} (R : c.R σ s) (h : σ.H a = some (.set S m it)) (hm1 : m < lim) (hm : Q .none ⟨σ.loc, upd σ.H a (.set (fun k => S k || decide (k = x)) (if S x then m else m + 1) none)⟩) : wpAny c.M A (call (.builtin "set.add") [.ref a, .str x t]) (OK c er Q) (EX c X) s := by
 obtain ⟨_, o, ho, hso, hb, _⟩ := R.objs _ _ h
 have hm2 : m + 1 < scanBound := Nat.lt_of_le_of_lt hm1 (by decide)
 refine call_set_add (strKind_is c.prog c.w x t) rfl (hso.setOf ho hb) hm2 fun h' hs hS => ?_
 refine Oea hS.objOf ?_; intro o' ho' hso'
 exact Iea _ (R.turn (ao' := .set (fun k => S k || decide (k = x)) (if S x then m else m + 1) none) h (fun b o ne e => hs.extBut b o ne e) ho' ⟨hso', by split <;> (first | lia | omega), fun q e => by exact Zab e⟩ (Nat.succ_pos _)) hm
theorem Zuk {t : Tok} (R : c.R σ s) (h : σ.H a = some (.list xs)) (hys : strsOf xs = some ys) (h16 : x.length ≤ 16) (hsum : (ys.map (·.length)).sum + ys.length ≤ lim) (hm : Q (.str (Txt.join x ys)) σ) : wpAny c.M A (call (.builtin "str.join") [.str x t, .ref a]) (OK c er Q) (EX c X) s := by
 refine Oeeaa (Za4 R h) ?_; intro vs k ho e hl
 rw [Zbe hys] at e
 refine Oea (Ze9 e) ?_; intro l hl1 hl2
 refine wpAny_with_toks (n := 1) R.tok (SC.join (l := l) (texts := ys) (Ieaae _ ho rfl k (by rw [hl1])) hl2 (Zsw h16 hsum) fun t' k' tk => (Iea σ (R.tk tk) hm))
end
theorem Zuc (B : Base c.prog c.w c.h₀ P) (H : Held c A) (id : Mid) (hr : id = .remove → c.lv < 2) (v : Value) (vals : List Value) : Sd c A er (call (.builtin id.id) (v :: vals)) (bmtD id (er v) (vals.map er)) := by
 intro Q X σ s C R hm
 cases id with
 | append =>
   refine vR_el hm ?_; clear hm; intro a hm; replace hm := Zb0 hm; refine Oea hm ?_; clear hm; intro u e_1; obtain rfl := e_1; intro hm; refine Oeaa (Za9 hm) ?_; intro xs h h1 h2; exact Zpq R h h1 h2
 | pop =>
   refine vR_el hm ?_; clear hm; intro a hm; replace hm := Zol hm; refine Oa hm ?_; clear hm; intro e_1; obtain rfl := e_1; intro hm; replace hm := Za9 hm; refine Oea hm ?_; clear hm; intro xs h hm; cases hx : xs.getLast? with
   | none => rw [hx] at hm; exact hm.elim
   | some x => rw [hx] at hm; exact Zvs R h hx hm
 | clear =>
   refine vR_el hm ?_; clear hm; intro a hm; replace hm := Zol hm; refine Oa hm ?_; clear hm; intro e_1; obtain rfl := e_1; intro hm; replace hm := Za9 hm; refine Oea hm ?_; clear hm; intro xs h hm; exact Zsr R h hm
 | remove =>
   refine vR_el hm ?_; clear hm; intro a hm; replace hm := Zb0 hm; refine Oea hm ?_; clear hm; intro u e_1; obtain rfl := e_1; intro hm; refine vS_el hm ?_; clear hm; intro x t hm; replace hm := Za9 hm; refine Oea hm ?_; clear hm; intro xs h hm; replace hm := Zdr hm; refine Oea hm ?_; clear hm; intro ys hys hm; exact Zmv H (hr rfl) C R h hys hm
 | extend =>
   refine vR_el hm ?_; clear hm; intro a hm; replace hm := Zb0 hm; refine Oea hm ?_; clear hm; intro u e_1; obtain rfl := e_1; intro hm; refine vR_el hm ?_; clear hm; intro b hm; refine Oa hm ?_; clear hm; intro U hm; replace hm := Za9 hm; refine Oea hm ?_; clear hm; intro xs h hm; refine Oeaa (Za9 hm) ?_; intro ys h' h1 h2; exact Zpp R h h' h1 h2
 | get =>
   refine vR_el hm ?_; clear hm; intro a hm; replace hm := Zb0 hm; refine Oea hm ?_; clear hm; intro u e_1; obtain rfl := e_1; intro hm; refine vS_el hm ?_; clear hm; intro x t hm; replace hm := Zg1 hm; refine Oeea hm ?_; clear hm; intro es ep h hm; exact Zvt B R h hm
 | values =>
   refine vR_el hm ?_; clear hm; intro a hm; replace hm := Zol hm; refine Oa hm ?_; clear hm; intro e_1; obtain rfl := e_1; intro hm; replace hm := Zg1 hm; refine Oeea hm ?_; clear hm; intro es ep h hm; exact Zpo B R h hm
 | add =>
   refine vR_el hm ?_; clear hm; intro a hm; replace hm := Zb0 hm; refine Oea hm ?_; clear hm; intro u e_1; obtain rfl := e_1; intro hm; refine vS_el hm ?_; clear hm; intro x t hm
   change (match σ.H a with | some (.set S n _) => n < lim ∧ Q .none ⟨σ.loc, upd σ.H a (.set (fun k => S k || decide (k = x)) (if S x then n else n + 1) none)⟩ | _ => False) at hm
   cases h : σ.H a with
   | none => rw [h] at hm; exact hm.elim
   | some o =>
     rw [h] at hm; cases o with
     | set S m it => exact Zvu R h hm.1 hm.2
     | _ => exact hm.elim
 | startswith =>
   refine vS_el hm ?_; clear hm; intro x t hm; replace hm := Zb0 hm; refine Oea hm ?_; clear hm; intro u e_1; obtain rfl := e_1; intro hm; refine vS_el hm ?_; clear hm; intro y t' hm; exact SC.startswith (Iea σ R hm)
 | count =>
   refine vS_el hm ?_; clear hm; intro x t hm; replace hm := Zb0 hm; refine Oea hm ?_; clear hm; intro u e_1; obtain rfl := e_1; intro hm; refine vS_el hm ?_; clear hm; intro y t' hm; exact SC.count (Iea σ (R.tk (Nat.succ_pos _)) hm)
 | rfind =>
   refine vS_el hm ?_; clear hm; intro x t hm; replace hm := Zb0 hm; refine Oea hm ?_; clear hm; intro u e_1; obtain rfl := e_1; intro hm; refine vS_el hm ?_; clear hm; intro y t' hm; exact SC.rfind (Iea σ (R.tk (Nat.succ_pos _)) hm)
 | split =>
   refine vS_el hm ?_; clear hm; intro x t hm; replace hm := Zb0 hm; refine Oea hm ?_; clear hm; intro u e_1; obtain rfl := e_1; intro hm; refine vS_el hm ?_; clear hm; intro y t' hm; refine Oaaa hm ?_; clear hm; intro h1 h2 h3 hm; exact Zpd R h1 h2 h3 hm
 | join =>
   refine vS_el hm ?_; clear hm; intro x t hm; replace hm := Zb0 hm; refine Oea hm ?_; clear hm; intro u e_1; obtain rfl := e_1; intro hm; refine vR_el hm ?_; clear hm; intro a hm; replace hm := Za9 hm; refine Oea hm ?_; clear hm; intro xs h hm; replace hm := Zdr hm; refine Oeaaa hm ?_; clear hm; intro ys hys h1 h2 hm; exact Zuk R h hys h1 h2 hm
 | replace => exact hm.elim
end
section
variable {c : Cx} {A : Around} {n : Nat} {g : SE} {P : Par}
theorem Fit.helds (F : Fit c n g A) : Held c A where
 calm h := F.calm (by rw [← F.lv, h]; decide)
 held h := F.held (F.lv.symm.trans h)
 lv := by rw [F.lv]; exact F.le
theorem Zi8 : ∀ {vs : List Value} {ys : List Str}, StrsAre vs ys → vs.map er = ys.map .str
 | _, _, .nil => rfl
 | _, _, .cons _ _ h => by rw [List.map_cons, List.map_cons, Zi8 h]; rfl
theorem Zlu {Q : AV → St → Prop} (R : c.R σ s) {vs : List Value} (hl : s.heap.IsList a vs.toArray) (hs : vs.map er = ys.map .str) (h60 : ys.length ≤ 60)
   (hm : ∀ zs : List Str, zs.Perm ys → sortedS zs = true → newA (.list (zs.map .str)) Q X σ) : wpAny c.M A (call (.builtin "sorted") [.ref a]) (OK c er Q) (EX c X) s := by
 have hlen : vs.length = ys.length := by have := congrArg List.length hs; rwa [List.length_map, List.length_map] at this
 refine sorted_strs hl (Zcj hs) (by exact q64 h60 hlen) fun out ss' a1 a2 a3 => ?_
 refine Oe (sortedAll_at s.heap vs out) ?_; intro k he
 have e2 := Zi8 a1
 refine (Iea _ (R.make (ao := .list (ss'.map .str)) (a := s.heap.objs.size + 1) (Heap.get?_none_of_le (Nat.le_succ _)) (fun U U e => sortedAll_old e) he (Ieeaa out k rfl e2 ?_) R.tok) (hm ss' a2 a3 _ (R.H_none (Heap.get?_none_of_le (Nat.le_succ _)))))
 rw [List.length_map, a2.length_eq]
 exact Nat.le_trans h60 (by decide)
theorem Zho {Q : AV → St → Prop} (R : c.R σ s) {vs : List Value} (hl : IsTup s.heap a vs.toArray) (hs : vs.map er = ys.map .str) (h60 : ys.length ≤ 60)
   (hm : ∀ zs : List Str, zs.Perm ys → sortedS zs = true → newA (.list (zs.map .str)) Q X σ) : wpAny c.M A (call (.builtin "sorted") [.ref a]) (OK c er Q) (EX c X) s := by
 have hlen : vs.length = ys.length := by have := congrArg List.length hs; rwa [List.length_map, List.length_map] at this
 have hS : StrsAre vs ys := Zcj hs
 refine Oeaae hl ?_; clear hl; intro o ho hc n hd
 refine Calls.call_function_entry kind_sorted plain_sorted entry_sorted (args_sorted1 _) ?_
 delta Builtin.«sorted»
 refine wpAny_bind (m := checkCount "sorted" 1 1 _) (wpAny_pure ?_)
 refine wpAny_bind (wpAny_collect_seq a (.inr rfl) ho hc hd (fun h' keep => ?_) (by refine (?_ : vs.length ≤ _); rw [sizeLine_eq]; exact Nat.le_trans (Nat.le_of_eq hlen) (qL h60 rfl)))
 refine (?_ : wpAny _ _ (newList vs >>= _) _ _ _)
 refine wpAny_bind (wpAny_newList ?_)
 have hoL : (h'.push (seqObj "list" vs.toArray 0)).get? h'.objs.size = some (seqObj "list" vs.toArray 0) := Heap.get?_push_size _ rfl
 refine (?_ : wpAny _ _ _ _ _ { s with heap := h'.push (seqObj "list" vs.toArray 0) })
 refine wpAny_bind (wpAny_holding (wpAny_call_entry slot_list_sort (Iea _ hoL rfl) entry_list_sort (list_sort_treeK strKind_oneLt hoL hS.keysOf (fun v₁ v₂ rest e => keyKind_strs (by rw [← e]; exact hS)) (by exact q64 h60 hlen) fun st' hp hss => (Iea _ rfl ?_)) (args_list_sort _)))
 refine Oeaa (sorted_out_str hS hp hss) ?_; intro ss' h1 h2 h3
 refine Oe (sortedHeap_at (out := (arrOf st').map (·.2)) hoL) ?_; intro k he
 have e2 := Zi8 h1
 have hfr : s.heap.get? h'.objs.size = none := by
   cases e : s.heap.get? h'.objs.size with
   | none => rfl
   | some o' => exact absurd (Znf (keep _ _ e)) (Nat.lt_irrefl _)
 refine wpAny_pure (Iea _ rfl ?_)
 refine (Iea _ (R.make (ao := .list (ss'.map .str)) (a := h'.objs.size) hfr (fun b o' e => ?_) he (Ieeaa _ k rfl e2 ?_) R.tok) (hm ss' h2 h3 _ (R.H_none hfr)))
 · have hb := keep b o' e
   have hlt := Heap.lt_size hb; rw [sortedHeap_old (Nat.ne_of_lt hlt) (by rw [size_push']; exact Nat.lt_succ_of_lt hlt), Heap.get?_push_ne _ _ _ (Nat.ne_of_lt hlt)]; exact hb
 · rw [List.length_map, h2.length_eq]
   exact Nat.le_trans h60 (by decide)
theorem Zql {Q : AV → St → Prop} (R : c.R σ s) (h : σ.H a = some (.list xs)) (hm : newA (.liter a 0) Q X σ) : wpAny c.M A (call (.builtin "iter") [.ref a]) (OK c er Q) (EX c X) s := by
 refine Oeeaa (Za4 R h) ?_; intro vs k ho e hl
 refine Calls.call_function_entry (by decide +kernel) (by decide +kernel) kdk_entry_iter (kdk_args_iter _) ?_
 delta Builtin.«iter»
 refine wpAny_bind (m := someArgs "iter" 1 2 _) (wpAny_of_eq (a := [Value.ref a]) (by first | rfl | kernel_rfl) ?_)
 refine (?_ : wpAny _ _ (pyIter (.ref a) >>= _) _ _ _)
 refine wpAny_bind (wpAny_pyIter_list (Zaj ho) ?_)
 exact wpAny_pure ⟨_, rfl, _, R.make (ao := .liter a 0) (Zae _) (fun b o e => Heap.get?_push_of_some _ e) (Heap.get?_push_size _ rfl) rfl R.tok, hm _ (R.H_none (Zae _))⟩
theorem Zjx {Q : AV → St → Prop} (hh : A.handled = none) (R : c.R σ s) (h : σ.H a = some (.list xs)) (hs : strsOf xs = some ys) (hne : ys ≠ []) (hl : ys.length < 100) (hm : ∀ n d, newA (.set (fun k => ys.contains k) n (some d)) Q X σ) :
   wpAny c.M A (call (.type "set") [.ref a]) (OK c er Q) (EX c X) s := by
 refine Oeeaa (Za4 R h) ?_; intro vs k ho e hlen
 have e' := e
 rw [Zbe hs] at e'
 have hz : vs.size = ys.length := by have := congrArg List.length e'; simpa using this
 refine Zhn hh (Zaj ho) e' (by rw [hz]; delta scanBound; exact qN hl rfl) fun h' tk n ht hS hk => ?_
 refine Oeeeaaaaaa hS ?_; clear hS; intro es ep t ho' hel hmem hn hb hf z_1; (refine Oa z_1 ?_; clear z_1; intro hl' hp)
 refine (Iea _ (R.make (ao := .set (fun k => ys.contains k) n (some (.set es ep t))) (Zae _) (fun b o e => hk b o (Heap.lt_size e) e) ho' ⟨⟨⟨rfl, rfl, rfl⟩, es, ep, t, rfl, hel, hmem, hn, hf⟩, hb, fun d hd => ?_⟩ (Nat.lt_of_lt_of_le R.tok ht)) (hm n _ _ (R.H_none (Zae _))))
 cases hd
 refine ⟨rfl, es, ep, t, rfl, ?_⟩
 cases q : c.w.params.followText "set-order" with
 | true => exact .inl rfl
 | false =>
   rcases hp with hp | hp
   · exact .inr (.inl hp)
   · exact .inr (.inr ⟨by rw [hl', ledOf, q]; rfl, hp⟩)
theorem Zfi (a : Addr) (vs : Array Value) (hfit : (vs.size : Int) < 2 ^ 63) : Meets (Builtin.«bool.__new__» ⟨[.type "bool", .ref a], []⟩) (fun U R s => s.heap.IsList a vs ∧ R (.ok (.ret (.bool (!vs.isEmpty)))) { s with toks := s.toks + 1 + 1 }) :=
 Meets.of_wp fun prog w A R s hs => by
   obtain ⟨hp, g, d, tk, os⟩ := s; refine Oa hs ?_; clear hs; intro hl hs; have f1 := PySem.F.conv_sub_bool; have tr : ∀ (E : Value → Shared → Prop) (Q : Bool → Shared → Prop) (A : Around), Q (!vs.isEmpty) ⟨hp, g, d, tk + 1 + 1, os⟩ → wpAny (model prog w) A (truthy (.ref a)) Q E ⟨hp, g, d, tk, os⟩ := fun E Q A h => wpAny_truthy_list hl hfit h
   repeat (any_goals (first | assumption | with_reducible refine tr _ _ _ ?_ | wp_step))
   all_goals first | exact (Iea _ rfl hs) | skip
theorem Zqm {Q : AV → St → Prop} (R : c.R σ s) (h : σ.H a = some (.list xs)) (hm : Q (.bool (!xs.isEmpty)) σ) : wpAny c.M A (call (.type "bool") [.ref a]) (OK c er Q) (EX c X) s := by
 refine Oeeaa (Za4 R h) ?_; intro vs k ho e hl
 have ee : xs.isEmpty = vs.isEmpty := by
   rw [← e]; cases hq : vs.toList with
   | nil => have : vs = #[] := by rw [← Array.toList_inj, hq]
            subst this; rfl
   | cons b r => have : vs.isEmpty = false := by rw [← Array.isEmpty_toList, hq]; rfl
                 rw [this]; rfl
 have l4 : lim = 4000 := rfl
 exact call_bool_1 (Zfi a vs (by exact q3 (Nat.le_trans hl (Nat.le_of_eq l4)))) ⟨Zaj ho, (Iaea rfl σ (R.tk (Nat.succ_pos _)) (by rw [← ee]; exact hm))⟩
theorem Zqk {t : Tok} {Q : AV → St → Prop} (R : c.R σ s) (hm : Q (.ty "str") σ) : wpAny c.M A (call (.type "type") [.str x t]) (OK c er Q) (EX c X) s := by
 refine wpAny_call (codeAny_of_tree ?_)
 refine (?_ : wpAny _ _ (callAny (.type "type") ⟨[.str x t], []⟩) _ _ _)
 simp only [callAny]
 refine wpAny_pure ⟨Code.quiet_builtin _ (by decide +kernel), codeAny_builtin PySem.F.entry_type_call ?_⟩
 delta Builtin.«type.__call__»
 dsimp only
 delta shownTypeOf
 repeat (first | wp_step)
 exact Iea σ R hm
theorem Zlv {Q : Value → Shared → Prop} (ht : IsTup s.heap a vs) (hfit : (vs.size : Int) < 2 ^ 63) (h : ∀ t k, 0 < k → Q (.int vs.size t) { s with toks := k }) : wpAny c.M A (call (.builtin "len") [.ref a]) Q E s :=
 PyProof.Rows.len_tuple ht hfit (h _ _ (Nat.succ_pos _))
theorem Zlq {f : AV} {i : Fid} (h : fidOf f = some i) : f = i.av := (of_decide_eq_true (List.find?_some (p := fun i : Fid => decide (i.av = f)) h)).symm
noncomputable def Fid.val : Fid → Value
 | .len => .builtin "len" | .sorted => .builtin "sorted" | .isinstance => .builtin "isinstance" | .iter => .builtin "iter"
 | .range => .type "range" | .list => .type "list" | .tuple => .type "tuple" | .set => .type "set" | .bool => .type "bool" | .type => .type "type"
theorem Zv3 {f : Value} {i : Fid} (h : er f = i.av) : f = i.val := by
 cases i <;> first | exact Zv2 h | exact Zs5 h
section
variable {Q : AV → St → Prop} {X : Exn → St → Prop} {σ : St} {s : Shared}
theorem Zv1 (B : Base c.prog c.w c.h₀ P) {u : Value} (R : c.R σ s) (hm : match er u with
   | .str s => s.length ≤ lim ∧ Q (.int s.length) σ
   | .ref a => (match σ.H a with
     | some (.list xs) => Q (.int xs.length) σ
     | some (.tup xs) => Q (.int xs.length) σ
     | some (.dict es _) => Q (.int es.length) σ
     | _ => False)
   | _ => False) : wpAny c.M A (call (.builtin "len") [u]) (OK c er Q) (EX c X) s := by
 have ll := Zbb
 have l4 : lim = 4000 := rfl
 cases u with
 | str x t =>
   refine PySem.P.len_str ?_ (Iea σ (R.tk (Nat.succ_pos _)) hm.2); have := hm.1; exact q0 (Nat.le_trans this (Nat.le_of_eq l4))
 | ref a =>
   change (match σ.H a with
     | some (.list xs) => Q (.int xs.length) σ
     | some (.tup xs) => Q (.int xs.length) σ
     | some (.dict es _) => Q (.int es.length) σ
     | _ => False) at hm
   cases h : σ.H a with
   | none => rw [h] at hm; exact hm.elim
   | some o =>
     rw [h] at hm; cases o with
     | list xs =>
       refine Oeeaa (Za4 R h) ?_; intro vs k ho e hl; refine Calls.call_len_list (Zaj ho) (by exact q3 (Nat.le_trans hl (Nat.le_of_eq l4))) (Iea σ (R.tk (Nat.succ_pos _)) ?_); have : xs.length = vs.size := by rw [← e, List.length_map, Array.length_toList]
       change Q (.int xs.length) σ at hm
       rw [this] at hm; exact hm
     | tup xs =>
       refine Oeeaa (R.tup h) ?_; intro vs k ho e hl; have : xs.length = vs.size := by rw [← e, List.length_map, Array.length_toList]
       refine Zlv (Zb6 ho) (by exact q70 l4 hl this) fun t k tp => (Iea σ (R.tk tp) ?_)
       change Q (.int xs.length) σ at hm
       rw [this] at hm; exact hm
     | dict es ep =>
       refine Oeaa (R.dict2 h) ?_; intro kvs hd e hl; have : es.length = kvs.length := by rw [← e, List.length_map]
       refine call_len_dict (knd := PySem.strKind c.prog c.w) (notBlt R h B.sys) hd (by exact q70 l4 hl this) (Iea σ (R.tk (Nat.succ_pos _)) ?_)
       change Q (.int es.length) σ at hm
       rw [this] at hm; exact hm
     | _ => exact hm.elim
 | _ => exact hm.elim
theorem Zp7 (R : c.R σ s) (hm : match σ.H a with
   | some (.list xs) => sortD xs Q X σ
   | some (.tup xs) => sortD xs Q X σ
   | _ => False) : wpAny c.M A (call (.builtin "sorted") [.ref a]) (OK c er Q) (EX c X) s := by
 cases h : σ.H a with
 | none => rw [h] at hm; exact hm.elim
 | some o =>
   rw [h] at hm; cases o with
   | list xs =>
     refine Oeaa (Zdr hm) ?_; intro ys hys h1 h2; refine Oeeaa (Za4 R h) ?_; intro vs k ho e hl; rw [Zbe hys] at e; exact Zlu R (Zaj (vs := vs.toList.toArray) ho) e h1 h2
   | tup xs =>
     refine Oeaa (Zdr hm) ?_; intro ys hys h1 h2; refine Oeeaa (R.tup h) ?_; intro vs k ho e hl; rw [Zbe hys] at e; exact Zho R (Zb6 (vs := vs.toList.toArray) ho) e h1 h2
   | _ => exact hm.elim
theorem Znz {i : Int} {t : Tok} {vals : List Value} (R : c.R σ s) (hv : (vals = [.int i t] ∧ lo = 0) ∨ vals = [.int lo u, .int i t]) (h0 : small lo) (hs : small i) (hm : newA (.rng lo (i - lo).toNat) Q X σ) : wpAny c.M A (call (.type "range") vals) (OK c er Q) (EX c X) s := by
 rcases hv with ⟨rfl, rfl⟩ | rfl
 · exact call_range_1 (Iea _ (R.make (ao := .rng 0 (i - 0).toNat) (Zae _) (fun b o e => Heap.get?_push_of_some _ e) (Heap.get?_push_size _ rfl) (Ieeeeaaa i _ _ _ rfl h0 hs rfl) (Nat.succ_pos _)) (hm _ (R.H_none (Zae _))))
 · exact call_range_2 (Iea _ (R.make (ao := .rng lo (i - lo).toNat) (Zae _) (fun b o e => Heap.get?_push_of_some _ e) (Heap.get?_push_size _ rfl) (Ieeeeaaa i _ _ _ rfl h0 hs rfl) (Nat.succ_pos _)) (hm _ (R.H_none (Zae _))))
theorem Zuv (R : c.R σ s) (h : σ.H a = some (.list xs)) (hm : newA (.list xs) Q X σ) : wpAny c.M A (call (.type "list") [.ref a]) (OK c er Q) (EX c X) s := by
 have ll := Zbb
 refine Oeeaa (Za4 R h) ?_; intro vs k ho e hl
 exact call_list_seq a (.inl rfl) ho rfl rfl (fun h' k' hk hg => (Iea _ (R.make (ao := .list xs) (Zae _) hk hg (Ieeaa vs k' rfl e (by rw [← e, List.length_map, Array.length_toList]; exact hl)) R.tok) (hm _ (R.H_none (Zae _))))) (by exact q58 ll hl)
theorem Zs2 (R : c.R σ s) (h : σ.H a = some (.list xs)) (hm : newA (.tup xs) Q X σ) : wpAny c.M A (call (.type "tuple") [.ref a]) (OK c er Q) (EX c X) s := by
 have ll := Zbb
 refine Oeeaa (Za4 R h) ?_; intro vs k ho e hl
 refine call_tuple_list (Zaj ho) (fun h' hk => ?_) (by exact q58 ll hl)
 have R1 : c.R σ { s with heap := h' } := R.grow hk R.tok
 exact Iea _ (R1.make (ao := .tup xs) (Zae _) (fun b o e => Heap.get?_push_of_some _ e) (Heap.get?_push_size _ rfl) (Ieeaa vs 0 rfl e (by rw [← e, List.length_map, Array.length_toList]; exact hl)) R.tok) (hm _ (R1.H_none (Zae _)))
theorem Zuu (R : c.R σ s) (hm : ∀ d, newA (.set (fun U => false) 0 (some d)) Q X σ) : wpAny c.M A (call (.type "set") []) (OK c er Q) (EX c X) s :=
 call_set_0 fun led => (Iea _ (R.make (ao := .set (fun U => false) 0 (some _)) (Zae _) (fun b o e => Heap.get?_push_of_some _ e) (Heap.get?_push_size _ rfl) ⟨setObjOf_fresh led, by decide, fun q e => by cases e; exact ⟨rfl, _, _, _, rfl, .inr (.inl rfl)⟩⟩ R.tok) (hm _ _ (R.H_none (Zae _))))
theorem Zp8 {i : Int} {t : Tok} (R : c.R σ s) (hm : Q (.bool false) σ) : wpAny c.M A (call (.builtin "isinstance") [.int i t, .type "bool"]) (OK c er Q) (EX c X) s :=
 call_isinstance (isinstance_false_int (by decide) (by first | rfl | kernel_rfl) (by rw [isSubtype_type]; kernel_rfl)) (Iea σ (R.tk (Nat.succ_pos _)) hm)
end
theorem Zud (B : Base c.prog c.w c.h₀ P) (F : Fit c n g A) (hlv : g.lv < 2) (f : Value) (vals : List Value) : Sd c A er (call f vals) (bltD (er f) (vals.map er)) := by
 intro Q X σ s C R hm
 have hh := F.calm hlv
 delta bltD at hm
 cases hi : fidOf (er f) with
 | none => rw [hi] at hm; exact hm.elim
 | some i =>
   rw [hi] at hm; replace hi := Zv3 (Zlq hi); subst hi; cases i with
   | len =>
     replace hm := Zb0 hm; refine Oea hm ?_; clear hm; intro u e_1; obtain rfl := e_1; intro hm; exact Zv1 B R hm
   | sorted =>
     replace hm := Zb0 hm; refine Oea hm ?_; clear hm; intro u e_1; obtain rfl := e_1; intro hm; refine vR_el hm ?_; clear hm; intro a hm; exact Zp7 R hm
   | isinstance =>
     rcases vals with _ | ⟨u, _ | ⟨v, _ | ⟨_, _⟩⟩⟩
     · exact hm.elim
     · cases u <;> exact hm.elim
     · cases u <;> first | exact hm.elim | skip
       cases v <;> first | exact hm.elim | skip
       refine Oa hm ?_; clear hm; intro e_1; obtain rfl := e_1; intro hm; exact Zp8 R hm
     · cases u <;> first | exact hm.elim | (cases v <;> exact hm.elim)
   | iter =>
     replace hm := Zb0 hm; refine Oea hm ?_; clear hm; intro u e_1; obtain rfl := e_1; intro hm; refine vR_el hm ?_; clear hm; intro a hm; replace hm := Za9 hm; refine Oea hm ?_; clear hm; intro xs h hm; exact Zql R h hm
   | range =>
     rcases vals with _ | ⟨u, _ | ⟨v, _ | ⟨_, _⟩⟩⟩
     · exact hm.elim
     · refine vI_el hm ?_; clear hm; intro i t hm; refine Oa hm ?_; clear hm; intro hs hm
       exact Znz (u := 0) R (.inl ⟨rfl, rfl⟩) ⟨by decide, by decide⟩ hs (by rw [Int.sub_zero]; exact hm)
     · refine vI_el hm ?_; clear hm; intro lo t hm
       refine vI_el hm ?_; clear hm; intro i t2 hm; refine Oaa hm ?_; clear hm; intro h1 h2 hm; exact Znz R (.inr rfl) h1 h2 hm
     · exact hm.elim
   | list =>
     replace hm := Zb0 hm; refine Oea hm ?_; clear hm; intro u e_1; obtain rfl := e_1; intro hm; refine vR_el hm ?_; clear hm; intro a hm; replace hm := Za9 hm; refine Oea hm ?_; clear hm; intro xs h hm; exact Zuv R h hm
   | tuple =>
     replace hm := Zb0 hm; refine Oea hm ?_; clear hm; intro u e_1; obtain rfl := e_1; intro hm; refine vR_el hm ?_; clear hm; intro a hm; replace hm := Za9 hm; refine Oea hm ?_; clear hm; intro xs h hm; exact Zs2 R h hm
   | set =>
     rcases vals with _ | ⟨u, _ | ⟨v, r⟩⟩
     · exact Zuu R hm
     · refine vR_el hm ?_; clear hm; intro a hm
       replace hm := Za9 hm; refine Oea hm ?_; clear hm; intro xs h hm; replace hm := Zdr hm; refine Oeaaa hm ?_; clear hm; intro ys hys h1 h2 hm; exact Zjx hh R h hys h1 h2 hm
     · exact hm.elim
   | bool =>
     replace hm := Zb0 hm; refine Oea hm ?_; clear hm; intro u e_1; obtain rfl := e_1; intro hm; refine vR_el hm ?_; clear hm; intro a hm; replace hm := Za9 hm; refine Oea hm ?_; clear hm; intro xs h hm; exact Zqm R h hm
   | type =>
     replace hm := Zb0 hm; refine Oea hm ?_; clear hm; intro u e_1; obtain rfl := e_1; intro hm; refine vS_el hm ?_; clear hm; intro x t hm; exact Zqk R hm
end
section
variable {c : Cx} {A : Around} {n : Nat} {g : SE} {P : Par}
theorem Zlb (v : Value) {Q : AV → St → Prop} (R : c.R σ s) (hv : er v = .str x) (hyz : (y == z) = false) (hx : x.length ≤ lim) (hz : z.length ≤ 14) (hq : Q (.str (Txt.replace x y z)) σ) {t : Tok} (ht : t ≠ 0) (hu : u ≠ 0) (htu : t ≠ u) :
   wpAny c.M A (call (.builtin "str.replace") [v, .str y t, .str z u]) (OK c er Q) (EX c X) s := by
 refine Oe (Zev hv) ?_; intro w e_1; obtain rfl := e_1
 exact wpAny_with_toks (n := 1) R.tok (SC.replaceW ht hu htu hyz (Nat.le_trans hx (by decide)) hz fun t' k tk => (Iea σ (R.tk tk) hq))
theorem Zjw (M : Model) (it : Addr) {Q : Unit → Shared → Prop} (h : Q () s) : wpAny M A (checkBoundCall "list_iterator.__next__" ⟨[.ref it], []⟩) Q E s := by
 have hk : builtinKind "list_iterator.__next__" = some .slot := by decide +kernel
 have ha := args_listiter_next (.ref it)
 delta checkBoundCall
 cases hsig : Manifest.signature? "list_iterator.__next__" with
 | none => exact wpAny_pure h
 | some sig =>
   simp only [argsOk, hsig] at ha; have h2 : Bind.checkArgs "list_iterator.__next__" sig ⟨[.ref it], []⟩ = pure () := ha; dsimp only; rw [hk]; dsimp only; rw [if_pos (by decide)]; rw [h2]; exact wpAny_pure h
theorem Zna {M : Model} {items : Array Value} {x : Value} {Q : Fin → Shared → Prop} (ho : s.heap.get? it = some { cls := .type "list_iterator", data := .fields #[.ref l, .int i 0] })
   (hl : s.heap.IsList l items) (hx : items[i]? = some x) (hQ : ∀ h', h'.get? it = some { cls := .type "list_iterator", data := .fields #[.ref l, .int ((i + 1 : Nat) : Int) 0] } → Heap.SameBut it s.heap h' → Q (.done (.ret x)) { s with heap := h' }) :
   wpAny M A (Builtin.«list_iterator.__next__» ⟨[.ref it], []⟩) Q E s := by
 have hd : ({ cls := .type "list_iterator", data := .fields #[.ref l, .int i 0] } : Obj).data = .fields #[.ref l, .int i 0] := rfl
 refine Oeaae hl ?_; clear hl; intro ol hol U nl hdl
 refine (?_ : wpAny _ _ (field (.ref it) 0 >>= _) _ _ s)
 refine wpAny_bind (wpAny_field ho hd (x := .ref l) rfl ?_)
 refine (?_ : wpAny _ _ (if (Value.ref l == Value.none) = true then _ else _) _ _ s)
 rw [if_neg (show ¬ ((Value.ref l == Value.none) = true) from Bool.false_ne_true)]
 refine (?_ : wpAny _ _ (field (.ref it) 1 >>= _) _ _ s)
 refine wpAny_bind (wpAny_field ho hd (x := .int i 0) rfl ?_)
 refine (?_ : wpAny _ _ (seqItems? (.ref l) >>= _) _ _ s)
 refine wpAny_bind (wpAny_seqItems hol hdl ?_)
 simp only [Int.toNat_natCast, hx]
 refine wpAny_bind (wpAny_setField ho hd (by simp) (wpAny_pure (hQ _ ?_ (Heap.SameBut.update ..))))
 exact Heap.get?_update_self _ ho (Obj.isFreed_of_fields (Obj.data_mapFields hd _))
theorem Zm9 {M : Model} {items : Array Value} {Q : Fin → Shared → Prop} (hh : A.handled = none) (hit : s.heap.IsListIter it l i)
   (hl : s.heap.IsList l items) (hx : items[i]? = none) (hE : ∀ h1 h' e, Heap.SameBut it s.heap h1 → Heap.NewExc h1 h' e "StopIteration" → E (.ref e) { s with heap := h' }) :
   wpAny M A (Builtin.«list_iterator.__next__» ⟨[.ref it], []⟩) Q E s := by
 refine Oeaa (id hit) ?_; intro o ho hc hd
 refine Oeaae hl ?_; clear hl; intro ol hol U nl hdl
 refine (?_ : wpAny _ _ (field (.ref it) 0 >>= _) _ _ s)
 refine wpAny_bind (wpAny_field ho hd (x := .ref l) rfl ?_)
 refine (?_ : wpAny _ _ (if (Value.ref l == Value.none) = true then _ else _) _ _ s)
 rw [if_neg (show ¬ ((Value.ref l == Value.none) = true) from Bool.false_ne_true)]
 refine (?_ : wpAny _ _ (field (.ref it) 1 >>= _) _ _ s)
 refine wpAny_bind (wpAny_field ho hd (x := .int i 0) rfl ?_)
 refine (?_ : wpAny _ _ (seqItems? (.ref l) >>= _) _ _ s)
 refine wpAny_bind (wpAny_seqItems hol hdl ?_)
 simp only [Int.toNat_natCast, hx]
 refine wpAny_bind (wpAny_rule (wpAny_bind (wpAny_setField ho hd (by simp) ?_)))
 refine (?_ : wpAny _ _ (newExc (.type "StopIteration") [] >>= _) _ _ _)
 refine wpAny_bind ?_
 simp only [newExc, newTuple]
 refine wpAny_bind (wpAny_newObj_type ?_ (by size_fits))
 refine wpAny_bind (m := firstArgMember _ _) (wpAny_of_eq (a := Value.none) (by first | rfl | (simp only [firstArgMember]; rfl)) ?_)
 refine wpAny_newObj_type ?_ (by size_fits)
 delta raiseNew
 refine wpAny_bind (wpAny_handled ?_)
 rw [show A.handled = none from hh]
 refine wpAny_bind (wpAny_pure (wpAny_throw ?_))
 have key : ∀ f, E (.ref ((s.heap.update it f).push { cls := .type "tuple", data := .seq #[] }).objs.size) { s with heap := ((s.heap.update it f).push { cls := .type "tuple", data := .seq #[] }).push { cls := .type "StopIteration", data := .fields #[.ref (s.heap.update it f).objs.size, .none, .none, .none, .bool false, .none] } } := fun f =>
   hE (s.heap.update it f) _ _ (Heap.SameBut.update ..) ⟨fun b o e => Heap.get?_push_of_some _ (Heap.get?_push_of_some _ e), Heap.get?_none_of_le (by simp), _, _, Heap.get?_push_size _ rfl, rfl, rfl⟩
 exact key _
theorem Zob (B : Base c.prog c.w c.h₀ P) (H : Held c A) {Q : AV → St → Prop} (C : Calm c X) (R : c.R σ s) (ha : σ.H a = some (.bnd "list_iterator.__next__" it)) (hm : (match σ.H it with
       | some (.liter l i) => (match σ.H l with
         | some (.list xs) => (match xs[i]? with
           | some x => Q x ⟨σ.loc, upd σ.H it (.liter l (i + 1))⟩
           | none => g.lv = 0 ∧ X ⟨"StopIteration", false⟩ ⟨σ.loc, fun b => if b = it then none else σ.H b⟩)
         | _ => False)
       | _ => False)) (hg : c.lv = g.lv) :
   wpAny c.M A (keeperOf (.ref a)) (fun U s₂ => wpAny c.M A (call (.ref a) []) (OK c er Q) (EX c X) s₂) (EX c X) s := by
 obtain ⟨_, oa, hoa, hca, hda⟩ := R.objs _ _ ha
 delta keeperOf
 dsimp only
 refine wpAny_bind (wpAny_load hoa ?_)
 rw [hda]
 dsimp only
 rw [hca, if_pos (by decide), if_pos (by decide)]
 refine wpAny_pure ?_
 unfold call
 refine wpAny_call (codeAny_of_tree ?_)
 refine (?_ : wpAny _ A.in1 (callAny (.ref a) _) _ _ s)
 simp only [callAny]
 refine wpAny_bind (wpAny_load hoa ?_)
 rw [hda]
 dsimp only
 rw [hca, if_pos (by decide)]
 simp only [List.getElem?_toArray, List.getElem?_cons_zero, List.getElem?_cons_succ]
 rw [if_pos (by decide)]
 refine wpAny_bind (Zjw _ _ ?_)
 have hq := slot_listiter_next.plain
 refine wpAny_pure ⟨plainId_quiet hq _, codeAny_builtin entry_listiter_next ?_⟩
 rw [Around.under_plainId hq]
 generalize hit : σ.H it = o at hm
 cases o with
 | none => exact hm.elim
 | some o =>
 cases o with
 | liter l i =>
   refine Oaea (R.objs _ _ hit) ?_; intro U oi hoi e_1; obtain rfl := e_1; have HI : s.heap.IsListIter it l i := (Ieaa _ hoi rfl rfl); dsimp only at hm; generalize hl : σ.H l = o at hm; cases o with
   | none => exact hm.elim
   | some o =>
   cases o with
   | list xs =>
     refine Oeeaa (R.list hl) ?_; intro vs kk ho e hlen; have hL := Zaj ho; dsimp only at hm; generalize hx : xs[i]? = ox at hm; cases ox with
     | some x =>
       have : ∃ v, vs[i]? = some v ∧ er v = x := by
         rw [← e, List.getElem?_map, Array.getElem?_toList] at hx; cases q : vs[i]? with
         | none => rw [q] at hx; exact Zab hx
         | some v => rw [q] at hx; cases hx; exact Iea v rfl rfl
       refine Oea this ?_; clear this; intro v hv e_1; obtain rfl := e_1; refine Zna hoi hL hv fun h' a1 a2 => ?_; exact Iea _ (R.turn (ao' := .liter l (i + 1)) hit (fun b o ne e => (a2.2 b ne).trans e) a1 rfl R.tok) hm
     | none =>
       have hv : vs[i]? = none := by
         rw [← e, List.getElem?_map, Array.getElem?_toList] at hx; cases q : vs[i]? with
         | none => rfl
         | some v => rw [q] at hx; exact Zab (Eq.symm hx)
       refine Oa hm ?_; clear hm; intro hlv hm; refine Zm9 (H.calm (hg.trans hlv)) HI hL hv fun h1 h' e a1 a2 => ?_; have keep : ∀ b o, b ≠ it → s.heap.get? b = some o → h1.get? b = some o := fun b o ne e => (a1.2 b ne).trans e; have ne : ∀ b, σ.H b = none → b ≠ it := by rintro b hb rfl; rw [hit] at hb; exact Zab (Eq.symm hb)
       have R1 : c.R ⟨σ.loc, fun b => if b = it then none else σ.H b⟩ s := R.forget fun a o h => by
         by_cases q : a = it
         · rw [if_pos q] at h; exact Zab h
         · rw [if_neg q] at h; exact h
       have R2 := R1.but keep R.tok (R.objs _ _ hit).1 (if_pos rfl) (fun hp => by
           refine Oea (List.mem_map.mp hp) ?_; intro p hp hq; exact ne _ (R.hidk p hp).2.1 hq) (fun hp => by
           refine Oea (List.mem_map.mp hp) ?_; intro p hp hq; exact ne _ (R.hfrk p hp).2.1 hq) (fun q => ne _ R.lnew.2.1 q.symm) (fun f hf q => by
           refine Oaeeaaa (R.fsk f hf) ?_; intro U L U h1 U h3 U; rw [h1] at q; cases q; exact ne _ h3 rfl) (fun x k hk hc q => by
           refine Oeeaaaa (R.cel x k hk hc) ?_; intro ca U h1 U U h4 U; rw [h1] at q; cases q; exact ne _ h4 rfl)
       refine Oa (Zfl R2 R.tok a2 (c.lv < 2 ∧ (Exn.mk "StopIteration" false).ch = false)) ?_; intro r1 r2; exact Ieeeaaa _ ⟨"StopIteration", false⟩ e rfl r1 r2 hm
   | _ => exact hm.elim
 | _ => exact hm.elim
theorem Zub (B : Base c.prog c.w c.h₀ P) (SF : SoundF c.prog c.w c.h₀ P n) (F : Fit c (n + 1) g A) {f : Value} {vals : List Value} {Q : AV → St → Prop} (C : Calm c X) (R : c.R σ s) (hm : calD P g (er f) (vals.map er) Q X σ) :
   wpAny c.M A (keeperOf f) (fun U s₂ => wpAny c.M A (call f vals) (OK c er Q) (EX c X) s₂) (EX c X) s := by
 have plain : ∀ (hf : ∀ a, f ≠ .ref a), g.lv < 2 → bltD (er f) (vals.map er) Q X σ → wpAny c.M A (keeperOf f) (fun U s₂ => wpAny c.M A (call f vals) (OK c er Q) (EX c X) s₂) (EX c X) s := fun hf hlv h => by
   have : keeperOf f = pure .machine := by cases f <;> first | rfl | exact absurd rfl (hf _)
   rw [this]; exact wpAny_pure (Zud B F hlv f vals Q X σ s C R h)
 cases f with
 | ref a =>
   delta calD at hm; dsimp only [er] at hm; cases hi : initOf a with
   | some fi => rw [hi] at hm; exact Zoc B SF F hm.1 hi R hm.2
   | none =>
     rw [hi] at hm; dsimp only at hm; by_cases hf : isFnA a = true
     · rw [if_pos hf] at hm; exact Zky SF F.less F.room hm.1 R hm.2
     · rw [if_neg hf] at hm
       generalize h : σ.H a = o at hm; cases o with
       | none => exact hm.elim
       | some o =>
         cases o with
         | bnd nm it =>
           obtain ⟨rfl, hv, hm⟩ := hm; have : vals = [] := by cases vals with | nil => rfl | cons _ _ => cases hv
           subst this; exact Zob B F.helds C R h hm F.lv
         | _ => exact hm.elim
 | _ => exact plain (fun a h => by cases h) hm.1 hm.2
theorem Zc5 (h : noSuper o = true) (nm : Str) (env : Env) (w : Sem Value) : attributeBase o nm env w = w := by
 cases o with
 | Call f args kws p =>
   cases f with
   | Name z q =>
     cases args with
     | nil =>
       cases kws with
       | nil => exact Zai h
       | cons _ _ => rfl
     | cons _ _ => rfl
   | _ => rfl
 | _ => rfl
theorem Zoi (h : plainArgs args = true) : ((backTo pos (starEach args env)).all fun x => !x.1) = true := by
 rw [Zbz h]
 simp
theorem Zhf (B : Base c.prog c.w c.h₀ P) {pl : Sem Bool} {v : Value} {f : Addr} {Q : Value × List Value → Shared → Prop} (R : c.R σ s) (h : mres σ.H (er v) nm = some (.own f)) (hq : Q (.ref f, [v]) s) : wpAny c.M A (getMethod v nm pl) Q E s := by
 refine Oea B.k ?_; intro K hK ST
 refine Oe R.fr ?_; intro m Fr0
 refine Oeeeeeaaaa (Zkp h) ?_; intro a C d es ep e_1; obtain rfl := e_1; intro hC hd hn hm
 refine Oaaa (ST.meth C nm f hm) ?_; intro s1 s2 s3 U
 refine Oeeeaaaaaa (R.instAt hC hd) ?_; intro ox ds kvs I U U hk hp U z_1; (refine Oa z_1 ?_; clear z_1; intro e U)
 have hg := Zhg hk hp nm
 have hv : valueAt kvs nm = none := by
   rw [← e, Zde] at hn; cases q : valueAt kvs nm with
   | none => rfl
   | some x => rw [q] at hn; exact Zab (Eq.symm hn)
 rw [hv] at hg
 exact method_inst Fr0 hK I s1 s2 s3 hg hq
theorem Zfz {v : Value} {Q : Value → Shared → Prop} (hp : plainArgs args = true) (hl : (apos.endLine == pos.line) = true) (h29 : args.length < 29)
   (h : ∀ pl, wpAny c.M A (getMethod v nm pl) (fun r s1 => wpAny c.M A (callWith pos r.1 r.2 (backTo pos (starEach args c.env)) []) Q E s1) E s) :
   wpAny c.M A (methodCall o nm apos pos c.env v (args.length + 0) (backTo pos (starEach args c.env)) []) Q E s := by
 have hform : methodCallForm (args.length + 0) (backTo pos (starEach args c.env)) [] = true := by
   delta methodCallForm; rw [Zoi hp]; simp; exact qM h29 rfl
 delta methodCall calleeOf
 rw [hform]
 simp only [if_true]
 refine wpAny_bind (wpAny_holding (wpAny_mono (h _) (fun r s1 h1 => ?_) fun U U h => h))
 have hpos : methodCallPos true o c.env apos pos = pure pos := by delta methodCallPos; simp [hl]
 obtain ⟨f, first⟩ := r
 dsimp only
 rw [hpos]
 exact wpAny_bind (wpAny_pure h1)
theorem Zjj (B : Base c.prog c.w c.h₀ P) (SF : SoundF c.prog c.w c.h₀ P n) (F : Fit c (n + 1) g A) {ma : AM (List AV)} (hs : noSuper o = true) (hl : (apos.endLine == pos.line) = true) (hp : plainArgs args = true) (h29 : args.length < 29)
   (ho : Sd c A er (eval o c.env) mo) (ha : Sd c A (List.map er) (spliced (backTo pos (starEach args c.env))) ma) :
   Sd c A er (eval (.Call (.Attribute o nm apos) args [] pos) c.env) (bnd mo (callAt P g ma nm args)) := by
 intro Q X σ s C R hm
 have earm : eval (.Call (.Attribute o nm apos) args [] pos) c.env = (do
   let ov ← attributeBase o nm c.env (eval o c.env)
   standAt apos.atName
   methodCall o nm apos pos c.env ov (args.length + 0) (backTo pos (starEach args c.env)) []) := rfl
 rw [earm, Zc5 hs]
 refine wpAny_bind (wpAny_mono (ho _ X σ s C R hm) (fun v s1 h1 => wpAny_bind (wpAny_standAt ?_)) fun U U h => h)
 refine Oea h1 ?_; clear h1; intro σ1 R1 h1
 refine Zfz hp hl h29 fun pl => ?_
 have blt : ∀ id, mres σ1.H (er v) nm = some (.blt id) → bnd ma (fun vs => calM P g (.blt id) (er v) vs) Q X σ1 → wpAny c.M A (getMethod v nm pl) (fun r s1 => wpAny c.M A (callWith pos r.1 r.2 (backTo pos (starEach args c.env)) []) (OK c er Q) (EX c X) s1) (EX c X) s1 := fun id hid hm2 => by
   refine Oeaaaa (Zkq B R1 hid) ?_; intro T p1 p2 p3 p4 p5; refine getMethod_builtin p4 p1 p2 p3 p5 ?_; refine Zdq (mc := fun vs => calM P g (.blt id) (er v) vs) (Zes hp ha) (fun vals Q X σ s C R hm => ?_) Q X σ1 s1 C R1 hm2; exact wpAny_pure (Zuc B F.helds id (fun h => F.lv.symm ▸ hm.1 h) v vals Q X σ s C R hm.2)
 unfold callAt at h1
 dsimp only at h1
 generalize hid : mres σ1.H (er v) nm = r at h1
 cases r with
 | none => exact h1.elim
 | some m =>
   cases m with
   | own f =>
     refine Zhf B R1 hid ?_; have h1' : bnd ma (fun vs => calM P g (.own f) (er v) vs) Q X σ1 := h1; refine Zdq (mc := fun vs => calM P g (.own f) (er v) vs) (Zes hp ha) (fun vals Q X σ s C R hm => ?_) Q X σ1 s1 C R1 h1'; exact Zky SF F.less F.room hm.1 (vals := v :: vals) R hm.2
   | blt id =>
     cases id with
     | replace =>
       replace h1 := Zt4 h1; refine Oeea h1 ?_; clear h1; intro x xt ev h1; replace h1 := Zri h1; refine Oeea h1 ?_; clear h1; intro e1 e2 ea h1; replace h1 := Zcu h1; refine Oea h1 ?_; clear h1; intro y h2 h1; replace h1 := Zcu h1; refine Oea h1 ?_; clear h1; intro z h3 h1; refine Oee (Zgy h2) ?_; intro k1 p1 eb; refine Oee (Zgy h3) ?_; intro k2 p2 ec; subst ea eb ec; refine Oaaa h1 ?_; clear h1; intro hyz hx hz hq; refine Oeaaaa (Zkq B R1 hid) ?_; intro T q1 q2 q3 q4 q5; refine getMethod_builtin q4 q1 q2 q3 q5 ?_; refine Zcf ?_; have e2 : backTo pos (starEach [Expr.Constant (.str y) k1 p1, Expr.Constant (.str z) k2 p2] c.env) = [(false, eval (Expr.Constant (.str y) k1 p1) c.env), (false, eval (Expr.Constant (.str z) k2 p2) c.env)] := rfl; rw [e2]; refine Calls.evalArgs_plain (Calls.spliced_cons ?_); refine wpAny_mkText (Calls.spliced_cons ?_); refine wpAny_mkText (Calls.spliced_nil ?_); refine (?_ : wpAny c.M A (keeperOf (.builtin "str.replace")) _ _ _); refine wpAny_pure ?_; have tp := R1.tok; have R2 : c.R σ1 { s1 with toks := s1.toks + 1 + 1 } := R1.tk (Nat.succ_pos _); exact Zlb v R2 (x := x) (by rw [ev]; rfl) hyz hx hz hq (Nat.ne_of_gt tp) (Nat.succ_ne_zero _) (Nat.ne_of_lt (Nat.lt_succ_self _))
     | _ => exact blt _ hid h1
end
section
variable {c : Cx} {A : Around} {n : Nat} {g : SE} {P : Par}
theorem Zji (B : Base c.prog c.w c.h₀ P) (SF : SoundF c.prog c.w c.h₀ P n) (F : Fit c (n + 1) g A) (hlv : g.lv < 2) {e : Expr} (hs : noSuper o = true) (ho : Sd c A er (eval o c.env) mo) (he : ∀ ms, Sd (c.with ms) A er (eval e c.env) me) :
   Sd c A er (eval (.Call (.Attribute o nm apos) [.Starred e p] [] pos) c.env) (bnd mo (callStar P me nm)) := by
 intro Q X σ s Cm R hm
 have earm : eval (.Call (.Attribute o nm apos) [.Starred e p] [] pos) c.env = (do
   let ov ← attributeBase o nm c.env (eval o c.env)
   standAt apos.atName
   methodCall o nm apos pos c.env ov 1 (backTo pos (starEach [.Starred e p] c.env)) []) := rfl
 rw [earm, Zc5 hs]
 refine wpAny_bind (wpAny_mono (ho _ X σ s Cm R hm) (fun v s1 h1 => wpAny_bind (wpAny_standAt ?_)) fun U U h => h)
 refine Oea h1 ?_; clear h1; intro σ1 R1 h1
 unfold callStar at h1
 dsimp only at h1
 generalize hf : mres σ1.H (er v) nm = r at h1
 cases r with
 | none => exact h1.elim
 | some m =>
 cases m with
 | own f =>
   refine Oeeeeeaaaa (Zkp hf) ?_; intro a C d es ep e_1; obtain rfl := e_1; intro hC hd hn hmt; refine Oea B.k ?_; intro K hK ST; refine Oe R1.fr ?_; intro m Fr0; refine Oaaaaaa (ST.meth C nm f hmt) ?_; intro s1' s2' s3' s4' s5' s6' s7'; refine Oeeeaaaaaa (R1.instAt hC hd) ?_; intro ox ds kvs I U U hk hp U z_1; (refine Oa z_1 ?_; clear z_1; intro e1 U); have hg := Zhg hk hp nm; have hv : valueAt kvs nm = none := by
     rw [← e1, Zde] at hn; cases q : valueAt kvs nm with
     | none => rfl
     | some x => rw [q] at hn; exact Zab (Eq.symm hn)
   rw [hv] at hg; have hform : methodCallForm 1 (backTo pos (starEach [.Starred e p] c.env)) [] = false := rfl; delta methodCall calleeOf; rw [hform]; simp only [Bool.false_eq_true, if_false]; refine wpAny_bind (wpAny_holding (wpAny_bind (kbm_bound Fr0 hK (R1.news []) I s1' s4' s2' s3' s5' s6' s7' hg fun q h' Fr' N' hlt => wpAny_pure ?_))); have gq := N' _ (.head _); have fq : s1.heap.get? q = none := R1.freshOf gq.2.2 gq.2.1 hlt; have R2 : c.R σ1 { s1 with heap := h', toks := s1.toks + 1 } := R1.back Fr0 Fr' rfl N' (fun p hp => .tail _ hp) (Nat.succ_pos _); have offq : c.off σ1 q := Zm5 R1 fq
   (refine Oa (Zha (ms := [(q, methodObj (.ref f) (.ref a))]) R2 fun p hp => by
     rcases List.mem_singleton.mp hp with rfl; exact ⟨offq, gq.1⟩) ?_; intro R3 nd3)
   have hpos : methodCallPos false o c.env apos pos = pure pos := rfl; rw [hpos]; refine wpAny_bind (wpAny_pure (Zcf ?_)); refine wpAny_mono (Ziz (c := c.with [(q, methodObj (.ref f) (.ref a))]) (he _) _ X σ1 _ (fun h => Cm h) R3 h1) (fun vs s4 h4 => ?_) fun U U h => h.shown; refine Oaea h4 ?_; clear h4; intro hkw σ4 R4 h4; have hq4 := (R4.hidk _ (.head _)).2.2; have R4' : c.R σ4 s4 := R4.show_; refine Oa (SF c A g f (.ref a :: vs.pos) _ σ4 s4 rfl rfl rfl F.less F.room hlv R4' h4) ?_; intro z_1 hcode; (refine Oeea z_1 ?_; clear z_1; intro of fd hof hfd); delta keeperOf; refine wpAny_bind (wpAny_load hq4 ?_); refine wpAny_bind (wpAny_load (R4'.base _ _ hof) ?_); rw [hfd]; refine wpAny_pure ?_; rw [hkw]; refine wpAny_call (method_call hq4 (codeAny_mono hcode fun r s' hr => ?_)); refine Oeeaa hr ?_; clear hr; intro v H' e_1; obtain rfl := e_1; intro R' hq; exact Iea _ R' hq
 | _ => exact h1.elim
end
theorem Sd.when {α β : Type} {r : α → β} {t : Sem α} {m : AM β} {b : Bool} (h : b = true → Sd c A r t m) : Sd c A r t (if b = true then m else Mine.fail) := by
 cases b with
 | true => exact h rfl
 | false => exact Sd.fail
theorem Sd.unless {α β : Type} {r : α → β} {t : Sem α} {m : AM β} {b : Bool} (h : b = false → Sd c A r t m) : Sd c A r t (if b = true then Mine.fail else m) := by
 cases b with
 | false => exact h rfl
 | true => exact Sd.fail
theorem Sd.look {α β γ : Type} {r : α → β} {t : Sem α} {m : AM β} {f : γ → AM β} {o : Option γ} (h : o = none → Sd c A r t m) (k : ∀ x, o = some x → Sd c A r t (f x)) : Sd c A r t (o.elim m f) := by
 cases o with
 | none => exact h rfl
 | some x => exact k x rfl
theorem Sd.go {α β : Type} {r : α → β} {t : Sem α} {m : AM β} (h : Sd c A r t m) {Q : β → St → Prop} {Q' : α → Shared → Prop} (C : Calm c X) (R : c.R σ s) (hm : m Q X σ)
   (k : ∀ a s1 σ1, c.R σ1 s1 → Q (r a) σ1 → Q' a s1) : wpAny c.M A t Q' (EX c X) s :=
 wpAny_mono (h Q X σ s C R hm) (fun a s1 h => h.elim fun σ1 h => k a s1 σ1 h.1 h.2) fun U U h => h
section
variable {c : Cx} {A : Around} {n : Nat} {g : SE} {P : Par}
structure SoundAt (P : Par) (n : Nat) (c : Cx) (A : Around) (g : SE) : Prop where
 ev : ∀ e, Sd c A er (eval e c.env) (ev P n g e)
 tr : ∀ e, Sd c A id (isTrue e c.env (eval e c.env)) (tr P n g e)
 evs : ∀ es pos, plainArgs es = true → Sd c A (List.map er) (spliced (backTo pos (starEach es c.env))) (evs P n g es)
 evA : ∀ f es pos, ArgSd c A f (backTo pos (starEach es c.env)) (evA P n g es)
 evB : ∀ op es pos, Sd c A er (boolOp pos op (evalEach es c.env)) (evB P n g op es)
 trB : ∀ op es, Sd c A id (allTrue op es c.env) (trB P n g op es)
 itr : ∀ e, g.lv < 2 → isSetE e = false ∧ SrcSd c A e (itr P n g e) ∨ itr P n g e = fail
 evO : ∀ e, Sd c A er (valueOrNone (evalOpt e c.env)) (evO P n g e)
 evC : ∀ gens d elt ifs sc pos, g.lv < 2 → EmitSd c A gens d elt ifs sc pos (evC P n g elt ifs (gens.drop (d + 1)))
 asg : ∀ t v, Sd c A id (assign t c.env v) (asg P n g t (er v))
 ex : ∀ s, Sd c A fl (exec s c.env) (ex P n g s)
 exs : ∀ ss, Sd c A fl (execs ss c.env) (exs P n g ss)
theorem Zef {gens : List Comprehension} {d : Nat} : EmitSd c A gens d elt ifs sc pos (fun U => fail) := fun U U U U U U U U U h => h.elim
theorem Zk0 {f : Value} {trees : List (Bool × Sem Value)} : ArgSd c A f trees fail := fun U U U U U U h => h.elim
theorem sound0 : SoundAt P 0 c A g where
 ev _ := Sd.fail
 tr _ := Sd.fail
 evs _ _ _ := Sd.fail
 evA _ _ _ := Zk0
 evB _ _ _ := Sd.fail
 trB _ _ := Sd.fail
 itr _ _ := .inr rfl
 evO _ := Sd.fail
 evC _ _ _ _ _ _ _ := Zef
 asg _ _ := Sd.fail
 ex _ := Sd.fail
 exs _ := Sd.fail
theorem Zmx {ts : Sem (List Value)} {m : AM (List AV)} {tup : Bool} (h : Sd c A (List.map er) ts m) :
   Sd c A er (ts >>= fun vs => if tup then newTuple vs else newList vs) (bnd m fun vs => fun Q X σ => vs.length ≤ lim ∧ newA (if tup then .tup vs else .list vs) Q X σ) := by
 intro Q X σ s C R hm
 refine wpAny_bind (wpAny_mono (h _ X σ s C R hm) (fun vs s1 h1 => ?_) fun U U h => h)
 refine Oeaa h1 ?_; clear h1; intro σ1 R1 hl hq
 have hn := R1.H_none (Zae s1.heap)
 have hsz : vs.length ≤ sizeLine := by rw [List.length_map] at hl; exact Nat.le_trans hl Zbb
 cases tup with
 | true =>
   simp only [if_true] at hq ⊢; exact wpAny_newTuple (Iea _ (R1.make (ao := .tup (vs.map er)) (Zae _) (fun b o e => Heap.get?_push_of_some _ e) (Heap.get?_push_size _ rfl) (Ieeaa vs.toArray 0 rfl (by simp) hl) R1.tok) (hq _ hn)) hsz
 | false =>
   simp only [Bool.false_eq_true, if_false] at hq ⊢; exact wpAny_newList (Iea _ (R1.make (ao := .list (vs.map er)) (Zae _) (fun b o e => Heap.get?_push_of_some _ e) (Heap.get?_push_size _ rfl) (Ieeaa vs.toArray 0 rfl (by simp) hl) R1.tok) (hq _ hn)) hsz
theorem Fit.cmpU (F : Fit c n g A) : A.units + 3 < cLine := by have := F.units; exact Nat.lt_of_le_of_lt (Nat.add_le_add (Nat.le_add_right _ _) (Nat.le_of_ble_eq_true rfl)) this
theorem Zpe (B : Base c.prog c.w c.h₀ P) {k : Str} {i : Int} {k1 p1 k2 p2 pos} : Sd c A er (eval (.Dict [some (.Constant (.str k) k1 p1)] [.Constant (.int i) k2 p2] pos) c.env) (fun Q X σ => ∀ ep, newA (.dict [(k, .int i)] ep) Q X σ) := by
 intro Q X σ s C R hm
 refine wpAny_Dict_walk (knd := PySem.strKind c.prog c.w) rfl rfl (by simp) (by simp) (pairTrees_cons_walk ?_)
 refine wpAny_mkText ?_
 refine wpAny_mkInt ?_
 refine pairTrees_nil_walk (Ieaa [(k, _)] ⟨strKind_is _ _ _ _, rfl, trivial⟩ (Ieeeaaaaa _ _ _ (Heap.get?_push_size _ rfl) ⟨rfl, rfl, rfl⟩ rfl (fun U h => by simp at h) (.nil) List.nodup_nil) (fun h' hd hs => ?_))
 obtain ⟨o, es, ep, ho, he, hdat, hk, hp, hn⟩ := hd
 refine (Iea _ (R.make (ao := .dict [(k, .int i)] ep) (Zae _) (fun b x e => (hs.extBut b x (Nat.ne_of_lt (Heap.lt_size e)) (Heap.get?_push_of_some _ e))) ho (Ieeaaaaaa es [(k, _)] he hdat hk hp hn rfl (by refine (?_ : 1 ≤ 4000); decide)) (by simp)) (hm ep _ (R.H_none (Zae _))))
theorem Zsa {x : Expr} {m : AM AV} (B : Base c.prog c.w c.h₀ P) (h : Sd c A er (eval x c.env) m) : Sd c A er (eval (.UnaryOp .Not x pos) c.env) (bnd m fun a => bnd (truth a) fun b => ret (.bool (!b))) := by
 intro Q X σ s C R hm
 refine wpAny_UnaryOp (wpAny_mono (h _ X σ s C R hm) (fun v s1 h1 => ?_) fun U U h => h)
 refine Oea h1 ?_; clear h1; intro σ1 R1 h1
 exact PyProof.Rows.not_of ((Zgz B v).go C R1 h1 fun b s2 σ2 R2 h2 => (Iea σ2 R2 h2))
theorem Zsb {x : Expr} {m : AM AV} (h : Sd c A er (eval x c.env) m) : Sd c A er (eval (.UnaryOp .USub x pos) c.env) (bnd m negD) := by
 intro Q X σ s C R hm
 refine wpAny_UnaryOp (wpAny_mono (h _ X σ s C R hm) (fun v s1 h1 => ?_) fun U U h => h)
 refine Oea h1 ?_; clear h1; intro σ1 R1 h1
 refine vI_el h1 ?_; clear h1; intro i t h1
 exact PyProof.Rows.neg_int (Iea σ1 (R1.tk (Nat.succ_pos _)) h1)
theorem Zsc {l r : Expr} {op : CmpOp} {mr : AM AV} (B : Base c.prog c.w c.h₀ P) (F : Fit c n g A) (hm0 : behindInMarks op r = false) (h1 : Sd c A er (eval l c.env) ml) (h2 : Sd c A er (eval r c.env) mr) :
   Sd c A er (eval (.Compare l [op] [r] pos) c.env) (bnd ml fun a => bnd mr fun b => cmpD op a b) := by
 intro Q X σ s C R hm
 refine wpAny_Compare1 (h1.go C R hm fun a s1 σ1 R1 q1 => h2.go C R1 q1 fun b s2 σ2 R2 q2 => Zq5 B F.cmpU op a b Q X σ2 s2 C R2 q2) hm0
theorem Zsd (B : Base c.prog c.w c.h₀ P) (hs : noSuper o = true) (h : Sd c A er (eval o c.env) mo) : Sd c A er (eval (.Attribute o nm pos) c.env) (bnd mo fun v => gaD v nm) := by
 intro Q X σ s C R hm
 have e : eval (.Attribute o nm pos) c.env = (do
   let v ← attributeBase o nm c.env (eval o c.env)
   standAt pos.atName
   let r ← PySem.holding [v] (getAttr v nm true)
   letTemporaryGo o v r
   pure r) := rfl
 rw [e, Zc5 hs]
 refine wpAny_bind (h.go C R hm fun v s1 σ1 R1 q1 => wpAny_bind (wpAny_standAt (wpAny_bind (wpAny_holding (wpAny_mono (Zt8 B v nm Q X σ1 s1 C R1 q1) (fun r s2 h2 => wpAny_bind (wpAny_letTemporaryGo (wpAny_pure h2))) fun U U h => h)))))
theorem Zt6 {i : Expr} (F : Fit c n g A) (hi : notSlice i = true) (h1 : Sd c A er (eval o c.env) mo) (h2 : Sd c A er (eval i c.env) mi) : Sd c A er (eval (.Subscript o i pos) c.env) (bnd mo fun v => bnd mi fun k => itD v k) := by
 intro Q X σ s C R hm
 exact Subscript_ (h1.go C R hm fun v s1 σ1 R1 q1 => h2.go C R1 q1 fun k s2 σ2 R2 q2 => Zvm F.helds hi v k Q X σ2 s2 C R2 q2)
theorem Zjf {lo hi st : Option Expr} {mh ms : AM AV} (B : Base c.prog c.w c.h₀ P) (h0 : Sd c A er (eval o c.env) mo) (h1 : Sd c A er (valueOrNone (evalOpt lo c.env)) ml) (h2 : Sd c A er (valueOrNone (evalOpt hi c.env)) mh) (h3 : Sd c A er (valueOrNone (evalOpt st c.env)) ms) (h4 : st = none → ms = ret .none ∨ ms = fail) :
   Sd c A er (eval (.Subscript o (.Slice lo hi st sp) pos) c.env) (bnd mo fun v => bnd ml fun l => bnd mh fun h => bnd ms fun s => slD P v l h s) := by
 intro Q X σ s C R hm
 refine Subscript_ (h0.go C R hm fun v s1 σ1 R1 q1 => ?_)
 have e : eval (.Slice lo hi st sp) c.env = (do
   let l ← valueOrNone (evalOpt lo c.env); let u ← PySem.holding [l] (valueOrNone (evalOpt hi c.env)); let t ← PySem.holding [l, u] (valueOrNone (evalOpt st c.env))
   newFields "slice" [l, u, t]) := rfl
 rw [e]
 refine wpAny_bind (h1.go C R1 q1 fun l s2 σ2 R2 q2 => wpAny_bind (wpAny_holding (h2.go C R2 q2 fun u s3 σ3 R3 q3 => wpAny_bind (wpAny_holding ?_))))
 cases st with
 | none =>
   rcases h4 rfl with h4 | h4
   · rw [h4] at q3
     exact wpAny_pure (wpAny_newObj_type (Zkj (t := .none) B (fun U => rfl) R3 q3))
   · rw [h4] at q3; exact q3.elim
 | some st =>
   refine h3.go C R3 q3 fun t s4 σ4 R4 q4 => ?_; exact wpAny_newObj_type (Zkj (st := some st) B (fun h => by exact Zab (Eq.symm h)) R4 q4)
theorem Zje {l r : Expr} {op : CmpOp} {mr : AM AV} {w : Sem Value} (B : Base c.prog c.w c.h₀ P) (F : Fit c n g A) (hm0 : behindInMarks op r = false) (h1 : Sd c A er (eval l c.env) ml) (h2 : Sd c A er (eval r c.env) mr) :
   Sd c A id (isTrue (.Compare l [op] [r] pos) c.env w) (bnd ml fun a => bnd mr fun b => bnd (cmpD op a b) boolD) := by
 intro Q X σ s C R hm
 have e : isTrue (.Compare l [op] [r] pos) c.env w = (do testChain pos (← eval l c.env) [op] [markedBehindIn op r (eval r c.env)]) := rfl
 rw [e, markedBehindIn_of_false hm0]
 refine wpAny_bind (h1.go C R hm fun a s1 σ1 R1 q1 => ?_)
 refine (?_ : wpAny c.M A (do
   let rv ← PySem.holding [a] (eval r c.env)
   standAt pos
   let cc ← operate [a, rv] (compareOp op a rv)
   PySem.holding [cc] (truthy cc)) _ _ s1)
 refine wpAny_bind (wpAny_holding (h2.go C R1 q1 fun b s2 σ2 R2 q2 => wpAny_bind (wpAny_standAt (wpAny_bind (wpAny_operating ((Zq5 B F.cmpU op a b).go C R2 q2 fun v s3 σ3 R3 q3 => wpAny_holding ?_))))))
 cases v with
 | bool cc => exact wpAny_pure (Iea σ3 R3 q3)
 | _ => exact q3.elim
theorem Zh8 {e : Expr} {m : AM AV} (B : Base c.prog c.w c.h₀ P) (he : isTrue e c.env (eval e c.env) = (do let v ← eval e c.env; standAt e.pos; PySem.holding [v] (truthy v))) (h : Sd c A er (eval e c.env) m) : Sd c A id (isTrue e c.env (eval e c.env)) (bnd m fun v => truth v) := by
 intro Q X σ s C R hm
 rw [he]
 exact wpAny_bind (h.go C R hm fun v s1 σ1 R1 q1 => wpAny_bind (wpAny_standAt (wpAny_holding (Zgz B v Q X σ1 s1 C R1 q1))))
theorem Zq6 (op : Operator) (a b : Value) : Sd c A er (inplaceOp op a b) (augD op (er a) (er b)) := by
 intro Q X σ s C R hm
 have two : ∀ {f : Int → Int → Prop}, vI (er a) (fun x => vI (er b) fun y => f x y) → ∃ x t y u, a = .int x t ∧ b = .int y u ∧ f x y := fun h => by
   replace h := Zmk h; (refine Oeea h ?_; clear h; intro x t e h); replace h := Zmk h; (refine Oeea h ?_; clear h; intro y u e' h); exact ⟨x, t, y, u, e, e', h⟩
 cases op with
 | Add =>
   replace hm := two hm
   (clear two; obtain ⟨x, t, y, u, e_1, e_2, hm⟩ := hm; subst e_1 e_2)
   exact wpAny_iadd_int (Iea σ (R.tk (Nat.succ_pos _)) hm)
 | Sub =>
   replace hm := two hm
   (clear two; obtain ⟨x, t, y, u, e_1, e_2, hm⟩ := hm; subst e_1 e_2)
   exact PySem.P.isub_int (Iea σ (R.tk (Nat.succ_pos _)) hm)
 | _ => exact hm.elim
end
section
variable {c : Cx} {A : Around} {n k : Nat} {g : SE} {P : Par}
noncomputable def SoundE (P : Par) (k n : Nat) : Prop := ∀ c A g, Base c.prog c.w c.h₀ P → SoundF c.prog c.w c.h₀ P k → Fit c (k + 1) g A → SoundAt P n c A g
theorem Zkl : OR prog w (.dict [] 0) { cls := .type "dict", data := .dict #[] } :=
 (Ieeaaaaaa (#[]) [] ⟨rfl, rfl, rfl⟩ rfl (fun U h => by simp at h) (.nil) List.nodup_nil rfl (Nat.zero_le _))
theorem Zn1 {f : Expr} (h : attrE f = none) : eval (.Call f args [] pos) env = (do callWith pos (← eval f env) [] (backTo pos (starEach args env)) []) := by
 cases f <;> first | rfl | exact Zab (Eq.symm h)
theorem Zs4 (IH : SoundE P k n) (B : Base c.prog c.w c.h₀ P) (SF : SoundF c.prog c.w c.h₀ P k) (F : Fit c (k + 1) g A) (e : Expr) : Sd c A er (eval e c.env) (ev P (n + 1) g e) := by
 have S := IH c A g B SF F
 cases e with
 | Constant cc kk pos => exact Zpf cc
 | Name x pos => exact Zc4 B F x pos
 | BoolOp op vs pos => exact S.evB op vs pos
 | NamedExpr t v pos =>
   refine Sd.look (fun U => Sd.fail) fun x hx => ?_; refine Oe (Zd7 hx) ?_; intro px e; subst e; intro Q X σ s C R hm; refine wpAny_NamedExpr ((S.ev v).go C R hm fun a s1 σ1 R1 q1 => ?_); exact wpAny_assign_Name ((Zdd F x a).go C R1 q1 fun U s2 σ2 R2 q2 => (Iea σ2 R2 q2))
 | BinOp l op r pos =>
   intro Q X σ s C R hm; refine (?_ : wpAny c.M A (do
     let a ← eval l c.env; let b ← PySem.holding [a] (eval r c.env)
     standAt pos
     operate [a, b] (binaryOp op a b)) _ _ s)
   exact wpAny_bind ((S.ev l).go C R hm fun a s1 σ1 R1 q1 => wpAny_bind (wpAny_holding ((S.ev r).go C R1 q1 fun b s2 σ2 R2 q2 => wpAny_bind (wpAny_standAt (wpAny_operating (Zue B op a b Q X σ2 s2 C R2 q2))))))
 | UnaryOp op x pos =>
   cases op with
   | Not => exact Zsa B (S.ev x)
   | USub => exact Zsb (S.ev x)
   | _ => exact Sd.fail
 | IfExp t a b pos =>
   intro Q X σ s C R hm; refine (?_ : wpAny c.M A (do if ← isTrue t c.env (eval t c.env) then eval a c.env else eval b c.env) _ _ s); refine wpAny_bind ((S.tr t).go C R hm fun cc s1 σ1 R1 q1 => ?_); cases cc with
   | true => exact S.ev a Q X σ1 s1 C R1 q1
   | false => exact S.ev b Q X σ1 s1 C R1 q1
 | Compare l ops rs pos =>
   cases ops with
   | nil => exact Sd.fail
   | cons op ops =>
     cases ops with
     | cons _ _ => exact Sd.fail
     | nil =>
       cases rs with
       | nil => exact Sd.fail
       | cons r rs =>
         cases rs with
         | cons _ _ => exact Sd.fail
         | nil =>
           have e : ev P (n + 1) g (.Compare l [op] [r] pos) = if behindInMarks op r then fail else bnd (ev P n g l) fun a => bnd (ev P n g r) fun b => cmpD op a b := rfl
           rw [e]
           split
           · exact Sd.fail
           · rename_i hb
             exact Zsc B F (by simpa using hb) (S.ev l) (S.ev r)
 | List es pos =>
   refine Sd.when fun hp => ?_; intro Q X σ s C R hm; refine (?_ : wpAny c.M A (do standAt pos; newList (← spliced (backTo pos (starEach es c.env)))) _ _ s); exact wpAny_bind (wpAny_standAt (Zmx (tup := false) (S.evs es pos hp) Q X σ s C R hm))
 | Tuple es kk pos =>
   refine Sd.when fun hp => ?_; intro Q X σ s C R hm; refine (?_ : wpAny c.M A (do standAt pos; newTuple (← spliced (backTo pos (starEach es c.env)))) _ _ s); exact wpAny_bind (wpAny_standAt (Zmx (tup := true) (S.evs es pos hp) Q X σ s C R hm))
 | Dict ks vs pos =>
   refine (?_ : Sd c A er (eval (.Dict ks vs pos) c.env) (if (ks.isEmpty && vs.isEmpty) = true then newA (.dict [] 0) else (dictE ks vs).elim fail fun p => fun Q X σ => ∀ ep, newA (.dict [(p.1, .int p.2)] ep) Q X σ)); cases he : ks.isEmpty && vs.isEmpty with
   | true =>
     rw [Bool.and_eq_true, List.isEmpty_iff, List.isEmpty_iff] at he; rw [he.1, he.2]; exact fun Q X σ s C R hm => wpAny_Dict_empty (Iea ⟨σ.loc, upd σ.H s.heap.objs.size (.dict [] 0)⟩ (R.make (o := { cls := .type "dict", data := .dict #[] }) (Zae _) (fun b o e => Heap.get?_push_of_some _ e) (Heap.get?_push_size _ rfl) Zkl R.tok) (hm _ (R.H_none (Zae _))))
   | false =>
     refine Sd.look (fun U => Sd.fail) fun q hq => ?_; obtain ⟨k, p, k', p', e1, e2⟩ := Zn7 hq; rw [e1, e2]; exact Zpe B
 | Attribute o nm pos => exact Sd.when fun h => Zsd B h (S.ev o)
 | Subscript o i pos =>
   refine Sd.look (fun hi => ?_) fun q hq => ?_
   · exact Zt6 F (Option.isNone_iff_eq_none.mpr hi) (S.ev o) (S.ev i)
   · refine Oe (Zla hq) ?_; intro p e; rw [e]
     refine Zjf B (S.ev o) (S.evO _) (S.evO _) (S.evO _) fun h => ?_; rw [h]; cases n with
     | zero => exact .inr rfl
     | succ n => exact .inl rfl
 | Call f args kws pos =>
   cases kws with
   | cons _ _ => exact Sd.fail
   | nil =>
     refine (?_ : Sd c A er (eval (.Call f args [] pos) c.env) ((attrE f).elim _ _)); refine Sd.look (fun hf => ?_) fun q hq => ?_
     · rw [Zn1 hf]
       intro Q X σ s C R hm; refine wpAny_bind ((S.ev f).go C R hm fun v s1 σ1 R1 q1 => ?_); exact Zdq (first := []) (mc := fun vs => calD P g (er v) vs) (S.evA v args pos) (fun vals Q X σ s C R hm => Zub B SF F C R hm) Q X σ1 s1 C R1 q1
     · rw [Zoh hq]
       refine Sd.look (fun U => Sd.unless fun h => ?_) fun e he => Sd.unless fun h => ?_
       · simp only [Bool.or_eq_false_iff, Bool.not_eq_false', decide_eq_false_iff_not] at h
         exact Zjj B SF F h.1.1.1 h.1.1.2 h.1.2 (by omega) (S.ev _) (S.evs args pos h.1.2)
       · refine Oe (Zfc he) ?_; intro p e1; rw [e1]
         simp only [Bool.or_eq_false_iff, Bool.not_eq_false', decide_eq_false_iff_not] at h; exact Zji B SF F (by omega) h.1 (S.ev _) fun ms => (IH (c.with ms) A g B SF (F.with ms)).ev e
 | ListComp elt gens sc pos =>
   cases gens with
   | nil => exact Sd.fail
   | cons gg gens =>
     obtain ⟨tgt, iter, ifs, as⟩ := gg; by_cases h0 : as = 0
     · subst h0
       refine Sd.unless (m := bnd (itr P n g iter) _) fun h => ?_; simp only [Bool.or_eq_false_iff, Bool.not_eq_false', decide_eq_false_iff_not] at h; have hlv : g.lv < 2 := by omega
       rcases S.itr iter hlv with ⟨hset, hsrc⟩ | hf
       · refine Zjg F hlv (Zh9 h.2) hset hsrc fun c' p1 p2 p3 F' => ?_
         have S' := IH c' A (compSE g sc) (by rw [p1, p2, p3]; exact B) (by rw [p1, p2, p3]; exact SF) F'; exact S'.evC (⟨tgt, iter, ifs, 0⟩ :: gens) 0 elt ifs sc pos (by refine (?_ : 1 < 2); decide)
       · rw [hf]
         exact Sd.fail
     · cases as with
       | ofNat m =>
         cases m with
         | zero => exact absurd rfl h0
         | succ m => exact Sd.fail
       | negSucc m => exact Sd.fail
 | _ => exact Sd.fail
end
section
variable {c : Cx} {A : Around} {n k : Nat} {g : SE} {P : Par}
theorem Zr6 (IH : SoundE P k n) (B : Base c.prog c.w c.h₀ P) (SF : SoundF c.prog c.w c.h₀ P k) (F : Fit c (k + 1) g A) (e : Expr) : Sd c A id (isTrue e c.env (eval e c.env)) (tr P (n + 1) g e) := by
 have S := IH c A g B SF F
 cases e with
 | UnaryOp op x pos =>
   cases op with
   | Not =>
     intro Q X σ s C R hm; exact wpAny_isTrue_Not ((S.tr x).go C R hm fun b s1 σ1 R1 q1 => (Iea σ1 R1 q1))
   | _ => exact Zh8 B rfl (S.ev _)
 | BoolOp op vs pos => exact S.trB op vs
 | IfExp _ _ _ _ => exact Sd.fail
 | Compare l ops rs pos =>
   cases ops with
   | nil => exact Sd.fail
   | cons op ops =>
     cases ops with
     | cons _ _ => exact Sd.fail
     | nil =>
       cases rs with
       | nil => exact Sd.fail
       | cons r rs =>
         cases rs with
         | cons _ _ => exact Sd.fail
         | nil =>
           have e : tr P (n + 1) g (.Compare l [op] [r] pos) = if behindInMarks op r then fail else bnd (ev P n g l) fun a => bnd (ev P n g r) fun b => bnd (cmpD op a b) boolD := rfl
           rw [e]
           split
           · exact Sd.fail
           · rename_i hb
             exact Zje B F (by simpa using hb) (S.ev l) (S.ev r)
 | _ => exact Zh8 B rfl (S.ev _)
theorem Zqa (IH : SoundE P k n) (B : Base c.prog c.w c.h₀ P) (SF : SoundF c.prog c.w c.h₀ P k) (F : Fit c (k + 1) g A) (es : List Expr) (pos : Pos) (hp : plainArgs es = true) : Sd c A (List.map er) (spliced (backTo pos (starEach es c.env))) (evs P (n + 1) g es) := by
 have S := IH c A g B SF F
 cases es with
 | nil => exact Sd.pure rfl
 | cons e r =>
   have hp' : plainArgs r = true := by
     delta plainArgs at hp ⊢; rw [List.all_cons, Bool.and_eq_true] at hp; exact hp.2
   intro Q X σ s C R hm; have ih := S.evs r pos hp'; rw [Zbz hp'] at ih; rw [Zbz hp, List.map_cons]; exact Calls.spliced_cons ((S.ev e).go C R hm fun v s1 σ1 R1 q1 => ih.go C R1 q1 fun vs s2 σ2 R2 q2 => (Iea σ2 R2 q2))
theorem Zqf (IH : SoundE P k n) (B : Base c.prog c.w c.h₀ P) (SF : SoundF c.prog c.w c.h₀ P k) (F : Fit c (k + 1) g A) (f : Value) (es : List Expr) (pos : Pos) : ArgSd c A f (backTo pos (starEach es c.env)) (evA P (n + 1) g es) := by
 have S := IH c A g B SF F
 refine (?_ : ArgSd c A f (backTo pos (starEach es c.env)) ((starA es).elim (if plainArgs es = true then evs P n g es else fail) _))
 cases hs : starA es with
 | none =>
   cases hp : plainArgs es with
   | true => exact Zes hp (S.evs es pos hp)
   | false => exact Zk0
 | some e =>
   refine Oe (Zfc hs) ?_; intro p e1; rw [e1]; exact Ziz (S.ev e)
theorem Zqe (IH : SoundE P k n) (B : Base c.prog c.w c.h₀ P) (SF : SoundF c.prog c.w c.h₀ P k) (F : Fit c (k + 1) g A) (op : BoolOp) (es : List Expr) (pos : Pos) : Sd c A er (boolOp pos op (evalEach es c.env)) (evB P (n + 1) g op es) := by
 have S := IH c A g B SF F
 cases es with
 | nil => exact Sd.fail
 | cons e r =>
   cases r with
   | nil => exact S.ev e
   | cons e2 r =>
     intro Q X σ s C R hm; refine (?_ : wpAny c.M A (do
       let v ← eval e c.env
       standAt pos
       let t ← PySem.holding [v] (truthy v)
       match op, t with
       | .And, false | .Or, true => pure v
       | _, _ => boolOp pos op (evalEach (e2 :: r) c.env)) _ _ s)
     refine wpAny_bind ((S.ev e).go C R hm fun v s1 σ1 R1 q1 => wpAny_bind (wpAny_standAt (wpAny_bind (wpAny_holding ((Zgz B v).go C R1 q1 fun t s2 σ2 R2 q2 => ?_))))); cases op <;> cases t <;> first
       | exact wpAny_pure ⟨σ2, R2, q2⟩
       | exact S.evB _ _ _ Q X σ2 s2 C R2 q2
theorem Zo2 (IH : SoundE P k n) (B : Base c.prog c.w c.h₀ P) (SF : SoundF c.prog c.w c.h₀ P k) (F : Fit c (k + 1) g A) (op : BoolOp) (es : List Expr) : Sd c A id (allTrue op es c.env) (trB P (n + 1) g op es) := by
 have S := IH c A g B SF F
 cases es with
 | nil => exact Sd.pure rfl
 | cons e r =>
   intro Q X σ s C R hm; refine (?_ : wpAny c.M A (do
     match op, ← isTrue e c.env (eval e c.env) with
     | .And, false => pure false
     | .Or, true => pure true
     | _, _ => allTrue op r c.env) _ _ s)
   refine wpAny_bind ((S.tr e).go C R hm fun t s2 σ2 R2 q2 => ?_); cases op <;> cases t <;> first
     | exact wpAny_pure ⟨σ2, R2, q2⟩
     | exact S.trB _ _ Q X σ2 s2 C R2 q2
theorem Zqb (IH : SoundE P k n) (B : Base c.prog c.w c.h₀ P) (SF : SoundF c.prog c.w c.h₀ P k) (F : Fit c (k + 1) g A) (e : Option Expr) : Sd c A er (valueOrNone (evalOpt e c.env)) (evO P (n + 1) g e) := by
 have S := IH c A g B SF F
 cases e with
 | none => exact Sd.pure rfl
 | some e => exact S.ev e
theorem Zqd (IH : SoundE P k n) (B : Base c.prog c.w c.h₀ P) (SF : SoundF c.prog c.w c.h₀ P k) (F : Fit c (k + 1) g A) (gens : List Comprehension) (d : Nat) (elt : Expr) (ifs : List Expr) (sc : Scope) (pos : Pos) (hlv : g.lv < 2) :
   EmitSd c A gens d elt ifs sc pos (evC P (n + 1) g elt ifs (gens.drop (d + 1))) := by
 have S := IH c A g B SF F
 have Sw : ∀ ms, SoundAt P n (c.with ms) A g := fun ms => IH (c.with ms) A g B SF (F.with ms)
 cases ifs with
 | cons t ifs => exact Zn4 (fun ms => (Sw ms).tr t) (S.evC gens d elt ifs sc pos hlv)
 | nil =>
   cases hd : gens[d + 1]? with
   | none =>
     rw [List.drop_eq_nil_iff.mpr (by simpa using hd)]; exact Zn6 hd fun ms => (Sw ms).ev elt
   | some gg =>
     rw [Zhj hd]; obtain ⟨tgt, iter, ifs, as⟩ := gg; cases as with
     | negSucc m => exact Zef
     | ofNat m =>
       cases m with
       | succ m => exact Zef
       | zero =>
         have e : evC P (n + 1) g elt [] (⟨tgt, iter, ifs, Int.ofNat 0⟩ :: gens.drop (d + 1 + 1)) = fun k => if isSetE iter then fail else bnd (ev P n g iter) fun v => bnd (srcD v) fun src =>
             compGo (asgI g tgt) (evC P n g elt ifs (gens.drop (d + 1 + 1))) (fun σ' => src.holds σ'.H) src.items k := rfl
         rw [e]; cases hs : isSetE iter with
         | true => exact Zef
         | false =>
           simp only [Bool.false_eq_true, if_false]; exact Zn5 B F (F.calm hlv) hd hs (fun ms => (Sw ms).ev iter) (S.evC gens (d + 1) elt ifs sc pos hlv)
end
section
variable {c : Cx} {A : Around} {n k : Nat} {g : SE} {P : Par}
theorem Zsi (hx : isGlob g x = true) (hg : glob x = some v) (σ : St) : rdN g x (fun u σ' => u = v ∧ σ' = σ) noX σ := by
 delta rdN
 have nv : isVar g x = false := by
   have : g.kind x = some .globalImplicit := beq_iff_eq.mp hx; delta isVar; rw [this]
 rw [nv, hx, hg]
 exact ⟨rfl, rfl⟩
theorem Zr9 (B : Base c.prog c.w c.h₀ P) (F : Fit c n g A) (hlv : g.lv < 2) {a b : Expr} {ma mb : AM AV} (hp : plainArgs [a, b] = true) (hx : isGlob g ("zip" : Str) = true) (ha : Sd c A er (eval a c.env) ma) (hb : Sd c A er (eval b c.env) mb) :
   SrcSd c A (.Call (.Name ("zip" : Str) px) [a, b] [] pos) (bnd ma fun x => bnd mb fun y => zipSrc x y) := by
 intro Q X σ s C R hm
 have hh := F.calm hlv
 have e2 : eval (.Call (.Name ("zip" : Str) px) [a, b] [] pos) c.env = (do callWith pos (← eval (.Name ("zip" : Str) px) c.env) [] (backTo pos (starEach [a, b] c.env)) []) := rfl
 rw [e2, Zbz hp]
 refine wpAny_bind (wpAny_mono (Zc4 B F ("zip" : Str) px _ noX σ s (fun U U U h => h) R (Zsi (v := .ty "zip") hx (by decide +kernel) σ)) (fun v s1 z => Oeaa z fun σ1 R1 hv hσ => ?_) fun U U h => h.none.elim)
 subst hσ
 cases Zs5 hv
 refine Zcf (Calls.evalArgs_plain (Calls.spliced_cons (ha.go C R1 hm fun va s2 σ2 R2 q2 => ?_)))
 refine Calls.spliced_cons (hb.go C R2 q2 fun vb s3 σ3 R3 q3 => Calls.spliced_nil ?_)
 have hkp : keeperOf (.type "zip") = pure .machine := rfl
 rw [hkp]
 refine wpAny_pure ?_
 refine vR_el q3 ?_; clear q3; intro l1 q3
 refine vR_el q3 ?_; clear q3; intro l2 q3
 replace q3 := Za9 q3
 refine Oea q3 ?_; clear q3; intro xs h1 q3
 replace q3 := Za9 q3
 refine Oeaa q3 ?_; clear q3; intro ys h2 hl q3
 · ·
     refine Oea (Zbs R3.objs' h1) ?_; intro vs hv1 U; refine Oea (Zbs R3.objs' h2) ?_; intro us hu1 U; have a1 : l1 < s3.heap.objs.size := by (refine Oea hv1 ?_; clear hv1; intro U e U); exact Heap.lt_size e
     have a2 : l2 < s3.heap.objs.size := by (refine Oea hu1 ?_; clear hu1; intro U e U); exact Heap.lt_size e
     refine call_zip_2 hv1 hu1 fun h' hz hTI hTO ⟨o1, g1, k1⟩ ⟨o2, g2, k2⟩ _ hk => ?_; have fresh : ∀ i, s3.heap.get? (s3.heap.objs.size + i) = none := fun i => Heap.get?_none_of_le (Nat.le_add_right _ _)
     (refine Oa (R3.hidNew (dr := s3.drawn) (hs := [(s3.heap.objs.size + 4, _), (s3.heap.objs.size + 2, _), (s3.heap.objs.size + 3, _), (s3.heap.objs.size, o1), (s3.heap.objs.size + 1, o2)]) (h' := h') (fun p hp => by
       simp only [List.mem_cons, List.not_mem_nil, or_false] at hp; rcases hp with rfl | rfl | rfl | rfl | rfl
       · exact ⟨hz, fresh 4⟩
       · exact ⟨hTI, fresh 2⟩
       · exact ⟨hTO, fresh 3⟩
       · exact ⟨g1, fresh 0⟩
       · exact ⟨g2, fresh 1⟩) hk) ?_; intro R4 nd4)
     refine wpAny_pyIter_zip hz (Ieeeeeaaa (.zip l1 l2 xs ys) _ _ _ σ3 rfl (Wk.zip hh (s3.heap.objs.size + 4) l1 l2 xs ys hl) ⟨_, _, _, _, _, _, o1, o2, Iaaa (zipApart_new a1 a2) rfl k1 k2⟩ (Iaa nd4 R4 q3))
theorem Zpu (IH : SoundE P k n) (B : Base c.prog c.w c.h₀ P) (SF : SoundF c.prog c.w c.h₀ P k) (F : Fit c (k + 1) g A) (e : Expr) (hlv : g.lv < 2) : isSetE e = false ∧ SrcSd c A e (itr P (n + 1) g e) ∨ itr P (n + 1) g e = fail := by
 have S := IH c A g B SF F
 have hh := F.calm hlv
 cases hz : zipE e with
 | none =>
   have he : itr P (n + 1) g e = if isSetE e then fail else bnd (ev P n g e) srcD := by
     refine (?_ : Option.elim (zipE e) _ _ = _); rw [hz]; rfl
   rw [he]; cases hs : isSetE e with
   | true => exact .inr rfl
   | false => exact .inl ⟨rfl, Zmp B hh (S.ev e)⟩
 | some q =>
   have he : itr P (n + 1) g e = if isGlob g ("zip" : Str) && plainArgs [q.1, q.2] then bnd (ev P n g q.1) fun x => bnd (ev P n g q.2) fun y => zipSrc x y else fail := by
     refine (?_ : Option.elim (zipE e) _ _ = _); rw [hz]; rfl
   rw [he]; refine Oee (Zom hz) ?_; intro px pos e1; rw [e1]; cases hg : isGlob g ("zip" : Str) && plainArgs [q.1, q.2] with
   | false => exact .inr rfl
   | true =>
     rw [Bool.and_eq_true] at hg; exact .inl ⟨rfl, Zr9 B F hlv hg.2 hg.1 (S.ev _) (S.ev _)⟩
theorem Zqt (IH : SoundE P k n) (B : Base c.prog c.w c.h₀ P) (SF : SoundF c.prog c.w c.h₀ P k) (F : Fit c (k + 1) g A) (t : Expr) (v : Value) : Sd c A id (assign t c.env v) (asg P (n + 1) g t (er v)) := by
 have S := IH c A g B SF F
 cases t with
 | Name x p =>
   intro Q X σ s C R hm; exact wpAny_assign_Name (Zdd F x v Q X σ s C R hm)
 | Attribute o nm p =>
   intro Q X σ s C R hm; refine (?_ : wpAny c.M A (do
     let ov ← PySem.holding [v] (eval o c.env)
     standAt p.atName
     PySem.holding [v, ov] (setAttr ov nm v)
     release [v, ov] []) _ _ s)
   exact wpAny_bind (wpAny_holding ((S.ev o).go C R hm fun ov s1 σ1 R1 q1 => wpAny_bind (wpAny_standAt (wpAny_bind (wpAny_holding (wpAny_mono (Zt7 B ov nm v Q X σ1 s1 C R1 q1) (fun U s2 h2 => wpAny_release h2) fun U U h => h))))))
 | Subscript o i p =>
   intro Q X σ s C R hm; rw [assign_Subscript]; exact wpAny_bind (wpAny_holding ((S.ev o).go C R hm fun ov s1 σ1 R1 q1 => wpAny_bind (wpAny_holding ((S.ev i).go C R1 q1 fun iv s2 σ2 R2 q2 =>
     wpAny_bind (wpAny_standAt (wpAny_bind (wpAny_holding (wpAny_mono (Zvl ov iv v Q X σ2 s2 C R2 q2) (fun U s3 h3 => wpAny_release h3) fun U U h => h))))))))
 | Tuple ts kk p =>
   intro Q X σ s C R hm; have e : asg P (n + 1) g (.Tuple ts kk p) (er v) = if (namesOf ts).Nodup ∧ g.lv < 2 then (fun Q X σ => vR (er v) fun a => onT σ.H a fun xs => xs.length = ts.length ∧ ts.length ≤ 3 ∧ unpD g ts xs Q X σ) else fail := rfl
   rw [e] at hm
   split at hm
   · rename_i hn
     refine vR_el hm ?_; clear hm; intro a hm; replace hm := Zjn hm; refine Oeaaa hm ?_; clear hm; intro xs h hl U hm; refine Oea (Zec R.objs' h) ?_; intro vs hT hv; refine Oa (Zdc hm) ?_; intro hn2 U; refine Oa (Zb1 (env := c.env) hn2) ?_; intro e1 e2; refine wpAny_assign_Tuple (F.calm hn.2) hT (by rw [e1, ← hl, ← hv, List.length_map, Array.length_toList]) e2 fun h' hk => ?_; rw [← hv] at hm; exact Zmt F ts vs.toList Q X σ _ C (R.grow (fun b o e => hk b o (Nat.ne_of_lt (Heap.lt_size e)) e) R.tok) hm
   · exact hm.elim
 | _ => exact Sd.fail
end
section
variable {c : Cx} {A : Around} {n k : Nat} {g : SE} {P : Par}
theorem Zc9 (targets value pos) (env : Env) : exec (.Assign targets value pos) env = (do
   standAt pos
   if ← swapsWithSole targets value pos.line env then do
     evalThenUse value env fun v => assignAll v ((assignEach targets env).map (·.2))
     pure .next
   else do
     let v ← eval value env
     assignStores env v (← swappedStores targets value env) ((assignEach targets env).map (·.2))) := rfl
theorem Zei (ht : ∀ e p, t ≠ .Starred e p) (env : Env) (v : Value) : assignAll v ((assignEach [t] env).map (·.2)) = assign t env v := by
 cases t <;> first | rfl | exact absurd rfl (ht _ _)
theorem Zfo {e : Expr} : asg P n g (.Starred e p) v = fail := by cases n <;> rfl
theorem Zh0 {v : Expr} (h : ¬ ∃ ts a b vs d e, t = .Tuple ts a b ∧ v = .Tuple vs d e) (h2 : ∀ ts b, t ≠ .List ts b) : swappedStores [t] v env = pure none := by
 cases t with
 | Tuple ts a b =>
   cases v with
   | Tuple vs d e => exact absurd ⟨_, _, _, _, _, _, rfl, rfl⟩ h
   | _ => rfl
 | List ts b => exact absurd rfl (h2 _ _)
 | _ => rfl
theorem Zpv {α : Type} {c1 c2 c3 c4 c5 : Prop} {i1 : Decidable c1} {i2 : Decidable c2} {i3 : Decidable c3} {i4 : Decidable c4} {i5 : Decidable c5} {n u r : α} {K : α → Prop} (hn : K n) (h5 : ¬ c5) (hr : ¬ c3 → K r) :
   K (@ite _ c1 i1 n (@ite _ c2 i2 n (@ite _ c3 i3 n (@ite _ c4 i4 n (@ite _ c5 i5 u r))))) := by
 by_cases h1 : c1
 · rw [if_pos h1]; exact hn
 · rw [if_neg h1]
   by_cases h2 : c2
   · rw [if_pos h2]; exact hn
   · rw [if_neg h2]
     by_cases h3 : c3
     · rw [if_pos h3]; exact hn
     · rw [if_neg h3]
       by_cases h4 : c4
       · rw [if_pos h4]; exact hn
       · rw [if_neg h4, if_neg h5]; exact hr h3
theorem Zi7 {py : Pos} {a : Nat} {b : Pos} {v1 v2 : Expr} {d : Nat} {e : Pos} (hk : env.scope.kind = .function) (hxy : x ≠ y) (hp : plainArgs [v1, v2] = true) (hc : [v1, v2].all (constantsAlone 8) = false) :
   swappedStores [.Tuple [.Name x px, .Name y py] a b] (.Tuple [v1, v2] d e) env = pure none ∨ swappedStores [.Tuple [.Name x px, .Name y py] a b] (.Tuple [v1, v2] d e) env = pure (some [x, y]) := by
 have hb : env.blockKind = .function := by delta Env.blockKind; rw [hk]; rfl
 refine Zpv (K := fun z => z = pure none ∨ z = pure (some [x, y])) (.inl rfl) (by rw [hc]; exact Bool.false_ne_true) (fun hn => .inr ?_)
 have hp1 : (Expr.Name x px).pos = px := rfl
 by_cases h1 : env.kindOf x = some .local
 · by_cases h2 : env.kindOf y = some .local ∧ py.line = px.line
   · simp [h1, h2, hp1]
   · exfalso
     apply hn; have h2' : (env.kindOf y == some .local && py.line == px.line) = false := by
       rw [Bool.eq_false_iff]; simpa using h2
     simp only [List.filterMap_cons, List.filterMap_nil, List.head?_cons, Option.map_some, Option.getD_some, hp1, h2']; simp [h1]
 · exfalso
   apply hn; have h1' : (env.kindOf x == some .local && px.line == px.line) = false := by
     rw [Bool.eq_false_iff]; simpa using h1
   simp only [List.filterMap_cons, List.filterMap_nil, List.head?_cons, Option.map_some, Option.getD_some, hp1, h1']; cases (env.kindOf y == some .local && py.line == px.line) <;> simp
theorem Zk6 {ad : Addr} {us : Array Value} {Q : List Value → Shared → Prop} (hh : A.handled = none) (hT : s.heap.IsTuple ad us) (hsz : us.size = 2)
   (hQ : ∀ h', Heap.ExtBut s.heap.objs.size s.heap h' → Q us.toList { s with heap := h' }) : wpAny (model prog w) A (unpackItems (.ref ad) 2 none) Q E s := by
 rw [← hsz]; exact wpAny_unpackItems_tuple hh hT hQ
theorem Zo3 (F : Fit c n g A) {u1 u2 : Value} {Q : DFlow → St → Prop} (hnd : x ≠ y) (R : c.R σ s) (m1 : x ∈ g.wr) (m2 : y ∈ g.wr) (m3 : Q .next ⟨setL (setL σ.loc x (er u1)) y (er u2), σ.H⟩) :
   wpAny c.M A (assignInOrder [bindName c.env y, bindName c.env x] [u2, u1] >>= fun U => (pure Flow.next : Sem Flow)) (OK c fl Q) (EX c X) s := by
 refine wpAny_bind ?_
 refine (?_ : wpAny c.M A (PySem.holding [u1] (bindName c.env y u2) >>= fun U => (PySem.holding [] (bindName c.env x u1) >>= fun U => pure ())) _ _ _)
 refine wpAny_bind (wpAny_holding (wpAny_mono (Zjk F y u2 (fun U σ' => σ' = ⟨setL σ.loc y (er u2), σ.H⟩) noX σ _ (fun U U U h => h) R ⟨m2, rfl⟩) (fun U s2 z => Oea z fun σ2 R2 q2 => ?_) fun U U h => h.none.elim))
 subst q2
 refine wpAny_bind (wpAny_holding (wpAny_mono (Zjk F x u1 (fun U σ' => σ' = ⟨setL (setL σ.loc y (er u2)) x (er u1), σ.H⟩) noX _ _ (fun U U U h => h) R2 ⟨m1, rfl⟩) (fun U s3 z => Oea z fun σ3 R3 q3 => wpAny_pure (wpAny_pure (Iea σ3 R3 ?_))) fun U U h => h.none.elim))
 subst q3
 have ee : setL (setL σ.loc y (er u2)) x (er u1) = setL (setL σ.loc x (er u1)) y (er u2) := by
   funext z
   delta setL; by_cases hz1 : z = x
   · by_cases hz2 : z = y
     · exact absurd (hz1.symm.trans hz2) hnd
     · rw [if_pos hz1, if_neg hz2, if_pos hz1]
   · by_cases hz2 : z = y
     · rw [if_neg hz1, if_pos hz2, if_pos hz2]
     · rw [if_neg hz1, if_neg hz2, if_neg hz2, if_neg hz1]
 rw [ee]
 exact m3
theorem Zj3 (F : Fit c n g A) {py : Pos} {x1 : Nat} {y1 : Pos} {v : Expr} {Q : DFlow → St → Prop} (hlv : g.lv < 2) (hnd : x ≠ y)
   (hsw : swappedStores [.Tuple [.Name x px, .Name y py] x1 y1] v c.env = pure (some [x, y])) (R : c.R σ s) (h : σ.H a = some (.tup xs)) (hl : xs.length = 2) (hm : unpD g [.Name x px, .Name y py] xs (fun U σ => Q .next σ) X σ) :
   wpAny c.M A (do assignStores c.env (.ref a) (← swappedStores [.Tuple [.Name x px, .Name y py] x1 y1] v c.env) ((assignEach [.Tuple [.Name x px, .Name y py] x1 y1] c.env).map (·.2))) (OK c fl Q) (EX c X) s := by
 refine Oea (Zec R.objs' h) ?_; intro us hT hv
 refine Oee (Zml hv hl) ?_; intro u1 u2 e; subst e
 rw [hsw]
 refine wpAny_bind (wpAny_pure ?_)
 refine (?_ : wpAny c.M A (PySem.rule "assign.swapped-stores" >>= fun U => unpackItems (.ref a) 2 none >>= fun items => assignInOrder [bindName c.env y, bindName c.env x] items.reverse >>= fun U => (pure Flow.next : Sem Flow)) _ _ s)
 refine wpAny_bind (wpAny_rule (wpAny_bind (Zk6 (F.calm hlv) hT rfl fun h' hk => ?_)))
 have R1 : c.R σ { s with heap := h' } := R.grow (fun b o e => hk b o (Nat.ne_of_lt (Heap.lt_size e)) e) R.tok
 rw [← hv] at hm
 exact Zo3 F hnd R1 hm.1 hm.2.1 hm.2.2
theorem Zew (IH : SoundE P k n) (B : Base c.prog c.w c.h₀ P) (SF : SoundF c.prog c.w c.h₀ P k) (F : Fit c (k + 1) g A) {v : Expr} {a : Value} (h : swappedStores [t] v c.env = pure none) :
   Sd c A fl (do assignStores c.env a (← swappedStores [t] v c.env) ((assignEach [t] c.env).map (·.2))) (bnd (asg P n g t (er a)) fun U => ret .next) := by
 have S := IH c A g B SF F
 rw [h]
 by_cases hst : ∃ e p, t = .Starred e p
 · refine Oee hst ?_; intro e p e_1; subst e_1
   rw [Zfo]; exact Sd.fail
 · intro Q X σ s C R hm
   refine wpAny_bind (wpAny_pure ?_); refine (?_ : wpAny c.M A (assignAll a ((assignEach [t] c.env).map (·.2)) >>= fun U => (pure Flow.next : Sem Flow)) _ _ s); rw [Zei (fun e p q => hst ⟨e, p, q⟩)]; exact wpAny_bind ((S.asg t a).go C R hm fun U s1 σ1 R1 q1 => wpAny_pure (Iea σ1 R1 q1))
theorem Zle (IH : SoundE P k n) (B : Base c.prog c.w c.h₀ P) (SF : SoundF c.prog c.w c.h₀ P k) (F : Fit c (k + 1) g A) {v : Expr} (htt : tupTup t v = false) {a : Value} :
   Sd c A fl (do assignStores c.env a (← swappedStores [t] v c.env) ((assignEach [t] c.env).map (·.2))) (bnd (asg P n g t (er a)) fun U => ret .next) := by
 by_cases hT : ∃ ts x y vs d e, t = .Tuple ts x y ∧ v = .Tuple vs d e
 · obtain ⟨ts, x1, y1, vs, d, e, rfl, rfl⟩ := hT
   have htt' : (!(ts.length == 2 && vs.length == 2 && !(vs.all (constantsAlone 8)) && plainArgs vs)) = false := htt; simp only [Bool.not_eq_false', Bool.and_eq_true, beq_iff_eq, Bool.not_eq_true'] at htt'; obtain ⟨⟨⟨l1, l2⟩, hca⟩, hpl⟩ := htt'; by_cases hsw : swappedStores [.Tuple ts x1 y1] (.Tuple vs d e) c.env = pure none
   · exact Zew IH B SF F hsw
   · cases n with
     | zero => exact fun Q X σ s C R hm => hm.elim
     | succ n =>
       intro Q X σ s C R hm; have hm' : (if (namesOf ts).Nodup ∧ g.lv < 2 then (fun Q X σ => vR (er a) fun a => onT σ.H a fun xs => xs.length = ts.length ∧ ts.length ≤ 3 ∧ unpD g ts xs Q X σ) else fail : AM Unit) (fun U σ => Q .next σ) X σ := hm; clear hm; by_cases hn : (namesOf ts).Nodup ∧ g.lv < 2
       · rw [if_pos hn] at hm'
         replace hm' := Zq4 hm'; obtain ⟨ad, rfl, hm'⟩ := hm'; replace hm' := Zjn hm'; obtain ⟨xs, h, hl, _, hm'⟩ := hm'; have hn2 := (Zdc hm').1; obtain ⟨t1, t2, rfl⟩ := Zmm l1; obtain ⟨x, px, rfl⟩ := hn2 t1 (.head _); obtain ⟨y, py, rfl⟩ := hn2 t2 (.tail _ (.head _)); have hnd : x ≠ y := fun e => by
           have := hn.1; rw [e] at this; exact (List.nodup_cons.mp this).1 (.head _)
         obtain ⟨v1, v2, rfl⟩ := Zmm l2; exact Zj3 F hn.2 hnd ((Zi7 (by rw [F.sc]; exact F.kind) hnd hpl hca).resolve_left hsw) R h hl hm'
       · rw [if_neg hn] at hm'; exact hm'.elim
 · refine Zew IH B SF F (Zh0 hT fun ts b q => ?_)
   subst q; exact Zai (Eq.symm htt)
end
section
variable {c : Cx} {A : Around} {n k : Nat} {g : SE} {P : Par}
theorem Fit.notInter (F : Fit c n g A) : interactive c.env = false := by
 delta interactive
 rw [F.sc, F.kind]; rfl
theorem noComp {v : Expr} (hl : isComp v = false) : ev P n g v = fail ∨ ∀ (t : Option Expr) (line : Nat) (env : Env), swapsWith v t line env = pure false := by
 cases v with
 | ListComp a b d e => exact Zai (Eq.symm hl)
 | SetComp a b d e => exact .inl (by cases n <;> rfl)
 | DictComp a b d e f => exact .inl (by cases n <;> rfl)
 | _ => exact .inr fun U U U => rfl
theorem Zjh (F : Fit c n g A) {e : Expr} {m : AM AV} (hs : swapsWith e none pos.line c.env = pure false) (h : Sd c A er (eval e c.env) m) : Sd c A fl (exec (.Expr e pos) c.env) (bnd m fun U => ret .next) := by
 intro Q X σ s C R hm
 rw [exec_Expr c.env e pos F.notInter hs]
 exact wpAny_bind (wpAny_standAt (wpAny_bind (h.go C R hm fun v s1 σ1 R1 q1 => wpAny_dropValue (Iea σ1 R1 q1))))
theorem Zej (IH : SoundE P k n) (B : Base c.prog c.w c.h₀ P) (SF : SoundF c.prog c.w c.h₀ P k) (F : Fit c (k + 1) g A) {v : Expr} (htt : tupTup t v = false) (hs : swapsWithSole [t] v pos.line c.env = pure false) :
   Sd c A fl (exec (.Assign [t] v pos) c.env) (bnd (ev P n g v) fun a => bnd (asg P n g t a) fun U => ret .next) := by
 have S := IH c A g B SF F
 intro Q X σ s C R hm
 rw [Zc9, hs]
 refine wpAny_bind (wpAny_standAt (wpAny_bind (wpAny_pure ?_)))
 simp only [Bool.false_eq_true, if_false]
 exact wpAny_bind ((S.ev v).go C R hm fun a s1 σ1 R1 q1 => Zle IH B SF F htt Q X σ1 s1 C R1 q1)
theorem Zi6 {gens : List Comprehension} {line : Nat} (h : nameE t = none) : swapsWith (.ListComp elt gens sc p) (some t) line env = pure false := by
 cases t with
 | Name x px => cases h
 | _ => rfl
theorem Zk7 {gens : List Comprehension} {line : Nat} : swapsWith (.ListComp elt gens sc p) (some t) line env = pure false ∨ (swapsWith (.ListComp elt gens sc p) (some t) line env = pure true ∧ ∃ x px, t = .Name x px) := by
 cases h : nameE t with
 | none => exact .inl (Zi6 h)
 | some x =>
   obtain ⟨px, rfl⟩ := Zd7 h; have e : ∃ b : Bool, swapsWith (.ListComp elt gens sc p) (some (.Name x px)) line env = pure b := ⟨_, rfl⟩; obtain ⟨b, hb⟩ := e; rw [hb]; cases b with
   | true => exact .inr ⟨rfl, x, px, rfl⟩
   | false => exact .inl rfl
theorem Zj5 (IH : SoundE P k n) (IH' : ∀ m, m < n + 1 → SoundE P k m) (B : Base c.prog c.w c.h₀ P) (SF : SoundF c.prog c.w c.h₀ P k) (F : Fit c (k + 1) g A) {gens : List Comprehension} (hs : swapsWithSole [.Name x px] (.ListComp elt gens sc p) pos.line c.env = pure true) :
   Sd c A fl (exec (.Assign [.Name x px] (.ListComp elt gens sc p) pos) c.env) (bnd (ev P n g (.ListComp elt gens sc p)) fun a => bnd (asg P n g (.Name x px) a) fun U => ret .next) := by
 intro Q X σ s C R hm
 rw [Zc9, hs]
 refine wpAny_bind (wpAny_standAt (wpAny_bind (wpAny_pure ?_)))
 simp only [if_true]
 cases n with
 | zero => exact hm.elim
 | succ n =>
   have S' := IH' n (by exact q73) c A g B SF F; cases gens with
   | nil => exact hm.elim
   | cons gg gens =>
     obtain ⟨tgt, iter, ifs, as⟩ := gg; cases as with
     | negSucc m => exact hm.elim
     | ofNat m =>
       cases m with
       | succ m => exact hm.elim
       | zero =>
         have e1 : ev P (n + 1) g (.ListComp elt (⟨tgt, iter, ifs, Int.ofNat 0⟩ :: gens) sc p) = if 2 ≤ g.lv || !scOk g sc then fail else bnd (itr P n g iter) fun src => fun Q X σ =>
           compGo (asgI (compSE g sc) tgt) (evC P n (compSE g sc) elt ifs gens) (fun σ' => src.holds σ'.H) src.items 0 (fun ys σ' => ys.length ≤ lim ∧ newA (.list ys) Q X ⟨σ.loc, σ'.H⟩) noX ⟨enterL (ownNames sc) σ.loc, σ.H⟩ := rfl
         rw [e1] at hm
         split at hm
         · exact hm.elim
         · rename_i h
           simp only [Bool.or_eq_true, Bool.not_eq_true', decide_eq_true_eq, not_or, Bool.not_eq_false] at h; have hlv : g.lv < 2 := by omega
           rcases S'.itr iter hlv with ⟨hset, hsrc⟩ | hf
           · have key := Zld (ipos := iter.pos) (u := fun v => assignAll v ((assignEach [.Name x px] c.env).map (·.2))) (mu := fun a => asg P (n + 1) g (.Name x px) a) F hlv (Zh9 h.2) hset hsrc (fun c' p1 p2 p3 F' => by
                 have S'' := IH' n (by exact q73) c' A (compSE g sc) (by rw [p1, p2, p3]; exact B) (by rw [p1, p2, p3]; exact SF) F'; exact S''.evC (⟨tgt, iter, ifs, 0⟩ :: gens) 0 elt ifs sc p (by refine (?_ : 1 < 2); decide))
               (fun ms v => by
                 have S3 := IH (c.with ms) A g B SF (F.with ms); exact S3.asg (.Name x px) v) (fun U σ' => Q .next σ') X σ s C R hm
             refine (?_ : wpAny c.M A (evalThenUse (.ListComp elt (⟨tgt, iter, ifs, 0⟩ :: gens) sc p) c.env _ >>= fun U => (pure Flow.next : Sem Flow)) _ _ s); have e3 : ∀ u, evalThenUse (.ListComp elt (⟨tgt, iter, ifs, 0⟩ :: gens) sc p) c.env u = (comprehension (.ListComp elt (⟨tgt, iter, ifs, 0⟩ :: gens) sc p) sc c.env iter.pos (newList []) false (eval iter c.env) (some u) >>= fun U => pure ()) := fun U => rfl; rw [e3]; exact wpAny_bind (wpAny_bind (wpAny_mono key (fun U s1 z => Oea z fun σ1 R1 q1 => wpAny_pure (wpAny_pure (Iea σ1 R1 q1))) fun U U h => h))
           · rw [hf] at hm
             exact hm.elim
end
section
variable {c : Cx} {A : Around} {n k : Nat} {g : SE} {P : Par}
theorem Zp9 (IH : SoundE P k n) (B : Base c.prog c.w c.h₀ P) (SF : SoundF c.prog c.w c.h₀ P k) (F : Fit c (k + 1) g A) (ss : List Stmt) : Sd c A fl (execs ss c.env) (exs P (n + 1) g ss) := by
 have S := IH c A g B SF F
 cases ss with
 | nil => exact fun Q X σ s C R hm => wpAny_execs_nil (Iea σ R hm)
 | cons st r =>
   intro Q X σ s C R hm; refine wpAny_execs_cons ((S.ex st).go C R hm fun f s1 σ1 R1 q1 => ?_); cases f with
   | next => exact S.exs r Q X σ1 s1 C R1 q1
   | brk => exact Iea σ1 R1 q1
   | cont => exact Iea σ1 R1 q1
   | ret v => exact Iea σ1 R1 q1
theorem augName (F : Fit c n g A) (B : Base c.prog c.w c.h₀ P) {v : Expr} {m : AM AV} (h : Sd c A er (eval v c.env) m) :
   Sd c A fl (exec (.AugAssign (.Name x px) op v pos) c.env) (bnd (rdN g x) fun a => bnd m fun b => bnd (augD op a b) fun r => bnd (stN g x r) fun U => ret .next) := by
 intro Q X σ s C R hm
 refine (?_ : wpAny c.M A (do
   standAt px
   let old ← loadName c.env x; let v ← PySem.holding [old] (eval v c.env)
   standAt pos
   let new ← operate [old, v] (inplaceOp op old v)
   standAt px
   bindName c.env x new
   pure Flow.next) _ _ s)
 exact wpAny_bind (wpAny_standAt (wpAny_bind ((Zmw B F x).go C R hm fun a s1 σ1 R1 q1 => wpAny_bind (wpAny_holding (h.go C R1 q1 fun b s2 σ2 R2 q2 =>
   wpAny_bind (wpAny_standAt (wpAny_bind (wpAny_operating ((Zq6 op a b).go C R2 q2 fun r s3 σ3 R3 q3 => wpAny_bind (wpAny_standAt (wpAny_bind ((Zjk F x r).go C R3 q3 fun U s4 σ4 R4 q4 => wpAny_pure (Iea σ4 R4 q4)))))))))))))
theorem augAttr (B : Base c.prog c.w c.h₀ P) {v : Expr} {tp : Pos} {m : AM AV} (ho : Sd c A er (eval o c.env) mo) (h : Sd c A er (eval v c.env) m) :
   Sd c A fl (exec (.AugAssign (.Attribute o nm tp) op v pos) c.env) (bnd mo fun ov => bnd (gaD ov nm) fun a => bnd m fun b => bnd (augD op a b) fun r => bnd (saD ov nm r) fun U => ret .next) := by
 intro Q X σ s C R hm
 exact wpAny_AugAssign_AttributeAny (ho.go C R hm fun ov s1 σ1 R1 q1 => (Zt8 B ov nm).go C R1 q1 fun a s2 σ2 R2 q2 => h.go C R2 q2 fun b s3 σ3 R3 q3 =>
   (Zq6 op a b).go C R3 q3 fun r s4 σ4 R4 q4 => (Zt7 B ov nm r).go C R4 q4 fun U s5 σ5 R5 q5 => (Iea σ5 R5 q5))
theorem Zua {i : Expr} (ho : Sd c A er (eval o c.env) mo) (hi : Sd c A er (eval i c.env) mi) :
   Sd c A fl (exec (.Delete [.Subscript o i p] pos) c.env) (bnd mo fun ov => bnd mi fun iv => bnd (diD ov iv) fun U => ret .next) := by
 intro Q X σ s C R hm
 refine wpAny_Delete ?_
 refine (?_ : wpAny c.M A ((do
   let ov ← eval o c.env; let iv ← PySem.holding [ov] (eval i c.env)
   standAt p
   PySem.holding [ov, iv] (delItem ov iv)
   release [ov, iv] []) >>= fun U => (pure () : Sem Unit)) _ _ s)
 exact wpAny_bind (wpAny_bind (ho.go C R hm fun ov s1 σ1 R1 q1 => wpAny_bind (wpAny_holding (hi.go C R1 q1 fun iv s2 σ2 R2 q2 =>
   wpAny_bind (wpAny_standAt (wpAny_bind (wpAny_holding ((Zvo ov iv).go C R2 q2 fun U s3 σ3 R3 q3 => wpAny_release (wpAny_pure (Iea σ3 R3 q3))))))))))
theorem Zvn {a b : List Stmt} {ma : AM DFlow} (ht : Sd c A id (isTrue t c.env (eval t c.env)) mt) (ha : Sd c A fl (execs a c.env) ma) (hb : Sd c A fl (execs b c.env) mb) :
   Sd c A fl (exec (.If t a b pos) c.env) (bnd mt fun cc => if cc then ma else mb) := by
 intro Q X σ s C R hm
 refine (?_ : wpAny c.M A (do
   standAt pos
   if ← isTrue t c.env (eval t c.env) then execs a c.env else execs b c.env) _ _ s)
 refine wpAny_bind (wpAny_standAt (wpAny_bind (ht.go C R hm fun cc s1 σ1 R1 q1 => ?_)))
 cases cc with
 | true => exact ha Q X σ1 s1 C R1 q1
 | false => exact hb Q X σ1 s1 C R1 q1
theorem Zmu {e : Option Expr} {m : AM AV} (h : Sd c A er (valueOrNone (evalOpt e c.env)) m) (h0 : e = none → m = ret .none ∨ m = fail) : Sd c A fl (exec (.Return e pos) c.env) (bnd m fun v => ret (.ret v)) := by
 intro Q X σ s C R hm
 cases e with
 | none =>
   refine (?_ : wpAny c.M A (do standAt pos; pure (Flow.ret .none)) _ _ s); rcases h0 rfl with h0 | h0
   · subst h0; exact wpAny_bind (wpAny_standAt (wpAny_pure (Iea σ R hm)))
   · subst h0; exact hm.elim
 | some e =>
   refine (?_ : wpAny c.M A (do standAt pos; let x ← eval e c.env; pure (Flow.ret x)) _ _ s); exact wpAny_bind (wpAny_standAt (wpAny_bind (h.go C R hm fun x s1 σ1 R1 q1 => wpAny_pure ⟨σ1, R1, q1⟩)))
theorem Zj2 (u : Expr) (env : Env) : ∃ z, (assignEach [u] env).map (·.2) = [z] := by cases u <;> exact ⟨_, rfl⟩
theorem Zj4 (S : SoundAt P n c A g) (u : Expr) (a : Value) : Sd c A id (assignAll a ((assignEach [u] c.env).map (·.2))) (asg P n g u (er a)) := by
 by_cases h : ∃ e p, u = .Starred e p
 · obtain ⟨e, p, rfl⟩ := h
   rw [Zfo]; exact Sd.fail
 · rw [Zei (fun e p q => h ⟨e, p, q⟩)]
   exact S.asg u a
theorem Zgi (IH : SoundE P k n) (B : Base c.prog c.w c.h₀ P) (SF : SoundF c.prog c.w c.h₀ P k) (F : Fit c (k + 1) g A) {u v : Expr} (hsw : swappedStores [t, u] v c.env = pure none) (he : (assignEach [t, u] c.env).map (·.2) = assign t c.env :: (assignEach [u] c.env).map (·.2)) :
   Sd c A fl (exec (.Assign [t, u] v pos) c.env) (bnd (ev P n g v) fun a => bnd (asg P n g t a) fun U => bnd (asg P n g u a) fun U => ret .next) := by
 have S := IH c A g B SF F
 intro Q X σ s C R hm
 rw [Zc9, hsw]
 refine wpAny_bind (wpAny_standAt (wpAny_bind (wpAny_pure ?_)))
 refine wpAny_bind ((S.ev v).go C R hm fun a s1 σ1 R1 q1 => wpAny_bind (wpAny_pure ?_))
 have Su := Zj4 S u a
 obtain ⟨z, hz⟩ := Zj2 u c.env
 rw [hz] at Su
 rw [he, hz]
 refine (?_ : wpAny c.M A ((PySem.holding [a] (assign t c.env a) >>= fun U => assignAll a [z]) >>= fun U => (pure Flow.next : Sem Flow)) _ _ s1)
 exact wpAny_bind (wpAny_bind (wpAny_holding ((S.asg t a).go C R1 q1 fun U s2 σ2 R2 q2 => Su.go C R2 q2 fun U s3 σ3 R3 q3 => wpAny_pure (Iea σ3 R3 q3))))
end
section
variable {c : Cx} {A : Around} {n k : Nat} {g : SE} {P : Par}
theorem swapName {u v : Expr} : swappedStores [.Name x px, u] v env = pure none := by cases v <;> rfl
theorem swapSub {x y : Expr} {u v : Expr} : swappedStores [.Subscript x y px, u] v env = pure none := by cases v <;> rfl
theorem Zqc : evO P n g none = ret .none ∨ evO P n g none = fail := by cases n; exact .inr rfl; exact .inl rfl
theorem Zly (IH : SoundE P k n) (IH' : ∀ m, m < n + 1 → SoundE P k m) (B : Base c.prog c.w c.h₀ P) (SF : SoundF c.prog c.w c.h₀ P k) (F : Fit c (k + 1) g A) {v : Expr} (htt : tupTup t v = false) :
   Sd c A fl (exec (.Assign [t] v pos) c.env) (bnd (ev P n g v) fun a => bnd (asg P n g t a) fun U => ret .next) := by
 cases hc : isComp v with
 | true =>
   obtain ⟨a, b, d, f, rfl⟩ := Znp hc; rcases Zk7 (elt := a) (gens := b) (sc := d) (p := f) (t := t) (line := pos.line) (env := c.env) with h | ⟨h, x, px, rfl⟩
   · exact Zej IH B SF F htt h
   · exact Zj5 IH IH' B SF F h
 | false =>
   rcases noComp (P := P) (n := n) (g := g) hc with h | h
   · rw [h]; exact Sd.fail
   · exact Zej IH B SF F htt (h _ _ _)
theorem Zqs (IH : SoundE P k n) (B : Base c.prog c.w c.h₀ P) (SF : SoundF c.prog c.w c.h₀ P k) (F : Fit c (k + 1) g A) {u v : Expr} (h : (isComp v || !plainT t) = false) :
   Sd c A fl (exec (.Assign [t, u] v pos) c.env) (bnd (ev P n g v) fun a => bnd (asg P n g t a) fun U => bnd (asg P n g u a) fun U => ret .next) := by
 have h2 : plainT t = true := by
   have := (Bool.or_eq_false_iff.mp h).2; cases q : plainT t with
   | true => rfl
   | false => rw [q] at this; exact Zai this.symm
 rcases Zlh h2 with ⟨x, px, rfl⟩ | ⟨x, y, px, rfl⟩
 · exact Zgi IH B SF F swapName rfl
 · exact Zgi IH B SF F swapSub rfl
theorem Zs3 (IH : SoundE P k n) (IH' : ∀ m, m < n + 1 → SoundE P k m) (B : Base c.prog c.w c.h₀ P) (SF : SoundF c.prog c.w c.h₀ P k) (F : Fit c (k + 1) g A) (st : Stmt) : Sd c A fl (exec st c.env) (ex P (n + 1) g st) := by
 have S := IH c A g B SF F
 have Sw : ∀ ms, SoundAt P n (c.with ms) A g := fun ms => IH (c.with ms) A g B SF (F.with ms)
 cases st with
 | Expr e pos =>
   have e1 : ex P (n + 1) g (.Expr e pos) = if isComp e then fail else bnd (ev P n g e) fun U => ret .next := rfl
   rw [e1]; cases hc : isComp e with
   | true => exact Sd.fail
   | false =>
     rcases noComp (P := P) (n := n) (g := g) hc with h | h
     · rw [h]; exact Sd.fail
     · exact Zjh F (h _ _ _) (S.ev e)
 | Pass pos => exact fun Q X σ s C R hm => wpAny_bind (wpAny_standAt (wpAny_pure (Iea σ R hm)))
 | Break pos => exact fun Q X σ s C R hm => wpAny_bind (wpAny_standAt (wpAny_pure (Iea σ R hm)))
 | Continue pos => exact fun Q X σ s C R hm => wpAny_bind (wpAny_standAt (wpAny_pure (Iea σ R hm)))
 | Return e pos => exact Zmu (S.evO e) fun h => by subst h; exact Zqc
 | Assign ts v pos =>
   cases ts with
   | nil => exact Sd.fail
   | cons t ts =>
     cases ts with
     | nil => exact Sd.unless fun h => Zly IH IH' B SF F h
     | cons u ts =>
       cases ts with
       | cons _ _ => exact Sd.fail
       | nil => exact Sd.unless fun h => Zqs IH B SF F h
 | AugAssign t op v pos =>
   cases t with
   | Name x px => exact augName F B (S.ev v)
   | Attribute o nm tp => exact augAttr B (S.ev o) (S.ev v)
   | _ => exact Sd.fail
 | Delete ts pos =>
   refine Sd.look (fun U => Sd.fail) fun q hq => ?_; obtain ⟨t, h1, h2⟩ := Option.bind_eq_some_iff.mp hq; obtain ⟨p, h3⟩ := Zo5 h2; rw [Zfg h1, h3]; exact Zua (S.ev q.1) (S.ev q.2)
 | If t a b pos => exact Zvn (S.tr t) (S.exs a) (S.exs b)
 | While t body orelse pos =>
   have e1 : ex P (n + 1) g (.While t body orelse pos) = if g.lv = 1 then fail else fun Q X σ => ∀ I : St → Prop,
     (∀ σ', (tr P n g t) (fun b σ1 => if b
         then exs P n g body (fun fl σ2 => match fl with
           | .next | .cont => I σ2
           | .brk => Q .next σ2
           | .ret v => Q (.ret v) σ2) X σ1
         else exs P n g orelse Q X σ1) X σ' → I σ') → I σ := rfl
   rw [e1]
   split
   · exact Sd.fail
   · rename_i h
     exact Zpc F h (S.tr t) (S.exs body) (S.exs orelse)
 | For t iter body orelse pos =>
   cases t with
   | Name x px =>
     cases orelse with
     | cons _ _ => exact Sd.fail
     | nil =>
       have e1 : ex P (n + 1) g (.For (.Name x px) iter body [] pos) = if 2 ≤ g.lv || isSetE iter then fail else bnd (ev P n g iter) fun v => bnd (srcD v) fun src =>
           fun Q U σ => forGo (asgI g (.Name x px)) (exs P n g body) (fun σ' => src.holds σ'.H) src.items Q noX σ := rfl
       rw [e1]
       split
       · exact Sd.fail
       · rename_i h
         simp only [Bool.or_eq_true, decide_eq_true_eq, not_or, Bool.not_eq_true] at h; exact Zt9 B F (by omega) h.2 (S.ev iter) fun hs => (Sw hs).exs body
   | _ => exact Sd.fail
 | Try body hs orelse fin pos =>
   have St : ∀ c' A' g', c'.prog = c.prog → c'.w = c.w → c'.h₀ = c.h₀ → Fit c' (k + 1) g' A' → SoundAt P n c' A' g' := fun c' A' g' p1 p2 p3 F' => IH c' A' g' (by rw [p1, p2, p3]; exact B) (by rw [p1, p2, p3]; exact SF) F'; cases orelse with
   | cons _ _ => exact Sd.fail
   | nil =>
     cases hs with
     | nil =>
       refine Sd.when fun h => ?_; simp only [Bool.and_eq_true, decide_eq_true_eq, Bool.not_eq_true'] at h; exact Zlc F h.1 h.2 (S.exs body) (S.exs fin) fun c' A' p1 p2 p3 p4 F' => by
         have := (St c' A' _ p1 p2 p3 F').exs fin; rw [p4] at this; exact this
     | cons hd hs =>
       refine (?_ : Sd c A fl (exec (.Try body (hd :: hs) [] fin pos) c.env) ((handE (hd :: hs)).elim fail _)); refine Sd.look (fun U => Sd.fail) fun q hq => Sd.when fun h => ?_; simp only [Bool.and_eq_true, decide_eq_true_eq, List.isEmpty_iff] at h; refine Oee (Znq hq) ?_; intro px hpos e1; rw [e1, h.1]; exact Zt5 B F h.2.1 h.2.2 (S.exs body) fun c' A' p1 p2 p3 p4 F' => by
         have := (St c' A' _ p1 p2 p3 F').exs q.2; rw [p4] at this; exact this
 | _ => exact Sd.fail
theorem Zh5 (P : Par) (k : Nat) : ∀ n, SoundE P k n := by
 intro n
 induction n using Nat.strongRecOn with
 | ind n ih =>
   cases n with
   | zero => exact fun c A g U U U => sound0
   | succ n =>
     have IH := ih n (Nat.lt_succ_self n); intro c A g B SF F; exact {
       ev := Zs4 IH B SF F
       tr := Zr6 IH B SF F
       evs := fun es pos hp => Zqa IH B SF F es pos hp
       evA := fun f es pos => Zqf IH B SF F f es pos
       evB := Zqe IH B SF F
       trB := Zo2 IH B SF F
       itr := fun e h => Zpu IH B SF F e h
       evO := Zqb IH B SF F
       evC := fun gens d elt ifs sc pos h => Zqd IH B SF F gens d elt ifs sc pos h
       asg := Zqt IH B SF F
       ex := Zs3 IH ih B SF F
       exs := Zp9 IH B SF F }
end
structure Gr (H : AH) (n2 : Addr) (ks : List Str) (ad sd : Str → Addr) (np : Str → Int) (ch : Str → List Str) : Prop where
 n2 : ∃ ep, H n2 = some (.dict (ks.map fun k => (k, .ref (ad k))) ep)
 nd : ks.Nodup
 node : ∀ k ∈ ks, ∃ d, (∃ o, H d = some o) ∧ H (ad k) = some (.node 102 d [some (.str k), some (.int (np k)), some (.ref (sd k))])
 suc : ∀ k ∈ ks, H (sd k) = some (.list ((ch k).map .str))
 inj : ∀ k ∈ ks, ∀ l ∈ ks, sd k = sd l → k = l
 out : ∀ k, k ∉ ks → np k = 0 ∧ ch k = []
structure Grew (H H' : AH) (n2 : Addr) (ks : List Str) (ad sd : Str → Addr) (ks' : List Str) (ad' sd' : Str → Addr) : Prop where
 old : ∀ k ∈ ks, k ∈ ks' ∧ ad' k = ad k ∧ sd' k = sd k
 new : ∀ k ∈ ks', k ∉ ks → H (ad' k) = none ∧ H (sd' k) = none
 fr : ∀ b o, H b = some o → b ≠ n2 → (∀ k ∈ ks, b ≠ ad k ∧ b ≠ sd k) → H' b = some o
theorem Grew.refl (H : AH) (n2 : Addr) (ks : List Str) (ad sd : Str → Addr) : Grew H H n2 ks ad sd ks ad sd := ⟨fun U h => ⟨h, rfl, rfl⟩, fun U h k => absurd h k, fun U U h U U => h⟩
theorem Grew.trans {k1 k2 : List Str} {a1 s1 a2 s2 : Str → Addr} (g : Grew H H1 n2 ks ad sd k1 a1 s1) (g' : Grew H1 H2 n2 k1 a1 s1 k2 a2 s2) (hn : ∀ k ∈ k1, (∃ o, H1 (a1 k) = some o) ∧ ∃ o, H1 (s1 k) = some o)
   (hk : ∀ b, H1 b = none → H b = none) : Grew H H2 n2 ks ad sd k2 a2 s2 where
 old k h := Oaa (g.old k h) fun h1 e1 e2 => Oaa (g'.old k h1) fun h2 e3 e4 => ⟨h2, e3.trans e1, e4.trans e2⟩
 new k h q := by
   by_cases h1 : k ∈ k1
   · refine Oaa (g'.old k h1) ?_; intro U e1 e2
     rw [e1, e2]; exact g.new k h1 q
   · refine Oa (g'.new k h h1) ?_; intro e1 e2
     exact ⟨hk _ e1, hk _ e2⟩
 fr b o h hb hf := by
   refine g'.fr b o (g.fr b o h hb hf) hb fun k hk1 => ?_; by_cases q : k ∈ ks
   · refine Oaa (g.old k q) ?_; intro U e1 e2
     rw [e1, e2]; exact hf k q
   · refine Oa (g.new k hk1 q) ?_; intro e1 e2
     exact ⟨Zag h e1, Zag h e2⟩
noncomputable def addK (ks : List Str) (k : Str) : List Str := if k ∈ ks then ks else ks ++ [k]
theorem Zd8 {k l : Str} : l ∈ addK ks k ↔ l ∈ ks ∨ l = k := by
 delta addK; split
 · constructor
   · exact .inl
   · rintro (h | rfl) <;> assumption
 · simp
theorem Zl0 {k : Str} (h : ks.Nodup) : (addK ks k).Nodup := by
 delta addK; split
 · exact h
 · rw [List.nodup_append]
   exact ⟨h, by simp, fun a ha b hb => by rw [List.mem_singleton.mp hb]; rintro rfl; contradiction⟩
theorem Zd9 {ad : Str → Addr} : ∀ {ks : List Str} {k : Str}, lookA (ks.map fun k => (k, AV.ref (ad k))) k = if k ∈ ks then some (.ref (ad k)) else none
 | [], k => rfl
 | l :: r, k => by
   have ih := Zd9 (ad := ad) (ks := r) (k := k); unfold lookA at ih ⊢; rw [List.map_cons, List.find?_cons]; by_cases e : l = k
   · subst e; simp
   · rw [decide_eq_false e]
     refine (?_ : Option.map _ (List.find? _ _) = _); rw [ih]; simp only [List.mem_cons]; by_cases q : k ∈ r
     · rw [if_pos q, if_pos (.inr q)]
     · rw [if_neg q, if_neg (by rintro (h | h); exact e h.symm; exact q h)]
theorem Zsj {k : Str} (h : k ∉ ks) : putA (ks.map fun k => (k, AV.ref (ad k))) k v = (ks.map fun k => (k, AV.ref (ad k))) ++ [(k, v)] := by
 delta putA
 rw [if_neg]
 rw [List.any_map, List.any_eq_true]
 intro y_1; refine Oea y_1 ?_; clear y_1; intro x hx e
 have e' : x = k := of_decide_eq_true e
 exact h (e' ▸ hx)
noncomputable def setF {α : Type} (f : Str → α) (k : Str) (v : α) : Str → α := fun l => if l = k then v else f l
theorem Zbf {α : Type} (f : Str → α) (k : Str) (v : α) : setF f k v k = v := if_pos rfl
theorem Zbq {α : Type} (f : Str → α) {k l : Str} (v : α) (h : l ≠ k) : setF f k v l = f l := if_neg h
section
variable {H : AH} {n2 : Addr} {ks : List Str} {ad sd : Str → Addr} {np : Str → Int} {ch : Str → List Str}
theorem Gr.adne (G : Gr H n2 ks ad sd np ch) {k l : Str} (hk : k ∈ ks) (hl : l ∈ ks) (h : ad k = ad l) : k = l := by
 refine Oea (G.node k hk) ?_; intro U U e1
 refine Oea (G.node l hl) ?_; intro U U e2
 rw [h, e2] at e1
 cases e1; rfl
theorem Gr.ne1 (G : Gr H n2 ks ad sd np ch) {k l : Str} (hk : k ∈ ks) (hl : l ∈ ks) : ad k ≠ sd l := by
 refine Oea (G.node k hk) ?_; intro U U e1
 have e2 := G.suc l hl
 intro e; rw [e, e2] at e1; cases e1
theorem Gr.ne2 (G : Gr H n2 ks ad sd np ch) {k : Str} (hk : k ∈ ks) : ad k ≠ n2 := by
 refine Oea (G.node k hk) ?_; intro U U e1
 refine Oe G.n2 ?_; intro U e2
 intro e; rw [e, e2] at e1; cases e1
theorem Gr.ne3 (G : Gr H n2 ks ad sd np ch) {k : Str} (hk : k ∈ ks) : sd k ≠ n2 := by
 have e1 := G.suc k hk
 refine Oe G.n2 ?_; intro U e2
 intro e; rw [e, e2] at e1; cases e1
theorem Gr.keep (G : Gr H n2 ks ad sd np ch) (k1 : H' n2 = H n2) (k2 : ∀ k ∈ ks, H' (ad k) = H (ad k)) (k3 : ∀ k ∈ ks, H' (sd k) = H (sd k)) (k4 : ∀ b o, H b = some o → ∃ o', H' b = some o') : Gr H' n2 ks ad sd np ch where
 n2 := by rw [k1]; exact G.n2
 nd := G.nd
 node k h := Oea (G.node k h) fun d q e2 => (Iea d (Oe q fun o e => k4 d o e) (by rw [k2 k h]; exact e2))
 suc k h := by rw [k3 k h]; exact G.suc k h
 inj := G.inj
 out := G.out
theorem Gr.ext (G : Gr H n2 ks ad sd np ch) (E : HExt H H') : Gr H' n2 ks ad sd np ch := by
 refine G.keep ?_ (fun k h => ?_) (fun k h => ?_) fun b o e => ⟨o, E b o e⟩
 · (refine Oe G.n2 ?_; intro U e); rw [e, E _ _ e]
 · (refine Oea (G.node k h) ?_; intro U U e); rw [e, E _ _ e]
 · have e := G.suc k h; rw [e, E _ _ e]
theorem Gr.side (G : Gr H n2 ks ad sd np ch) {o : AObj} (h1 : b ≠ n2) (h2 : ∀ k ∈ ks, b ≠ ad k ∧ b ≠ sd k) : Gr (upd H b o) n2 ks ad sd np ch :=
 G.keep (Zay _ _ h1.symm) (fun k h => Zay _ _ (h2 k h).1.symm) (fun k h => Zay _ _ (h2 k h).2.symm) fun x y e => by
   by_cases q : x = b
   · subst q; exact ⟨o, upd_same _ _ _⟩
   · exact ⟨y, Zaa e q⟩
theorem Gr.setNp (G : Gr H n2 ks ad sd np ch) {k : Str} (hk : k ∈ ks) {i : Int} (hd : ∃ o, H d = some o) : Gr (upd H (ad k) (.node 102 d [some (.str k), some (.int i), some (.ref (sd k))])) n2 ks ad sd (setF np k i) ch where
 n2 := Oe (G.n2) fun ep e => ⟨ep, Zaa e (G.ne2 hk).symm⟩
 nd := G.nd
 node l hl := by
   have live : ∀ x, (∃ o, H x = some o) → ∃ o, upd H (ad k) (.node 102 d [some (.str k), some (.int i), some (.ref (sd k))]) x = some o := fun x z => Oe z fun o e => by
     by_cases q : x = ad k
     · subst q; exact ⟨_, upd_same _ _ _⟩
     · exact ⟨o, Zaa e q⟩
   by_cases q : l = k
   · subst q; exact Iea d (live d hd) (by rw [upd_same, Zbf])
   · refine Oea (G.node l hl) ?_; intro d' h1 h2
     exact Iea d' (live d' h1) (by rw [Zay _ _ (fun e => q (G.adne hl hk e)), Zbq _ _ q]; exact h2)
 suc l hl := Zaa (G.suc l hl) (G.ne1 hk hl).symm
 inj := G.inj
 out l hl := ⟨by rw [Zbq _ _ (by rintro rfl; exact hl hk)]; exact (G.out l hl).1, (G.out l hl).2⟩
theorem Gr.setCh (G : Gr H n2 ks ad sd np ch) {k : Str} (hk : k ∈ ks) {xs : List Str} : Gr (upd H (sd k) (.list (xs.map .str))) n2 ks ad sd np (setF ch k xs) where
 n2 := Oe (G.n2) fun ep e => ⟨ep, Zaa e (G.ne3 hk).symm⟩
 nd := G.nd
 node l hl := by
   refine Oea (G.node l hl) ?_; intro d z_1 h2; (refine Oe z_1 ?_; clear z_1; intro o e); refine (Iea d ?_ (Zaa h2 (G.ne1 hl hk))); by_cases q : d = sd k
   · subst q; exact ⟨_, upd_same _ _ _⟩
   · exact ⟨o, Zaa e q⟩
 suc l hl := by
   by_cases q : l = k
   · subst q; rw [upd_same, Zbf]
   · rw [Zay _ _ (fun e => q (G.inj l hl k hk e)), Zbq _ _ q]; exact G.suc l hl
 inj := G.inj
 out l hl := ⟨(G.out l hl).1, by rw [Zbq _ _ (by rintro rfl; exact hl hk)]; exact (G.out l hl).2⟩
end
noncomputable def tsD (n2 : Addr) (rn : AV) (p f : Int) : List (Str × AV) := [("_node2info", .ref n2), ("_ready_nodes", rn), ("_npassedout", .int p), ("_nfinished", .int f)]
structure TsAt (H : AH) (x d n2 : Addr) (rn : AV) (p f : Int) : Prop where
 hx : H x = some (.inst 199 d)
 hd : ∃ ep, H d = some (.dict (tsD n2 rn p f) ep)
 ne : d ≠ n2
theorem TsAt.away {x : Addr} {p : Int} (T : TsAt H x d n2 rn p f) {np : Str → Int} {ch : Str → List Str} (G : Gr H n2 ks ad sd np ch) :
   x ≠ n2 ∧ (∀ k ∈ ks, x ≠ ad k ∧ x ≠ sd k) ∧ ∀ k ∈ ks, d ≠ ad k ∧ d ≠ sd k := by
 refine Oe T.hd ?_; intro U hd
 have hx := T.hx
 refine ⟨?_, fun k h => ⟨?_, ?_⟩, fun k h => ⟨?_, ?_⟩⟩
 · (refine Oe G.n2 ?_; intro U e); rintro rfl; rw [hx] at e; cases e
 · (refine Oea (G.node k h) ?_; intro U U e); intro q; rw [q, e] at hx; cases hx
 · have e := G.suc k h; intro q; rw [q, e] at hx; cases hx
 · (refine Oea (G.node k h) ?_; intro U U e); intro q; rw [q, e] at hd; cases hd
 · have e := G.suc k h; intro q; rw [q, e] at hd; cases hd
theorem TsAt.grew {x : Addr} {p : Int} (T : TsAt H x d n2 rn p f) {ks' : List Str} {ad' sd' : Str → Addr} {np : Str → Int} {ch : Str → List Str} (G : Gr H n2 ks ad sd np ch) (g : Grew H H' n2 ks ad sd ks' ad' sd') : TsAt H' x d n2 rn p f :=
 Oaa (T.away G) fun a1 a2 a3 => Oe (T.hd) fun ep hd => ⟨g.fr _ _ T.hx a1 a2, ⟨ep, g.fr _ _ hd T.ne a3⟩, T.ne⟩
theorem Gr.more {np : Str → Int} {ch : Str → List Str} (G : Gr H n2 ks ad sd np ch) {k : Str} (hk : k ∉ ks) {dn s : Addr} (ha : H a = none) (hs : H s = none) (g1 : H' a = some (.node 102 dn [some (.str k), some (.int 0), some (.ref s)])) (g2 : ∃ o, H' dn = some o) (g3 : H' s = some (.list []))
   (g4 : H' n2 = some (.dict (putA (ks.map fun k => (k, AV.ref (ad k))) k (.ref a)) ep)) (fr : ∀ b o, b ≠ n2 → H b = some o → H' b = some o) : Gr H' n2 (addK ks k) (setF ad k a) (setF sd k s) np ch ∧ Grew H H' n2 ks ad sd (addK ks k) (setF ad k a) (setF sd k s) := by
 have ek : addK ks k = ks ++ [k] := if_neg hk
 have live : ∀ x, (∃ o, H x = some o) → ∃ o, H' x = some o := fun x z => Oe z fun o e => by
   by_cases q : x = n2
   · subst q; exact ⟨_, g4⟩
   · exact ⟨o, fr x o q e⟩
 have nk : ∀ l ∈ ks, l ≠ k := fun l h e => hk (e ▸ h)
 refine Oa (G.out k hk) ?_; intro o1 o2
 rw [ek]
 refine ⟨⟨⟨ep, ?_⟩, ek ▸ Zl0 G.nd, fun l hl => ?_, fun l hl => ?_, fun l hl l' hl' e => ?_, fun l hl => G.out l fun h => hl (List.mem_append_left _ h)⟩, ⟨fun l h => ⟨List.mem_append_left _ h, Zbq _ _ (nk l h), Zbq _ _ (nk l h)⟩, fun l hl q => ?_, fun b o h hb U => fr b o hb h⟩⟩
 · rw [g4, Zsj hk, List.map_append]
   congr 3
   · exact List.map_congr_left fun l h => by rw [Zbq _ _ (nk l h)]
   · rw [List.map_singleton, Zbf]
 · rcases List.mem_append.mp hl with h | h
   · refine Oea (G.node l h) ?_; intro d h1 h2
     rw [Zbq _ _ (nk l h), Zbq _ _ (nk l h)]; exact Iea d (live d h1) (fr _ _ (G.ne2 h) h2)
   · rw [List.mem_singleton.mp h, Zbf, Zbf, o1]; exact Iea dn g2 g1
 · rcases List.mem_append.mp hl with h | h
   · rw [Zbq _ _ (nk l h)]; exact fr _ _ (G.ne3 h) (G.suc l h)
   · rw [List.mem_singleton.mp h, Zbf, o2]; exact g3
 · rcases List.mem_append.mp hl with h | h <;> rcases List.mem_append.mp hl' with h' | h'
   · rw [Zbq _ _ (nk l h), Zbq _ _ (nk l' h')] at e; exact G.inj l h l' h' e
   · rw [List.mem_singleton.mp h', Zbf, Zbq _ _ (nk l h)] at e
     exact absurd e (Zag (G.suc l h) hs)
   · rw [List.mem_singleton.mp h, Zbf, Zbq _ _ (nk l' h')] at e
     exact absurd e.symm (Zag (G.suc l' h') hs)
   · rw [List.mem_singleton.mp h, List.mem_singleton.mp h']
 · rcases List.mem_append.mp hl with h | h
   · exact absurd h q
   · rw [List.mem_singleton.mp h, Zbf, Zbf]; exact ⟨ha, hs⟩
theorem Grew.live {ks' : List Str} {ad' sd' : Str → Addr} {np : Str → Int} {ch : Str → List Str} (g : Grew H H' n2 ks ad sd ks' ad' sd') (G' : Gr H' n2 ks' ad' sd' np ch) (hb : H' b = none) : H b = none := by
 cases q : H b with
 | none => rfl
 | some o =>
   have h1 : b ≠ n2 := by (refine Oe G'.n2 ?_; intro U e); exact (Zag e hb).symm
   have h2 : ∀ k ∈ ks, b ≠ ad k ∧ b ≠ sd k := fun k hk => by
     refine Oaa (g.old k hk) ?_; intro h e1 e2; refine Oea (G'.node k h) ?_; intro U U e3; rw [← e1, ← e2]; exact ⟨(Zag e3 hb).symm, (Zag (G'.suc k h) hb).symm⟩
   have := (g.fr b o q h1 h2).symm.trans hb; exact Zab (Eq.symm this)
theorem Grew.then {k1 k2 : List Str} {a1 s1 a2 s2 : Str → Addr} {np : Str → Int} {ch : Str → List Str} (g : Grew H H1 n2 ks ad sd k1 a1 s1) (G1 : Gr H1 n2 k1 a1 s1 np ch) (g' : Grew H1 H2 n2 k1 a1 s1 k2 a2 s2) : Grew H H2 n2 ks ad sd k2 a2 s2 :=
 g.trans g' (fun k hk => Oea (G1.node k hk) fun U U q => ⟨⟨_, q⟩, ⟨_, G1.suc k hk⟩⟩) fun U hb => g.live G1 hb
theorem Gr.away_tup {np : Str → Int} {ch : Str → List Str} (G : Gr H n2 ks ad sd np ch) (h : H b = some (.tup xs)) : b ≠ n2 ∧ ∀ k ∈ ks, b ≠ ad k ∧ b ≠ sd k := by
 refine ⟨?_, fun k hk => ⟨?_, ?_⟩⟩
 · (refine Oe G.n2 ?_; intro U e); rintro rfl; rw [h] at e; cases e
 · (refine Oea (G.node k hk) ?_; intro U U e); intro q; rw [q, e] at h; cases h
 · have e := G.suc k hk; intro q; rw [q, e] at h; cases h
theorem Ze5 {k : Str} : (addK ks k).length ≤ ks.length + 1 := by
 delta addK; split
 · exact Nat.le_succ _
 · rw [List.length_append]; exact Nat.le_refl _
noncomputable def ksA (ks : List Str) (m : Str) : Option Str → List Str
 | none => addK ks m
 | some p => addK (addK ks m) p
noncomputable def npA (np : Str → Int) (m : Str) (po : Option Str) : Str → Int := setF np m (np m + ((po.toList.map AV.str).length : Int))
noncomputable def chA (ch : Str → List Str) (m : Str) : Option Str → Str → List Str
 | none => ch
 | some p => setF ch p (ch p ++ [m])
theorem Gr.away_list {np : Str → Int} {ch : Str → List Str} (G : Gr H n2 ks ad sd np ch) (h : H b = some (.list xs)) (hs : ∀ k ∈ ks, b ≠ sd k) : b ≠ n2 ∧ ∀ k ∈ ks, b ≠ ad k ∧ b ≠ sd k := by
 refine ⟨?_, fun k hk => ⟨?_, hs k hk⟩⟩
 · (refine Oe G.n2 ?_; intro U e); intro q; rw [q, e] at h; cases h
 · (refine Oea (G.node k hk) ?_; intro U U e); intro q; rw [q, e] at h; cases h
noncomputable def Side (n2 d rl : Addr) (ks : List Str) (ad sd : Str → Addr) (b : Addr) : Prop := b ≠ n2 ∧ b ≠ d ∧ b ≠ rl ∧ ∀ k ∈ ks, b ≠ ad k ∧ b ≠ sd k
structure Sorter (H : AH) (x d n2 rl : Addr) (rs : List Str) (p f : Int) (ks : List Str) (ad sd : Str → Addr) (np : Str → Int) (ch : Str → List Str) : Prop where
 T : TsAt H x d n2 (.ref rl) p f
 G : Gr H n2 ks ad sd np ch
 hr : H rl = some (.list (rs.map .str))
 rn : ∀ k ∈ ks, rl ≠ sd k
noncomputable def FrS (H H' : AH) (n2 d rl : Addr) (ks : List Str) (ad sd : Str → Addr) : Prop := ∀ b o, Side n2 d rl ks ad sd b → H b = some o → H' b = some o
theorem FrS.refl (H : AH) (n2 d rl : Addr) (ks : List Str) (ad sd : Str → Addr) : FrS H H n2 d rl ks ad sd := fun U U U h => h
theorem FrS.trans (a : FrS H H1 n2 d rl ks ad sd) (b : FrS H1 H2 n2 d rl ks ad sd) : FrS H H2 n2 d rl ks ad sd := fun x o s h => b x o s (a x o s h)
section
variable {H : AH} {x d n2 rl : Addr} {rs : List Str} {p f : Int} {ks : List Str} {ad sd : Str → Addr} {np : Str → Int} {ch : Str → List Str}
theorem Sorter.facts (S : Sorter H x d n2 rl rs p f ks ad sd np ch) : x ≠ n2 ∧ x ≠ d ∧ x ≠ rl ∧ d ≠ n2 ∧ d ≠ rl ∧ rl ≠ n2 ∧ ∀ k ∈ ks, x ≠ ad k ∧ x ≠ sd k ∧ d ≠ ad k ∧ d ≠ sd k ∧ rl ≠ ad k ∧ rl ≠ sd k ∧ ad k ≠ n2 ∧ sd k ≠ n2 := by
 refine Oaa (S.T.away S.G) ?_; intro a1 a2 a3
 have hx := S.T.hx
 refine Oe S.T.hd ?_; intro U hd
 have hr := S.hr
 refine Oe S.G.n2 ?_; intro U hn
 have q1 : x ≠ d := by intro q; rw [q, hd] at hx; cases hx
 have q2 : x ≠ rl := by intro q; rw [q, hr] at hx; cases hx
 have q3 : d ≠ rl := by intro q; rw [q, hr] at hd; cases hd
 have q4 : rl ≠ n2 := by intro q; rw [q, hn] at hr; cases hr
 refine ⟨a1, q1, q2, S.T.ne, q3, q4, fun k h => ⟨(a2 k h).1, (a2 k h).2, (a3 k h).1, (a3 k h).2, ?_, S.rn k h, S.G.ne2 h, S.G.ne3 h⟩⟩
 refine Oea (S.G.node k h) ?_; intro U U e
 intro q; rw [q, e] at hr; cases hr
theorem Sorter.side (S : Sorter H x d n2 rl rs p f ks ad sd np ch) (hb : H b = none) : Side n2 d rl ks ad sd b :=
 ⟨by (refine Oe S.G.n2 ?_; intro U e); exact (Zag e hb).symm, by (refine Oe S.T.hd ?_; intro U e); exact (Zag e hb).symm, (Zag S.hr hb).symm, fun k h => by
   (refine Oea (S.G.node k h) ?_; intro U U e); exact ⟨(Zag e hb).symm, (Zag (S.G.suc k h) hb).symm⟩⟩
theorem Sorter.ext (S : Sorter H x d n2 rl rs p f ks ad sd np ch) (E : HExt H H') : Sorter H' x d n2 rl rs p f ks ad sd np ch :=
 ⟨⟨E _ _ S.T.hx, Oe (S.T.hd) fun ep e => ⟨ep, E _ _ e⟩, S.T.ne⟩, S.G.ext E, E _ _ S.hr, S.rn⟩
theorem Sorter.setNp (S : Sorter H x d n2 rl rs p f ks ad sd np ch) {k : Str} (hk : k ∈ ks) {i : Int} {dn : Addr} (hd : ∃ o, H dn = some o) :
   Sorter (upd H (ad k) (.node 102 dn [some (.str k), some (.int i), some (.ref (sd k))])) x d n2 rl rs p f ks ad sd (setF np k i) ch ∧ FrS H (upd H (ad k) (.node 102 dn [some (.str k), some (.int i), some (.ref (sd k))])) n2 d rl ks ad sd := by
 refine Oaaaaaa S.facts ?_; intro U U U U U U h
 refine Oaaaaaaa (h k hk) ?_; intro a1 a2 a3 a4 a5 a6 a7 a8
 exact ⟨⟨⟨Zaa S.T.hx a1, Oe (S.T.hd) fun ep e => ⟨ep, Zaa e a3⟩, S.T.ne⟩, S.G.setNp hk hd, Zaa S.hr a5, S.rn⟩, fun b o s e => Zaa e (s.2.2.2 k hk).1⟩
theorem Sorter.setR (S : Sorter H x d n2 rl rs p f ks ad sd np ch) {qs : List Str} : Sorter (upd H rl (.list (qs.map .str))) x d n2 rl qs p f ks ad sd np ch ∧ FrS H (upd H rl (.list (qs.map .str))) n2 d rl ks ad sd := by
 refine Oaaaaaa S.facts ?_; intro b1 b2 b3 b4 b5 b6 h
 exact ⟨⟨⟨Zaa S.T.hx b3, Oe (S.T.hd) fun ep e => ⟨ep, Zaa e b5⟩, S.T.ne⟩, S.G.side b6 fun k hk => ⟨(h k hk).2.2.2.2.1, (h k hk).2.2.2.2.2.1⟩, upd_same _ _ _, S.rn⟩, fun b o s e => Zaa e s.2.2.1⟩
theorem Sorter.setD (S : Sorter H x d n2 rl rs p f ks ad sd np ch) {p' f' : Int} : Sorter (upd H d (.dict (tsD n2 (.ref rl) p' f') ep)) x d n2 rl rs p' f' ks ad sd np ch ∧ FrS H (upd H d (.dict (tsD n2 (.ref rl) p' f') ep)) n2 d rl ks ad sd := by
 refine Oaaaaaa S.facts ?_; intro b1 b2 b3 b4 b5 b6 h
 exact ⟨⟨⟨Zaa S.T.hx b2, ⟨ep, upd_same _ _ _⟩, S.T.ne⟩, S.G.side b4 fun k hk => ⟨(h k hk).2.2.1, (h k hk).2.2.2.1⟩, Zaa S.hr b5.symm, S.rn⟩, fun b o s e => Zaa e s.2.1⟩
end
noncomputable def npO (np : Str → Int) (A : List Str) : Str → Int := fun k => if k ∈ A then -1 else np k
theorem Zpk (np : Str → Int) (A : List Str) (c : Str) : setF (npO np A) c (-1) = npO np (A ++ [c]) := by
 funext k
 delta setF npO
 by_cases h : k = c
 · rw [if_pos h, if_pos (by simp [h])]
 · rw [if_neg h]
   by_cases q : k ∈ A
   · rw [if_pos q, if_pos (List.mem_append_left _ q)]
   · rw [if_neg q, if_neg (by simp [q, h])]
theorem Zsl (np : Str → Int) : npO np [] = np := by funext k; exact if_neg (by simp)
noncomputable def npD (np : Str → Int) (A B : List Str) : Str → Int := fun k => if k ∈ A then -2 else if k ∈ B then 0 else np k
theorem Zsm (np : Str → Int) : npD np [] [] = np := by funext k; delta npD; rw [if_neg (by simp), if_neg (by simp)]
theorem Zvr (np : Str → Int) (A B : List Str) (c : Str) : setF (npD np A B) c (-2) = npD np (A ++ [c]) B := by
 funext k
 delta setF npD
 by_cases h : k = c
 · rw [if_pos h, if_pos (by simp [h])]
 · rw [if_neg h]
   by_cases q : k ∈ A
   · rw [if_pos q, if_pos (List.mem_append_left _ q)]
   · rw [if_neg q]
     exact (if_neg (by simp [q, h])).symm
theorem Zvq (np : Str → Int) (A B : List Str) {c : Str} (hc : c ∉ A) : setF (npD np A B) c 0 = npD np A (B ++ [c]) := by
 funext k
 delta setF npD
 by_cases h : k = c
 · subst h
   rw [if_pos rfl, if_neg hc, if_pos (by simp)]
 · rw [if_neg h]
   by_cases q : k ∈ A
   · rw [if_pos q, if_pos q]
   · rw [if_neg q, if_neg q]
     by_cases r : k ∈ B
     · rw [if_pos r, if_pos (List.mem_append_left _ r)]
     · rw [if_neg r, if_neg (by simp [r, h])]
theorem Zvj {p v : Int} : putA (tsD n2 rn p f) (Str.ofString "_npassedout") (.int v) = tsD n2 rn v f := by kernel_rfl!
theorem Zvk {p v : Int} : putA (tsD n2 rn p f) (Str.ofString "_nfinished") (.int v) = tsD n2 rn p v := by kernel_rfl!
theorem Zvi {p : Int} : putA (tsD n2 rn p f) (Str.ofString "_ready_nodes") v = tsD n2 v p f := by kernel_rfl!
theorem Zg9 {k : Str} (h : k ∈ ks) : lookA (ks.map fun k => (k, AV.ref (ad k))) k = some (.ref (ad k)) := Zd9.trans (if_pos h)
theorem Sorter.tup {x : Addr} {p : Int} {np : Str → Int} {ch : Str → List Str} (S : Sorter H x d n2 rl rs p f ks ad sd np ch) (h : H b = some (.tup xs)) : Side n2 d rl ks ad sd b := by
 refine Oa (S.G.away_tup h) ?_; intro a1 a2
 refine Oe S.T.hd ?_; intro U hd
 have hr := S.hr
 have q1 : b ≠ d := by intro q; rw [q, hd] at h; cases h
 have q2 : b ≠ rl := by intro q; rw [q, hr] at h; cases h
 exact ⟨a1, q1, q2, a2⟩
theorem Sorter.beside {x : Addr} {p : Int} {np : Str → Int} {ch : Str → List Str} (S : Sorter H x d n2 rl rs p f ks ad sd np ch) {o : AObj} (hb : Side n2 d rl ks ad sd b) (hx : b ≠ x) : Sorter (upd H b o) x d n2 rl rs p f ks ad sd np ch :=
 ⟨⟨Zaa S.T.hx hx.symm, Oe (S.T.hd) fun ep e => ⟨ep, Zaa e hb.2.1.symm⟩, S.T.ne⟩, S.G.side hb.1 hb.2.2.2, Zaa S.hr hb.2.2.1.symm, S.rn⟩
structure Fm where
 name : Str
 bn : Addr
 li : Addr
 pos : Nat
noncomputable def sumU (w : Str → Nat) (ks se : List Str) : Nat := ((ks.filter fun k => !se.contains k).map w).sum
theorem Zmn (w : Str → Nat) (k : Str) (se : List Str) : ∀ ks : List Str, sumU w ks (k :: se) ≤ sumU w ks se
 | [] => Nat.le_refl _
 | l :: r => by
   have ih := Zmn w k se r; unfold sumU at ih ⊢; rw [List.filter_cons, List.filter_cons]; by_cases h : se.contains l = true
   · rw [if_neg (by simp at h; simp [h]), if_neg (by rw [h]; decide)]; exact ih
   · have h' : se.contains l = false := by simpa using h
     rw [if_pos (show (!se.contains l) = true by rw [h']; rfl)]; by_cases e : l = k
     · rw [if_neg (by simp [e])]
       rw [List.map_cons, List.sum_cons]; exact Nat.le_trans ih (Nat.le_add_left _ _)
     · rw [if_pos (by simp at h'; simp [e, h'])]
       rw [List.map_cons, List.sum_cons, List.map_cons, List.sum_cons]; exact Nat.add_le_add_left ih _
theorem Zgw (w : Str → Nat) {k : Str} {se : List Str} (hk : k ∉ se) : ∀ {ks : List Str}, k ∈ ks → sumU w ks (k :: se) + w k ≤ sumU w ks se
 | [], h => nomatch h
 | l :: r, h => by
   have hs : se.contains k = false := by simpa using hk
   unfold sumU; rw [List.filter_cons, List.filter_cons]; by_cases e : l = k
   · subst e
     rw [if_neg (by simp), if_pos (show (!se.contains l) = true by rw [hs]; rfl)]; have := Zmn w l se r; unfold sumU at this; rw [List.map_cons, List.sum_cons]; exact Nat.le_trans (Nat.le_of_eq (Nat.add_comm _ _)) (Nat.add_le_add_left this _)
   · have hr : k ∈ r := by rcases List.mem_cons.mp h with q | q; exact absurd q.symm e; exact q
     have ih := Zgw w hk hr; unfold sumU at ih; by_cases h1 : se.contains l = true
     · rw [if_neg (by simp at h1; simp [h1]), if_neg (by rw [h1]; decide)]; exact ih
     · have h' : se.contains l = false := by simpa using h1
       rw [if_pos (show (!se.contains l) = true by rw [h']; rfl), if_pos (by simp at h'; simp [e, h'])]; rw [List.map_cons, List.sum_cons, List.map_cons, List.sum_cons]; exact Nat.le_trans (Nat.le_of_eq (Nat.add_assoc _ _ _)) (Nat.add_le_add_left ih _)
theorem Zkg {α : Type} : ∀ l : List α, (l.map fun U => 1).sum = l.length
 | [] => rfl
 | _ :: r => by rw [List.map_cons, List.sum_cons, Zkg r, List.length_cons, Nat.add_comm]
theorem Zo4 (ks : List Str) : sumU (fun U => 1) ks [] ≤ ks.length := by
 unfold sumU; rw [Zkg]; exact List.length_filter_le ..
theorem Zpr {k l : Str} : (lookA (putA es k v) l).isSome = true ↔ l = k ∨ (lookA es l).isSome = true := by
 delta putA
 split
 · rename_i h
   delta lookA; rw [Option.isSome_map, Option.isSome_map, List.find?_isSome, List.find?_isSome]; refine Oea (List.any_eq_true.mp h) ?_; intro x hx hxk; have hxk' : x.1 = k := of_decide_eq_true hxk; constructor
   · intro y_1; refine Oea y_1 ?_; clear y_1; intro y hy e
     refine Oea (List.mem_map.mp hy) ?_; intro z hz e_1; obtain rfl := e_1; refine .inr (Iea z hz ?_)
     split at e <;> exact e
   · rintro (rfl | ⟨y, hy, e⟩)
     · exact Iea _ (List.mem_map_of_mem hx) (by rw [if_pos hxk']; exact decide_eq_true hxk')
     · exact Iea _ (List.mem_map_of_mem hy) (by split <;> exact e)
 · delta lookA
   rw [Option.isSome_map, Option.isSome_map, List.find?_isSome, List.find?_isSome]; constructor
   · intro y_1; refine Oea y_1 ?_; clear y_1; intro y hy e
     rcases List.mem_append.mp hy with h | h
     · exact .inr (Iea y h e)
     · rw [List.mem_singleton.mp h] at e; exact .inl (of_decide_eq_true e).symm
   · rintro (rfl | ⟨y, hy, e⟩)
     · exact Iea (l, v) (by simp) (decide_eq_true rfl)
     · exact Iea y (List.mem_append_left _ hy) e
theorem Zps {k l : Str} : (lookA (delA es k) l).isSome = true ↔ l ≠ k ∧ (lookA es l).isSome = true := by
 delta delA lookA
 rw [Option.isSome_map, Option.isSome_map, List.find?_isSome, List.find?_isSome]
 constructor
 · intro y_1; refine Oea y_1 ?_; clear y_1; intro y hy e
   refine Oa (List.mem_filter.mp hy) ?_; intro h1 h2; have e' : y.1 = l := of_decide_eq_true e; exact Iaea (by rw [← e']; simpa using h2) y h1 e
 · intro y_1; refine Oaea y_1 ?_; clear y_1; intro h y hy e
   have e' : y.1 = l := of_decide_eq_true e; exact Iea y (List.mem_filter.mpr ⟨hy, by rw [e']; simpa using h⟩) e
theorem Znj {k : Str} : (putA es k v).length ≤ es.length + 1 := by
 delta putA; split
 · rw [List.length_map]; exact Nat.le_succ _
 · rw [List.length_append]; exact Nat.le_refl _
theorem Znk : ∀ {es : List (Str × AV)} {k : Str}, (lookA es k).isSome = true → (delA es k).length + 1 ≤ es.length
 | [], k, h => by exact Zai h
 | e :: r, k, h => by
   delta delA; rw [List.filter_cons]; by_cases q : e.1 = k
   · rw [if_neg (by simp [q]), List.length_cons]
     exact Nat.succ_le_succ (List.length_filter_le ..)
   · rw [if_pos (by simpa using q), List.length_cons, List.length_cons]
     have : (lookA r k).isSome = true := by
       delta lookA at h ⊢
       rwa [List.find?_cons, decide_eq_false q] at h
     have ih := Znk this; unfold delA at ih; exact Nat.succ_le_succ ih
structure DS (H0 H : AH) (st it sn ns : Addr) (ks : List Str) (sd : Str → Addr) (ch : Str → List Str) (dep : Str → Nat) (fr : List Fm) (se : List Str) : Prop where
 ext : HExt H0 H
 hst : H st = some (.list (fr.reverse.map fun f => .str f.name))
 hit : H it = some (.list (fr.reverse.map fun f => .ref f.bn))
 hns : ∃ es ep, H ns = some (.dict es ep) ∧ (∀ k, (lookA es k).isSome = true ↔ ∃ f ∈ fr, f.name = k) ∧ es.length ≤ fr.length
 hsn : ∃ S m d, H sn = some (.set S m d) ∧ (∀ k, S k = true ↔ k ∈ se) ∧ m + sumU (fun U => 1) ks se ≤ ks.length
 fb : ∀ f ∈ fr, H f.bn = some (.bnd "list_iterator.__next__" f.li) ∧ initOf f.bn = none ∧ isFnA f.bn = false ∧ H f.li = some (.liter (sd f.name) f.pos) ∧ f.name ∈ ks ∧ f.pos ≤ (ch f.name).length ∧ H0 f.li = none
 nd : (fr.map (·.li)).Nodup
 pw : fr.Pairwise fun a b => dep b.name < dep a.name
 f0 : H0 st = none ∧ H0 it = none ∧ H0 sn = none ∧ H0 ns = none ∧ st ≠ it
theorem Zq8 {dep : Str → Nat} : ∀ {fr : List Fm} {d : Nat}, fr.Pairwise (fun a b => dep b.name < dep a.name) → (∀ f ∈ fr, dep f.name ≤ d) → fr.length ≤ d + 1
 | [], _, _, _ => Nat.zero_le _
 | [_], _, _, _ => by simp
 | f :: g :: r, d, h, hd => by
   have h1 := List.rel_of_pairwise_cons h (List.mem_cons_self (a := g) (l := r)); have h2 := hd f (.head _); have := Zq8 (d := d - 1) (List.Pairwise.of_cons h) fun x hx => by
     have := List.rel_of_pairwise_cons h hx; exact Nat.le_sub_one_of_lt (Nat.lt_of_lt_of_le this h2)
   rw [List.length_cons]; exact Nat.succ_le_succ (Nat.le_trans this (Nat.le_of_eq (Nat.sub_add_cancel (Nat.lt_of_le_of_lt (Nat.zero_le _) (Nat.lt_of_lt_of_le h1 h2)))))
noncomputable def wF (ch : Str → List Str) (f : Fm) : Nat := 2 * ((ch f.name).length - f.pos) + 1
noncomputable def Wm (ks : List Str) (ch : Str → List Str) (fr : List Fm) (se : List Str) : Nat := sumU (fun k => 2 * ((ch k).length + 1)) ks se + (fr.map (wF ch)).sum
theorem Zti {ch : Str → List Str} {fr : List Fm} {f : Fm} (hf : f.pos = 0) (h1 : f.name ∈ ks) (h2 : f.name ∉ se) : Wm ks ch (f :: fr) (f.name :: se) ≤ Wm ks ch fr se := by
 have := Zgw (fun k => 2 * ((ch k).length + 1)) h2 h1
 unfold Wm
 rw [List.map_cons, List.sum_cons]
 delta wF
 rw [hf]
 exact Nat.le_trans (Nat.le_of_eq (Nat.add_assoc _ _ _).symm) (Nat.add_le_add_right (Nat.le_of_succ_le this) _)
theorem Zrj {ch : Str → List Str} {fr : List Fm} {f : Fm} : Wm ks ch fr se < Wm ks ch (f :: fr) se := by
 unfold Wm
 rw [List.map_cons, List.sum_cons]
 delta wF
 exact Nat.add_lt_add_left (Nat.lt_add_of_pos_left (Nat.succ_pos _)) _
theorem Zth {ch : Str → List Str} {fr : List Fm} {f : Fm} (h : f.pos < (ch f.name).length) : Wm ks ch ({ f with pos := f.pos + 1 } :: fr) se < Wm ks ch (f :: fr) se := by
 unfold Wm
 rw [List.map_cons, List.sum_cons, List.map_cons, List.sum_cons]
 delta wF
 dsimp only
 exact Nat.add_lt_add_left (Nat.add_lt_add_right (Nat.succ_lt_succ (Nat.mul_lt_mul_of_le_of_lt (Nat.le_refl 2) (Nat.sub_lt_sub_left h (Nat.lt_succ_self _)) (by decide))) _) _
section
variable {H0 H H' : AH} {st it sn ns : Addr} {ks : List Str} {sd : Str → Addr} {ch : Str → List Str} {dep : Str → Nat} {fr : List Fm} {se : List Str}
theorem DS.nes (D : DS H0 H st it sn ns ks sd ch dep fr se) : st ≠ it ∧ st ≠ sn ∧ st ≠ ns ∧ it ≠ sn ∧ it ≠ ns ∧ sn ≠ ns ∧ ∀ f ∈ fr, f.bn ≠ st ∧ f.bn ≠ it ∧ f.bn ≠ sn ∧ f.bn ≠ ns ∧ f.li ≠ st ∧ f.li ≠ it ∧ f.li ≠ sn ∧ f.li ≠ ns := by
 have h1 := D.hst
 have h2 := D.hit
 refine Oeea D.hns ?_; intro U U h3 U
 refine Oeeea D.hsn ?_; intro U U U h4 U
 have q1 : st ≠ sn := by intro q; rw [q, h4] at h1; cases h1
 have q2 : st ≠ ns := by intro q; rw [q, h3] at h1; cases h1
 have q3 : it ≠ sn := by intro q; rw [q, h4] at h2; cases h2
 have q4 : it ≠ ns := by intro q; rw [q, h3] at h2; cases h2
 have q5 : sn ≠ ns := by intro q; rw [q, h3] at h4; cases h4
 refine ⟨D.f0.2.2.2.2, q1, q2, q3, q4, q5, fun f hf => ?_⟩
 refine Oaaaa (D.fb f hf) ?_; intro e1 U U e2 U
 refine ⟨?_, ?_, ?_, ?_, ?_, ?_, ?_, ?_⟩
 · intro q; rw [q, h1] at e1; cases e1
 · intro q; rw [q, h2] at e1; cases e1
 · intro q; rw [q, h4] at e1; cases e1
 · intro q; rw [q, h3] at e1; cases e1
 · intro q; rw [q, h1] at e2; cases e2
 · intro q; rw [q, h2] at e2; cases e2
 · intro q; rw [q, h4] at e2; cases e2
 · intro q; rw [q, h3] at e2; cases e2
theorem DS.push {f : Fm} {m : Nat} {S : Str → Bool} {d : Option Data} (D : DS H0 H st it sn ns ks sd ch dep fr se) (hse : f.name ∉ se) (hk : f.name ∈ ks) (hd : ∀ g ∈ fr, dep g.name < dep f.name) (hp : f.pos = 0)
   (e1 : H' st = some (.list ((fr.reverse.map fun f => .str f.name) ++ [.str f.name]))) (e2 : H' it = some (.list ((fr.reverse.map fun f => .ref f.bn) ++ [.ref f.bn])))
   (e3 : ∃ es0 ep0 v, H ns = some (.dict es0 ep0) ∧ es = putA es0 f.name v) (e4 : H' ns = some (.dict es ep)) (e5 : ∃ S0 m0 d0, H sn = some (.set S0 m0 d0) ∧ S = (fun k => S0 k || decide (k = f.name)) ∧ m ≤ m0 + 1) (e6 : H' sn = some (.set S m d))
   (e7 : H' f.bn = some (.bnd "list_iterator.__next__" f.li)) (e8 : H' f.li = some (.liter (sd f.name) f.pos)) (i1 : initOf f.bn = none) (i2 : isFnA f.bn = false) (hli : H f.li = none)
   (fr' : ∀ b o, b ≠ st → b ≠ it → b ≠ sn → b ≠ ns → H b = some o → H' b = some o) : DS H0 H' st it sn ns ks sd ch dep (f :: fr) (f.name :: se) := by
 refine Oeeea e3 ?_; clear e3; intro es0 ep0 v g1 e_1; obtain rfl := e_1
 refine Oeeeaa e5 ?_; clear e5; intro S0 m0 d0 g2 e_1; obtain rfl := e_1; intro g3
 refine Oaaaaaa D.nes ?_; intro n1 n2 n3 n4 n5 n6 n7
 refine Oeeaa D.hns ?_; intro es1 ep1 g4 g5 g6
 rw [g1] at g4; cases g4
 refine Oeeeaa D.hsn ?_; intro S1 m1 d1 g7 g8 g9
 rw [g2] at g7; cases g7
 refine Oaaaa D.f0 ?_; intro f1 f2 f3 f4 f5
 refine ⟨fun b o hb => fr' b o (Zag hb f1) (Zag hb f2) (Zag hb f3) (Zag hb f4) (D.ext b o hb), ?_, ?_, (Ieeaa _ ep e4 (fun k => ?_) ?_), (Ieeeaa _ m d e6 (fun k => ?_) ?_), fun g hg => ?_, ?_, ?_, D.f0⟩
 · rw [e1, List.reverse_cons, List.map_append]; rfl
 · rw [e2, List.reverse_cons, List.map_append]; rfl
 · rw [Zpr, g5]
   constructor
   · rintro (rfl | ⟨g, hg, rfl⟩)
     · exact Iea f (.head _) rfl
     · exact Iea g (.tail _ hg) rfl
   · intro y_1; refine Oea y_1 ?_; clear y_1; intro g hg e_2; obtain rfl := e_2
     rcases List.mem_cons.mp hg with rfl | hg
     · exact .inl rfl
     · exact .inr (Iea g hg rfl)
 · have := Znj (es := es0) (k := f.name) (v := v); rw [List.length_cons]; exact Nat.le_trans this (Nat.succ_le_succ g6)
 · rw [Bool.or_eq_true, decide_eq_true_eq, g8, List.mem_cons]; exact Or.comm
 · have := Zgw (fun U => 1) hse hk
   exact Nat.le_trans (Nat.add_le_add_right g3 _) (Nat.le_trans (Nat.le_of_eq (Nat.succ_add_eq_add_succ _ _)) (Nat.le_trans (Nat.add_le_add_left this _) g9))
 · rcases List.mem_cons.mp hg with rfl | hg
   · exact ⟨e7, i1, i2, e8, hk, by rw [hp]; exact Nat.zero_le _, D.ext.none hli⟩
   · refine Oaaaaaa (D.fb g hg) ?_; intro a1 a2 a3 a4 a5 a6 a7
     refine Oaaaaaaa (n7 g hg) ?_; intro b1 b2 b3 b4 b5 b6 b7 b8; exact ⟨fr' _ _ b1 b2 b3 b4 a1, a2, a3, fr' _ _ b5 b6 b7 b8 a4, a5, a6, a7⟩
 · rw [List.map_cons, List.nodup_cons]
   refine ⟨fun h => ?_, D.nd⟩; refine Oea (List.mem_map.mp h) ?_; intro g hg e; have := (D.fb g hg).2.2.2.1; rw [e, hli] at this; exact Zab this
 · exact List.pairwise_cons.mpr ⟨hd, D.pw⟩
theorem DS.step {f : Fm} (D : DS H0 H st it sn ns ks sd ch dep (f :: fr) se) (h : f.pos < (ch f.name).length) : DS H0 (upd H f.li (.liter (sd f.name) (f.pos + 1))) st it sn ns ks sd ch dep ({ f with pos := f.pos + 1 } :: fr) se := by
 refine Oaaaaaa D.nes ?_; intro n1 n2 n3 n4 n5 n6 n7
 refine Oaaaaaaa (n7 f (.head _)) ?_; intro b1 b2 b3 b4 b5 b6 b7 b8
 refine Oaaaaaa (D.fb f (.head _)) ?_; intro a1 a2 a3 a4 a5 a6 a7
 refine Oeeaa D.hns ?_; intro es ep g1 g2 g3
 refine Oeeeaa D.hsn ?_; intro S m d g4 g5 g6
 have hnd := D.nd
 rw [List.map_cons, List.nodup_cons] at hnd
 have hbl : f.bn ≠ f.li := by intro q; rw [q, a4] at a1; cases a1
 refine ⟨fun b o hb => Zaa (D.ext b o hb) (Zag hb a7), ?_, ?_, (Ieeaa es ep (Zaa g1 b8.symm) (fun k => ?_) g3), (Ieeeaa S m d (Zaa g4 b7.symm) g5 g6), fun g hg => ?_, ?_, ?_, D.f0⟩
 · rw [Zay _ _ b5.symm, D.hst]; simp
 · rw [Zay _ _ b6.symm, D.hit]; simp
 · rw [g2]; simp
 · rcases List.mem_cons.mp hg with rfl | hg
   · exact ⟨Zaa a1 hbl, a2, a3, upd_same _ _ _, a5, h, a7⟩
   · refine Oaaaaaa (D.fb g (.tail _ hg)) ?_; intro c1 c2 c3 c4 c5 c6 c7
     refine ⟨Zaa c1 ?_, c2, c3, Zaa c4 fun q => hnd.1 (q ▸ List.mem_map_of_mem hg), c5, c6, c7⟩; intro q; rw [q, a4] at c1; cases c1
 · rw [List.map_cons, List.nodup_cons]; exact hnd
 · have := List.pairwise_cons.mp D.pw
   exact List.pairwise_cons.mpr this
theorem DS.pop {f : Fm} (D : DS H0 H st it sn ns ks sd ch dep (f :: fr) se) (e1 : H' st = some (.list (fr.reverse.map fun f => .str f.name))) (e2 : H' it = some (.list (fr.reverse.map fun f => .ref f.bn)))
   (e3 : ∃ es0 ep0, H ns = some (.dict es0 ep0) ∧ es = delA es0 f.name) (e4 : H' ns = some (.dict es ep)) (fr' : ∀ b o, b ≠ st → b ≠ it → b ≠ ns → b ≠ f.li → H b = some o → H' b = some o) : DS H0 H' st it sn ns ks sd ch dep fr se := by
 refine Oaaaaaa D.nes ?_; intro n1 n2 n3 n4 n5 n6 n7
 refine Oaaaaaa (D.fb f (.head _)) ?_; intro a1 a2 a3 a4 a5 a6 a7
 refine Oeea e3 ?_; clear e3; intro es0 ep0 g1 e_1; obtain rfl := e_1
 refine Oeeaa D.hns ?_; intro es1 ep1 g4 g5 g6
 rw [g1] at g4; cases g4
 refine Oeeeaa D.hsn ?_; intro S m d g7 g8 g9
 refine Oaaaa D.f0 ?_; intro f1 f2 f3 f4 f5
 have hnd := D.nd
 rw [List.map_cons, List.nodup_cons] at hnd
 have hpw := List.pairwise_cons.mp D.pw
 have hsl : sn ≠ f.li := ((n7 f (.head _)).2.2.2.2.2.2.1).symm
 refine ⟨fun b o hb => fr' b o (Zag hb f1) (Zag hb f2) (Zag hb f4) (Zag hb a7) (D.ext b o hb), e1, e2, (Ieeaa _ ep e4 (fun k => ?_) ?_), (Ieeeaa S m d (fr' _ _ n2.symm n4.symm n6 hsl g7) g8 g9), fun g hg => ?_, hnd.2, hpw.2, D.f0⟩
 · rw [Zps, g5]
   constructor
   · intro y_1; refine Oaea y_1 ?_; clear y_1; intro h g hg e_2; obtain rfl := e_2
     rcases List.mem_cons.mp hg with rfl | hg
     · exact absurd rfl h
     · exact Iea g hg rfl
   · intro y_1; refine Oea y_1 ?_; clear y_1; intro g hg e_2; obtain rfl := e_2
     refine (Iaea (fun q => ?_) g (.tail _ hg) rfl); have := hpw.1 g hg; rw [q] at this; exact absurd this (Nat.lt_irrefl _)
 · have hk : (lookA es0 f.name).isSome = true := (g5 f.name).mpr (Iea f (.head _) rfl)
   have := Znk hk; rw [List.length_cons] at g6; exact Nat.le_of_succ_le_succ (Nat.le_trans this g6)
 · refine Oaaaaaa (D.fb g (.tail _ hg)) ?_; intro c1 c2 c3 c4 c5 c6 c7
   refine Oaaaaaaa (n7 g (.tail _ hg)) ?_; intro b1 b2 b3 b4 b5 b6 b7 b8; refine ⟨fr' _ _ b1 b2 b4 ?_ c1, c2, c3, fr' _ _ b5 b6 b8 (fun q => hnd.1 (q ▸ List.mem_map_of_mem hg)) c4, c5, c6, c7⟩; intro q; rw [q, a4] at c1; cases c1
end
abbrev Md := List (Fin 3)
noncomputable def part (i : Fin 3) : Str := match i with
 | 0 => "a"
 | 1 => "ab"
 | 2 => "c"
noncomputable def nmS (m : Md) : Str := Txt.join "." (m.map part)
noncomputable def allM : List Md := ([0, 1, 2] : List (Fin 3)).flatMap fun a => [a] :: ([0, 1, 2] : List (Fin 3)).flatMap fun b => [a, b] :: ([0, 1, 2] : List (Fin 3)).map fun c => [a, b, c]
noncomputable def okM (m : Md) : Prop := 1 ≤ m.length ∧ m.length ≤ 3
theorem mem1 : ∀ a : Fin 3, [a] ∈ allM := by decide
theorem mem2 : ∀ a b : Fin 3, [a, b] ∈ allM := by decide
theorem mem3 : ∀ a b c : Fin 3, [a, b, c] ∈ allM := by decide
theorem Zg8 : ∀ {m : Md}, okM m → m ∈ allM
 | [a], _ => mem1 a
 | [a, b], _ => mem2 a b
 | [a, b, c], _ => mem3 a b c
 | [], h => absurd h.1 (by decide)
 | _ :: _ :: _ :: _ :: _, h => absurd h.2 (by simp)
noncomputable def belowM (m n : Md) : Bool := decide (n.length < m.length) && (m.take n.length == n)
noncomputable def fileS (m : Md) : Str := ("/x/" : Str) ++ Txt.replace (nmS m) "." "/" ++ (".py" : Str)
noncomputable def dirS (m : Md) : Str := ("/x/" : Str) ++ Txt.replace (nmS m) "." "/" ++ ("/." : Str)
noncomputable def normS (m : Md) : Str := ("/" : Str) ++ Txt.join "/" ("x" :: m.map part)
theorem Zgv {p : Md → Md → Bool} (h : (allM.all fun m => allM.all fun n => p m n) = true) {n : Md} (hm : okM m) (hn : okM n) : p m n = true :=
 List.all_eq_true.mp (List.all_eq_true.mp h m (Zg8 hm)) n (Zg8 hn)
theorem Zjm {p : Md → Bool} (h : (allM.all fun m => p m) = true) (hm : okM m) : p m = true := List.all_eq_true.mp h m (Zg8 hm)
theorem Zph : (allM.all fun m => allM.all fun n => (Txt.slice (nmS m) none (some ((nmS n).length + 1)) == nmS n ++ ("." : Str)) == belowM m n) = true := by kernel_rfl
theorem Zpg : (allM.all fun m => allM.all fun n => Txt.startswith (nmS m) (nmS n ++ ("." : Str)) == belowM m n) = true := by kernel_rfl
theorem Zsg : (allM.all fun m => allM.all fun n => Txt.startswith (fileS m) (normS n ++ ("/" : Str)) == belowM m n) = true := by kernel_rfl
theorem Zug : (allM.all fun m => allM.all fun n => (nmS m == nmS n) == (m == n)) = true := by kernel_rfl
theorem Zuf : (allM.all fun m => decide ((nmS m).length ≤ 8) && decide (0 < (nmS m).length) && decide (Txt.count (nmS m) "." = (m.length : Int) - 1) &&
   ((!(Builtin.Str.occurrences (nmS m) "." 0 (nmS m).length 1).isEmpty) == decide (1 < m.length)) && (Txt.slice (nmS m) none (some (Txt.rfind (nmS m) ".")) == if 1 < m.length then nmS m.dropLast else Txt.slice (nmS m) none (some (Txt.rfind (nmS m) "."))) &&
   decide ((fileS m).length ≤ 20) && decide ((dirS m).length ≤ 20) && decide ((normS m).length ≤ 20) && decide ((Txt.replace (nmS m) "." "/").length ≤ 8) && !(nmS m == ("<string>" : Str))) = true := by kernel_rfl
theorem Zuh : (allM.all fun m => (Txt.slice (dirS m) none (some 1) == ("/" : Str)) && !(Txt.slice (dirS m) (some 1) (some 2) == ("/" : Str)) && (Txt.split (Txt.slice (dirS m) (some 1) none) "/" == (("x" : Str) :: m.map part) ++ [("." : Str)])) = true := by kernel_rfl
theorem Zsf : ((([0, 1, 2] : List (Fin 3)).map part).all fun p => !(p == ("" : Str)) && !(p == ("." : Str)) && !(p == (".." : Str)) && decide (p.length ≤ 2)) = true := by kernel_rfl
section
variable {m n : Md}
theorem Zmz (hm : okM m) (hn : okM n) : (Txt.slice (nmS m) none (some ((nmS n).length + 1)) == nmS n ++ ("." : Str)) = belowM m n := beq_iff_eq.mp (Zgv Zph hm hn)
theorem Zmy (hm : okM m) (hn : okM n) : Txt.startswith (nmS m) (nmS n ++ ("." : Str)) = belowM m n := beq_iff_eq.mp (Zgv Zpg hm hn)
theorem Zq7 (hm : okM m) (hn : okM n) : Txt.startswith (fileS m) (normS n ++ ("/" : Str)) = belowM m n := beq_iff_eq.mp (Zgv Zsg hm hn)
theorem Zfv (hm : okM m) (hn : okM n) (h : nmS m = nmS n) : m = n := by
 have := beq_iff_eq.mp (Zgv Zug hm hn)
 rw [h, beq_self_eq_true] at this
 exact beq_iff_eq.mp this.symm
structure OneS (m : Md) : Prop where
 len : (nmS m).length ≤ 8
 pos : 0 < (nmS m).length
 count : Txt.count (nmS m) "." = (m.length : Int) - 1
 dot : (!(Builtin.Str.occurrences (nmS m) "." 0 (nmS m).length 1).isEmpty) = decide (1 < m.length)
 par : 1 < m.length → Txt.slice (nmS m) none (some (Txt.rfind (nmS m) ".")) = nmS m.dropLast
 file : (fileS m).length ≤ 20
 dir : (dirS m).length ≤ 20
 norm : (normS m).length ≤ 20
 rep : (Txt.replace (nmS m) "." "/").length ≤ 8
 str : (nmS m == ("<string>" : Str)) = false
theorem Zc0 (hm : okM m) : OneS m := by
 have := Zjm Zuf hm
 simp only [Bool.and_eq_true, decide_eq_true_eq, beq_iff_eq, Bool.not_eq_true'] at this
 refine Oa this ?_; clear this; intro z_1 a10; (refine Oa z_1 ?_; clear z_1; intro z_1 a9; obtain ⟨⟨⟨⟨⟨⟨⟨a1, a2⟩, a3⟩, a4⟩, a5⟩, a6⟩, a7⟩, a8⟩ := z_1)
 exact ⟨a1, a2, a3, a4, fun h => by rw [if_pos h] at a5; exact a5, a6, a7, a8, a9, a10⟩
theorem Zui (hm : okM m) : (Txt.slice (dirS m) none (some 1) == ("/" : Str)) = true ∧ (Txt.slice (dirS m) (some 1) (some 2) == ("/" : Str)) = false ∧ Txt.split (Txt.slice (dirS m) (some 1) none) "/" = (("x" : Str) :: m.map part) ++ [("." : Str)] := by
 have := Zjm Zuh hm
 simp only [Bool.and_eq_true, beq_iff_eq, Bool.not_eq_true'] at this
 exact ⟨beq_iff_eq.mpr this.1.1, this.1.2, this.2⟩
theorem Zf7 (i : Fin 3) : (part i == ("" : Str)) = false ∧ (part i == ("." : Str)) = false ∧ (part i == (".." : Str)) = false ∧ (part i).length ≤ 2 := by
 have := List.all_eq_true.mp Zsf (part i) (List.mem_map_of_mem (by revert i; decide))
 simp only [Bool.and_eq_true, decide_eq_true_eq, Bool.not_eq_true'] at this
 exact ⟨this.1.1.1, this.1.1.2, this.1.2, this.2⟩
end
structure Mods (ms : List Md) : Prop where
 ok : ∀ m ∈ ms, okM m
 nd : ms.Nodup
 par : ∀ m ∈ ms, 1 < m.length → m.dropLast ∈ ms
 len : ms.length ≤ 30
noncomputable def parS (m : Md) : Option Str := if 1 < m.length then some (nmS m.dropLast) else none
noncomputable def npM (dl : List Md) : Str → Int := fun k => if (dl.any fun m => nmS m == k && decide (1 < m.length)) = true then 1 else 0
noncomputable def chM (dl : List Md) : Str → List Str := fun k => (dl.filter fun m => decide (1 < m.length) && nmS m.dropLast == k).map nmS
theorem Zkm (h : okM m) (h1 : 1 < m.length) : okM m.dropLast := by
 have := h.2
 exact ⟨by rw [List.length_dropLast]; exact Nat.le_sub_of_add_le h1, by rw [List.length_dropLast]; exact Nat.le_trans (Nat.sub_le _ _) this⟩
theorem Zpl {dl : List Md} (ho : ∀ l ∈ dl, okM l) (hm : okM m) (hn : m ∉ dl) : npA (npM dl) (nmS m) (parS m) = npM (dl ++ [m]) := by
 funext k
 delta npA setF
 have h0 : npM dl (nmS m) = 0 := by
   delta npM; rw [if_neg]; rw [List.any_eq_true]; intro y_1; refine Oea y_1 ?_; clear y_1; intro l hl e; rw [Bool.and_eq_true, beq_iff_eq] at e; have := Zfv (ho l hl) hm e.1; exact hn (this ▸ hl)
 by_cases e : k = nmS m
 · subst e
   rw [if_pos rfl, h0]; unfold npM parS; by_cases h1 : 1 < m.length
   · rw [if_pos h1, if_pos (by rw [List.any_append, List.any_cons]; simp [h1])]; rfl
   · rw [if_neg h1, if_neg]
     · rfl
     · rw [List.any_append, List.any_cons, List.any_nil, decide_eq_false h1, Bool.and_false]
       delta npM at h0
       split at h0
       · cases h0
       · rename_i q; simpa using q
 · rw [if_neg e]
   delta npM; rw [List.any_append, List.any_cons, List.any_nil, show (nmS m == k) = false from beq_eq_false_iff_ne.mpr (Ne.symm e)]; simp
theorem Zqi {dl : List Md} : chA (chM dl) (nmS m) (parS m) = chM (dl ++ [m]) := by
 funext k
 unfold parS
 by_cases h1 : 1 < m.length
 · rw [if_pos h1]
   refine (?_ : setF _ _ _ k = _); delta setF chM; rw [List.filter_append, List.map_append, List.filter_cons, decide_eq_true h1, Bool.true_and, List.filter_nil]; by_cases e : k = nmS m.dropLast
   · subst e; rw [if_pos rfl, if_pos (beq_self_eq_true _)]; rfl
   · rw [if_neg e, if_neg (by rw [beq_iff_eq]; exact Ne.symm e), List.map_nil, List.append_nil]
 · rw [if_neg h1]
   refine (?_ : chM dl k = _); delta chM; rw [List.filter_append, List.map_append, List.filter_cons, decide_eq_false h1, Bool.false_and, if_neg (by decide), List.filter_nil, List.map_nil, List.append_nil]
theorem Zst {k : Str} : k ∈ ksA ks (nmS m) (parS m) ↔ k ∈ ks ∨ k = nmS m ∨ parS m = some k := by
 unfold parS ksA
 split
 · rename_i h
   split at h
   · exact Zab (Eq.symm h)
   · rw [if_neg (by assumption), Zd8]
     constructor
     · rintro (h | h); exact .inl h; exact .inr (.inl h)
     · rintro (h | h | h); exact .inl h; exact .inr h; exact Zab h
 · rename_i p h
   rw [h, Zd8, Zd8]; constructor
   · rintro ((h | h) | h); exact .inl h; exact .inr (.inl h); exact .inr (.inr (by rw [h]))
   · rintro (h | h | h); exact .inl (.inl h); exact .inl (.inr h); exact .inr (Option.some.inj h).symm
theorem Zsu {m : Str} {po : Option Str} : (ksA ks m po).length ≤ ks.length + 2 := by
 unfold ksA
 split
 · exact Nat.le_trans Ze5 (Nat.le_succ _)
 · exact Nat.le_trans Ze5 (Nat.succ_le_succ Ze5)
noncomputable def lvl (ms : List Md) (i : Nat) : List Str := (ms.filter fun m => m.length == i + 1).map nmS
noncomputable def depS (k : Str) : Nat := (Txt.count k ".").toNat
theorem Zdb (h : okM m) : depS (nmS m) = m.length - 1 := by
 unfold depS
 rw [(Zc0 h).count]
 have := h.1
 exact Int.toNat_sub _ 1
theorem Zie (ho : ∀ m ∈ ms, okM m) (h : ms.Nodup) : (ms.map nmS).Nodup := by
 induction ms with
 | nil => exact List.nodup_nil
 | cons m r ih =>
   rw [List.map_cons, List.nodup_cons]; have h' := List.nodup_cons.mp h; refine ⟨fun q => ?_, ih (fun l hl => ho l (.tail _ hl)) h'.2⟩; refine Oea (List.mem_map.mp q) ?_; intro l hl e; have := Zfv (ho l (.tail _ hl)) (ho m (.head _)) e; exact h'.1 (this ▸ hl)
theorem Zcv {k : Str} : k ∈ lvl ms i ↔ ∃ m ∈ ms, m.length = i + 1 ∧ nmS m = k := by
 unfold lvl
 rw [List.mem_map]
 constructor
 · intro y_1; refine Oea y_1 ?_; clear y_1; intro m hm e
   refine Oa (List.mem_filter.mp hm) ?_; intro h1 h2; exact Ieaa m h1 (beq_iff_eq.mp h2) e
 · intro y_1; refine Oeaa y_1 ?_; clear y_1; intro m h1 h2 e
   exact Iea m (List.mem_filter.mpr ⟨h1, beq_iff_eq.mpr h2⟩) e
theorem Zc6 (M : Mods ms) (i : Nat) : (lvl ms i).Nodup :=
 Zie (fun m h => M.ok m (List.mem_filter.mp h).1) (List.Pairwise.filter _ M.nd)
theorem Zfj (M : Mods ms) (i : Nat) : (lvl ms i).length ≤ 30 := by
 unfold lvl; rw [List.length_map]; exact Nat.le_trans (List.length_filter_le ..) M.len
theorem Zul (M : Mods ms) (h : lvl ms i = []) (hij : i ≤ j) : lvl ms j = [] := by
 induction hij with
 | refl => exact h
 | step _ ih =>
   rename_i j _
   cases e : lvl ms (j + 1) with
   | nil => rfl
   | cons k r =>
     have hk : k ∈ lvl ms (j + 1) := by rw [e]; exact .head _
     refine Oeaa (Zcv.mp hk) ?_; intro m hm hl U; have hp := M.par m hm (by exact Nat.lt_of_lt_of_eq (Nat.succ_lt_succ (Nat.succ_pos _)) hl.symm); have : nmS m.dropLast ∈ lvl ms j := Zcv.mpr (Ieaa _ hp (by rw [List.length_dropLast]; exact congrArg Nat.pred hl) rfl); rw [ih] at this; cases this
structure Full (ms : List Md) (ks : List Str) : Prop where
 nd : ks.Nodup
 mem : ∀ k, k ∈ ks ↔ ∃ m ∈ ms, nmS m = k
theorem Zg7 {dl : List Md} {k c : Str} : c ∈ chM dl k ↔ ∃ m ∈ dl, 1 < m.length ∧ nmS m.dropLast = k ∧ nmS m = c := by
 delta chM
 rw [List.mem_map]
 constructor
 · intro y_1; refine Oea y_1 ?_; clear y_1; intro m hm e
   refine Oa (List.mem_filter.mp hm) ?_; intro h1 h2; rw [Bool.and_eq_true, decide_eq_true_eq, beq_iff_eq] at h2; exact Ieaaa m h1 h2.1 h2.2 e
 · intro y_1; refine Oeaaa y_1 ?_; clear y_1; intro m h1 h2 h3 e
   exact Iea m (List.mem_filter.mpr ⟨h1, by rw [Bool.and_eq_true, decide_eq_true_eq, beq_iff_eq]; exact ⟨h2, h3⟩⟩) e
theorem Zoa (dl : List Md) (k : Str) : (chM dl k).length ≤ dl.length := by
 delta chM; rw [List.length_map]; exact List.length_filter_le ..
section
variable {ms : List Md} {ks : List Str}
theorem Full.ch (M : Mods ms) (F : Full ms ks) : ∀ k ∈ ks, ∀ c ∈ chM ms.reverse k, c ∈ ks ∧ depS c = depS k + 1 := by
 intro k hk c hc
 refine Oeaaa (Zg7.mp hc) ?_; intro m hm h1 h2 e_1; obtain rfl := e_1
 rw [List.mem_reverse] at hm
 have ho := M.ok m hm
 refine ⟨(F.mem _).mpr (Iea m hm rfl), ?_⟩
 rw [← h2, Zdb ho, Zdb (Zkm ho h1), List.length_dropLast]
 exact (Nat.sub_add_cancel (Nat.le_sub_of_add_le h1)).symm
theorem Full.dep (M : Mods ms) (F : Full ms ks) : ∀ k ∈ ks, depS k ≤ 2 := by
 intro k hk
 refine Oea ((F.mem k).mp hk) ?_; intro m hm e_1; obtain rfl := e_1
 rw [Zdb (M.ok m hm)]
 have := (M.ok m hm).2
 exact Nat.sub_le_sub_right this 1
theorem Full.np (M : Mods ms) (F : Full ms ks) : ∀ k ∈ ks, npM ms.reverse k = if depS k = 0 then 0 else 1 := by
 intro k hk
 refine Oea ((F.mem k).mp hk) ?_; intro m hm e_1; obtain rfl := e_1
 have ho := M.ok m hm
 rw [Zdb ho]
 delta npM
 by_cases h : 1 < m.length
 · rw [if_pos, if_neg (by exact Nat.sub_ne_zero_of_lt h)]
   exact List.any_eq_true.mpr (Iea m (List.mem_reverse.mpr hm) (by simp [h]))
 · rw [if_neg, if_pos (by exact Nat.sub_eq_zero_of_le (Nat.not_lt.1 h))]
   rw [List.any_eq_true]; intro y_1; refine Oea y_1 ?_; clear y_1; intro l hl e; rw [Bool.and_eq_true, beq_iff_eq, decide_eq_true_eq] at e; have := Zfv (M.ok l (List.mem_reverse.mp hl)) ho e.1; rw [this] at e; exact h e.2
theorem Full.lvl (M : Mods ms) (F : Full ms ks) (i : Nat) {k : Str} : k ∈ lvl ms i ↔ k ∈ ks ∧ depS k = i := by
 rw [Zcv, F.mem]
 constructor
 · intro y_1; refine Oeaa y_1 ?_; clear y_1; intro m hm hl e_2; obtain rfl := e_2
   exact ⟨(Iea m hm rfl), by rw [Zdb (M.ok m hm)]; exact q40 hl⟩
 · intro y_1; refine Oa y_1 ?_; clear y_1; intro z_2 e; obtain ⟨m, hm, rfl⟩ := z_2
   rw [Zdb (M.ok m hm)] at e; have := (M.ok m hm).1; exact Ieaa m hm (by exact (Nat.sub_add_cancel this).symm.trans (congrArg Nat.succ e)) rfl
theorem Zee {f : Str → List Str} : ∀ {rs : List Str}, rs.Nodup → (∀ k ∈ rs, (f k).Nodup) → (∀ k ∈ rs, ∀ l ∈ rs, ∀ c, c ∈ f k → c ∈ f l → k = l) → (rs.flatMap f).Nodup
 | [], _, _, _ => List.nodup_nil
 | k :: r, h, h1, h2 => by
   rw [List.flatMap_cons, List.nodup_append]; have h' := List.nodup_cons.mp h; refine ⟨h1 k (.head _), Zee h'.2 (fun l hl => h1 l (.tail _ hl)) fun a ha b hb => h2 a (.tail _ ha) b (.tail _ hb), fun a ha b hb e => ?_⟩; subst e; refine Oea (List.mem_flatMap.mp hb) ?_; intro l hl hc; have := h2 k (.head _) l (.tail _ hl) a ha hc; exact h'.1 (this ▸ hl)
theorem Full.next (M : Mods ms) (F : Full ms ks) (h1 : rs.Nodup) (h2 : ∀ k, k ∈ rs ↔ k ∈ ks ∧ depS k = j) : (rs.flatMap (chM ms.reverse)).Nodup ∧ ∀ k, k ∈ rs.flatMap (chM ms.reverse) ↔ k ∈ ks ∧ depS k = j + 1 := by
 have hinj : ∀ k ∈ rs, ∀ l ∈ rs, ∀ c, c ∈ chM ms.reverse k → c ∈ chM ms.reverse l → k = l := by
   intro k U l U c hc hc'; refine Oeaaa (Zg7.mp hc) ?_; intro m hm U e1 e2; refine Oeaaa (Zg7.mp hc') ?_; intro m' hm' U e3 e4; have := Zfv (M.ok m (List.mem_reverse.mp hm)) (M.ok m' (List.mem_reverse.mp hm')) (e2.trans e4.symm); rw [← e1, ← e3, this]
 refine ⟨Zee h1 (fun k hk => ?_) hinj, fun k => ?_⟩
 · refine Zie (fun m h => M.ok m (List.mem_reverse.mp (List.mem_filter.mp h).1)) (List.Pairwise.filter _ (List.pairwise_reverse.mpr (M.nd.imp fun h => h.symm)))
 · rw [List.mem_flatMap]
   constructor
   · intro y_1; refine Oea y_1 ?_; clear y_1; intro l hl hc
     refine Oa ((h2 l).mp hl) ?_; intro hl1 hl2; refine Oa (F.ch M l hl1 k hc) ?_; intro a b; exact ⟨a, by exact b.trans (congrArg Nat.succ hl2)⟩
   · intro y_1; refine Oa y_1 ?_; clear y_1; intro hk e
     refine Oea ((F.mem k).mp hk) ?_; intro m hm e_1; obtain rfl := e_1; have ho := M.ok m hm; rw [Zdb ho] at e; have h1' : 1 < m.length := by exact Nat.lt_of_sub_eq_succ e
     refine (Iea (nmS m.dropLast) ((h2 _).mpr ⟨(F.mem _).mpr (Iea _ (M.par m hm h1') rfl), ?_⟩) (Zg7.mpr (Ieaaa m (List.mem_reverse.mpr hm) h1' rfl rfl))); rw [Zdb (Zkm ho h1'), List.length_dropLast]; exact congrArg Nat.pred e
end
noncomputable def uldF : List Str → List Str → List Str → List Str × List Str
 | [], mis, act => (mis, act)
 | x :: r, mis, act => if act.contains x = true then uldF r mis (act.erase x) else uldF r (mis ++ [x]) act
noncomputable def sldG (e : Str) (es : List Str) (f : List Str → List Str × List Str) : List Str → List Str × List Str
 | [] => (e :: es, [])
 | a :: as => if strLt e a = true then (e :: (f (a :: as)).1, (f (a :: as)).2)
   else if strLt a e = true then ((sldG e es f as).1, a :: (sldG e es f as).2) else f as
noncomputable def sldF : List Str → List Str → List Str × List Str
 | [] => fun as => ([], as)
 | e :: es => sldG e es (sldF es)
theorem Zd4 (as : List Str) : sldF [] as = ([], as) := rfl
theorem Zc3 : ∀ es : List Str, sldF es [] = (es, [])
 | [] => rfl
 | _ :: _ => rfl
theorem Zd5 (e a : Str) (es as : List Str) : sldF (e :: es) (a :: as) = if strLt e a = true then (e :: (sldF es (a :: as)).1, (sldF es (a :: as)).2)
   else if strLt a e = true then ((sldF (e :: es) as).1, a :: (sldF (e :: es) as).2) else sldF es as := rfl
theorem Ztz {Q : DFlow → St → Prop} {hp : Pos} (hl : (decide (g.lv = 0) && isGlob g x) = true) (R : Exn → St → Prop)
   (h1 : ∀ X' : Exn → St → Prop, (∀ c σ', R c σ' → X' c σ') → exs P n g body Q X' σ) (h2 : ∀ c σ', R c σ' → glob x = some (.ty c.cls) ∧ c.cls ∈ excs ∧ hb ≠ [] ∧ exs P n ⟨g.sc, g.wr, 3⟩ hb Q noX σ') : ex P (n + 1) g (.Try body [.ExceptHandler (some (.Name x px)) none hb hp] [] [] p) Q X σ :=
 Zmf hl (h1 _ fun c σ' h => h2 c σ' h)
theorem Zdy {Q : DFlow → St → Prop} (hl : g.lv ≠ 1) (h : ∀ I : St → Prop, wT P n g t body orelse Q X I σ) : ex P (n + 1) g (.While t body orelse p) Q X σ :=
 Zel hl (fun U σ' => σ' = σ) 0 rfl fun U U I U e => e ▸ h I
theorem Zkh (es : List Str) (i : Nat) : slL (es.map AV.str) (some (i : Int)) none = (es.drop i).map .str := by
 delta slL
 refine (?_ : ((es.map AV.str).take ((es.map AV.str).length : Int).toNat).drop (i : Int).toNat = _)
 rw [Int.toNat_natCast, Int.toNat_natCast, List.take_length, List.map_drop]
structure SL (H : AH) (e a mi un : Addr) (es as m0 u0 : List Str) : Prop where
 e : H e = some (.list (es.map .str))
 a : H a = some (.list (as.map .str))
 mi : H mi = some (.list (m0.map .str))
 un : H un = some (.list (u0.map .str))
theorem Zip {α : Type} {l : List α} {x : α} (h : l[i]? = some x) : l.drop i = x :: l.drop (i + 1) := by
 refine Op (List.getElem?_eq_some_iff.mp h) ?_; intro hlt e_1; obtain rfl := e_1
 rw [List.drop_eq_getElem_cons hlt]
theorem Zcc (x : Str) : strLt x x = false := by
 delta strLt; exact decide_eq_false (List.lt_irrefl _)
theorem Zfa (h1 : strLt x y = false) (h2 : strLt y x = false) : x = y := by
 delta strLt at h1 h2
 have e := List.le_antisymm (Decidable.not_not.mp (fun q => of_decide_eq_false h2 (List.not_le.mp q))) (Decidable.not_not.mp (fun q => of_decide_eq_false h1 (List.not_le.mp q)))
 cases x; cases y
 simp only [Str.mk.injEq]
 exact Array.toList_inj.mp e
theorem Zfh {es : List Str} (h : es.Pairwise fun x y => strLt x y = true) (h1 : es[i]? = some x) (h2 : es[i + 1]? = some y) : (y == x) = false := by
 refine Op (List.getElem?_eq_some_iff.mp h1) ?_; intro a1 e_1; obtain rfl := e_1
 refine Op (List.getElem?_eq_some_iff.mp h2) ?_; intro a2 e_1; obtain rfl := e_1
 have := List.pairwise_iff_getElem.mp h i (i + 1) a1 a2 (Nat.lt_succ_self _)
 exact beq_eq_false_iff_ne.mpr fun q => by rw [q, Zcc] at this; exact Zai this
theorem Zcw {α β : Type} (c : α → Bool) (f : α → β) : ∀ xs : List α, (xs.flatMap fun x => if c x = true then [f x] else []) = (xs.filter c).map f
 | [] => rfl
 | x :: r => by
   rw [List.flatMap_cons, Zcw c f r, List.filter_cons]
   split <;> rfl
theorem Ztm {Q : AV → St → Prop} {y : Int} (h0 : 0 ≤ y) (h1 : y < 3) (h : Q (.int (3 ^ y.toNat)) σ) : binD P .Pow (.int 3) (.int y) Q X σ := ⟨rfl, h0, h1, h⟩
noncomputable def digit (x : Int) (k : Nat) : Fin 3 := ⟨((x / 3 / 3 ^ k) % 3).toNat, by exact (Int.toNat_lt (Int.emod_nonneg _ (by decide))).2 (Int.emod_lt_of_pos _ (by decide))⟩
noncomputable def partsOf (x : Int) : Md := (List.range (x % 3 + 1).toNat).map (digit x)
theorem Zjl (x : Int) : (partsOf x).length = (x % 3 + 1).toNat := by delta partsOf; rw [List.length_map, List.length_range]
theorem Zem (x : Int) : okM (partsOf x) := by
 delta okM
 rw [Zjl]
 exact ⟨Int.lt_toNat.2 (Int.lt_add_one_of_le (Int.emod_nonneg _ (by decide))), Int.toNat_le.2 (Int.emod_lt_of_pos _ (by decide))⟩
structure MI (ms : List Md) : Prop where
 ok : ∀ m ∈ ms, okM m
 nd : ms.Nodup
 par : ∀ m ∈ ms, 1 < m.length → m.dropLast ∈ ms
theorem MI.add (M : MI ms) {p : Md} (hp : okM p) (hn : p ∉ ms) (hd : 1 < p.length → p.dropLast ∈ ms) : MI (ms ++ [p]) where
 ok m h := (List.mem_append.mp h).elim (M.ok m) fun h => by rw [List.mem_singleton.mp h]; exact hp
 nd := List.nodup_append.mpr ⟨M.nd, by simp, fun a ha b hb e => by rw [List.mem_singleton.mp hb] at e; exact hn (e ▸ ha)⟩
 par m h h1 := by
   rcases List.mem_append.mp h with h | h
   · exact List.mem_append_left _ (M.par m h h1)
   · rw [List.mem_singleton.mp h] at h1 ⊢; exact List.mem_append_left _ (hd h1)
theorem Zdv (h : ∀ m ∈ ms, okM m) {p : Md} (hp : okM p) : (ms.map nmS).contains (nmS p) = ms.contains p := by
 rw [Bool.eq_iff_iff, List.contains_iff_mem, List.contains_iff_mem]
 constructor
 · intro q
   refine Oea (List.mem_map.mp q) ?_; intro m hm e; exact Zfv (h m hm) hp e ▸ hm
 · exact fun q => List.mem_map_of_mem q
theorem Zms (es : List AV) (i : Nat) : slL es none (some (i : Int)) = es.take i := by
 delta slL
 refine (?_ : (es.take (i : Int).toNat).drop (0 : Int).toNat = _)
 rw [Int.toNat_natCast]; rfl
theorem Zgd : ∀ {m : Md}, okM m → ((m.map part).map (·.length)).sum + (m.map part).length ≤ 40
 | [a], _ => by have := (Zf7 a).2.2.2; simp; exact qL this rfl
 | [a, b], _ => by have := (Zf7 a).2.2.2; have := (Zf7 b).2.2.2; simp; (first | lia | omega)
 | [a, b, c], _ => by have := (Zf7 a).2.2.2; have := (Zf7 b).2.2.2; have := (Zf7 c).2.2.2; simp; (first | lia | omega)
 | [], h => absurd h.1 (by decide)
 | _ :: _ :: _ :: _ :: _, h => absurd h.2 (by simp)
theorem Zlf {i' : Nat} {r : List Nat} (h : List.range n = List.range i ++ i' :: r) : i' = i ∧ i < n ∧ List.range n = List.range (i + 1) ++ r := by
 have hlt : i < n := by
   have := congrArg List.length h; rw [List.length_append, List.length_range, List.length_range, List.length_cons] at this; exact Nat.lt_of_lt_of_eq (Nat.lt_add_of_pos_right (Nat.succ_pos _)) this.symm
 have hget := congrArg (fun l => l[i]?) h
 simp only [List.getElem?_range hlt] at hget
 rw [List.getElem?_append_right (by rw [List.length_range]; exact Nat.le_refl _), List.length_range, Nat.sub_self] at hget
 have e : i' = i := (Option.some.inj hget).symm
 refine ⟨e, hlt, ?_⟩
 rw [h, e, List.range_succ, List.append_assoc]; rfl
theorem Zm0 (h : List.range n = List.range i ++ []) : i = n := by
 have := congrArg List.length h
 rw [List.append_nil, List.length_range, List.length_range] at this
 exact this.symm
theorem Zsq (h : n ≤ 100) : (n : Int) ≥ 0 ∧ (n : Int) < 2 ^ 40 := ⟨by exact Int.natCast_nonneg _, by exact qJ h⟩
noncomputable def belowS (m : Str) (ns : List Str) : Bool := !(ns.flatMap fun n => if (Txt.slice m none (some (n.length + 1)) == n ++ ("." : Str)) = true then [AV.str n] else []).isEmpty
noncomputable def ansOf (ts ds : List Str) (fn : Option Str) (m : Str) : Int :=
 if ts.contains m = true then 1 else if (ts.any fun t => Txt.startswith m (t ++ ("." : Str))) = true then 1 else match fn with
   | none => 1
   | some f => if (ds.any fun d => Txt.startswith f (d ++ ("/" : Str))) = true then 1 else 0
noncomputable def fnV : Option Str → AV
 | none => .none
 | some f => .str f
structure Rd (H : AH) (x d ms dl ig : Addr) (ts ds : List Str) (igs : List (Str × AV)) : Prop where
 x : H x = some (.inst 79 d)
 d : ∃ ep, H d = some (.dict [("_mods", .ref ms), ("_dirs", .ref dl), ("_ignore", .ref ig)] ep)
 ms : ∃ n dd, H ms = some (.set (setOf ts) n (some dd))
 dl : H dl = some (.list (ds.map .str))
 ig : ∃ ep, H ig = some (.dict igs ep)
theorem Zng (x y : Str) : PySem.Spec.ltCps x.cps.toList y.cps.toList = strLt x y := by
 delta strLt
 generalize x.cps.toList = a
 generalize y.cps.toList = b
 induction a generalizing b with
 | nil => cases b <;> simp [PySem.Spec.ltCps]
 | cons p a ih =>
   cases b with
   | nil => simp [PySem.Spec.ltCps]
   | cons q b =>
     have hq : (p == q) = decide (p = q) := by rw [Bool.eq_iff_iff]; simp
     unfold PySem.Spec.ltCps; rw [ih, hq, Bool.eq_iff_iff]; simp [List.cons_lt_cons_iff]
noncomputable def leS (x y : Str) : Prop := strLt y x = false
theorem Znm (h1 : leS x y) (h2 : leS y z) : leS x z := by
 delta leS strLt at *
 rw [decide_eq_false_iff_not] at *
 exact List.not_lt.mpr (List.le_trans (List.not_lt.mp h1) (List.not_lt.mp h2))
theorem Zih (h1 : leS x y) (h2 : leS y x) : x = y := Zfa h2 h1
theorem Zf8 : ∀ {r : List Str} {p : Str}, risingS p r = true → (p :: r).Pairwise leS
 | [], _, _ => List.pairwise_singleton _ _
 | x :: r, p, h => by
   unfold risingS at h; rw [Bool.and_eq_true, Bool.not_eq_true', Zng] at h; have ih := Zf8 h.2; refine List.pairwise_cons.mpr ⟨fun y hy => ?_, ih⟩; rcases List.mem_cons.mp hy with rfl | hy
   · exact h.1
   · exact Znm h.1 (List.rel_of_pairwise_cons ih hy)
theorem Zb3 (h : sortedS zs = true) : zs.Pairwise leS := by
 cases zs with
 | nil => exact List.Pairwise.nil
 | cons x r => exact Zf8 h
theorem Zd3 {xs : List Str} (h1 : xs.Pairwise leS) (h2 : ys.Pairwise leS) (hp : xs.Perm ys) : xs = ys :=
 hp.eq_of_pairwise (fun U U U U => Zih) h1 h2
theorem Zh1 {xs : List Str} (h1 : xs.Pairwise leS) (h2 : xs.Nodup) : xs.Pairwise fun x y => strLt x y = true := by
 refine (h1.and h2).imp fun {x y} z => Oa z fun a b => ?_
 cases e : strLt x y with
 | true => rfl
 | false => exact absurd (Zfa e a) b
theorem Zi9 (h1 : strLt x y = true) (h2 : strLt y z = true) : strLt x z = true := by
 delta strLt at *
 rw [decide_eq_true_eq] at *
 exact List.lt_trans h1 h2
theorem Zm6 {e a : Str} {l : List Str} (hc : strLt e a = true) (h : ∀ y ∈ l, strLt a y = true) : (a :: l).contains e = false := by
 cases q : (a :: l).contains e with
 | false => rfl
 | true =>
   rcases List.mem_cons.mp (List.contains_iff_mem.mp q) with rfl | q
   · rw [Zcc] at hc; exact Zai hc
   · have := Zi9 hc (h e q); rw [Zcc] at this; exact Zai this
theorem Zhh {e : Str} {l m : List Str} (h : ∀ x ∈ l, (x == e) = false) : l.filter (fun x => !m.contains x) = l.filter fun x => !(e :: m).contains x :=
 List.filter_congr fun x hx => by rw [List.contains_cons, h x hx, Bool.false_or]
theorem Zrh {e : Str} {l : List Str} (n : l.contains e = false) (x : Str) (hx : x ∈ l) : (x == e) = false :=
 beq_eq_false_iff_ne.mpr fun q => by subst q; rw [List.contains_iff_mem.mpr hx] at n; exact Zai (Eq.symm n)
theorem Zum {e : Str} {l : List Str} (h : ∀ y ∈ l, strLt e y = true) (x : Str) (hx : x ∈ l) : (x == e) = false :=
 beq_eq_false_iff_ne.mpr fun q => by have := h x hx; rw [q, Zcc] at this; exact Zai this
theorem Zfe {es : List Str} : ∀ {as : List Str}, es.Pairwise (fun x y => strLt x y = true) → as.Pairwise (fun x y => strLt x y = true) → sldF es as = (es.filter fun x => !as.contains x, as.filter fun x => !es.contains x) := by
 induction es with
 | nil => exact fun U U => Prod.ext rfl (List.filter_eq_self.mpr fun U U => rfl).symm
 | cons e es ih =>
   intro as h1 h2; have p1 := List.pairwise_cons.mp h1
   induction as with
   | nil => exact Prod.ext (List.filter_eq_self.mpr fun U U => rfl).symm rfl
   | cons a as ih2 =>
     have p2 := List.pairwise_cons.mp h2; rw [Zd5]; by_cases hc : strLt e a = true
     · have n1 := Zm6 hc p2.1
       rw [if_pos hc, ih p1.2 h2, Zhh (l := a :: as) (m := es) (Zrh n1), List.filter_cons (x := e), if_pos (by rw [n1]; rfl)]
     · rw [if_neg hc]
       by_cases hc2 : strLt a e = true
       · have n1 := Zm6 hc2 p1.1
         rw [if_pos hc2, ih2 p2.2, Zhh (l := e :: es) (m := as) (Zrh n1), List.filter_cons (x := a) (xs := as), if_pos (by rw [n1]; rfl)]
       · rw [if_neg hc2]
         have he : e = a := Zfa (by simpa using hc) (by simpa using hc2); subst he; rw [ih p1.2 p2.2, Zhh (l := es) (m := as) (Zum p1.1), Zhh (l := as) (m := es) (Zum p2.1), List.filter_cons (xs := es), if_neg (by simp), List.filter_cons (xs := as), if_neg (by simp)]
theorem Zgu : ∀ {rs mis act : List Str}, rs.Nodup → act.Nodup → uldF rs mis act = (mis ++ rs.filter (fun x => !act.contains x), act.filter fun x => !rs.contains x)
 | [], mis, act, _, _ => by unfold uldF; exact Prod.ext (List.append_nil _).symm (List.filter_eq_self.mpr fun U U => rfl).symm
 | x :: r, mis, act, h1, h2 => by
   have p1 := List.nodup_cons.mp h1; rw [uldF]; by_cases hc : act.contains x = true
   · rw [if_pos hc, Zgu p1.2 (h2.erase x)]
     refine Prod.ext ?_ ?_ <;> dsimp only
     · rw [List.filter_cons, if_neg (by rw [hc]; decide)]
       congr 1
       refine List.filter_congr fun y hy => ?_; have hne : y ≠ x := fun q => p1.1 (q ▸ hy)
       congr 1
       rw [Bool.eq_iff_iff, List.contains_iff_mem, List.contains_iff_mem, h2.mem_erase_iff]; exact ⟨fun q => q.2, fun q => ⟨hne, q⟩⟩
     · rw [h2.erase_eq_filter, List.filter_filter]
       refine List.filter_congr fun y U => ?_; rw [List.contains_cons, Bool.not_or]; exact Bool.and_comm _ _
   · rw [if_neg hc, Zgu p1.2 h2]
     have hc' : act.contains x = false := by simpa using hc
     refine Prod.ext ?_ ?_ <;> dsimp only
     · rw [List.filter_cons, if_pos (by rw [hc']; rfl), List.append_assoc]; rfl
     · refine List.filter_congr fun y hy => ?_
       have : (y == x) = false := beq_eq_false_iff_ne.mpr fun q => by subst q; rw [List.contains_iff_mem.mpr hy] at hc'; exact Zai (Eq.symm hc')
       rw [List.contains_cons, this, Bool.false_or]
theorem Zkn {ms : List Md} : ∀ {zs : List Str}, (∀ z ∈ zs, ∃ m ∈ ms, nmS m = z) → ∃ os : List Md, os.map nmS = zs ∧ ∀ m ∈ os, m ∈ ms
 | [], _ => (Iea [] rfl (fun U h => (nomatch h)))
 | z :: r, h => by
   refine Oea (Zkn (ms := ms) (zs := r) fun y hy => h y (.tail _ hy)) ?_; intro os e h1; refine Oea (h z (.head _)) ?_; intro m hm e_1; obtain rfl := e_1; exact ⟨m :: os, by rw [List.map_cons, e], fun l hl => by
     rcases List.mem_cons.mp hl with rfl | hl
     · exact hm
     · exact h1 l hl⟩
noncomputable def inT (tl : List Md) (m : Md) : Bool := tl.contains m
noncomputable def blT (tl : List Md) (m : Md) : Bool := tl.any fun t => belowM m t
section
variable {tl : List Md} {m : Md} (ht : ∀ t ∈ tl, okM t) (hm : okM m)
include ht hm
theorem Zoj : ((tl.map nmS).any fun t => Txt.startswith (nmS m) (t ++ ("." : Str))) = blT tl m := by
 delta blT
 rw [List.any_map, Bool.eq_iff_iff, List.any_eq_true, List.any_eq_true]
 exact ⟨fun z => Oea z fun t h e => (Iea t h ((Zmy hm (ht t h)).symm.trans e)), fun z => Oea z fun t h e => (Iea t h ((Zmy hm (ht t h)).trans e))⟩
theorem Zqu : ((tl.map normS).any fun d => Txt.startswith (fileS m) (d ++ ("/" : Str))) = blT tl m := by
 delta blT
 rw [List.any_map, Bool.eq_iff_iff, List.any_eq_true, List.any_eq_true]
 exact ⟨fun z => Oea z fun t h e => (Iea t h ((Zq7 hm (ht t h)).symm.trans e)), fun z => Oea z fun t h e => (Iea t h ((Zq7 hm (ht t h)).trans e))⟩
theorem Zok : (ansOf (tl.map nmS) [] (some (fileS m)) (nmS m) == 1) = (inT tl m || blT tl m) := by
 delta ansOf
 rw [Zdv ht hm, Zoj ht hm]
 delta inT
 cases tl.contains m <;> cases blT tl m <;> rfl
theorem Zlz : (ansOf [] (tl.map normS) (some (fileS m)) (nmS m) == 1) = blT tl m := by
 delta ansOf
 simp only [Zqu ht hm]
 cases blT tl m <;> rfl
theorem Zhq : belowS (nmS m) (tl.map nmS) = blT tl m := by
 delta belowS blT
 rw [List.flatMap_map, Bool.eq_iff_iff, Bool.not_eq_true', List.any_eq_true]
 constructor
 · intro h
   cases q : tl.flatMap (fun t => if (Txt.slice (nmS m) none (some ((nmS t).length + 1)) == nmS t ++ ("." : Str)) = true then [AV.str (nmS t)] else []) with
   | nil => rw [q] at h; exact Zai (Eq.symm h)
   | cons v r =>
     have : v ∈ tl.flatMap (fun t => if (Txt.slice (nmS m) none (some ((nmS t).length + 1)) == nmS t ++ ("." : Str)) = true then [AV.str (nmS t)] else []) := by rw [q]; exact .head _
     refine Oea (List.mem_flatMap.mp this) ?_; intro t h1 h2; refine (Iea t h1 ?_)
     split at h2
     · rename_i hc; rw [← Zmz hm (ht t h1)]; exact hc
     · cases h2
 · intro y_1; refine Oea y_1 ?_; clear y_1; intro t h1 h2
   rw [← Zmz hm (ht t h1)] at h2; cases q : tl.flatMap (fun t => if (Txt.slice (nmS m) none (some ((nmS t).length + 1)) == nmS t ++ ("." : Str)) = true then [AV.str (nmS t)] else []) with
   | cons _ _ => rfl
   | nil =>
     have : AV.str (nmS t) ∈ tl.flatMap (fun t => if (Txt.slice (nmS m) none (some ((nmS t).length + 1)) == nmS t ++ ("." : Str)) = true then [AV.str (nmS t)] else []) := List.mem_flatMap.mpr (Iea t h1 (by rw [if_pos h2]; exact .head _)); rw [q] at this; cases this
end
theorem Zoq {Q : AV → St → Prop} (hc : σ.H P.scr = none ∨ ∃ xs : List Int, σ.H P.scr = some (.list (xs.map .int))) (h : ∀ ys : List Int, ys.length ≤ 4 → newA (.list (ys.map .int)) Q X σ) : slD P (.ref P.scr) .none (.int 4) .none Q X σ := by
 have e4 : ∀ xs : List Int, slL (xs.map AV.int) none (some 4) = (xs.take 4).map .int := fun xs => by rw [List.map_take]; exact Zms _ 4
 have hl : ∀ xs : List Int, (xs.take 4).length ≤ 4 := fun xs => by rw [List.length_take]; exact Nat.min_le_left _ _
 rcases hc with h0 | ⟨xs, h0⟩
 · refine Zrr (l := none) (h' := some 4) rfl rfl ⟨by decide, by decide, by decide, by decide⟩ h0 ?_
   rw [e4]; exact h _ (hl _)
 · refine Zl7 (l := none) (h' := some 4) rfl rfl ⟨by decide, by decide, by decide, by decide⟩ h0 ?_
   rw [e4]; exact h _ (hl _)
structure Rounds (H : AH) (ms : List Md) (as : List Addr) : Prop where
 at_ : ∀ i (h : i < as.length), ∃ zs : List Str, H as[i] = some (.list (zs.map .str)) ∧ zs.Perm (lvl ms i) ∧ sortedS zs = true ∧ lvl ms i ≠ []
theorem Zry {α : Type} {asgF : Item → AM Unit} {inner : Nat → AM (List AV)} {need : St → Prop} (xs : List α) (it : α → Item) (J : List α → List AV → St → Prop) (hneed : ∀ dn out σ, J dn out σ → need σ)
   (hstep : ∀ dn x r out σ (K : List AV → St → Prop), xs = dn ++ x :: r → J dn out σ → (∀ ys σ', J (dn ++ [x]) (out ++ ys) σ' → K ys σ') → asgF (it x) (fun U σ1 => inner out.length K X σ1) X σ)
   {items : List Item} {Q : List AV → St → Prop} (hi : items = xs.map it) (h : J [] [] σ) (hq : ∀ out σ', J xs out σ' → Q out σ') : compGo asgF inner need items 0 Q X σ := by
 subst hi
 have key : ∀ (r dn : List α) (out : List AV) (σ : St) (Q : List AV → St → Prop), xs = dn ++ r → J dn out σ → (∀ zs σ', J xs (out ++ zs) σ' → Q zs σ') → compGo asgF inner need (r.map it) out.length Q X σ := by
   intro r
   induction r with
   | nil =>
     intro dn out σ Q e h hq; rw [List.append_nil] at e; subst e; exact ⟨hneed _ _ _ h, hq [] σ (by rw [List.append_nil]; exact h)⟩
   | cons x r ih =>
     intro dn out σ Q e h hq; refine ⟨hneed _ _ _ h, hstep dn x r out σ _ e h fun ys σ' h' => ?_⟩; have := ih (dn ++ [x]) (out ++ ys) σ' (fun zs σ3 => Q (ys ++ zs) σ3) (by rw [e]; simp) h' fun zs σ3 h3 => hq _ _ (by rw [← List.append_assoc]; exact h3); rw [List.length_append] at this; exact this
 exact key xs [] [] σ Q rfl h fun zs σ' h' => hq zs σ' h'
noncomputable def Lvls (H : AH) (ms : List Md) (ls : List Addr) : Prop := ∀ i (h : i < ls.length), ∃ zs : List Str, H ls[i] = some (.list (zs.map .str)) ∧ zs.Perm (lvl ms i) ∧ sortedS zs = true
theorem Lvls.ext {ls : List Addr} (L : Lvls H ms ls) (E : HExt H H') : Lvls H' ms ls := fun i h => Oea (L i h) fun zs e x => (Iea zs (E _ _ e) x)
theorem Ziq (H : AH) (n : Nat) : ∀ xs : List Str, deqs (deq H n) (xs.map .str) (xs.map .str) = some true
 | [] => rfl
 | x :: r => by
   rw [List.map_cons, Zb8, Ziq H n r, Zjt]; simp
theorem Zeg (ha : H a = some (.list (zs.map .str))) (hb : H b = some (.list (zs.map .str))) : deq H (n + 1) (.ref a) (.ref b) = some true := by
 rw [Zda ha hb, if_pos rfl, Ziq]
theorem Zir {H : AH} {n : Nat} : ∀ {xs ys : List Addr}, xs.length = ys.length → (∀ i (h : i < xs.length) (h' : i < ys.length), ∃ zs : List Str, H xs[i] = some (.list (zs.map .str)) ∧ H ys[i] = some (.list (zs.map .str))) → deqs (deq H (n + 1)) (xs.map .ref) (ys.map .ref) = some true
 | [], [], _, _ => rfl
 | x :: xs, y :: ys, hl, h => by
   refine Oea (h 0 (by simp) (by simp)) ?_; intro zs e1 e2; replace e1 : H x = some (.list (zs.map .str)) := e1; replace e2 : H y = some (.list (zs.map .str)) := e2; have ih := Zir (H := H) (n := n) (xs := xs) (ys := ys) (by simpa using hl) fun i h1 h2 => by
     have := h (i + 1) (by simpa using h1) (by simpa using h2); simpa using this
   rw [List.map_cons, List.map_cons, Zb8, ih, Zeg e1 e2]; simp
theorem Zdu {α : Type} (p : α → Bool) : ∀ (ls : List α) (n : Nat), (∀ i (h : i < ls.length), p ls[i] = decide (i < n)) → ls.filter p = ls.take n
 | [], n, _ => by simp
 | x :: r, 0, h => by
   have h0 := h 0 (by simp); rw [List.filter_cons, if_neg (by simpa using h0), Zdu p r 0 fun i hi => (h (i + 1) (Nat.succ_lt_succ hi)).trans (by simp)]; simp
 | x :: r, n + 1, h => by
   have h0 := h 0 (by simp); rw [List.filter_cons, if_pos (by simpa using h0), Zdu p r n fun i hi => (h (i + 1) (Nat.succ_lt_succ hi)).trans (by simp)]; simp
noncomputable def zfH (H : AH) (a : Addr) : List Str := match H a with
 | some (.list xs) => (strsOf xs).getD []
 | _ => []
theorem Zj9 (h : H a = some (.list (zs.map .str))) : zfH H a = zs := by
 delta zfH; rw [h]; dsimp only; rw [strsOf_map]; rfl
theorem Zfm {α : Type} (f : α → List Str) : ∀ xs : List α, (xs.flatMap fun x => (f x).map AV.str) = (xs.flatMap f).map .str
 | [] => rfl
 | x :: r => by rw [List.flatMap_cons, List.flatMap_cons, Zfm f r, List.map_append]
theorem Zvp (M : Mods ms) {ls : List Addr} (hl : ls.length = 3) (L : Lvls H ms ls) : ∃ os : List Md, os.map nmS = ls.flatMap (zfH H) ∧ os.Nodup ∧ (∀ m, m ∈ os ↔ m ∈ ms) ∧ os.length ≤ 30 := by
 obtain ⟨a0, a1, a2, rfl⟩ : ∃ a0 a1 a2, ls = [a0, a1, a2] := by
   rcases ls with _ | ⟨a0, _ | ⟨a1, _ | ⟨a2, _ | ⟨_, _⟩⟩⟩⟩ <;> first | exact ⟨_, _, _, rfl⟩ | (simp at hl)
 refine Oeaa (L 0 (by simp)) ?_; intro z0 e0 p0 U
 refine Oeaa (L 1 (by simp)) ?_; intro z1 e1 p1 U
 refine Oeaa (L 2 (by simp)) ?_; intro z2 e2 p2 U
 have ez : [a0, a1, a2].flatMap (zfH H) = z0 ++ (z1 ++ z2) := by
   have e0' : zfH H a0 = z0 := Zj9 e0; have e1' : zfH H a1 = z1 := Zj9 e1; have e2' : zfH H a2 = z2 := Zj9 e2; simp [e0', e1', e2']
 rw [ez]
 have hm : ∀ k, k ∈ z0 ++ (z1 ++ z2) ↔ ∃ m ∈ ms, nmS m = k := by
   intro k; rw [List.mem_append, List.mem_append, p0.mem_iff, p1.mem_iff, p2.mem_iff, Zcv, Zcv, Zcv]; constructor
   · rintro (⟨m, h, _, e⟩ | ⟨m, h, _, e⟩ | ⟨m, h, _, e⟩) <;> exact Iea m h e
   · intro y_1; refine Oea y_1 ?_; clear y_1; intro m h e
     refine Oa (M.ok m h) ?_; intro h1 h2; have : m.length = 0 + 1 ∨ m.length = 1 + 1 ∨ m.length = 2 + 1 := by first | lia | omega
     rcases this with q | q | q
     · exact .inl (Ieaa m h q e)
     · exact .inr (.inl (Ieaa m h q e))
     · exact .inr (.inr (Ieaa m h q e))
 have hdis : ∀ i j, i ≠ j → ∀ k, k ∈ lvl ms i → k ∈ lvl ms j → False := by
   intro i j hij k h1 h2; refine Oeaa (Zcv.mp h1) ?_; intro m hm1 hl1 e1; refine Oeaa (Zcv.mp h2) ?_; intro m' hm2 hl2 e2; have := Zfv (M.ok m hm1) (M.ok m' hm2) (e1.trans e2.symm); subst this; exact (hij (Nat.succ.inj (hl1.symm.trans hl2))).elim
 have hnd : (z0 ++ (z1 ++ z2)).Nodup := by
   rw [List.nodup_append, List.nodup_append]; refine ⟨p0.nodup_iff.mpr (Zc6 M 0), ⟨p1.nodup_iff.mpr (Zc6 M 1), p2.nodup_iff.mpr (Zc6 M 2), ?_⟩, ?_⟩
   · rintro a ha b hb rfl; exact hdis 1 2 (by decide) a (p1.mem_iff.mp ha) (p2.mem_iff.mp hb)
   · rintro a ha b hb rfl
     rcases List.mem_append.mp hb with h | h
     · exact hdis 0 1 (by decide) a (p0.mem_iff.mp ha) (p1.mem_iff.mp h)
     · exact hdis 0 2 (by decide) a (p0.mem_iff.mp ha) (p2.mem_iff.mp h)
 refine Oea (Zkn (ms := ms) (zs := z0 ++ (z1 ++ z2)) fun z hz => (hm z).mp hz) ?_; intro os e hos
 have hos2 : ∀ m, m ∈ os ↔ m ∈ ms := fun m => ⟨hos m, fun h => by
   have : nmS m ∈ os.map nmS := by rw [e]; exact (hm _).mpr (Iea m h rfl)
   refine Oea (List.mem_map.mp this) ?_; intro l hl e2; exact Zfv (M.ok l (hos l hl)) (M.ok m h) e2 ▸ hl⟩
 have hosn : os.Nodup := by
   rw [← e] at hnd; exact List.Pairwise.of_map nmS (fun a b h q => h (by rw [q])) hnd
 refine (Ieaaa os e hosn hos2 ?_)
 rw [((List.perm_ext_iff_of_nodup hosn M.nd).mpr hos2).length_eq]
 exact M.len
section
variable {P : Par} {n : Nat} {g : SE} {X : Exn → St → Prop} {σ : St}
theorem x_KC {s : Stmt} {r : List Stmt} {Q : DFlow → St → Prop} (h : ex P n g s (kS P n g r Q X) X σ) : kS P (n + 1) g (s :: r) Q X .next σ := h
theorem x_KN {Q : DFlow → St → Prop} (h : Q .next σ) : kS P (n + 1) g [] Q X .next σ := h
theorem Zbk {p : Prop} {c : Bool} {Q : DFlow → St → Prop} (h : Q .next σ) (hc : autoParam (c = false) arS) : if c = true then p else exs P (n + 1) g [] Q X σ := Zk2 hc h
theorem Zbx {l r : Expr} {op : CmpOp} {a b : List Stmt} {Q : DFlow → St → Prop} (h : ev P n g l (fun x σ1 => ev P n g r (fun y σ2 => cmpD op x y (fun v σ3 => boolD v (fun c σ' => if c = true then exs P (n + 1) g a Q X σ' else exs P (n + 1) g b Q X σ') X σ3) X σ2) X σ1) X σ) (hb : autoParam (behindInMarks op r = false) krS) : ex P (n + 2) g (.If (.Compare l [op] [r] p) a b q) Q X σ := x_If (h := Za3 hb h)
section
variable {Q : AV → St → Prop} {x : Str} {p q : Pos} {v : AV}
theorem x_NV (hv : autoParam (isVar g x = true) krS) (hl : autoParam (σ.loc x = some v) lkS) (h : Q v σ) : ev P (n + 1) g (.Name x p) Q X σ := x_rv hv hl h
theorem x_NG (hv : autoParam ((!isVar g x && isGlob g x) = true) krS) (hl : glob x = some v) (h : Q v σ) : ev P (n + 1) g (.Name x p) Q X σ := x_rg hv hl h
theorem x_CG (hv : autoParam ((!isVar g x && isGlob g x) = true) krS) (hl : glob x = some v) (hp : autoParam (plainArgs args = true) krS) (h : evs P n g args (fun vs σ2 => calD P g v vs Q X σ2) X σ) : ev P (n + 2) g (.Call (.Name x p) args [] q) Q X σ := Zkf rfl (x_NG hv hl (Ztx hp h))
theorem x_AV (h : gaD v nm Q X σ) (hv : autoParam (isVar g x = true) krS) (hl : autoParam (σ.loc x = some v) lkS) : ev P (n + 2) g (.Attribute (.Name x p) nm q) Q X σ := Zmj rfl (x_NV hv hl h)
theorem Zbd (h : callAt P g (evs P (n + 1) g args) nm args v Q X σ) (hs : autoParam ((!(ap.endLine == q.line) || !plainArgs args || decide (29 ≤ args.length)) = false) krS) (hv : autoParam (isVar g x = true) krS) (hl : autoParam (σ.loc x = some v) lkS) : ev P (n + 2) g (.Call (.Attribute (.Name x p) nm ap) args [] q) Q X σ := Zcp hs (x_NV hv hl h)
end
section
variable {Q : List AV → St → Prop} {x : Str} {p : Pos} {v : AV}
theorem x_EV (hv : autoParam (isVar g x = true) krS) (hl : autoParam (σ.loc x = some v) lkS) (h : evs P (n + 1) g r (fun vs σ2 => Q (v :: vs) σ2) X σ) : evs P (n + 2) g (.Name x p :: r) Q X σ := Zau (x_NV hv hl h)
theorem x_EO (h : Q [v] σ) (hv : autoParam (isVar g x = true) krS) (hl : autoParam (σ.loc x = some v) lkS) : evs P (n + 2) g [.Name x p] Q X σ := x_EV hv hl h
end
theorem x_AS {Q : Unit → St → Prop} (h : Q () ⟨setL ℓ x v, H⟩) (hw : autoParam (g.wr.contains x = true) krS) : asg P (n + 1) g (.Name x p) v Q X ⟨ℓ, H⟩ := Zmd (x_st hw h)
theorem x_AI {Q : Unit → St → Prop} (h : Q () ⟨setL ℓ x v, H⟩) (hw : autoParam (g.wr.contains x = true) krS) : asgI g (.Name x p) (.one v) Q X ⟨ℓ, H⟩ := Zr3 (x_st hw h)
end
local macro_rules | `(tactic| walk_at $s:str) => if s.getString == "lk" then pure lkS else if s.getString == "hk" then pure hkS else Lean.Macro.throwUnsupported
theorem Ztg {m : Str} {t : Addr} {ns : List Str} (h : H t = some (.list (ns.map .str))) (hl : ns.length ≤ 100) (hm : m.length ≤ 100) (hn : ∀ n ∈ ns, n.length ≤ 100)
   (hQ : ∀ H', HExt H H' → Q (.bool (belowS m ns)) H') : Body P 239 [("module", .str m), ("told", .ref t)] Q H := by
 have hfl : (ns.flatMap fun n => if (Txt.slice m none (some (n.length + 1)) == n ++ ("." : Str)) = true then [AV.str n] else []).length ≤ ns.length := Zba _ (fun n => by split <;> simp) ns
 ((with_reducible refine Za2 (s := ?s1) (r := ?r1) (l := ?l1) ?hb1 ?hl1 ?_); (case hb1 => exact rfl); (case hl1 => (dsimp only [locOf]; exact rfl)))
 with_reducible refine Zaw ?_; refine Zo1 ?_; refine Zby ?_; refine Zdh (h := ?_); refine x_NV (h := ?_); refine Zav ?_
 refine Zbi ns (fun n => .one (.str n)) (fun n => if (Txt.slice m none (some (n.length + 1)) == n ++ ("." : Str)) = true then [.str n] else []) (fun σ => σ.loc "module" = some (.str m) ∧ σ.H = H) ?_ ?_ ?_ ?_ ?_ ?_
 · (intro σ y_1; refine Oa y_1 ?_; clear y_1; intro U e_2; obtain rfl := e_2); exact h
 · intro n hnn k y_1; obtain ⟨l1, H1⟩ := y_1; intro K y_2; refine Oa y_2 ?_; clear y_2; intro h1 h2; intro hk hK
   dsimp only at h1 h2; subst h2; have hn1 := hn n hnn
   with_reducible refine x_AI ?_; refine Zdx ?_; refine Za3 (h := ?_); refine Zbw ?_; refine x_NV (h := ?_); refine Za8 ?_; refine Zdw ?_; refine Zcq ?_; refine x_CG (hl := Zge) (h := ?_); refine x_EO ?_; refine Zaz (hf := Zep) (h := ?_); refine Ztn ?_; refine Za0 ?_; refine Zme ?_; refine Za8 ?_; refine Zl5 ?_; refine Zcq ?_; refine x_NV (h := ?_); refine Zb2 ?_; refine Zet ?_; refine Zhw ?_; refine Zak ?_
   split
   · rename_i hc
     rw [if_pos hc] at hk hK
     with_reducible refine Zbu ?_; refine x_NV (h := ?_)
     exact ⟨hk, hK _ ⟨by walk_at "lk", rfl⟩⟩
   · rename_i hc
     rw [if_neg hc] at hK; exact hK _ ⟨by walk_at "lk", rfl⟩
 · exact List.map_map ..
 · exact ⟨by walk_at "lk", rfl⟩
 · exact Zat (by omega)
 · intro y_1; obtain ⟨l1, H1⟩ := y_1; intro y_2; refine Oa y_2 ?_; clear y_2; intro U h2
   dsimp only at h2; subst h2; refine ⟨Zat (by omega), Zbh fun a ha => ?_⟩
   with_reducible refine Zbc ?_; refine Zah ?_
   refine ⟨by decide, Zbh fun b hb => ?_⟩; refine Zgo (Zku (by walk_at "hk") (by walk_at "hk")) ?_
   with_reducible refine x_kr ?_; refine x_fr ?_
   exact hQ _ ((HExt.upd _ ha).trans (HExt.upd _ hb))
theorem Zuy {nm : AV} (hQ : Q (.str "") H) : Body P 28 [("name", nm), ("x", .str x)] Q H := by
 ((with_reducible refine Za2 (s := ?s2) (r := ?r2) (l := ?l2) ?hb2 ?hl2 ?_); (case hb2 => exact rfl); (case hl2 => (dsimp only [locOf]; exact rfl)))
 with_reducible refine Zad ?_; refine x_CG (hl := Zsy) (h := ?_); refine x_EO ?_; refine Zaz (hf := Zp3) (h := ?_); refine Zrk ?_; refine x_AS ?_; refine x_KC ?_; refine Zbx ?_; refine x_NV (h := ?_); refine x_NG (hl := Zup) (h := ?_); refine Zu9 ?_; refine Zak ?_; refine x_iT ?_; refine Zam (h := ?_); refine Zaw ?_; refine Zb2 ?_; refine x_kr ?_; refine x_kr ?_; refine x_fr ?_
 exact hQ
theorem Zqq {nm cn an : AV} {k : Addr} (ha : H a = some (.tup [.str x])) (hk : H k = some (.dict [] 0))
   (hF : ∀ u v Q H, Q (.str "") H → P.F 28 [u, .str v] Q H) (hQ : Q (.str x) H) : Body P 35 [("name", nm), ("cname", cn), ("argname", an), ("args", .ref a), ("kwargs", .ref k)] Q H := by
 ((with_reducible refine Za2 (s := ?s3) (r := ?r3) (l := ?l3) ?hb3 ?hl3 ?_); (case hb3 => exact rfl); (case hl3 => (dsimp only [locOf]; exact rfl)))
 with_reducible refine x_If ?_; refine Zb9 ?_; refine Zl1 ?_; refine Za3 (h := ?_); refine x_CG (hl := Zge) (h := ?_); refine x_EO ?_; refine Zaz (hf := Zep) (h := ?_); refine Zma ?_; refine Za0 ?_; refine Zk3 ?_; refine Zak ?_; refine x_iT ?_; refine Zl1 ?_; refine Zdn ?_; refine x_tr (h := ?_); refine x_NV (h := ?_); refine Zrn ?_; refine x_iT ?_; refine Zoo ?_; refine x_iT ?_; refine Zam (h := ?_); refine Zad ?_; refine Zdz ?_; refine x_NV (h := ?_); refine Za0 ?_; refine Zu8 ?_; refine x_AS ?_; refine x_KN ?_; refine x_KC ?_; refine Zad ?_; refine x_CG (hl := Zsz) (h := ?_); refine x_EV (h := ?_); refine x_EO ?_
 refine Zbj ?_
 refine hF _ _ _ _ ?_
 with_reducible refine x_AS ?_; refine x_KC ?_; refine x_If ?_; refine x_tr (h := ?_); refine x_NV (h := ?_); refine Zhr ?_; refine Zbk ?_; refine x_KC ?_; refine Zaw ?_; refine x_NV (h := ?_); refine x_kr ?_; refine x_fr ?_
 exact hQ
theorem Zjy {p : Str} (hl : p.length ≤ 100) (h1 : (Txt.slice p none (some 1) == ("/" : Str)) = true) (h2 : (Txt.slice p (some 1) (some 2) == ("/" : Str)) = false)
   (hQ : ∀ a, H a = none → Q (.ref a) (upd H a (.tup [.str "", .str "/", .str (Txt.slice p (some 1) none)]))) : Body P 42 [("p", .str p)] Q H := by
 ((with_reducible refine Za2 (s := ?s4) (r := ?r4) (l := ?l4) ?hb4 ?hl4 ?_); (case hb4 => exact rfl); (case hl4 => (dsimp only [locOf]; exact rfl)))
 with_reducible refine Zad ?_; refine Zb2 ?_; refine x_AS ?_; refine x_KC ?_; refine Zad ?_; refine Zb2 ?_; refine x_AS ?_; refine x_KC ?_; refine Zbx ?_; refine Zbw ?_; refine x_NV (h := ?_); refine Za8 ?_; refine Zdw ?_; refine Za0 ?_; refine Za8 ?_; refine Zl5 ?_; refine x_NV (h := ?_); refine Zru ?_; refine Zak ?_
 refine Zk2 (by rw [h1]; rfl) ?_
 with_reducible refine Zam (h := ?_); refine x_If ?_; refine Zb9 ?_; refine Zcy ?_; refine Za3 (h := ?_); refine Zbw ?_; refine x_NV (h := ?_); refine Zdw ?_; refine Za0 ?_; refine Zdw ?_; refine Za0 ?_; refine Za8 ?_; refine Zl5 ?_; refine x_NV (h := ?_); refine Zru ?_; refine Zak ?_
 refine Zgq (by rw [h2]; rfl) ?_
 with_reducible refine x_iT ?_; refine Zam (h := ?_); refine Zaw ?_; refine Zfs ?_; refine x_EV (h := ?_); refine x_EV (h := ?_); refine Zau (h := ?_); refine Zbw ?_; refine x_NV (h := ?_); refine Zdw ?_; refine Za0 ?_; refine Za8 ?_; refine Za8 ?_; refine Zl5 ?_; refine Zah ?_
 refine Zap (h := fun a ha => ?_)
 with_reducible refine x_kr ?_; refine x_kr ?_; refine x_kr ?_; refine x_fr ?_
 exact hQ a ha
structure CompOk (c : Str) : Prop where
 ne : (c.length != 0) = true
 dot : (c == ("." : Str)) = false
 dd : (c == (".." : Str)) = false
 len : c.length ≤ 10
theorem Zj1 {p : Str} {ps : List Str} (h0 : (p.length != 0) = true) (hl : p.length ≤ 100) (h1 : (Txt.slice p none (some 1) == ("/" : Str)) = true) (h2 : (Txt.slice p (some 1) (some 2) == ("/" : Str)) = false)
   (hs : Txt.split (Txt.slice p (some 1) none) "/" = ps ++ [("." : Str)]) (hsl : (Txt.slice p (some 1) none).length ≤ 100) (hn : ps.length ≤ 10) (hps : ∀ c ∈ ps, CompOk c) (hj : (Txt.join "/" ps).length ≤ 100) (hj2 : (ps.map (·.length)).sum + ps.length ≤ 200)
   (hF : ∀ Q H, (∀ a, H a = none → Q (.ref a) (upd H a (.tup [.str "", .str "/", .str (Txt.slice p (some 1) none)]))) → P.F 42 [.str p] Q H)
   (hQ : ∀ H', HExt H H' → Q (.str (("/" : Str) ++ Txt.join "/" ps)) H') : Body P 49 [("path", .str p)] Q H := by
 ((with_reducible refine Za2 (s := ?s5) (r := ?r5) (l := ?l5) ?hb5 ?hl5 ?_); (case hb5 => exact rfl); (case hl5 => (dsimp only [locOf]; exact rfl)))
 with_reducible refine Zad ?_; refine Zb2 ?_; refine x_AS ?_; refine x_KC ?_; refine Zad ?_; refine Zb2 ?_; refine x_AS ?_; refine x_KC ?_; refine Zad ?_; refine Zb2 ?_; refine x_AS ?_; refine x_KC ?_; refine x_If ?_; refine Zdn ?_; refine x_tr (h := ?_); refine x_NV (h := ?_); refine Zhr ?_
 refine Zk2 (by rw [h0]; rfl) ?_
 with_reducible refine Zu3 ?_; refine x_KC ?_; refine Zad ?_; refine x_CG (hl := Zij) (h := ?_); refine x_EO ?_
 refine Zbj ?_
 refine hF _ _ fun a ha => ?_
 refine Zgt (by kernel_rfl!) (by walk_at "hk") rfl (by decide) ?_
 with_reducible refine Zgj ?_; refine x_st (h := ?_); refine Zgj ?_; refine x_st (h := ?_); refine Zgj ?_; refine x_st (h := ?_); refine Zka ?_; refine x_KC ?_; refine Zad ?_; refine Zbd ?_; refine Zal (h := ?_); refine x_EO ?_; refine Zbm ?_
 refine Zro (h2 := ?_) (h := ?_)
 · rw [hs]; exact Zat (by simp; exact qL hn rfl)
 rw [hs]
 refine Zbh fun cl hcl => ?_
 with_reducible refine x_AS ?_; refine x_KC ?_; refine Zad ?_; refine Zbc ?_; refine Zah ?_
 refine Zap (h := fun b hb => ?_)
 have hbc : cl ≠ b := Zag (by walk_at "hk") hb
 have hE0 := (HExt.upd _ ha).trans ((HExt.upd _ hcl).trans (HExt.upd (.list []) hb))
 have hb0 : H b = none := ((HExt.upd _ ha).trans (HExt.upd _ hcl)).none hb
 with_reducible refine x_AS ?_; refine x_KC ?_; refine Ze7 ?_; refine x_NV (h := ?_); refine Zav ?_
 refine Zdi (fun c => .one (.str c)) (fun r σ => ∃ d, (r = [] ∧ d = ps ∨ ∃ r', r = r' ++ [("." : Str)] ∧ ps = d ++ r') ∧ σ.loc "sep" = some (.str "/") ∧ σ.loc "dot" = some (.str ".") ∧ σ.loc "dotdot" = some (.str "..") ∧ σ.loc "initial_slashes" = some (.str "/") ∧
     σ.loc "new_comps" = some (.ref b) ∧ σ.H b = some (.list (d.map .str)) ∧ σ.H cl = some (.list ((ps ++ [("." : Str)]).map .str)) ∧ HExt H σ.H) ?_ ?_ ?_ (ps ++ [("." : Str)]) ?_ ?_
 · (intro r σ y_1; refine Oeaaaaaaaa y_1 ?_; clear y_1; intro d U U U U U U U h U); exact h
 · intro c r y_1; obtain ⟨loc, H1⟩ := y_1; intro K y_2; refine Oeaaaaaaaa y_2 ?_; clear y_2; intro d hd l1 l2 l3 l4 l5 g1 g2 hE; intro kn kc kb kr
   dsimp only at l1 l2 l3 l4 l5 g1 g2 hE; rcases hd with ⟨h, _⟩ | ⟨r', h, hp⟩
   · cases h
   rcases r' with _ | ⟨c', r'⟩
   · cases h
     with_reducible refine x_AI ?_; refine Zam (h := ?_); refine x_If ?_; refine Zb9 ?_; refine Zcy ?_; refine Zdn ?_; refine x_tr (h := ?_); refine x_NV (h := ?_); refine Zhr ?_; refine x_iF ?_; refine Zcy ?_; refine Za3 (h := ?_); refine x_NV (h := ?_); refine x_NV (h := ?_); refine Zhw ?_; refine Zak ?_; refine x_iT ?_; refine x_iT ?_; refine Zam (h := ?_); refine Zf3 ?_; refine x_kc ?_; refine x_kc ?_
     refine kc _ (Ieaaaaaaa d (.inl ⟨rfl, by rw [hp, List.append_nil]⟩) (by walk_at "lk") (by walk_at "lk") (by walk_at "lk") (by walk_at "lk") (by walk_at "lk") g1 (Ia g2 hE))
   · cases h
     have hc := hps c (by rw [hp]; simp); have e0 := hc.len; have e1 := hc.ne; have e2 := hc.dot; have e3 := hc.dd; have hdl : d.length ≤ 10 := by have := congrArg List.length hp; simp at this; exact Nat.le_trans (Nat.le_add_right _ _) (Nat.le_trans (Nat.le_of_eq this.symm) hn)
     with_reducible refine x_AI ?_; refine Zam (h := ?_); refine x_If ?_; refine Zb9 ?_; refine Zcy ?_; refine Zdn ?_; refine x_tr (h := ?_); refine x_NV (h := ?_); refine Zhr ?_
     refine Zk2 (by rw [e1]; rfl) ?_
     with_reducible refine Zcy ?_; refine Za3 (h := ?_); refine x_NV (h := ?_); refine x_NV (h := ?_); refine Zhw ?_; refine Zak ?_; refine x_iF ?_; refine Zgk ?_; refine Zbk ?_; refine x_KC ?_; refine x_If ?_; refine Zb9 ?_; refine Zcy ?_; refine Za3 (h := ?_); refine x_NV (h := ?_); refine x_NV (h := ?_); refine Zru ?_; refine Zak ?_
     refine Zgq (by rw [e3]; rfl) ?_
     with_reducible refine x_iT ?_; refine Zam (h := ?_); refine Zan ?_; refine Zbd ?_; refine Zal (h := ?_); refine x_EO ?_; refine Zbm ?_; refine Zbp ?_; refine x_KN ?_; refine x_KN ?_
     refine kn _ (Ieaaaaaaa (d ++ [c]) ?_ (by walk_at "lk") (by walk_at "lk") (by walk_at "lk") (by walk_at "lk") (by walk_at "lk") ?_ (Ia ?_ ?_))
     · rcases r' with _ | ⟨c2, r2⟩
       · exact .inr (Iea [] rfl (by rw [hp, List.append_nil]))
       · exact .inr (Iea (c2 :: r2) rfl (by rw [hp]; simp))
     · rw [List.map_append]; exact upd_same _ _ _
     · exact Zaa g2 hbc
     · exact Zb7 hE hb0
 · intro y_1; obtain ⟨loc, H1⟩ := y_1; intro y_2; refine Oeaaaaaaaa y_2 ?_; clear y_2; intro d hd l1 l2 l3 l4 l5 g1 g2 hE
   dsimp only at l1 l2 l3 l4 l5 g1 g2 hE; have hd : d = ps := by
     rcases hd with ⟨_, h⟩ | ⟨r', h, _⟩
     · exact h
     · cases r' <;> cases h
   subst hd
   with_reducible refine x_KC ?_; refine Zad ?_; refine x_NV (h := ?_); refine x_AS ?_; refine x_KC ?_; refine Zad ?_; refine Zcq ?_; refine x_NV (h := ?_); refine Zbd ?_; refine Zal (h := ?_); refine x_EO ?_; refine Zbm ?_
   refine Zkd (by walk_at "hk") (strsOf_map _) (by kernel_rfl!) (Zat (by exact qL hj2 rfl)) ?_
   with_reducible refine Zet ?_; refine x_AS ?_; refine x_KC ?_; refine Zaw ?_; refine Zmi ?_; refine Zq1 ?_; refine x_NV (h := ?_); refine Zhr ?_
   refine Zgq (ne0 (by simp only [Znl, Zrb]; exact Nat.add_pos_left Nat.one_pos _)) ?_
   with_reducible refine x_kr ?_; refine x_fr ?_
   exact hQ _ hE
 · exact List.map_map ..
 · exact Ieaaaaaaa [] (.inr (Iea ps rfl rfl)) (by walk_at "lk") (by walk_at "lk") (by walk_at "lk") (by walk_at "lk") (by walk_at "lk") (by exact upd_same _ _ _) (Ia (by walk_at "hk") hE0)
theorem Zlw {k : Addr} (ha : H a = some (.tup [.str x])) (hk : H k = some (.dict [] 0))
   (hF35 : ∀ n c m Q, Q (.str x) H → P.F 35 [n, c, m, .ref a, .ref k] Q H)
   (hF49 : ∀ Q H, (∀ H', HExt H H' → Q (.str y) H') → P.F 49 [.str x] Q H)
   (hQ : ∀ H', HExt H H' → Q (.str y) H') : Body P 56 [("args", .ref a), ("kwargs", .ref k)] Q H := by
 ((with_reducible refine Za2 (s := ?s6) (r := ?r6) (l := ?l6) ?hb6 ?hl6 ?_); (case hb6 => exact rfl); (case hl6 => (dsimp only [locOf]; exact rfl)))
 with_reducible refine Zaw ?_; refine x_CG (hl := Zik) (h := ?_); refine Zau (h := ?_); refine x_CG (hl := Znu) (h := ?_); refine Zau (h := ?_); refine Zb2 ?_; refine Zau (h := ?_); refine Zb2 ?_; refine Zau (h := ?_); refine Zb2 ?_; refine x_EV (h := ?_); refine x_EO ?_
 refine Zbj ?_
 refine hF35 _ _ _ _ ?_
 with_reducible refine Zah ?_
 refine Zbj ?_
 refine hF49 _ _ fun H' hE => ?_
 with_reducible refine x_kr ?_; refine x_fr ?_
 exact hQ _ hE
theorem Zqr {x mo di : Addr} {nf : Str → Str} (hx : H x = some (.inst 79 d)) (hd : H d = some (.dict [] 0)) (hmo : H mo = some (.list (ts.map .str))) (hdi : H di = some (.list (ds.map .str)))
   (ht : ts.length < 100) (hds : ds.length < 100)
   (hF : ∀ s ∈ ds, ∀ Q H', (∀ H'', HExt H' H'' → Q (.str (nf s)) H'') → P.F 56 [.str s] Q H')
   (hQ : ∀ H' ms dl ig n dd ep, H' d = some (.dict [("_mods", .ref ms), ("_dirs", .ref dl), ("_ignore", .ref ig)] ep) → (∃ ep, H' ig = some (.dict [("<string>", .int 1)] ep)) → H' ms = some (.set (setOf ts) n (some dd)) → H' dl = some (.list ((ds.map nf).map .str)) →
     H ms = none → H dl = none → H ig = none → (∀ a o, a ≠ d → H a = some o → H' a = some o) → Q .none H') : Body P 69 [("self", .ref x), ("modules", .ref mo), ("dirs", .ref di)] Q H := by
 ((with_reducible refine Za2 (s := ?s7) (r := ?r7) (l := ?l7) ?hb7 ?hl7 ?_); (case hb7 => exact rfl); (case hl7 => (dsimp only [locOf]; exact rfl)))
 with_reducible refine Zad ?_; refine Zt1 ?_; refine Zdn ?_; refine x_tr (h := ?_); refine x_NV (h := ?_); refine Zek ?_
 refine Zts (fun v σ' => ∃ ms n dd, v = .ref ms ∧ H ms = none ∧ σ' = ⟨setL (setL (setL (fun U => none) "self" (.ref x)) "modules" (.ref mo)) "dirs" (.ref di), upd H ms (.set (setOf ts) n (some dd))⟩) ?_ ?_ ?_
 · intro K hK hc
   have : ts = [] := by cases ts with | nil => rfl | cons _ _ => exact Zai hc
   subst this
   with_reducible refine x_CG (hl := Znr) (h := ?_); refine Zah ?_; refine Zaz (hf := Zjs) (h := ?_)
   refine Zqv fun dd => Zbh fun ms hms => hK _ _ (Ieeeaa ms 0 dd rfl hms rfl)
 · intro K hK hc
   have : ts ≠ [] := by rintro rfl; exact Zai (Eq.symm hc)
   with_reducible refine x_CG (hl := Znr) (h := ?_); refine x_EO ?_; refine Zaz (hf := Zjs) (h := ?_)
   refine Ztj hmo (strsOf_map _) this ht fun n dd => Zbh fun ms hms => hK _ _ (Ieeeaa ms n dd rfl hms rfl)
 intro U U y_1; refine Oeeeaa y_1 ?_; clear y_1; intro ms n dt e_2; obtain rfl := e_2; intro hms e_3; obtain rfl := e_3
 have n1 : di ≠ d := by rintro rfl; rw [hdi] at hd; cases hd
 have n2 : x ≠ d := by rintro rfl; rw [hx] at hd; cases hd
 have n3 : ms ≠ d := (Zag hd hms).symm
 have hdn : upd H ms (.set (setOf ts) n (some dt)) d = some (.dict [] 0) := Zac hd hms
 with_reducible
  refine Za6 ?_; refine x_NV (h := ?_); refine Zfq ?_; intro U; refine x_KC ?_; refine Zad ?_; refine Zt1 ?_; refine Zdn ?_; refine x_tr (h := ?_); refine x_NV (h := ?_); refine Zek ?_
 generalize hH1 : upd (upd H ms (.set (setOf ts) n (some dt))) d _ = H1
 have gx : H1 x = some (.inst 79 d) := by rw [← hH1]; walk_at "hk"
 have gd : H1 d = some (.dict [("_mods", .ref ms)] ‹Nat›) := by rw [← hH1]; exact upd_same _ _ _
 have gdi : H1 di = some (.list (ds.map .str)) := by rw [← hH1]; walk_at "hk"
 have gms : H1 ms = some (.set (setOf ts) n (some dt)) := by rw [← hH1]; exact Zaa (upd_same _ _ _) n3
 have fr1 : ∀ a o, a ≠ d → H a = some o → H1 a = some o := fun a o ne h => by rw [← hH1]; exact Zaa (Zac h hms) ne
 have up1 : ∀ H', HExt H1 H' → ∀ a o, a ≠ d → H a = some o → H' a = some o := fun H' hE a o ne h => hE _ _ (fr1 a o ne h)
 clear hdn
 refine Zts (fun v σ' => ∃ dl, v = .ref dl ∧ H1 dl = none ∧ σ'.loc = setL (setL (setL (fun U => none) "self" (.ref x)) "modules" (.ref mo)) "dirs" (.ref di) ∧ HExt H1 σ'.H ∧ σ'.H dl = some (.list ((ds.map nf).map .str))) ?_ ?_ ?_
 · intro K hK hc
   have : ds = [] := by cases ds with | nil => rfl | cons _ _ => exact Zai hc
   subst this
   with_reducible refine Zbc ?_; refine Zah ?_
   refine Zap (h := fun dl hdl => hK _ _ (Ieaaaa dl rfl hdl rfl (HExt.upd _ hdl) (upd_same _ _ _)))
 · intro K hK hc
   with_reducible refine Zby ?_; refine Zdh (h := ?_); refine x_NV (h := ?_); refine Zav ?_
   refine Zbi ds (fun n => .one (.str n)) (fun n => [.str (nf n)]) (fun σ => HExt H1 σ.H) ?_ ?_ ?_ ?_ ?_ ?_
   · rintro σ hE; exact hE _ _ gdi
   · rintro n hnn k ⟨l, H2⟩ K hE hk hK
     with_reducible refine x_AI ?_; refine Zbu ?_; refine x_CG (hl := Zjo) (h := ?_); refine x_EO ?_
     refine Zbj ?_; refine hF n hnn _ _ fun H3 hE3 => ?_; exact ⟨hk, hK _ (hE.trans hE3)⟩
   · exact List.map_map ..
   · exact HExt.refl _
   · have := Zba (fun n => [AV.str (nf n)]) (fun U => Nat.le_refl _) ds; refine Zat ?_; exact qz (Nat.le_trans this (qL (Nat.le_of_lt hds) rfl))
   · rintro ⟨l, H2⟩ hE
     refine Zap (hl := ?_) (h := fun dl hdl => hK _ _ (Ieaaaa dl rfl (hE.none hdl) rfl (hE.trans (HExt.upd _ hdl)) ?_))
     · have := Zba (fun n => [AV.str (nf n)]) (fun U => Nat.le_refl _) ds; refine Zat ?_; exact Nat.le_trans this (qL (Nat.le_of_lt hds) rfl)
     · rw [Zed]; exact upd_same _ _ _
 intro U y_1; obtain ⟨l2, H2⟩ := y_1; intro y_2; refine Oeaaaa y_2 ?_; clear y_2; intro dl e_3; obtain rfl := e_3; intro hdl e_4; obtain rfl := e_4; intro hE gdl
 have kx := hE _ _ gx
 have kd := hE _ _ gd
 have n4 : dl ≠ d := (Zag gd hdl).symm
 with_reducible
  refine Za6 ?_; refine x_NV (h := ?_); refine Zfq ?_; intro U; refine x_KC ?_; refine Zad ?_; refine Zr4 ?_; intro U
 refine Zbh fun ig hig => ?_
 with_reducible
  refine Za6 ?_; refine x_NV (h := ?_); refine Zfq ?_; intro U; refine x_KN ?_; refine x_fn ?_
 have hp : putA (putA [(Str.ofString "_mods", AV.ref ms)] (Str.ofString "_dirs") (.ref dl)) (Str.ofString "_ignore") (.ref ig) = [(Str.ofString "_mods", .ref ms), (Str.ofString "_dirs", .ref dl), (Str.ofString "_ignore", .ref ig)] := by kernel_rfl!
 have n5 : ig ≠ d := by rintro rfl; rw [upd_same] at hig; exact Zab (Eq.symm hig)
 have hig2 : H2 ig = none := by rw [Zay _ _ n5] at hig; exact hig
 refine hQ _ ms dl ig n dt _ (by rw [← hp]; exact upd_same _ _ _) ⟨_, Zaa (upd_same _ _ _) n5⟩ ?_ ?_ hms ?_ ?_ fun a o ne h => ?_
 · exact Zaa (Zac (Zaa (hE _ _ gms) n3) hig) n3
 · exact Zaa (Zac (Zaa gdl n4) hig) n4
 · cases q : H dl with
   | none => rfl
   | some o => have := fr1 dl o n4 q; rw [hdl] at this; exact Zab this
 · cases q : H ig with
   | none => rfl
   | some o => have := (hE _ _ (fr1 ig o n5 q)).symm.trans hig2; exact Zab (Eq.symm this)
 · exact Zaa (Zac (Zaa (up1 _ hE a o ne h) ne) hig) ne
theorem Ztf {x ms : Addr} {fn : Option Str} {m : Str} (R : Rd H x d ms dl ig ts ds igs) (hm : m.length ≤ 100) (hts : ∀ t ∈ ts, t.length ≤ 100) (hds : ∀ t ∈ ds, t.length ≤ 100) (hlen : igs.length ≤ 100)
   (hQ1 : ∀ v, lookA igs m = some v → Q v H) (hQ2 : lookA igs m = none → ∀ ep, Q (.int (ansOf ts ds fn m)) (upd H ig (.dict (putA igs m (.int (ansOf ts ds fn m))) ep))) : Body P 76 [("self", .ref x), ("filename", fnV fn), ("modulename", .str m)] Q H := by
 obtain ⟨hx, ⟨e1, hd⟩, ⟨n, dt, hms⟩, hdl, ⟨e2, hig⟩⟩ := R
 ((with_reducible refine Za2 (s := ?s8) (r := ?r8) (l := ?l8) ?hb8 ?hl8 ?_); (case hb8 => exact rfl); (case hl8 => (dsimp only [locOf]; exact rfl)))
 with_reducible refine Zbx ?_; refine x_NV (h := ?_); refine x_AV ?_; refine Zbo ?_; refine Ztr ?_; refine Zak ?_
 cases hl : lookA igs m with
 | some v =>
   with_reducible refine x_iT ?_; refine Zam (h := ?_); refine Zaw ?_; refine Zdz ?_; refine x_AV ?_; refine Zbo ?_; refine x_NV (h := ?_); refine Zot ?_; refine x_kr ?_; refine x_kr ?_; refine x_fr ?_
   exact hQ1 v hl
 | none =>
 with_reducible refine Zbk ?_; refine x_KC ?_; refine Zbx ?_; refine x_NV (h := ?_); refine x_AV ?_; refine Zbo ?_; refine Zi3 ?_; refine Zak ?_
 cases hS : setOf ts m with
 | true =>
   have ha : ansOf ts ds fn m = 1 := if_pos hS; rw [ha] at hQ2
   with_reducible
    refine x_iT ?_; refine Zam (h := ?_); refine Zad ?_; refine Za0 ?_; refine Zco ?_; refine x_AV ?_; refine Zbo ?_; refine x_NV (h := ?_); refine Zi1 ?_; intro U; refine x_KC ?_; refine Zaw ?_; refine Za0 ?_; refine x_kr ?_; refine x_kr ?_; refine x_fr ?_
   exact hQ2 hl _
 | false =>
 with_reducible refine Zbk ?_; refine x_KC ?_; refine Ze7 ?_; refine x_AV ?_; refine Zbo ?_
 refine Zop hms ?_
 intro xs hxs
 have hmem : ∀ t, t ∈ xs ↔ t ∈ ts := fun t => (hxs t).symm.trans List.contains_iff_mem
 have hany : ∀ p : Str → Bool, xs.any p = ts.any p := fun p => by
   rw [Bool.eq_iff_iff, List.any_eq_true, List.any_eq_true]; exact ⟨fun z => Oea z fun t h q => (Iea t ((hmem t).mp h) q), fun z => Oea z fun t h q => (Iea t ((hmem t).mpr h) q)⟩
 refine Zdi (fun c => .one (.str c)) (fun r σ => (∃ d, xs = d ++ r) ∧ σ.loc "self" = some (.ref x) ∧ σ.loc "filename" = some (fnV fn) ∧ σ.loc "modulename" = some (.str m) ∧ σ.H = H ∧ (xs.any fun t => Txt.startswith m (t ++ ("." : Str))) = (r.any fun t => Txt.startswith m (t ++ ("." : Str)))) ?_ ?_ ?_ xs rfl ?_
 · (intro r y_1; obtain ⟨l, H1⟩ := y_1; intro y_2; refine Oaaaaa y_2 ?_; clear y_2; intro U U U U h U); dsimp only at h; subst h; exact hms
 · intro c r y_1; obtain ⟨l, H1⟩ := y_1; intro K y_2; refine Oaaaaa y_2 ?_; clear y_2; intro z_3 l1 l2 l3 h ha; obtain ⟨d0, hd0⟩ := z_3; intro kn kc kb kr
   dsimp only at l1 l2 l3 h; subst h; have hc := hts c ((hmem c).mp (by rw [hd0]; simp))
   with_reducible refine x_AI ?_; refine Zam (h := ?_); refine x_If ?_; refine x_tr (h := ?_); refine Zbd ?_; refine Zal (h := ?_); refine Zau (h := ?_); refine Zcq ?_; refine x_NV (h := ?_); refine Zb2 ?_; refine Zet ?_; refine Zah ?_; refine Zbm ?_; refine Zkb ?_; refine Zbv ?_
   cases hp : Txt.startswith m (c ++ Str.ofString ".") with
   | true =>
     have ha : ansOf ts ds fn m = 1 := (if_neg (by rw [show ts.contains m = false from hS]; decide)).trans (if_pos (by rw [← hany, ha, List.any_cons, hp]; rfl)); rw [ha] at hQ2
     with_reducible
      refine x_iT ?_; refine Zam (h := ?_); refine Zad ?_; refine Za0 ?_; refine Zco ?_; refine x_AV ?_; refine Zbo ?_; refine x_NV (h := ?_); refine Zi1 ?_; intro U; refine x_KC ?_; refine Zaw ?_; refine Za0 ?_; refine x_kr ?_; refine x_kr ?_
     refine kr _ _ ?_
     with_reducible refine x_kr ?_; refine x_fr ?_
     exact hQ2 hl _
   | false =>
     with_reducible refine Zbk ?_; refine x_KN ?_
     refine kn _ ⟨⟨d0 ++ [c], by rw [hd0]; simp⟩, by walk_at "lk", by walk_at "lk", by walk_at "lk", rfl, by rw [ha, List.any_cons, hp]; rfl⟩
 rotate_left
 · exact ⟨⟨[], rfl⟩, by walk_at "lk", by walk_at "lk", by walk_at "lk", rfl, rfl⟩
 intro y_1; obtain ⟨l, H1⟩ := y_1; intro y_2; refine Oaaaaa y_2 ?_; clear y_2; intro U l1 l2 l3 h ha
 dsimp only at l1 l2 l3 h
 subst h
 have ha' : (ts.any fun t => Txt.startswith m (t ++ ("." : Str))) = false := by rw [← hany, ha]; rfl
 cases fn with
 | none =>
   have hans : ansOf ts ds none m = 1 := (if_neg (by rw [show ts.contains m = false from hS]; decide)).trans (if_neg (by rw [ha']; decide)); rw [hans] at hQ2
   change l "filename" = some .none at l2
   with_reducible
    refine x_KC ?_; refine Zbx ?_; refine x_NV (h := ?_); refine Zch ?_; refine Zqz ?_; refine Zak ?_; refine x_iT ?_; refine Zam (h := ?_); refine Zad ?_; refine Za0 ?_; refine Zco ?_; refine x_AV ?_; refine Zbo ?_; refine x_NV (h := ?_); refine Zi1 ?_; intro U; refine x_KC ?_; refine Zaw ?_; refine Za0 ?_; refine x_kr ?_; refine x_kr ?_; refine x_fr ?_
   exact hQ2 hl _
 | some f =>
 change l "filename" = some (.str f) at l2
 have hans : ansOf ts ds (some f) m = if (ds.any fun d => Txt.startswith f (d ++ ("/" : Str))) = true then 1 else 0 := (if_neg (by rw [show ts.contains m = false from hS]; decide)).trans (if_neg (by rw [ha']; decide))
 rw [hans] at hQ2
 with_reducible refine x_KC ?_; refine Zbx ?_; refine x_NV (h := ?_); refine Zch ?_; refine Ztq ?_; refine Zak ?_; refine Zbk ?_; refine x_KC ?_; refine Ze7 ?_; refine x_AV ?_; refine Zbo ?_; refine Zav ?_
 refine Zdi (fun c => .one (.str c)) (fun r σ => (∃ d, ds = d ++ r) ∧ σ.loc "self" = some (.ref x) ∧ σ.loc "filename" = some (.str f) ∧ σ.loc "modulename" = some (.str m) ∧ σ.H = H1 ∧ (ds.any fun d => Txt.startswith f (d ++ ("/" : Str))) = (r.any fun t => Txt.startswith f (t ++ ("/" : Str)))) ?_ ?_ ?_ ds (List.map_map ..) ?_
 · (intro r y_1; obtain ⟨l, H1⟩ := y_1; intro y_2; refine Oaaaaa y_2 ?_; clear y_2; intro U U U U h U); dsimp only at h; subst h; exact hdl
 · intro c r y_1; obtain ⟨l, H2⟩ := y_1; intro K y_2; refine Oaaaaa y_2 ?_; clear y_2; intro z_3 l1 l2 l3 h ha; obtain ⟨d0, hd0⟩ := z_3; intro kn kc kb kr
   dsimp only at l1 l2 l3 h; subst h; have hc := hds c (by rw [hd0]; simp)
   with_reducible refine x_AI ?_; refine Zam (h := ?_); refine x_If ?_; refine x_tr (h := ?_); refine Zbd ?_; refine Zal (h := ?_); refine Zau (h := ?_); refine Zcq ?_; refine x_NV (h := ?_); refine x_NG (hl := Zuq) (h := ?_); refine Zet ?_; refine Zah ?_; refine Zbm ?_; refine Zkb ?_; refine Zbv ?_
   cases hp : Txt.startswith f (c ++ Str.ofString "/") with
   | true =>
     rw [if_pos (by rw [ha, List.any_cons, hp]; rfl)] at hQ2
     with_reducible
      refine x_iT ?_; refine Zam (h := ?_); refine Zad ?_; refine Za0 ?_; refine Zco ?_; refine x_AV ?_; refine Zbo ?_; refine x_NV (h := ?_); refine Zi1 ?_; intro U; refine x_KC ?_; refine Zaw ?_; refine Za0 ?_; refine x_kr ?_; refine x_kr ?_
     refine kr _ _ ?_
     with_reducible refine x_kr ?_; refine x_fr ?_
     exact hQ2 hl _
   | false =>
     with_reducible refine Zbk ?_; refine x_KN ?_
     refine kn _ ⟨⟨d0 ++ [c], by rw [hd0]; simp⟩, by walk_at "lk", by walk_at "lk", by walk_at "lk", rfl, by rw [ha, List.any_cons, hp]; rfl⟩
 · intro y_1; obtain ⟨l, H2⟩ := y_1; intro y_2; refine Oaaaaa y_2 ?_; clear y_2; intro U l1 l2 l3 h ha
   dsimp only at l1 l2 l3 h; subst h; rw [if_neg (by rw [ha, List.any_nil]; decide)] at hQ2
   with_reducible
    refine x_KC ?_; refine Zad ?_; refine Za0 ?_; refine Zco ?_; refine x_AV ?_; refine Zbo ?_; refine x_NV (h := ?_); refine Zi1 ?_; intro U; refine x_KC ?_; refine Zaw ?_; refine Za0 ?_; refine x_kr ?_; refine x_fr ?_
   exact hQ2 hl _
 · exact ⟨⟨[], rfl⟩, by walk_at "lk", by walk_at "lk", by walk_at "lk", rfl, rfl⟩
theorem Zlx {x : Addr} {nd : Str} {od : AObj} (hx : H x = some (.node 102 d [])) (hd : H d = some od) (hdx : d ≠ x)
   (hQ : ∀ H' s, H s = none → s ≠ x → H' x = some (.node 102 d [some (.str nd), some (.int 0), some (.ref s)]) → H' s = some (.list []) → (∀ a o, a ≠ x → H a = some o → H' a = some o) → Q .none H') : Body P 98 [("self", .ref x), ("node", .str nd)] Q H := by
 ((with_reducible refine Za2 (s := ?s9) (r := ?r9) (l := ?l9) ?hb9 ?hl9 ?_); (case hb9 => exact rfl); (case hl9 => (dsimp only [locOf]; exact rfl)))
 with_reducible refine Zad ?_; refine x_NV (h := ?_); refine Za6 ?_; refine x_NV (h := ?_); refine Zi2 ?_ (o := od); refine x_KC ?_; refine Zad ?_; refine Za0 ?_; refine Za6 ?_; refine x_NV (h := ?_); refine Zi2 ?_ (o := od); refine x_KC ?_; refine Zad ?_; refine Zbc ?_; refine Zah ?_
 refine Zap (h := fun s hs => ?_)
 have hsx : s ≠ x := by rintro rfl; rw [upd_same] at hs; exact Zab (Eq.symm hs)
 with_reducible refine Za6 ?_; refine x_NV (h := ?_); refine Zi2 ?_ (o := od); refine x_KN ?_; refine x_fn ?_
 refine hQ _ s ?_ hsx (upd_same _ _ _) (Zaa (upd_same _ _ _) hsx) fun a o ne h => ?_
 · exact (Zay _ _ hsx).symm.trans ((Zay _ _ hsx).symm.trans hs)
 · exact Zaa (Zac (Zaa (Zaa h ne) ne) hs) ne
theorem b_TS {x : Addr} (hx : H x = some (.inst 199 d)) (hd : H d = some (.dict [] 0))
   (hQ : ∀ H' n2 ep, H n2 = none → H' n2 = some (.dict [] 0) → H' d = some (.dict (tsD n2 .none 0 0) ep) → (∀ a o, a ≠ d → H a = some o → H' a = some o) → Q .none H') : Body P 135 [("self", .ref x), ("graph", .none)] Q H := by
 have hxd : x ≠ d := by rintro rfl; rw [hx] at hd; cases hd
 ((with_reducible refine Za2 (s := ?s10) (r := ?r10) (l := ?l10) ?hb10 ?hl10 ?_); (case hb10 => exact rfl); (case hl10 => (dsimp only [locOf]; exact rfl)))
 with_reducible refine Zad ?_; refine Zmh ?_
 refine Zbh fun n2 hn2 => ?_
 have hnd : n2 ≠ d := (Zag hd hn2).symm
 with_reducible
  refine Za6 ?_; refine x_NV (h := ?_); refine Zfq ?_; intro U; refine x_KC ?_; refine Zad ?_; refine Zch ?_; refine Za6 ?_; refine x_NV (h := ?_); refine Zfq ?_; intro U; refine x_KC ?_; refine Zad ?_; refine Za0 ?_; refine Za6 ?_; refine x_NV (h := ?_); refine Zfq ?_; intro U; refine x_KC ?_; refine Zad ?_; refine Za0 ?_; refine Za6 ?_; refine x_NV (h := ?_); refine Zfq ?_; intro U; refine x_KC ?_; refine Zbx ?_; refine x_NV (h := ?_); refine Zch ?_; refine Zgp ?_; refine Zak ?_; refine Zbk ?_; refine x_KN ?_; refine x_fn ?_
 have hp : putA (putA (putA (putA [] (Str.ofString "_node2info") (AV.ref n2)) (Str.ofString "_ready_nodes") .none) (Str.ofString "_npassedout") (.int 0)) (Str.ofString "_nfinished") (.int 0) = tsD n2 .none 0 0 := by kernel_rfl!
 refine hQ _ n2 _ hn2 ?_ (by rw [← hp]; exact upd_same _ _ _) fun a o ne h => ?_
 · exact Zaa (Zaa (Zaa (Zaa (upd_same _ _ _) hnd) hnd) hnd) hnd
 · exact Zaa (Zaa (Zaa (Zaa (Zac h hn2) ne) ne) ne) ne
theorem Zv7 {x : Addr} {p : Int} {k : Str} (hx : H x = some (.inst 199 d)) (hd : ∃ ep, H d = some (.dict (tsD n2 rn p f) ep)) (hn : ∃ ep, H n2 = some (.dict es ep)) (hlen : es.length ≤ 100)
   (hes : ∀ v, lookA es k = some v → ∃ a, v = .ref a)
   (hF : ∀ x d Q H, H x = some (.node 102 d []) → (∃ o, H d = some o) → d ≠ x → (∀ H' s, H s = none → s ≠ x → H' x = some (.node 102 d [some (.str k), some (.int 0), some (.ref s)]) → H' s = some (.list []) → (∀ a o, a ≠ x → H a = some o → H' a = some o) → Q .none H') → P.F 98 [.ref x, .str k] Q H)
   (hQ1 : ∀ a, lookA es k = some (.ref a) → Q (.ref a) H)
   (hQ2 : lookA es k = none → ∀ H' a dn s ep, H a = none → H s = none → s ≠ a → H' a = some (.node 102 dn [some (.str k), some (.int 0), some (.ref s)]) → (∃ o, H' dn = some o) → H' s = some (.list []) → H' n2 = some (.dict (putA es k (.ref a)) ep) → (∀ b o, b ≠ n2 → H b = some o → H' b = some o) → Q (.ref a) H') : Body P 142 [("self", .ref x), ("node", .str k)] Q H := by
 refine Oe hd ?_; clear hd; intro e1 hd
 refine Oe hn ?_; clear hn; intro e2 hn
 ((with_reducible refine Za2 (s := ?s11) (r := ?r11) (l := ?l11) ?hb11 ?hl11 ?_); (case hb11 => exact rfl); (case hl11 => (dsimp only [locOf]; exact rfl)))
 with_reducible refine Zbx ?_; refine Zmg ?_; refine Zcp (h := ?_); refine x_AV ?_; refine Zbo ?_; refine Zal (h := ?_); refine x_EO ?_; refine Zbm ?_; refine Zvf ?_; refine x_st (h := ?_); refine Zch ?_
 cases hl : lookA es k with
 | some v =>
   refine Oe (hes v hl) ?_; intro a e_1; obtain rfl := e_1; refine (?_ : cmpD .Is (.ref a) .none _ _ ⟨setL _ _ (.ref a), H⟩)
   with_reducible refine Zhu ?_; refine Zak ?_; refine Zbk ?_; refine x_KC ?_; refine Zaw ?_; refine x_NV (h := ?_); refine x_kr ?_; refine x_fr ?_
   exact hQ1 a hl
 | none =>
   refine (?_ : cmpD .Is .none .none _ _ ⟨setL _ _ .none, H⟩)
   with_reducible refine Zqz ?_; refine Zak ?_; refine x_iT ?_; refine Zam (h := ?_); refine Zhy ?_; refine x_CG (hl := Zjp) (h := ?_); refine x_EO ?_
   refine Zgs ?_ (fi := 98); intro dn a hdn ha hda; refine hF _ _ _ _ (upd_same _ _ _) ⟨_, Zaa (upd_same _ _ _) hda⟩ hda fun H' s hs hsa g1 g2 fr => ⟨rfl, ?_⟩; have gn : n2 ≠ a := Zag hn ha; have gd : d ≠ a := Zag hd ha; have gx : x ≠ a := Zag hx ha; have hn' := fr n2 _ gn (Zaa (Zac hn hdn) gn); have hd' := fr d _ gd (Zaa (Zac hd hdn) gd); have hx' := fr x _ gx (Zaa (Zac hx hdn) gx); have hs0 : H s = none := by
     have h1 := (Zay _ _ hsa).symm.trans hs; by_cases q : s = dn
     · subst q; exact hdn
     · exact (Zay _ _ q).symm.trans h1
   have hsn : s ≠ n2 := (Zag hn hs0).symm; have hdnn : dn ≠ n2 := (Zag hn hdn).symm; have gdn := fr dn _ hda (Zaa (upd_same _ _ _) hda)
   with_reducible
    refine Zco ?_; refine x_AV ?_; refine Zbo ?_; refine x_NV (h := ?_); refine Zi1 ?_; intro U; refine x_AS ?_; refine x_KN ?_; refine x_KC ?_; refine Zaw ?_; refine x_NV (h := ?_); refine x_kr ?_; refine x_fr ?_
   exact hQ2 hl _ a dn s _ ha hs0 hsa (Zaa g1 gn.symm) ⟨_, Zaa gdn hdnn⟩ (Zaa g2 hsn) (upd_same _ _ _) fun b o hb h =>
     Zaa (fr b o (Zag h ha) (Zaa (Zac h hdn) (Zag h ha))) hb
noncomputable def Spec98 (P : Par) : Prop := ∀ k x d Q H, H x = some (.node 102 d []) → (∃ o, H d = some o) → d ≠ x → (∀ H' s, H s = none → s ≠ x → H' x = some (.node 102 d [some (.str k), some (.int 0), some (.ref s)]) → H' s = some (.list []) → (∀ a o, a ≠ x → H a = some o → H' a = some o) → Q .none H') → P.F 98 [.ref x, .str k] Q H
noncomputable def Spec142 (P : Par) : Prop := ∀ x d n2 rn p f k ks ad sd np ch Q H, TsAt H x d n2 rn p f → Gr H n2 ks ad sd np ch → ks.length ≤ 100 →
 (∀ H' ad' sd', Gr H' n2 (addK ks k) ad' sd' np ch → Grew H H' n2 ks ad sd (addK ks k) ad' sd' → Q (.ref (ad' k)) H') → P.F 142 [.ref x, .str k] Q H
theorem Zuz {x : Addr} {p : Int} {k : Str} {np : Str → Int} {ch : Str → List Str} (hF : Spec98 P) (T : TsAt H x d n2 rn p f) (G : Gr H n2 ks ad sd np ch) (hlen : ks.length ≤ 100)
   (hQ : ∀ H' ad' sd', Gr H' n2 (addK ks k) ad' sd' np ch → Grew H H' n2 ks ad sd (addK ks k) ad' sd' → Q (.ref (ad' k)) H') : Body P 142 [("self", .ref x), ("node", .str k)] Q H := by
 refine Zv7 T.hx T.hd G.n2 (by rw [List.length_map]; exact hlen) (fun v hv => ?_) (hF k) (fun a ha => ?_) fun hn H' a dn s ep h1 h2 h3 h4 h5 h6 h7 h8 => ?_
 · rw [Zd9] at hv
   split at hv
   · cases hv; exact ⟨_, rfl⟩
   · exact Zab hv
 · rw [Zd9] at ha
   split at ha
   · rename_i hk
     cases ha; have e : addK ks k = ks := if_pos hk; rw [e] at hQ; exact hQ H ad sd G (Grew.refl ..)
   · exact Zab ha
 · rw [Zd9] at hn
   split at hn
   · exact Zab (Eq.symm hn)
   · rename_i hk
     refine Oa (G.more hk h1 h2 h4 h5 h6 h7 h8) ?_; intro g1 g2; have := hQ H' _ _ g1 g2
     rwa [Zbf] at this
theorem Zv8 {x tp : Addr} {p : Int} {m : Str} {po : Option Str} {np : Str → Int} {ch : Str → List Str} (hF : Spec142 P) (T : TsAt H x d n2 .none p f) (G : Gr H n2 ks ad sd np ch) (hlen : ks.length ≤ 90) (htp : H tp = some (.tup (po.toList.map .str))) (hch : ∀ k, (ch k).length ≤ 100)
   (hQ : ∀ H' ad' sd', Gr H' n2 (ksA ks m po) ad' sd' (npA np m po) (chA ch m po) → Grew H H' n2 ks ad sd (ksA ks m po) ad' sd' → Q .none H') : Body P 149 [("self", .ref x), ("node", .str m), ("predecessors", .ref tp)] Q H := by
 obtain ⟨hx, ⟨e1, hd⟩, hne⟩ := id T
 ((with_reducible refine Za2 (s := ?s12) (r := ?r12) (l := ?l12) ?hb12 ?hl12 ?_); (case hb12 => exact rfl); (case hl12 => (dsimp only [locOf]; exact rfl)))
 with_reducible refine Zbx ?_; refine x_AV ?_; refine Zbo ?_; refine Zch ?_; refine Zgp ?_; refine Zak ?_; refine Zbk ?_; refine x_KC ?_; refine Zad ?_; refine Zbd ?_
 refine Zal (m := .own 142) (hm := Zbg hx hd (by kernel_rfl!) (by kernel_rfl!)) (h := ?_)
 with_reducible refine x_EO ?_
 refine Zfr ?_
 refine hF _ _ _ _ _ _ _ _ _ _ _ _ _ _ T G (by exact qL hlen rfl) fun H1 ad1 sd1 G1 g1 => ?_
 obtain ⟨hx1, ⟨e2, hd1⟩, _⟩ := T.grew G g1
 have hm1 : m ∈ addK ks m := Zd8.mpr (.inr rfl)
 refine Oea (G1.node m hm1) ?_; intro dn z_1 hnode; (refine Oe z_1 ?_; clear z_1; intro od hdn)
 have htp1 : H1 tp = some (.tup (po.toList.map .str)) := g1.fr _ _ htp (G.away_tup htp).1 (G.away_tup htp).2
 have hta : tp ≠ ad1 m := by intro q; rw [q, hnode] at htp1; cases htp1
 have hxa : x ≠ ad1 m := by intro q; rw [q, hnode] at hx1; cases hx1
 have hda : d ≠ ad1 m := by intro q; rw [q, hnode] at hd1; cases hd1
 with_reducible refine x_AS ?_; refine x_KC ?_; refine Zd0 ?_; refine x_NV (h := ?_); refine Zgr ?_; refine x_CG (hl := Zge) (h := ?_); refine x_EO ?_; refine Zaz (hf := Zep) (h := ?_); refine Zma ?_; refine Zca ?_; refine Zi2 ?_; refine x_KC ?_; refine Ze7 ?_; refine x_NV (h := ?_); refine Zgl ?_
 generalize hH2 : upd H1 (ad1 m) _ = H2
 have G2 : Gr H2 n2 (addK ks m) ad1 sd1 (npA np m po) ch := by rw [← hH2]; exact G1.setNp hm1 ⟨od, hdn⟩
 have T2 : TsAt H2 x d n2 .none p f := by rw [← hH2]; exact ⟨Zaa hx1 hxa, ⟨e2, Zaa hd1 hda⟩, hne⟩
 have ht2 : H2 tp = some (.tup (po.toList.map .str)) := by rw [← hH2]; exact Zaa htp1 hta
 have g2 : Grew H H2 n2 ks ad sd (addK ks m) ad1 sd1 := by
   refine ⟨g1.old, g1.new, fun b o hb hb1 hb2 => ?_⟩; rw [← hH2]; refine Zaa (g1.fr b o hb hb1 hb2) ?_; by_cases q : m ∈ ks
   · (refine Oaa (g1.old m q) ?_; intro U q1 U); rw [q1]; exact (hb2 m q).1
   · exact Zag hb (g1.new m hm1 q).1
 clear hH2 hnode hdn hd1 hx1 htp1 G1 g1
 obtain ⟨hx2, ⟨e3, hd2⟩, _⟩ := id T2
 cases po with
 | none =>
   refine Zq0 ?_ (hn := ht2)
   with_reducible refine x_KN ?_; refine x_fn ?_
   exact hQ _ _ _ G2 g2
 | some q =>
   refine Ztu (i := .one (.str q)) (r := []) (hn := ht2) (h := ?_)
   with_reducible refine x_AI ?_; refine Zam (h := ?_); refine Zad ?_; refine Zbd ?_
   refine Zal (m := .own 142) (hm := Zbg hx2 hd2 (by kernel_rfl!) (by kernel_rfl!)) (h := ?_)
   with_reducible refine x_EO ?_
   refine Zfr ?_; have hl2 : (addK ks m).length ≤ 91 := Nat.le_trans Ze5 (by exact Nat.succ_le_succ hlen); refine hF _ _ _ _ _ _ _ _ _ _ _ _ _ _ T2 G2 (by exact qL hl2 rfl) fun H3 ad3 sd3 G3 g3 => ?_; have hq3 : q ∈ addK (addK ks m) q := Zd8.mpr (.inr rfl); refine Oea (G3.node q hq3) ?_; intro d3 z_1 hn3; (refine Oe z_1 ?_; clear z_1; intro o3 hd3); have hs3 := G3.suc q hq3; have hcq := hch q; have g4 := g2.then G2 g3; refine Oa (G2.away_tup ht2) ?_; intro w1 w2; have ht3 := g3.fr _ _ ht2 w1 w2; have hts := ((G3.away_tup ht3).2 q hq3).2
   with_reducible refine x_AS ?_; refine x_KC ?_; refine Zan ?_; refine Zcp (h := ?_); refine x_AV ?_; refine Zgr ?_; refine Zal (h := ?_); refine x_EO ?_; refine Zbm ?_; refine Zbp ?_; refine x_KN ?_; refine Zu7 ?_; refine Zq0 ?_; refine x_KN ?_; refine x_fn ?_
   have := hQ _ _ _ (G3.setCh hq3 (xs := ch q ++ [m])) ⟨g4.old, g4.new, fun b o hb hb1 hb2 => ?_⟩
   · rw [List.map_append] at this; exact this
   · refine Zaa (g4.fr b o hb hb1 hb2) ?_
     by_cases r : q ∈ ks
     · (refine Oaa (g4.old q r) ?_; intro U U q1); rw [q1]; exact (hb2 q r).2
     · exact Zag hb (g4.new q hq3 r).2
theorem Zj0 {x : Addr} {p : Int} {np : Str → Int} {ch : Str → List Str} (S : Sorter H x d n2 rl rs p f ks ad sd np ch) (hrs : ∀ k ∈ rs, k ∈ ks)
   (hQ : ∀ H' t, H t = none → Sorter H' x d n2 rl [] (p + (rs.length : Int)) f ks ad sd (npO np rs) ch → H' t = some (.tup (rs.map .str)) → FrS H H' n2 d rl ks ad sd → Q (.ref t) H') : Body P 161 [("self", .ref x)] Q H := by
 obtain ⟨⟨hx, ⟨e1, hd⟩, hne⟩, G, hr, hrn⟩ := id S
 ((with_reducible refine Za2 (s := ?s13) (r := ?r13) (l := ?l13) ?hb13 ?hl13 ?_); (case hb13 => exact rfl); (case hl13 => (dsimp only [locOf]; exact rfl)))
 with_reducible refine Zbx ?_; refine x_AV ?_; refine Zbo ?_; refine Zch ?_; refine Zhu ?_; refine Zak ?_; refine Zbk ?_; refine x_KC ?_; refine Zad ?_; refine x_CG (hl := Zp0) (h := ?_); refine Zau (h := ?_); refine x_AV ?_; refine Zbo ?_; refine Zah ?_; refine Zaz (hf := Zny) (h := ?_); refine Zrl ?_
 refine Zbh fun t ht => ?_
 have S0 := S.ext (HExt.upd (.tup (rs.map .str)) ht)
 have F0 : FrS H _ n2 d rl ks ad sd := fun b o U e => HExt.upd (.tup (rs.map .str)) ht b o e
 have st := S.side ht
 with_reducible refine x_AS ?_; refine x_KC ?_; refine Zad ?_; refine x_AV ?_; refine Zbo ?_; refine x_AS ?_; refine x_KC ?_; refine Ze7 ?_; refine x_NV (h := ?_); refine Zgl ?_
 refine Zdi (fun c => .one (.str c)) (fun r σ => ∃ dn, rs = dn ++ r ∧ σ.loc "self" = some (.ref x) ∧ σ.loc "result" = some (.ref t) ∧ σ.loc "n2i" = some (.ref n2) ∧ Sorter σ.H x d n2 rl rs p f ks ad sd (npO np dn) ch ∧ σ.H t = some (.tup (rs.map .str)) ∧ FrS H σ.H n2 d rl ks ad sd) ?_ ?_ ?_ rs (List.map_map ..) (Ieaaaaaa [] rfl (by walk_at "lk") (by walk_at "lk") (by walk_at "lk") (by rw [Zsl]; exact S0) (upd_same _ _ _) F0)
 · (intro r σ y_1; refine Oeaaaaaa y_1 ?_; clear y_1; intro U U U U U U h U); exact h
 · intro c r y_1; obtain ⟨l, H1⟩ := y_1; intro K y_2; refine Oeaaaaaa y_2 ?_; clear y_2; intro dn hdn l1 l2 l3 S1 h1 F1; intro kn kc kb kr
   dsimp only at l1 l2 l3 S1 h1 F1; have hck : c ∈ ks := hrs c (by rw [hdn]; simp); refine Oe S1.G.n2 ?_; intro e2 hn; have hlk := Zg9 (ad := ad) hck; refine Oea (S1.G.node c hck) ?_; intro d1 z_1 hnode; (refine Oe z_1 ?_; clear z_1; intro o1 hd1); refine Oa (S1.setNp hck (i := -1) ⟨o1, hd1⟩) ?_; intro S2 F2; rw [Zpk] at S2
   with_reducible refine x_AI ?_; refine Zam (h := ?_); refine Zad ?_; refine x_NG (hl := Zrf) (h := ?_); refine Za6 ?_; refine Zdz ?_; refine x_NV (h := ?_); refine x_NV (h := ?_); refine Zot ?_; refine Zi2 ?_; refine x_KN ?_
   exact kn _ (Ieaaaaaa (dn ++ [c]) (by rw [hdn]; simp) (by walk_at "lk") (by walk_at "lk") (by walk_at "lk") S2 (Zaa h1 (st.2.2.2 c hck).1) (F1.trans F2))
 · intro y_1; obtain ⟨l, H1⟩ := y_1; intro y_2; refine Oeaaaaaa y_2 ?_; clear y_2; intro dn hdn l1 l2 l3 S1 h1 F1
   dsimp only at l1 l2 l3 S1 h1 F1; rw [List.append_nil] at hdn; subst hdn; obtain ⟨⟨hx1, ⟨e3, hd1⟩, _⟩, _, hr1, _⟩ := id S1; refine Oa (S1.setR (qs := [])) ?_; intro S2 F2; obtain ⟨⟨hx2, ⟨e4, hd2⟩, _⟩, _, hr2, _⟩ := id S2; have ntl : t ≠ rl := st.2.2.1; have h2 := Zaa (o := AObj.list []) h1 ntl; have ndl : d ≠ rl := S.facts.2.2.2.2.1; have nxl : x ≠ rl := S.facts.2.2.1; have nxd : x ≠ d := S.facts.2.1; have ntd : t ≠ d := st.2.1
   with_reducible
    refine x_KC ?_; refine Zan ?_; refine Zcp (h := ?_); refine x_AV ?_; refine Zbo ?_; refine Zal (h := ?_); refine Zah ?_; refine Zbm ?_; refine Zrz ?_; refine x_KC ?_; refine Zd0 ?_; refine x_NV (h := ?_); refine Zbo ?_; refine x_CG (hl := Zge) (h := ?_); refine x_EO ?_; refine Zaz (hf := Zep) (h := ?_); refine Zma ?_; refine Zca ?_; refine Zfq ?_; intro U; refine x_KC ?_; refine Zaw ?_; refine x_NV (h := ?_); refine x_kr ?_; refine x_fr ?_
   rw [Zvj, List.length_map]; exact hQ _ t ht (S2.setD).1 (Zaa h2 ntd) (F1.trans (F2.trans (S2.setD).2))
theorem Zjz {x : Addr} {p : Int} {np : Str → Int} {ch : Str → List Str} (S : Sorter H x d n2 rl rs p f ks ad sd np ch)
   (hQ : Q (.bool (decide (f < p) || !rs.isEmpty)) H) : Body P 168 [("self", .ref x)] Q H := by
 obtain ⟨⟨hx, ⟨e1, hd⟩, hne⟩, G, hr, hrn⟩ := id S
 ((with_reducible refine Za2 (s := ?s14) (r := ?r14) (l := ?l14) ?hb14 ?hl14 ?_); (case hb14 => exact rfl); (case hl14 => (dsimp only [locOf]; exact rfl)))
 with_reducible refine Zbx ?_; refine x_AV ?_; refine Zbo ?_; refine Zch ?_; refine Zhu ?_; refine Zak ?_; refine Zbk ?_; refine x_KC ?_; refine Zaw ?_; refine Zmi ?_; refine Zq1 ?_; refine Zo1 ?_; refine x_AV ?_; refine Zbo ?_; refine x_AV ?_; refine Zbo ?_; refine Zu6 ?_; refine Zbv ?_
 cases hb : decide (f < p) with
 | true =>
   rw [hb] at hQ
   with_reducible refine x_iT ?_; refine x_kr ?_; refine x_fr ?_
   exact hQ
 | false =>
   rw [hb] at hQ
   with_reducible refine x_iF ?_; refine Zq2 ?_; refine x_CG (hl := Znv) (h := ?_); refine Zau (h := ?_); refine x_AV ?_; refine Zbo ?_; refine Zah ?_; refine Zaz (hf := Zp5) (h := ?_); refine Zr1 ?_; refine x_kr ?_; refine x_fr ?_
   rw [List.isEmpty_map]; exact hQ
theorem Zu1 {x tn : Addr} {ns : List Str} {p : Int} {np : Str → Int} {ch : Str → List Str} (S : Sorter H x d n2 rl rs p f ks ad sd np ch) (htn : H tn = some (.tup (ns.map .str)))
   (hns : ∀ k ∈ ns, k ∈ ks ∧ np k = -1) (hnd : ns.Nodup) (hch : ∀ c ∈ ns.flatMap ch, c ∈ ks ∧ np c = 1) (hcd : (ns.flatMap ch).Nodup) (hlen : rs.length + (ns.flatMap ch).length ≤ 100)
   (hQ : ∀ H', Sorter H' x d n2 rl (rs ++ ns.flatMap ch) p (f + (ns.length : Int)) ks ad sd (npD np ns (ns.flatMap ch)) ch → FrS H H' n2 d rl ks ad sd → Q .none H') : Body P 182 [("self", .ref x), ("nodes", .ref tn)] Q H := by
 obtain ⟨⟨hx, ⟨e1, hd⟩, hne⟩, G, hr, hrn⟩ := id S
 have st : Side n2 d rl ks ad sd tn := S.tup htn
 ((with_reducible refine Za2 (s := ?s15) (r := ?r15) (l := ?l15) ?hb15 ?hl15 ?_); (case hb15 => exact rfl); (case hl15 => (dsimp only [locOf]; exact rfl)))
 with_reducible refine Zbx ?_; refine x_AV ?_; refine Zbo ?_; refine Zch ?_; refine Zhu ?_; refine Zak ?_; refine Zbk ?_; refine x_KC ?_; refine Zad ?_; refine x_AV ?_; refine Zbo ?_; refine x_AS ?_; refine x_KC ?_; refine Ze7 ?_; refine x_NV (h := ?_); refine Zgl ?_
 refine Zdi (fun c => .one (.str c)) (fun r σ => ∃ dn, ns = dn ++ r ∧ σ.loc "self" = some (.ref x) ∧ σ.loc "n2i" = some (.ref n2) ∧ Sorter σ.H x d n2 rl (rs ++ dn.flatMap ch) p (f + (dn.length : Int)) ks ad sd (npD np dn (dn.flatMap ch)) ch ∧ FrS H σ.H n2 d rl ks ad sd) ?_ ?_ ?_ ns (List.map_map ..) (Ieaaaa [] rfl (by walk_at "lk") (by walk_at "lk") (by rw [List.flatMap_nil, Zsm, List.append_nil]; simpa using S) (fun U U U h => h))
 · (intro r σ y_1; refine Oeaaaa y_1 ?_; clear y_1; intro U U U U U h); exact h tn _ st htn
 · intro c r y_1; obtain ⟨l, H1⟩ := y_1; intro K y_2; refine Oeaaaa y_2 ?_; clear y_2; intro dn hdn l1 l2 S1 F1; intro kn kc kb kr
   dsimp only at l1 l2 S1 F1; have hcm : c ∈ ns := by rw [hdn]; simp
   refine Oa (hns c hcm) ?_; intro hck hc1; have hcnd : c ∉ dn := by rw [hdn, List.nodup_append] at hnd; intro h; exact hnd.2.2 c h c (by simp) rfl
   have hcnb : c ∉ dn.flatMap ch := by
     intro h; have := (hch c (by rw [hdn, List.flatMap_append]; exact List.mem_append_left _ h)).2; rw [hc1] at this; cases this
   refine Oe S1.G.n2 ?_; intro e2 hn; have hlk := Zg9 (ad := ad) hck; refine Oea (S1.G.node c hck) ?_; intro d1 z_1 hnode; (refine Oe z_1 ?_; clear z_1; intro o1 hd1); have hv : npD np dn (dn.flatMap ch) c = -1 := by delta npD; rw [if_neg hcnd, if_neg hcnb, hc1]
   rw [hv] at hnode; refine Oa (S1.setNp hck (i := -2) ⟨o1, hd1⟩) ?_; intro S2 F2; rw [Zvr] at S2
   with_reducible refine x_AI ?_; refine Zam (h := ?_); refine Zbx ?_; refine Zmg ?_; refine Zbd ?_; refine Zal (h := ?_); refine x_EO ?_; refine Zbm ?_; refine Ztt ?_; refine x_st (h := ?_); refine Zch ?_; refine Zhu ?_; refine Zak ?_; refine Zbk ?_; refine x_KC ?_; refine Zad ?_; refine x_AV ?_; refine Zgr ?_; refine x_AS ?_; refine x_KC ?_; refine Zbx ?_; refine x_NV (h := ?_); refine x_NG (hl := Zrf) (h := ?_); refine Zu4 ?_; refine Zak ?_; refine Zbk ?_; refine x_KC ?_; refine Zad ?_; refine x_NG (hl := Zs1) (h := ?_); refine Za6 ?_; refine x_NV (h := ?_); refine Zi2 ?_; refine x_KC ?_; refine Ze7 ?_; refine x_AV ?_
   generalize hH2 : upd H1 (ad c) _ = H2; have S2' : Sorter H2 x d n2 rl (rs ++ dn.flatMap ch) p (f + (dn.length : Int)) ks ad sd (npD np (dn ++ [c]) (dn.flatMap ch)) ch := by rw [← hH2]; exact S2
   have F2' : FrS H H2 n2 d rl ks ad sd := F1.trans (by rw [← hH2]; exact F2); clear hH2 S2 F2 hd1 hnode hn S1 F1; refine Oea (S2'.G.node c hck) ?_; intro d2 z_1 hnode2; (refine Oe z_1 ?_; clear z_1; intro o2 hd2); have hsc := S2'.G.suc c hck
   with_reducible refine Zgr ?_; refine Zav ?_
   refine Zdi (fun c => .one (.str c)) (fun r σ => ∃ cn, ch c = cn ++ r ∧ σ.loc "self" = some (.ref x) ∧ σ.loc "n2i" = some (.ref n2) ∧ Sorter σ.H x d n2 rl (rs ++ (dn.flatMap ch ++ cn)) p (f + (dn.length : Int)) ks ad sd (npD np (dn ++ [c]) (dn.flatMap ch ++ cn)) ch ∧ FrS H σ.H n2 d rl ks ad sd) ?_ ?_ ?_ (ch c) (List.map_map ..) (Ieaaaa [] rfl (by walk_at "lk") (by walk_at "lk") (by rw [List.append_nil]; exact S2') F2')
   · (intro r σ y_1; refine Oeaaaa y_1 ?_; clear y_1; intro U U U U h U); exact h.G.suc c hck
   · intro e r' y_1; obtain ⟨l', H3⟩ := y_1; intro K' y_2; refine Oeaaaa y_2 ?_; clear y_2; intro cn hcn m1 m2 S3 F3; intro kn' kc' kb' kr'
     dsimp only at m1 m2 S3 F3; have hfl : ns.flatMap ch = dn.flatMap ch ++ (cn ++ e :: r') ++ r.flatMap ch := by rw [hdn, List.flatMap_append, List.flatMap_cons, hcn]; simp only [List.append_assoc]
     have hem : e ∈ ns.flatMap ch := by rw [hfl]; simp
     refine Oa (hch e hem) ?_; intro hek he1; have hen : e ∉ dn ++ [c] := fun h => by
       have : e ∈ ns := by rw [hdn]; rcases List.mem_append.mp h with h | h; exact List.mem_append_left _ h; rw [List.mem_singleton.mp h]; simp
       have := (hns e this).2; rw [he1] at this; cases this
     have heb : e ∉ dn.flatMap ch ++ cn := fun h => by
       rw [hfl, show dn.flatMap ch ++ (cn ++ e :: r') ++ r.flatMap ch = (dn.flatMap ch ++ cn) ++ (e :: (r' ++ r.flatMap ch)) by simp, List.nodup_append] at hcd; exact hcd.2.2 e h e (by simp) rfl
     have hlen2 : rs.length + ((dn.flatMap ch).length + cn.length) < 100 := by
       rw [hfl] at hlen; simp only [List.length_append, List.length_cons] at hlen; exact Nat.lt_of_lt_of_le (Nat.add_lt_add_left (Nat.lt_of_lt_of_le (Nat.add_lt_add_left (Nat.lt_add_of_pos_right (Nat.succ_pos _)) _) (Nat.le_add_right _ _)) _) hlen
     refine Oe S3.G.n2 ?_; intro e3 hn3; have hlk3 := Zg9 (ad := ad) hek; refine Oea (S3.G.node e hek) ?_; intro d3 z_1 hnode3; (refine Oe z_1 ?_; clear z_1; intro o3 hd3); have hv3 : npD np (dn ++ [c]) (dn.flatMap ch ++ cn) e = 1 := by delta npD; rw [if_neg hen, if_neg heb, he1]
     rw [hv3] at hnode3; refine Oa (S3.setNp hek (i := 0) ⟨o3, hd3⟩) ?_; intro S4 F4; rw [Zvq _ _ _ hen] at S4
     with_reducible refine x_AI ?_; refine Zam (h := ?_); refine Zad ?_; refine Zdz ?_; refine x_NV (h := ?_); refine x_NV (h := ?_); refine Zot ?_; refine x_AS ?_; refine x_KC ?_; refine Zd0 ?_; refine x_NV (h := ?_); refine Zgr ?_; refine Za0 ?_; refine Zoy ?_; refine Zi2 ?_; refine x_KC ?_; refine Zbx ?_; refine x_AV ?_
     generalize hH4 : upd H3 (ad e) _ = H4; have S4' : Sorter H4 x d n2 rl (rs ++ (dn.flatMap ch ++ cn)) p (f + (dn.length : Int)) ks ad sd (npD np (dn ++ [c]) (dn.flatMap ch ++ cn ++ [e])) ch := by rw [← hH4]; exact S4
     have F4' : FrS H H4 n2 d rl ks ad sd := F3.trans (by rw [← hH4]; exact F4); clear hH4 S4 F4 hd3 hnode3 hn3 S3 F3; refine Oea (S4'.G.node e hek) ?_; intro d4 z_1 hnode4; (refine Oe z_1 ?_; clear z_1; intro o4 hd4); have hv4 : npD np (dn ++ [c]) (dn.flatMap ch ++ cn ++ [e]) e = 0 := by delta npD; rw [if_neg hen, if_pos (by simp)]
     rw [hv4] at hnode4; obtain ⟨⟨hx4, ⟨e5, hd5⟩, _⟩, _, hr4, _⟩ := id S4'; refine Oa (S4'.setR (qs := rs ++ (dn.flatMap ch ++ cn) ++ [e])) ?_; intro S5 F5
     with_reducible refine Zgr ?_; refine Za0 ?_; refine Zk3 ?_; refine Zak ?_; refine x_iT ?_; refine Zam (h := ?_); refine Zan ?_; refine Zcp (h := ?_); refine x_AV ?_; refine Zbo ?_; refine Zal (h := ?_); refine x_EO ?_; refine Zbm ?_; refine Zbp ?_; refine x_KN ?_; refine x_KN ?_
     refine kn' _ (Ieaaaa (cn ++ [e]) (by rw [hcn]; simp) (by walk_at "lk") (by walk_at "lk") ?_ ?_)
     · rw [List.map_append] at S5
       simp only [List.append_assoc] at S5 ⊢; exact S5
     · rw [List.map_append] at F5
       exact F4'.trans F5
   · intro y_1; obtain ⟨l', H3⟩ := y_1; intro y_2; refine Oeaaaa y_2 ?_; clear y_2; intro cn hcn m1 m2 S3 F3
     dsimp only at m1 m2 S3 F3; rw [List.append_nil] at hcn; subst hcn; obtain ⟨⟨hx4, ⟨e5, hd5⟩, _⟩, _, hr4, _⟩ := id S3
     with_reducible
      refine x_KC ?_; refine Zd0 ?_; refine x_NV (h := ?_); refine Zbo ?_; refine Za0 ?_; refine Zca ?_; refine Zfq ?_; intro U; refine x_KN ?_
     rw [Zvk]; have e1 : rs ++ (dn ++ [c]).flatMap ch = rs ++ (dn.flatMap ch ++ ch c) := by rw [List.flatMap_append, List.flatMap_singleton]
     have e2 : (dn ++ [c]).flatMap ch = dn.flatMap ch ++ ch c := by rw [List.flatMap_append, List.flatMap_singleton]
     have e3 : f + ((dn ++ [c]).length : Int) = f + (dn.length : Int) + 1 := by rw [List.length_append, List.length_singleton]; exact (Int.add_assoc _ (Nat.cast _) 1).symm
     refine kn _ (Ieaaaa (dn ++ [c]) (by rw [hdn]; simp) (by walk_at "lk") (by walk_at "lk") ?_ (F3.trans (S3.setD).2)); rw [e2, e3]; exact (S3.setD).1
 · intro y_1; obtain ⟨l, H1⟩ := y_1; intro y_2; refine Oeaaaa y_2 ?_; clear y_2; intro dn hdn l1 l2 S1 F1
   dsimp only at l1 l2 S1 F1; rw [List.append_nil] at hdn; subst hdn
   with_reducible refine x_KN ?_; refine x_fn ?_
   exact hQ _ S1 F1
theorem Zu0 {x : Addr} {p : Int} {np : Str → Int} {ch : Str → List Str} {dep : Str → Nat} (T : TsAt H x d n2 rn p f) (G : Gr H n2 ks ad sd np ch)
   (hch : ∀ k ∈ ks, ∀ c ∈ ch k, c ∈ ks ∧ dep c = dep k + 1) (hdep : ∀ k ∈ ks, dep k ≤ 3) (hlen : ks.length ≤ 100)
   (hQ : ∀ H', HExt H H' → Q .none H') : Body P 189 [("self", .ref x)] Q H := by
 obtain ⟨hx, ⟨e1, hd⟩, hne⟩ := id T
 refine Oe G.n2 ?_; intro e2 hn
 ((with_reducible refine Za2 (s := ?s16) (r := ?r16) (l := ?l16) ?hb16 ?hl16 ?_); (case hb16 => exact rfl); (case hl16 => (dsimp only [locOf]; exact rfl)))
 with_reducible refine Zad ?_; refine x_AV ?_; refine Zbo ?_; refine x_AS ?_; refine x_KC ?_; refine Zad ?_; refine Zbc ?_; refine Zah ?_
 refine Zap (h := fun st hst => ?_)
 with_reducible refine x_AS ?_; refine x_KC ?_; refine Zad ?_; refine Zbc ?_; refine Zah ?_
 refine Zap (h := fun it hit => ?_)
 with_reducible refine x_AS ?_; refine x_KC ?_; refine Zad ?_; refine x_CG (hl := Znr) (h := ?_); refine Zah ?_; refine Zaz (hf := Zjs) (h := ?_)
 refine Zqv fun dt => Zbh fun sn hsn => ?_
 with_reducible refine x_AS ?_; refine x_KC ?_; refine Zad ?_; refine Zmh ?_
 refine Zbh fun ns hns => ?_
 have E1 := (HExt.upd (.list []) hst).trans ((HExt.upd (.list []) hit).trans ((HExt.upd (.set (fun U => false) 0 (some dt)) hsn).trans (HExt.upd (.dict [] 0) hns)))
 with_reducible refine x_AS ?_; refine x_KC ?_; refine Ze7 ?_; refine x_NV (h := ?_); refine Zl4 ?_
 generalize hH1 : upd _ ns (.dict [] 0) = H1 at E1 ⊢
 have hD0 : st ≠ it := fun q => by subst q; rw [upd_same] at hit; exact Zab (Eq.symm hit)
 have s1 : st ≠ sn := Zag (Zac (upd_same _ _ _) hit) hsn
 have s2 : it ≠ sn := Zag (upd_same _ _ _) hsn
 have s3 : st ≠ ns := Zag (Zac (Zac (upd_same _ _ _) hit) hsn) hns
 have s4 : it ≠ ns := Zag (Zac (upd_same _ _ _) hsn) hns
 have s5 : sn ≠ ns := Zag (upd_same _ _ _) hns
 have z1 : H it = none := (HExt.upd (.list []) hst).none hit
 have z2 : H sn = none := ((HExt.upd (.list []) hst).trans (HExt.upd (.list []) hit)).none hsn
 have z3 : H ns = none := ((HExt.upd (.list []) hst).trans ((HExt.upd (.list []) hit).trans (HExt.upd (.set (fun U => false) 0 (some dt)) hsn))).none hns
 have D0 : DS H H1 st it sn ns ks sd ch dep [] [] := by
   refine ⟨E1, ?_, ?_, (Ieeaa [] 0 ?_ (fun k => ⟨fun h => (nomatch h), fun z => Oea z fun U h U => (nomatch h)⟩) (Nat.le_refl _)), (Ieeeaa (fun U => false) 0 (some dt) ?_ (fun k => ⟨fun h => (nomatch h), fun h => (nomatch h)⟩) ?_), (fun f h => nomatch h), List.nodup_nil, List.Pairwise.nil, ⟨hst, z1, z2, z3, hD0⟩⟩
   · rw [← hH1]; exact Zaa (Zaa (Zaa (upd_same _ _ _) hD0) s1) s3
   · rw [← hH1]; exact Zaa (Zaa (upd_same _ _ _) s2) s4
   · rw [← hH1]; exact upd_same _ _ _
   · rw [← hH1]; exact Zaa (upd_same _ _ _) s5
   · rw [Nat.zero_add]; exact Zo4 ks
 have hn1 := E1 _ _ hn
 clear hH1 hns hsn hit hst
 refine Zdi (fun k => .one (.str k)) (fun r σ => ∃ se, (∀ k ∈ r, k ∈ ks) ∧ DS H σ.H st it sn ns ks sd ch dep [] se ∧ σ.loc "n2i" = some (.ref n2) ∧ σ.loc "stack" = some (.ref st) ∧ σ.loc "itstack" = some (.ref it) ∧ σ.loc "seen" = some (.ref sn) ∧ σ.loc "node2stacki" = some (.ref ns)) ?_ ?_ ?_ ks ?_ (Ieaaaaaa [] (fun U h => h) D0 (by walk_at "lk") (by walk_at "lk") (by walk_at "lk") (by walk_at "lk") (by walk_at "lk"))
 · (intro r σ y_1; refine Oeaa y_1 ?_; clear y_1; intro U U h U); exact h.ext _ _ hn
 · intro k r y_1; obtain ⟨l, H2⟩ := y_1; intro K y_2; refine Oeaaaaaa y_2 ?_; clear y_2; intro se hr D l1 l2 l3 l4 l5; intro kn kc kb kr
   dsimp only at D l1 l2 l3 l4 l5; have hk := hr k (.head _); have hr' : ∀ k ∈ r, k ∈ ks := fun k h => hr k (.tail _ h); have hn2 := D.ext _ _ hn; refine Oeeeaa (id D.hsn) ?_; intro S m dS g1 g2 g3
   with_reducible refine x_AI ?_; refine Zam (h := ?_); refine Zbx ?_; refine x_NV (h := ?_); refine x_NV (h := ?_); refine Zi3 ?_; refine Zak ?_
   cases hS : S k with
   | true =>
     with_reducible refine x_iT ?_; refine Zam (h := ?_); refine Zf3 ?_; refine x_kc ?_; refine x_kc ?_
     exact kc _ (Ieaaaaaa se hr' D (by walk_at "lk") (by walk_at "lk") (by walk_at "lk") (by walk_at "lk") (by walk_at "lk"))
   | false =>
   with_reducible refine Zbk ?_; refine x_KC ?_
   refine Zel (by decide) (fun m σ => ∃ fr se v, m = Wm ks ch fr se ∧ DS H σ.H st it sn ns ks sd ch dep fr se ∧ v ∈ ks ∧ (∀ g ∈ fr, dep g.name < dep v) ∧ σ.loc "node" = some (.str v) ∧ σ.loc "n2i" = some (.ref n2) ∧ σ.loc "stack" = some (.ref st) ∧ σ.loc "itstack" = some (.ref it) ∧ σ.loc "seen" = some (.ref sn) ∧ σ.loc "node2stacki" = some (.ref ns)) _ (Ieeeaaaaa [] se k rfl D hk (fun g h => nomatch h) (by walk_at "lk") (Iaaaa (by walk_at "lk") (by walk_at "lk") (by walk_at "lk") (by walk_at "lk") (by walk_at "lk"))) ?_; clear D l1 l2 l3 l4 l5 g1 g2 g3 hS hn2 hk; intro M y_1; obtain ⟨l, H2⟩ := y_1; intro I hI y_2; refine Oeeeaaaaaa y_2 ?_; clear y_2; intro fr se v e_4; obtain rfl := e_4; intro D hv hdv l0 l1 z_3; refine Oaaa z_3 ?_; clear z_3; intro l2 l3 l4 l5; dsimp only at D l0 l1 l2 l3 l4 l5; have hfl : fr.length ≤ 4 := Zq8 D.pw fun f hf => hdep _ (D.fb f hf).2.2.2.2.1; have hn2 := D.ext _ _ hn; refine Oeeeaa (id D.hsn) ?_; intro S m dS g1 g2 g3; refine Oeeaa (id D.hns) ?_; intro es ep g4 g5 g6; have hst := D.hst; have hit := D.hit; refine Oaaaaaa D.nes ?_; intro n1 n2' n3 n4 n5 n6 n7; refine Oaaaa D.f0 ?_; intro f1 f2 f3 f4 f5; have hlv : (lookA es v).isSome = false := by
     cases q : (lookA es v).isSome with
     | false => rfl
     | true => (refine Oea ((g5 v).mp q) ?_; intro g hg e); have := hdv g hg; rw [e] at this; exact absurd this (Nat.lt_irrefl _)
   with_reducible refine x_wT ?_; refine x_tr (h := ?_); refine Zmc ?_; refine Zbv ?_; refine x_iT ?_; refine Zam (h := ?_); refine Zbx ?_; refine x_NV (h := ?_); refine x_NV (h := ?_); refine Zi3 ?_; refine Zak ?_
   refine Zvd (fun fl σ' => fl = .next ∧ ∃ fr' se', Wm ks ch fr' se' ≤ Wm ks ch fr se ∧ DS H σ'.H st it sn ns ks sd ch dep fr' se' ∧ σ'.loc "n2i" = some (.ref n2) ∧ σ'.loc "stack" = some (.ref st) ∧ σ'.loc "itstack" = some (.ref it) ∧ σ'.loc "seen" = some (.ref sn) ∧ σ'.loc "node2stacki" = some (.ref ns)) ?_ ?_ ?_
   · intro K' hK hc
     with_reducible refine Zam (h := ?_); refine Zbx ?_; refine x_NV (h := ?_); refine x_NV (h := ?_); refine Ztr ?_; refine Zak ?_; refine Zbk ?_; refine x_KN ?_
     exact hK _ _ (Iaeeaaaaa rfl fr se (Nat.le_refl _) D (by walk_at "lk") (by walk_at "lk") (by walk_at "lk") (Ia (by walk_at "lk") (by walk_at "lk")))
   · intro K' hK hc
     have hvse : v ∉ se := fun h => by rw [(g2 v).mpr h] at hc; exact Zai (Eq.symm hc)
     refine Oea (G.node v hv) ?_; intro dn z_1 hnode; (refine Oe z_1 ?_; clear z_1; intro od hdn); have hsuc := G.suc v hv; have hdn2 := D.ext _ _ hdn; have hnode2 := D.ext _ _ hnode; have hsuc2 := D.ext _ _ hsuc; have w1 : n2 ≠ sn := Zag hn f3; have w2 : ad v ≠ sn := Zag hnode f3; have w3 : sd v ≠ sn := Zag hsuc f3; have w4 : dn ≠ sn := Zag hdn f3; have hlk := Zg9 (ad := ad) hv; have hm : m < lim := Zea (by exact qN (Nat.le_trans (Nat.le_add_right _ _) (Nat.le_trans g3 hlen)) rfl)
     with_reducible refine Zam (h := ?_); refine Zan ?_; refine Zbd ?_; refine Zal (h := ?_); refine x_EO ?_; refine Zbm ?_
     refine Zvh ?_ (ha := g1) (hl := hm); have q1 : upd H2 sn (.set (fun k => S k || decide (k = v)) (if S v = true then m else m + 1) none) st = some _ := Zaa hst n2'; have q2 : upd H2 sn (.set (fun k => S k || decide (k = v)) (if S v = true then m else m + 1) none) it = some _ := Zaa hit n4; have q3 : upd H2 sn (.set (fun k => S k || decide (k = v)) (if S v = true then m else m + 1) none) ns = some _ := Zaa g4 n6.symm
     with_reducible refine x_KC ?_; refine Zan ?_; refine Zbd ?_; refine Zal (h := ?_); refine Zau (h := ?_); refine Zmj (h := ?_); refine x_CG (hl := Zs0) (h := ?_); refine Zau (h := ?_); refine Zmj (h := ?_); refine Zdz ?_; refine x_NV (h := ?_); refine x_NV (h := ?_); refine Zot ?_; refine Zgr ?_ (o := od); refine Zah ?_; refine Zaz (hf := Zp4) (h := ?_); refine Ztp ?_
     refine Zbh fun li hli => ?_; refine Zov ?_; intro bn hbn i1 i2
     with_reducible
      refine Zah ?_; refine Zbm ?_; refine Zbp ?_; refine x_KC ?_; refine Zad ?_; refine x_CG (hl := Zge) (h := ?_); refine x_EO ?_; refine Zaz (hf := Zep) (h := ?_); refine Zqy ?_; refine Zco ?_; refine x_NV (h := ?_); refine x_NV (h := ?_); refine Zi1 ?_; intro U; refine x_KC ?_; refine Zan ?_; refine Zbd ?_; refine Zal (h := ?_); refine x_EO ?_; refine Zbm ?_; refine Zbp ?_; refine x_KN ?_
     have t1 : st ≠ bn := Zag (Zac q1 hli) hbn; have t2 : it ≠ bn := Zag (Zac q2 hli) hbn; have t3 : ns ≠ bn := Zag (Zac q3 hli) hbn; have t4 : st ≠ li := Zag q1 hli; have t5 : it ≠ li := Zag q2 hli; have t6 : ns ≠ li := Zag q3 hli; have t7 : sn ≠ li := Zag (upd_same _ _ _) hli; refine hK _ _ (Iaeeaaaaa rfl (⟨v, bn, li, 0⟩ :: fr) (v :: se) (Zti rfl hv hvse) ?_ (by walk_at "lk") (by walk_at "lk") (by walk_at "lk") (Ia (by walk_at "lk") (by walk_at "lk"))); refine D.push (f := ⟨v, bn, li, 0⟩) hvse hv hdv rfl (upd_same _ _ _) (Zaa (Zaa (upd_same _ _ _) n5) n1.symm) (Ieeea es ep _ g4 rfl) (Zaa (upd_same _ _ _) n3.symm) (Ieeeaa S m dS g1 rfl ?_)
       (Zaa (Zaa (Zaa (Zac (Zac (upd_same _ _ _) hli) hbn) n4.symm) n6) n2'.symm) (Zaa (Zaa (Zaa (upd_same _ _ _) t2.symm) t3.symm) t1.symm) (Zaa (Zaa (Zaa (Zac (upd_same _ _ _) hbn) t5.symm) t6.symm) t4.symm) i1 i2 ((Zay _ _ t7.symm).symm.trans hli)
       fun b o h1 h2 h3 h4 hb => Zaa (Zaa (Zaa (Zac (Zac (Zaa hb h3) hli) hbn) h2) h4) h1
     split <;> (first | lia | omega)
   clear hst hit g1 g2 g3 g4 g5 g6 n1 n2' n3 n4 n5 n6 n7 hlv hfl hn2 l0 l1 l2 l3 l4 l5 hdv hv; generalize Wm ks ch fr se = M at hI ⊢; clear D f1 f2 f3 f4 f5 H2; intro U y_1; obtain ⟨l', H3⟩ := y_1; intro y_2; refine Oaeeaaaaaa y_2 ?_; clear y_2; intro e_3; obtain rfl := e_3; intro fr' se' hW D' m1 m2 m3 m4 m5; dsimp only at D' m1 m2 m3 m4 m5
   with_reducible refine x_KC ?_
   refine Zel (by decide) (fun m σ => ∃ fr se, m = Wm ks ch fr se ∧ Wm ks ch fr se ≤ M ∧ DS H σ.H st it sn ns ks sd ch dep fr se ∧ σ.loc "n2i" = some (.ref n2) ∧ σ.loc "stack" = some (.ref st) ∧ σ.loc "itstack" = some (.ref it) ∧ σ.loc "seen" = some (.ref sn) ∧ σ.loc "node2stacki" = some (.ref ns)) _ (Ieeaaaaaa fr' se' rfl hW D' m1 m2 m3 (Ia m4 m5)) ?_; clear D' m1 m2 m3 m4 m5 hW; intro U y_1; obtain ⟨l', H4⟩ := y_1; intro I2 hI2 y_2; refine Oeeaaaaaaa y_2 ?_; clear y_2; intro fr se e_3; obtain rfl := e_3; intro hW D l1 l2 l3 l4 l5; dsimp only at D l1 l2 l3 l4 l5; have hst := D.hst; have hit := D.hit; cases fr with
   | nil =>
     with_reducible refine x_wT ?_; refine x_tr (h := ?_); refine x_NV (h := ?_); refine Zek ?_; refine x_iF ?_; refine Zam (h := ?_); refine Zi5 ?_; refine x_kb ?_; refine x_kb ?_; refine Zrv ?_; refine x_KN ?_
     exact kn _ (Ieaaaaaa se hr' D l1 l2 l3 l4 l5)
   | cons f fr =>
     refine Oaaaaaa (D.fb f (.head _)) ?_; intro a1 a2 a3 a4 a5 a6 a7; have hsuc := D.ext _ _ (G.suc f.name a5); refine Oeeaa (id D.hns) ?_; intro es ep g4 g5 g6; refine Oaaaaaa D.nes ?_; intro n1 n2' n3 n4 n5 n6 n7; refine Oaaaaaaa (n7 f (.head _)) ?_; intro b1 b2 b3 b4 b5 b6 b7 b8; rw [List.reverse_cons, List.map_append] at hst hit; have hs1 : ((fr.reverse.map fun f => AV.str f.name) ++ [AV.str f.name]).getLast? = some (.str f.name) := List.getLast?_concat; have hs2 : ((fr.reverse.map fun f => AV.ref f.bn) ++ [AV.ref f.bn]).getLast? = some (.ref f.bn) := List.getLast?_concat; have hne0 : ((fr.reverse.map fun f => AV.str f.name) ++ [AV.str f.name]).isEmpty = false := by simp
     change H4 st = some (.list ((fr.reverse.map fun f => AV.str f.name) ++ [AV.str f.name])) at hst
     change H4 it = some (.list ((fr.reverse.map fun f => AV.ref f.bn) ++ [AV.ref f.bn])) at hit
     with_reducible refine x_wT ?_; refine x_tr (h := ?_); refine x_NV (h := ?_); refine Zek ?_
     refine Zgq (by rw [hne0]; rfl) ?_
     with_reducible refine Zam (h := ?_); refine Zmf (h := ?_); refine Zam (h := ?_); refine Zad ?_; refine Zkf (h := ?_); refine Zdz ?_; refine x_NV (h := ?_); refine Zoz ?_; refine Za0 ?_; refine Zkc ?_; refine Zos ?_; refine Ztx (h := ?_); refine Zah ?_
     by_cases hp : f.pos < (ch f.name).length
     · have hc := List.getElem_mem hp
       refine Zr0 (x := .str (ch f.name)[f.pos]) a2 a3 a1 a4 hsuc (by rw [List.getElem?_map, List.getElem?_eq_getElem hp]; rfl) ?_; refine Oa (hch f.name a5 _ hc) ?_; intro hck hcd
       with_reducible refine x_AS ?_; refine x_KC ?_; refine Zi5 ?_; refine x_kb ?_; refine x_kb ?_; refine Zrv ?_; refine x_KN ?_; refine Zhs ?_
       refine hI _ _ (Nat.lt_of_lt_of_le (Zth hp) hW) (Ieeeaaaaa _ se _ rfl (D.step hp) hck (fun g hg => ?_) (by walk_at "lk") (Iaaaa (by walk_at "lk") (by walk_at "lk") (by walk_at "lk") (by walk_at "lk") (by walk_at "lk"))); rcases List.mem_cons.mp hg with rfl | hg
       · rw [hcd]; exact Nat.lt_succ_self _
       · rw [hcd]; exact Nat.lt_succ_of_lt (List.rel_of_pairwise_cons D.pw hg)
     · refine Zox a2 a3 a1 a4 hsuc (by rw [List.getElem?_map, List.getElem?_eq_none (Nat.le_of_not_lt hp)]; rfl) rfl ?_
       refine ⟨Zvy, by decide, by simp, ?_⟩; generalize hH5 : (fun b => if b = f.li then none else H4 b) = H5; have k5 : ∀ b o, b ≠ f.li → H4 b = some o → H5 b = some o := fun b o h e => by rw [← hH5]; exact (if_neg h).trans e
       have hst' := k5 _ _ b5.symm hst; have hit' := k5 _ _ b6.symm hit; have hns' := k5 _ _ b8.symm g4; clear hH5
       with_reducible refine Zam (h := ?_); refine Zo0 ?_; refine x_NV (h := ?_); refine Zbd ?_; refine Zal (h := ?_); refine Zah ?_; refine Zbm ?_; refine Zrt ?_
       refine Zvg (ep := ep) (ha := ?_) (hk := (g5 f.name).mpr (Iea f (.head _) rfl)) (h := ?_)
       · walk_at "hk"
       intro ep2
       with_reducible refine x_KC ?_; refine Zan ?_; refine Zbd ?_; refine Zal (h := ?_); refine Zah ?_; refine Zbm ?_; refine Zrt ?_; refine x_KN ?_; refine x_KN ?_; refine Zhs ?_
       refine hI2 _ _ Zrj (Ieeaaaaaa fr se rfl (Nat.le_trans (Nat.le_of_lt Zrj) hW) (D.pop (Zaa (Zaa (by rw [upd_same, List.dropLast_concat]) n3) n1) ((upd_same _ _ _).trans (by rw [List.dropLast_concat])) (Ieea es ep g4 rfl) (Zaa (upd_same _ _ _) n5.symm) (fun b o h1 h2 h3 h4 hb => Zaa (Zaa (Zaa (k5 b o h4 hb) h1) h3) h2)) (by walk_at "lk") (by walk_at "lk") (by walk_at "lk") (Ia (by walk_at "lk") (by walk_at "lk")))
 · intro y_1; obtain ⟨l, H2⟩ := y_1; intro y_2; refine Oeaa y_2 ?_; clear y_2; intro se U D U
   dsimp only at D
   with_reducible refine x_KC ?_; refine Zaw ?_; refine Zch ?_; refine x_kr ?_; refine x_fr ?_
   exact hQ _ D.ext
 · exact List.map_map ..
theorem Zof {x : Addr} {p : Int} {np : Str → Int} {ch : Str → List Str} (T : TsAt H x d n2 .none p f) (G : Gr H n2 ks ad sd np ch) (hlen : ks.length ≤ 100)
   (hF : ∀ rl H, TsAt H x d n2 (.ref rl) p f → Gr H n2 ks ad sd np ch → ∀ Q : AV → AH → Prop, (∀ H', HExt H H' → Q .none H') → P.F 189 [.ref x] Q H)
   (hQ : ∀ H' rl, H rl = none → Sorter H' x d n2 rl (ks.filter fun k => np k == 0) p f ks ad sd np ch → (∀ b o, b ≠ d → H b = some o → H' b = some o) → Q .none H') : Body P 154 [("self", .ref x)] Q H := by
 obtain ⟨hx, ⟨e1, hd⟩, hne⟩ := id T
 refine Oe G.n2 ?_; intro e2 hn
 have hxd : x ≠ d := by intro q; rw [q, hd] at hx; cases hx
 ((with_reducible refine Za2 (s := ?s17) (r := ?r17) (l := ?l17) ?hb17 ?hl17 ?_); (case hb17 => exact rfl); (case hl17 => (dsimp only [locOf]; exact rfl)))
 with_reducible refine Zbx ?_; refine x_AV ?_; refine Zbo ?_; refine Zch ?_; refine Zgp ?_; refine Zak ?_; refine Zbk ?_; refine x_KC ?_; refine Zad ?_; refine Zby ?_; refine Zdh (h := ?_); refine Zcp (h := ?_); refine x_AV ?_; refine Zbo ?_; refine Zal (h := ?_); refine Zah ?_; refine Zbm ?_; refine Zon ?_
 refine Zbh fun vl hvl => ?_
 have E1 := HExt.upd (.vals n2) hvl
 refine Zl3 (upd_same _ _ _) (Zac hn hvl) ?_
 refine Zbi ks (fun k => .one (.ref (ad k))) (fun k => if (np k == 0) = true then [.str k] else []) (fun σ => σ.H = upd H vl (.vals n2)) ?_ ?_ ?_ ?_ ?_ ?_
 · rintro ⟨l, H1⟩ h; dsimp only at h; subst h; exact ⟨upd_same _ _ _, Zac hn hvl⟩
 · rintro k hk j ⟨l, H1⟩ K h hj hK
   dsimp only at h; subst h; refine Oea (G.node k hk) ?_; intro dn z_1 hnode; (refine Oe z_1 ?_; clear z_1; intro od hdn); have hdn1 := E1 _ _ hdn; have hnode1 := E1 _ _ hnode
   with_reducible refine x_AI ?_; refine Zdx ?_; refine Za3 (h := ?_); refine x_AV ?_; refine Zgr ?_; refine Za0 ?_; refine Zk3 ?_; refine Zak ?_
   split
   · rename_i hc
     rw [if_pos hc] at hj hK
     with_reducible refine Zbu ?_; refine x_AV ?_; refine Zgr ?_
     exact ⟨hj, hK _ rfl⟩
   · rename_i hc
     rw [if_neg hc] at hK; exact hK _ rfl
 · exact (List.map_map ..)
 · rfl
 · have := Zba (fun k => if (np k == 0) = true then [AV.str k] else []) (fun k => by split <;> simp) ks; refine Zat ?_; exact qz (Nat.le_trans this (qL hlen rfl))
 · rintro ⟨l, H1⟩ h
   dsimp only at h; subst h; refine Zap (hl := ?_) (h := fun rl hrl => ?_)
   · have := Zba (fun k => if (np k == 0) = true then [AV.str k] else []) (fun k => by split <;> simp) ks; refine Zat ?_; exact Nat.le_trans this (qL hlen rfl)
   rw [Zcw (fun k => np k == 0)]; have E2 := E1.trans (HExt.upd (.list ((ks.filter fun k => np k == 0).map .str)) hrl); have hx2 := E2 _ _ hx; have hd2 := E2 _ _ hd; have hrl0 : H rl = none := E1.none hrl; have q1 : rl ≠ d := (Zag hd hrl0).symm
   with_reducible
    refine Za6 ?_; refine x_NV (h := ?_); refine Zfq ?_; intro U; refine x_KC ?_; refine Zad ?_; refine Zbd ?_
   rw [Zvi]; generalize hH3 : upd _ d _ = H3; have fr3 : ∀ b o, b ≠ d → H b = some o → H3 b = some o := fun b o h e => by rw [← hH3]; exact Zaa (E2 _ _ e) h
   have T3 : TsAt H3 x d n2 (.ref rl) p f := ⟨fr3 _ _ hxd hx, ⟨_, by rw [← hH3]; exact upd_same _ _ _⟩, hne⟩; have G3 : Gr H3 n2 ks ad sd np ch := by rw [← hH3]; exact (G.ext E2).side hne (T.away G).2.2
   have r3 : H3 rl = some (.list ((ks.filter fun k => np k == 0).map .str)) := by rw [← hH3]; exact Zaa (upd_same _ _ _) q1
   refine Oe T3.hd ?_; intro e3 hd3; have hx3 := T3.hx; clear hH3; refine Zal (m := .own 189) (hm := Zbg hx3 hd3 (by kernel_rfl!) (by kernel_rfl!)) (h := ?_)
   with_reducible refine Zah ?_
   refine Zfr ?_; refine hF rl _ T3 G3 _ fun H4 E4 => ?_
   with_reducible refine x_AS ?_; refine x_KC ?_; refine x_If ?_; refine x_tr (h := ?_); refine x_NV (h := ?_); refine Zrm ?_; refine Zbk ?_; refine x_KN ?_; refine x_fn ?_
   exact hQ _ rl hrl0 ⟨⟨E4 _ _ T3.hx, ⟨_, E4 _ _ hd3⟩, hne⟩, G3.ext E4, E4 _ _ r3, fun k hk => (Zag (G.suc k hk) hrl0).symm⟩ fun b o h e => E4 _ _ (fr3 b o h e)
noncomputable def Spec135 (P : Par) : Prop := ∀ x d Q H, H x = some (.inst 199 d) → H d = some (.dict [] 0) → (∀ H' n2 ep, H n2 = none → H' n2 = some (.dict [] 0) → H' d = some (.dict (tsD n2 .none 0 0) ep) → (∀ a o, a ≠ d → H a = some o → H' a = some o) → Q .none H') → P.F 135 [.ref x] Q H
noncomputable def Spec149 (P : Par) : Prop := ∀ x d n2 p f m (po : Option Str) ks ad sd np ch Q H, TsAt H x d n2 .none p f → Gr H n2 ks ad sd np ch → ks.length ≤ 90 → (∀ k, (ch k).length ≤ 100) →
 (∀ H' ad' sd', Gr H' n2 (ksA ks m po) ad' sd' (npA np m po) (chA ch m po) → Grew H H' n2 ks ad sd (ksA ks m po) ad' sd' → Q .none H') → P.F 149 (.ref x :: .str m :: po.toList.map .str) Q H
noncomputable def Spec154 (P : Par) : Prop := ∀ x d n2 p f ks ad sd np ch (dep : Str → Nat) Q H, TsAt H x d n2 .none p f → Gr H n2 ks ad sd np ch → ks.length ≤ 100 → (∀ k ∈ ks, ∀ c ∈ ch k, c ∈ ks ∧ dep c = dep k + 1) → (∀ k ∈ ks, dep k ≤ 3) →
 (∀ H' rl, H rl = none → Sorter H' x d n2 rl (ks.filter fun k => np k == 0) p f ks ad sd np ch → (∀ b o, b ≠ d → H b = some o → H' b = some o) → Q .none H') → P.F 154 [.ref x] Q H
noncomputable def Spec168 (P : Par) : Prop := ∀ x d n2 rl rs p f ks ad sd np ch Q H, Sorter H x d n2 rl rs p f ks ad sd np ch → Q (.bool (decide (f < p) || !rs.isEmpty)) H → P.F 168 [.ref x] Q H
noncomputable def Spec161 (P : Par) : Prop := ∀ x d n2 rl rs p f ks ad sd np ch Q H, Sorter H x d n2 rl rs p f ks ad sd np ch → (∀ k ∈ rs, k ∈ ks) →
 (∀ H' t, H t = none → Sorter H' x d n2 rl [] (p + (rs.length : Int)) f ks ad sd (npO np rs) ch → H' t = some (.tup (rs.map .str)) → FrS H H' n2 d rl ks ad sd → Q (.ref t) H') → P.F 161 [.ref x] Q H
noncomputable def Spec182 (P : Par) : Prop := ∀ x d n2 rl rs (ns : List Str) p f ks ad sd np ch Q H, Sorter H x d n2 rl rs p f ks ad sd np ch → (∀ k ∈ ns, k ∈ ks ∧ np k = -1) → ns.Nodup → (∀ c ∈ ns.flatMap ch, c ∈ ks ∧ np c = 1) → (ns.flatMap ch).Nodup → rs.length + (ns.flatMap ch).length ≤ 100 → ns.length ≤ 100 →
 (∀ H', Sorter H' x d n2 rl (rs ++ ns.flatMap ch) p (f + (ns.length : Int)) ks ad sd (npD np ns (ns.flatMap ch)) ch → FrS H H' n2 d rl ks ad sd → Q .none H') → P.F 182 (.ref x :: ns.map .str) Q H
theorem Zqp {mo : Addr} (M : Mods ms) (hmo : H mo = some (.list ((ms.map nmS).map .str))) (F135 : Spec135 P) (F149 : Spec149 P) (F154 : Spec154 P) (F168 : Spec168 P) (F161 : Spec161 P) (F182 : Spec182 P)
   (hQ : ∀ H' r as, HExt H H' → H' r = some (.list (as.map .ref)) → Rounds H' ms as → (∀ i, as.length ≤ i → lvl ms i = []) → Q (.ref r) H') : Body P 229 [("modules", .ref mo)] Q H := by
 ((with_reducible refine Za2 (s := ?s18) (r := ?r18) (l := ?l18) ?hb18 ?hl18 ?_); (case hb18 => exact rfl); (case hl18 => (dsimp only [locOf]; exact rfl)))
 with_reducible refine Zad ?_; refine x_CG (hl := Znw) (h := ?_); refine Zah ?_
 refine Zgs ?_ (fi := 135)
 intro d x hd hx hdx
 refine F135 x d _ _ (upd_same _ _ _) (Zaa (upd_same _ _ _) hdx) fun H1 n2 ep hn2 g1 g2 fr1 => ⟨rfl, ?_⟩
 have hmo1 : H1 mo = some (.list ((ms.map nmS).map .str)) := fr1 _ _ (Zag hmo hd) (Zaa (Zac hmo hd) (Zag hmo hx))
 have up1 : ∀ b o, H b = some o → H1 b = some o := fun b o e => fr1 _ _ (Zag e hd) (Zaa (Zac e hd) (Zag e hx))
 have hx1 : H1 x = some (.inst 199 d) := fr1 _ _ hdx.symm (upd_same _ _ _)
 have hn20 : H n2 = none := by
   cases q : H n2 with
   | none => rfl
   | some o => exact absurd rfl (Zag (Zaa (Zac q hd) (Zag q hx)) hn2)
 have hnd : d ≠ n2 := Zag (Zaa (upd_same _ _ _) hdx) hn2
 have T1 : TsAt H1 x d n2 .none 0 0 := ⟨hx1, ⟨ep, g2⟩, hnd⟩
 have G1 : Gr H1 n2 [] (fun U => 0) (fun U => 0) (npM []) (chM []) := ⟨⟨0, g1⟩, List.nodup_nil, fun U h => (nomatch h), fun U h => (nomatch h), fun U h => (nomatch h), fun U U => ⟨rfl, rfl⟩⟩
 with_reducible refine x_AS ?_; refine x_KC ?_; refine Ze7 ?_; refine Zbw ?_; refine x_NV (h := ?_); refine Za8 ?_; refine Za8 ?_; refine Zdw ?_; refine Zoz ?_; refine Za0 ?_; refine Zkc ?_; refine Zl6 ?_
 refine Zbh fun rv hrv => ?_
 rw [← List.map_reverse, ← List.map_reverse]
 have E2 := HExt.upd (.list ((ms.reverse.map nmS).map .str)) hrv
 with_reducible refine Zav ?_
 refine Zdi (fun m => .one (.str (nmS m))) (fun r σ => ∃ dl ks ad sd, ms.reverse = dl ++ r ∧ σ.loc "sorter" = some (.ref x) ∧ TsAt σ.H x d n2 .none 0 0 ∧ Gr σ.H n2 ks ad sd (npM dl) (chM dl) ∧ (∀ k, k ∈ ks ↔ ∃ m ∈ dl, k = nmS m ∨ parS m = some k) ∧ (∀ b o, H b = some o → σ.H b = some o) ∧ (∀ k ∈ ks, H (ad k) = none ∧ H (sd k) = none) ∧
     σ.H rv = some (.list ((ms.reverse.map nmS).map .str)) ∧ (∀ k ∈ ks, rv ≠ sd k) ∧ ks.length ≤ 2 * dl.length) ?_ ?_ ?_ ms.reverse (by refine (?_ : List.map _ _ = _); rw [List.map_map, List.map_map]; rfl) (Ieeeeaaaa [] [] _ _ rfl (by walk_at "lk") ⟨E2 _ _ hx1, ⟨ep, E2 _ _ g2⟩, hnd⟩ (G1.ext E2) (Iaaaaa (fun k => ⟨fun h => (nomatch h), fun z => Oea z fun U h U => (nomatch h)⟩) (fun b o e => E2 _ _ (up1 b o e)) (fun U h => (nomatch h)) (upd_same _ _ _) (fun U h => (nomatch h)) (Nat.zero_le _)))
 · (intro r σ y_1; refine Oeeeeaaaaa y_1 ?_; clear y_1; intro U U U U U U U U U z_2; refine Oaaa z_2 ?_; clear z_2; intro U U h U); exact h
 · intro m r y_1; obtain ⟨l, H2⟩ := y_1; intro K y_2; refine Oeeeeaaaaa y_2 ?_; clear y_2; intro dl ks ad sd hdl l1 T G hks z_3; refine Oaaaa z_3 ?_; clear z_3; intro hE hfr h2 hrs hlen; intro kn kc kb kr
   dsimp only at l1 T G hE h2; have hmm : m ∈ ms := List.mem_reverse.mp (by rw [hdl]; simp); have ho := M.ok m hmm; have hO := Zc0 ho; have hdl2 : ∀ l ∈ dl, okM l := fun l h => M.ok l (List.mem_reverse.mp (by rw [hdl]; exact List.mem_append_left _ h)); have hnin : m ∉ dl := by
     have := List.pairwise_reverse.mpr (M.nd.imp fun h => h.symm); rw [hdl] at this; intro q; exact (List.nodup_append.mp this).2.2 m q m (by simp) rfl
   have hdln : dl.length ≤ 29 := by
     have := congrArg List.length hdl; rw [List.length_reverse, List.length_append, List.length_cons] at this; have := M.len
     (first | lia | omega)
   obtain ⟨hx2, ⟨ep2, hd2⟩, _⟩ := id T; have fin : ∀ H3 ad' sd', Gr H3 n2 (ksA ks (nmS m) (parS m)) ad' sd' (npA (npM dl) (nmS m) (parS m)) (chA (chM dl) (nmS m) (parS m)) → Grew H2 H3 n2 ks ad sd (ksA ks (nmS m) (parS m)) ad' sd' → ∀ l', l' "sorter" = some (.ref x) → K .next ⟨l', H3⟩ := by
     intro H3 ad' sd' G' g l' hl'; rw [Zpl hdl2 ho hnin, Zqi] at G'; have hw := G.away_list h2 hrs; refine kn _ (Ieeeeaaaa (dl ++ [m]) _ ad' sd' (by rw [hdl]; simp) hl' (T.grew G g) G' (Iaaaaa (fun k => ?_) (fun b o e => ?_) (fun k hk => ?_) ?_ (fun k hk => ?_) ?_))
     · rw [Zst, hks]
       constructor
       · rintro (⟨l, hl, q⟩ | q | q)
         · exact Iea l (List.mem_append_left _ hl) q
         · exact Iea m (by simp) (.inl q)
         · exact Iea m (by simp) (.inr q)
       · intro y_1; refine Oea y_1 ?_; clear y_1; intro l hl q
         rcases List.mem_append.mp hl with hl | hl
         · exact .inl (Iea l hl q)
         · rw [List.mem_singleton.mp hl] at q; exact .inr q
     · exact g.fr b o (hE b o e) (Zag e hn20) fun k hk => ⟨Zag e (hfr k hk).1, Zag e (hfr k hk).2⟩
     · by_cases q : k ∈ ks
       · (refine Oaa (g.old k q) ?_; intro U q1 q2); rw [q1, q2]; exact hfr k q
       · refine Oa (g.new k hk q) ?_; intro q1 q2
         refine ⟨?_, ?_⟩
         · cases z : H (ad' k) with
           | none => rfl
           | some o => exact absurd ((hE _ _ z).symm.trans q1) (by simp)
         · cases z : H (sd' k) with
           | none => rfl
           | some o => exact absurd ((hE _ _ z).symm.trans q2) (by simp)
     · exact g.fr _ _ h2 hw.1 hw.2
     · by_cases q : k ∈ ks
       · (refine Oaa (g.old k q) ?_; intro U U q2); rw [q2]; exact hrs k q
       · exact Zag h2 (g.new k hk q).2
     · rw [List.length_append, List.length_singleton]; exact Nat.le_trans Zsu (by exact Nat.add_le_add_right hlen 2)
   have hl8 := hO.len; have hF149 := F149 x d n2 0 0 (nmS m) (parS m) ks ad sd (npM dl) (chM dl)
   with_reducible refine x_AI ?_; refine Zam (h := ?_); refine Zbx ?_; refine Zb2 ?_; refine x_NV (h := ?_); refine Zva ?_; refine Zak ?_
   by_cases h1 : 1 < m.length
   · refine Zgq (by rw [hO.dot]; exact decide_eq_true h1) ?_
     with_reducible refine Zam (h := ?_); refine Zan ?_; refine Zbd ?_
     refine Zal (m := .own 149) (hm := Zbg hx2 hd2 (by kernel_rfl!) (by kernel_rfl!)) (h := ?_)
     with_reducible refine x_EV (h := ?_); refine Zau (h := ?_); refine Zbw ?_; refine x_NV (h := ?_); refine Za8 ?_; refine Zdw ?_; refine Zbd ?_; refine Zal (h := ?_); refine Zau (h := ?_); refine Zb2 ?_; refine Zah ?_; refine Zbm ?_; refine Zrs ?_; refine Za8 ?_; refine Zl5 ?_; refine Zah ?_
     rw [hO.par h1]; refine Zfr ?_; have e1 : AV.ref x :: AV.str (nmS m) :: (parS m).toList.map .str = [AV.ref x, .str (nmS m), .str (nmS m.dropLast)] := by rw [show parS m = some _ from if_pos h1]; rfl
     rw [← e1]; refine hF149 _ _ T G (by exact q126 hlen hdln) (fun k => Nat.le_trans (Zoa dl k) (by exact q127 hdln)) fun H3 ad' sd' G' g => ?_
     with_reducible refine x_KN ?_; refine x_KN ?_
     exact fin H3 ad' sd' G' g _ (by walk_at "lk")
   · refine Zk2 (by rw [hO.dot]; exact decide_eq_false h1) ?_
     with_reducible refine Zam (h := ?_); refine Zan ?_; refine Zbd ?_
     refine Zal (m := .own 149) (hm := Zbg hx2 hd2 (by kernel_rfl!) (by kernel_rfl!)) (h := ?_)
     with_reducible refine x_EO ?_
     refine Zfr ?_; have e1 : AV.ref x :: AV.str (nmS m) :: (parS m).toList.map .str = [AV.ref x, .str (nmS m)] := by rw [show parS m = none from if_neg h1]; rfl
     rw [← e1]; refine hF149 _ _ T G (by exact q126 hlen hdln) (fun k => Nat.le_trans (Zoa dl k) (by exact q127 hdln)) fun H3 ad' sd' G' g => ?_
     with_reducible refine x_KN ?_; refine x_KN ?_
     exact fin H3 ad' sd' G' g _ (by walk_at "lk")
 · intro y_1; obtain ⟨l, H2⟩ := y_1; intro y_2; refine Oeeeeaaaaa y_2 ?_; clear y_2; intro dl ks ad sd hdl l1 T G hks z_3; refine Oaaaa z_3 ?_; clear z_3; intro hE hfr h2 hrs hlen
   dsimp only at l1 T G hE h2; rw [List.append_nil] at hdl; subst hdl; have F : Full ms ks := ⟨G.nd, fun k => by
     rw [hks]; constructor
     · rintro ⟨m, hm, rfl | q⟩
       · exact Iea m (List.mem_reverse.mp hm) rfl
       · unfold parS at q
         split at q
         · cases q
           exact Iea _ (M.par m (List.mem_reverse.mp hm) (by assumption)) rfl
         · exact Zab q
     · intro y_1; refine Oea y_1 ?_; clear y_1; intro m hm e_2; obtain rfl := e_2
       exact (Iea m (List.mem_reverse.mpr hm) (.inl rfl))⟩
   have hks60 : ks.length ≤ 60 := by have := M.len; rw [List.length_reverse] at hlen; exact Nat.le_trans hlen (Nat.le_trans (Nat.mul_le_mul_left 2 this) (Nat.le_of_ble_eq_true rfl))
   obtain ⟨hx2, ⟨ep2, hd2⟩, _⟩ := id T
   with_reducible refine x_KC ?_; refine Zan ?_; refine Zbd ?_
   refine Zal (m := .own 154) (hm := Zbg hx2 hd2 (by kernel_rfl!) (by kernel_rfl!)) (h := ?_)
   with_reducible refine Zah ?_
   refine Zfr ?_; refine F154 x d n2 0 0 ks ad sd _ _ depS _ _ T G (by exact qL hks60 rfl) (F.ch M) (fun k hk => Nat.le_trans (F.dep M k hk) (by decide)) fun H3 rl hrl S fr3 => ?_; have hside : ∀ b o, H b = some o → Side n2 d rl ks ad sd b := fun b o e => ⟨Zag e hn20, Zag e hd, Zag (hE b o e) hrl, fun k hk => ⟨Zag e (hfr k hk).1, Zag e (hfr k hk).2⟩⟩; have hE3 : HExt H H3 := fun b o e => fr3 b o (Zag e hd) (hE b o e)
   with_reducible refine x_KC ?_; refine Zad ?_; refine Zbc ?_; refine Zah ?_
   refine Zap (h := fun ro hro => ?_); have S4 := S.ext (HExt.upd (.list []) hro); have sro := S.side hro; have hE4 := hE3.trans (HExt.upd (.list []) hro); have hro0 := hE3.none hro
   with_reducible refine x_AS ?_; refine x_KC ?_
   refine Zel (by decide) (fun w σ => ∃ j rs np as p, w = 4 - j ∧ Sorter σ.H x d n2 rl rs p p ks ad sd np (chM ms.reverse) ∧ rs.Nodup ∧ (∀ k, k ∈ rs ↔ k ∈ ks ∧ depS k = j) ∧ (∀ k ∈ ks, j < depS k → np k = 1) ∧ σ.loc "sorter" = some (.ref x) ∧ σ.loc "rounds" = some (.ref ro) ∧ σ.H ro = some (.list (as.map .ref)) ∧ as.length = j ∧
     Rounds σ.H ms as ∧ HExt H σ.H ∧ (∀ a ∈ as, Side n2 d rl ks ad sd a ∧ a ≠ ro) ∧ j ≤ 3) _ (Ieeeeeaaa 0 _ _ [] 0 rfl S4 (List.Pairwise.filter _ F.nd) (Iaaaaaaaa (fun k => ?_) (fun k hk h => ?_) (by walk_at "lk") (by walk_at "lk") (upd_same _ _ _) rfl ⟨fun i h => (nomatch h)⟩ hE4 (Ia (fun U h => (nomatch h)) (by decide)))) ?_
   · rw [List.mem_filter]
     constructor
     · intro y_1; refine Oa y_1 ?_; clear y_1; intro h1 h2
       refine ⟨h1, ?_⟩; rw [F.np M k h1] at h2; by_cases q : depS k = 0
       · exact q
       · rw [if_neg q] at h2; exact Zai h2
     · intro y_1; refine Oa y_1 ?_; clear y_1; intro h1 h2
       exact ⟨h1, by rw [F.np M k h1, if_pos h2]; rfl⟩
   · rw [F.np M k hk, if_neg (by exact Nat.ne_of_gt h)]
   clear S4 hE4 hro S hE3; intro U y_1; obtain ⟨l2, H5⟩ := y_1; intro I hI y_2; refine Oeeeeeaaaa y_2 ?_; clear y_2; intro j rs np as p e_4; obtain rfl := e_4; intro S hnd5 hmem z_3; refine Oaaaaaaaa z_3 ?_; clear z_3; intro hnp m1 m2 hro5 hal hR hE5 hsa hj; dsimp only at S m1 m2 hro5 hR hE5; have hperm : rs.Perm (lvl ms j) := (List.perm_ext_iff_of_nodup hnd5 (Zc6 M j)).mpr fun k => (hmem k).trans (F.lvl M j).symm; have hrl30 : rs.length ≤ 30 := hperm.length_eq ▸ Zfj M j; obtain ⟨hx5, ⟨ep5, hd5⟩, _⟩ := id S.T; have sxo : ro ≠ x := by intro q; rw [q, hx5] at hro5; cases hro5
   with_reducible refine x_wT ?_; refine x_tr (h := ?_); refine Zbd ?_
   refine Zal (m := .own 168) (hm := Zbg hx5 hd5 (by kernel_rfl!) (by kernel_rfl!)) (h := ?_)
   with_reducible refine Zah ?_
   refine Zfr ?_; refine F168 _ _ _ _ _ _ _ _ _ _ _ _ _ _ S ?_
   with_reducible refine Zbv ?_
   rw [decide_eq_false (Int.lt_irrefl p), Bool.false_or]; cases hrs0 : rs with
   | nil =>
     subst hrs0
     with_reducible refine Zbk ?_; refine x_KC ?_; refine Zaw ?_; refine x_NV (h := ?_); refine x_kr ?_; refine x_fr ?_
     exact hQ _ ro as hE5 hro5 hR fun i hi => Zul M (hperm.symm.eq_nil) (by exact Nat.le_trans (Nat.le_of_eq hal.symm) hi)
   | cons k0 rs0 =>
     rw [← hrs0]; have hne0 : rs.isEmpty = false := by rw [hrs0]; rfl
     have hlv : lvl ms j ≠ [] := by intro q; rw [q] at hperm; rw [hperm.eq_nil] at hne0; exact Zai (Eq.symm hne0)
     have hj2 : j ≤ 2 := by
       have := (hmem k0).mp (by rw [hrs0]; exact .head _); rw [← this.2]; exact F.dep M k0 this.1
     clear hrs0; refine Zgq (by rw [hne0]; rfl) ?_
     with_reducible refine Zam (h := ?_); refine Zad ?_; refine Zbd ?_
     refine Zal (m := .own 161) (hm := Zbg hx5 hd5 (by kernel_rfl!) (by kernel_rfl!)) (h := ?_)
     with_reducible refine Zah ?_
     refine Zfr ?_; refine F161 _ _ _ _ _ _ _ _ _ _ _ _ _ _ S (fun k hk => ((hmem k).mp hk).1) fun H6 t ht S6 h6 F6 => ?_; obtain ⟨hx6, ⟨ep6, hd6⟩, _⟩ := id S6.T; have stt := S.side ht; refine Oa (F.next M hnd5 hmem) ?_; intro nx1 nx2
     with_reducible refine x_AS ?_; refine x_KC ?_; refine Zan ?_; refine Zi4 ?_; refine x_NV (h := ?_)
     refine Zk4 (f := 182) (hm := Zbg hx6 hd6 (by kernel_rfl!) (by kernel_rfl!)) (h := ?_)
     with_reducible refine x_NV (h := ?_); refine Zl2 ?_
     have hfl : (rs.flatMap (chM ms.reverse)).length ≤ 30 := by
       rw [((List.perm_ext_iff_of_nodup nx1 (Zc6 M (j + 1))).mpr fun k => (nx2 k).trans (F.lvl M (j + 1)).symm).length_eq]; exact Zfj M _
     refine F182 _ _ _ _ _ rs _ _ _ _ _ _ _ _ _ S6 (fun k hk => ⟨((hmem k).mp hk).1, if_pos hk⟩) hnd5 (fun c hc => ?_) nx1 (by simp only [List.length_nil]; exact qz (qL hfl rfl)) (by exact q133 hrl30) fun H7 S7 F7 => ?_
     · refine Oa ((nx2 c).mp hc) ?_; intro c1 c2
       refine ⟨c1, ?_⟩; delta npO; rw [if_neg (fun h => by have := ((hmem c).mp h).2; exact (Nat.succ_ne_self _ (c2.symm.trans this)).elim)]; exact hnp c c1 (by exact Nat.lt_of_lt_of_eq (Nat.lt_succ_self _) c2.symm)
     have h7 := F7 _ _ stt h6; have hro7 := F7 _ _ sro (F6 _ _ sro hro5)
     with_reducible refine x_KC ?_; refine Zan ?_; refine Zbd ?_; refine Zal (h := ?_); refine Zau (h := ?_); refine x_CG (hl := Zc8) (h := ?_); refine x_EO ?_; refine Zaz (hf := Zcm) (h := ?_)
     refine Zrp h7 (strsOf_map _) (by exact q136 hrl30) fun zs hzp hzs => Zbh fun za hza => ?_; have hza2 : za ≠ ro := (Zag hro7 hza).symm
     with_reducible refine Zah ?_; refine Zbm ?_; refine Zbp ?_; refine x_KN ?_; refine Zhs ?_
     refine hI _ _ (by exact Nat.sub_lt_sub_left (qN hj2 rfl) (Nat.lt_succ_self _)) (Ieeeeeaaa (j + 1) _ _ (as ++ [za]) _ rfl ((S7.ext (HExt.upd _ hza)).beside sro sxo) ?_ (Iaaaaaaaa ?_ ?_ (by walk_at "lk") (by walk_at "lk") ?_ (by rw [List.length_append, hal]; rfl) ⟨fun i h => ?_⟩ ?_ (Ia ?_ (by exact Nat.succ_le_succ hj2))))
     · rw [List.nil_append]; exact nx1
     · rw [List.nil_append]; exact nx2
     · intro k hk hjk
       delta npD npO; rw [if_neg (fun h => by have := ((hmem k).mp h).2; exact (q139 hjk this).elim), if_neg (fun h => by have := ((nx2 k).mp h).2; exact (Nat.ne_of_gt hjk this).elim), if_neg (fun h => by have := ((hmem k).mp h).2; exact (q139 hjk this).elim)]; exact hnp k hk (by exact Nat.lt_of_succ_lt hjk)
     · rw [List.map_append]; exact upd_same _ _ _
     · by_cases hi : i < as.length
       · refine Oea (hR.at_ i hi) ?_; intro ys e1 e2
         refine Oa (hsa _ (List.getElem_mem hi)) ?_; intro q1 q2; refine (Iea ys ?_ e2); rw [List.getElem_append_left hi]; exact Zaa (Zac (F7 _ _ q1 (F6 _ _ q1 e1)) hza) q2
       · have hi2 : i = as.length := by rw [List.length_append, List.length_singleton] at h; exact q142 hal h hi
         subst hi2; refine (Ieaaa zs ?_ (hzp.trans (by rw [hal]; exact hperm)) hzs (by rw [hal]; exact hlv)); have : (as ++ [za])[as.length]'h = za := by simp
         rw [this]; exact Zaa (upd_same _ _ _) hza2
     · exact fun b o e => Zaa (Zac (F7 _ _ (hside b o e) (F6 _ _ (hside b o e) (hE5 b o e))) hza) (Zag e hro0)
     · intro a ha
       rcases List.mem_append.mp ha with h | h
       · exact hsa a h
       · rw [List.mem_singleton.mp h]; exact ⟨S7.side hza, hza2⟩
theorem Zv4 {e : Addr} {es as : List Str} (he : H e = some (.list (es.map .str))) (ha : H a = some (.list (as.map .str))) (hea : e ≠ a) (hl : es.length ≤ 100)
   (hQ : ∀ H' t mi, H' t = some (.tup [.ref mi, .ref a]) → H' mi = some (.list ((uldF es.reverse [] as).1.map .str)) → H' a = some (.list ((uldF es.reverse [] as).2.map .str)) → (∀ b o, b ≠ e → b ≠ a → H b = some o → H' b = some o) → Q (.ref t) H') : Body P 217 [("expected", .ref e), ("actual", .ref a)] Q H := by
 ((with_reducible refine Za2 (s := ?s19) (r := ?r19) (l := ?l19) ?hb19 ?hl19 ?_); (case hb19 => exact rfl); (case hl19 => (dsimp only [locOf]; exact rfl)))
 with_reducible refine Zad ?_; refine Zbc ?_; refine Zah ?_
 refine Zap (h := fun mi hmi => ?_)
 have q1 : e ≠ mi := Zag he hmi
 have q2 : a ≠ mi := Zag ha hmi
 with_reducible refine x_AS ?_; refine x_KC ?_
 refine Zel (by decide) (fun w σ => ∃ rs mis act, w = rs.length ∧ σ.H e = some (.list ((rs.reverse).map .str)) ∧ σ.H a = some (.list (act.map .str)) ∧ σ.H mi = some (.list (mis.map .str)) ∧ uldF rs mis act = uldF es.reverse [] as ∧ mis.length + rs.length ≤ 100 ∧ (∀ b o, b ≠ e → b ≠ a → H b = some o → σ.H b = some o) ∧ H mi = none ∧ σ.loc "expected" = some (.ref e) ∧ σ.loc "actual" = some (.ref a) ∧ σ.loc "missing" = some (.ref mi)) _
   (Ieeeaaaaa es.reverse [] as rfl (by rw [List.reverse_reverse]; walk_at "hk") (by walk_at "hk") (upd_same _ _ _) rfl (Iaaaaa (by rw [List.length_reverse]; simpa using hl) (fun b o U U h => Zac h hmi) hmi (by walk_at "lk") (by walk_at "lk") (by walk_at "lk"))) ?_
 intro U y_1; obtain ⟨l, H1⟩ := y_1; intro I hI y_2; refine Oeeeaaaaaa y_2 ?_; clear y_2; intro rs mis act e_4; obtain rfl := e_4; intro h1 h2 h3 hF hlen z_3; refine Oaaaa z_3 ?_; clear z_3; intro hfr U l1 l2 l3
 dsimp only at h1 h2 h3 hfr l1 l2 l3
 cases rs with
 | nil =>
   with_reducible refine x_wT ?_; refine x_tr (h := ?_); refine x_NV (h := ?_); refine Zek ?_; refine Zbk ?_; refine x_KC ?_; refine Zaw ?_; refine Zfs ?_; refine x_EV (h := ?_); refine x_EO ?_
   refine Zap (h := fun t ht => ?_)
   with_reducible refine x_kr ?_; refine x_fr ?_
   have e1 : uldF es.reverse [] as = (mis, act) := hF.symm; refine hQ _ t mi (upd_same _ _ _) ?_ ?_ fun b o hb hb2 h => Zac (hfr b o hb hb2 h) ht
   · rw [e1]; exact Zac h3 ht
   · rw [e1]; exact Zac h2 ht
 | cons x r =>
   rw [List.reverse_cons, List.map_append] at h1
   change H1 e = some (.list (r.reverse.map .str ++ [.str x])) at h1
   have hg : (r.reverse.map AV.str ++ [AV.str x]).getLast? = some (.str x) := List.getLast?_concat; have hne0 : (r.reverse.map AV.str ++ [AV.str x]).isEmpty = false := by simp
   with_reducible refine x_wT ?_; refine x_tr (h := ?_); refine x_NV (h := ?_); refine Zek ?_
   refine Zgq (by rw [hne0]; rfl) ?_
   with_reducible refine Zam (h := ?_); refine Zad ?_; refine Zbd ?_; refine Zal (h := ?_); refine Zah ?_; refine Zbm ?_; refine Zrt ?_; refine x_AS ?_; refine x_KC ?_; refine Zmf (h := ?_); refine Zam (h := ?_); refine Zan ?_; refine Zbd ?_; refine Zal (h := ?_); refine x_EO ?_; refine Zbm ?_
   rw [List.dropLast_concat]; have h1' : upd H1 e (.list (r.reverse.map .str)) e = some (.list (r.reverse.map .str)) := upd_same _ _ _; have h2' : upd H1 e (.list (r.reverse.map .str)) a = some (.list (act.map .str)) := Zaa h2 hea.symm; have h3' : upd H1 e (.list (r.reverse.map .str)) mi = some (.list (mis.map .str)) := Zaa h3 q1.symm; cases hc : act.contains x with
   | true =>
     refine Zor h2' (strsOf_map _) hc ?_
     with_reducible refine x_KN ?_; refine x_KN ?_; refine Zhs ?_
     refine hI _ _ (Nat.lt_succ_self _) (Ieeeaaaaa r mis (act.erase x) rfl (Zaa h1' hea) (upd_same _ _ _) (Zaa h3' q2.symm) ?_ (Iaaaaa (by rw [List.length_cons] at hlen; exact Nat.le_of_succ_le hlen) (fun b o hb hb2 h => Zaa (Zaa (hfr b o hb hb2 h) hb) hb2) hmi (by walk_at "lk") (by walk_at "lk") (by walk_at "lk"))); rw [← hF]; refine (?_ : _ = uldF (x :: r) mis act); rw [uldF, if_pos hc]
   | false =>
     refine Zl8 h2' (strsOf_map _) hc ?_; refine ⟨Zvx, by decide, by simp, ?_⟩; rw [List.length_cons] at hlen
     with_reducible refine Zam (h := ?_); refine Zan ?_; refine Zbd ?_; refine Zal (h := ?_); refine x_EO ?_; refine Zbm ?_; refine Zbp ?_; refine x_KN ?_; refine x_KN ?_; refine Zhs ?_
     refine hI _ _ (Nat.lt_succ_self _) (Ieeeaaaaa r (mis ++ [x]) act rfl (Zaa h1' q1) (Zaa h2' q2) (by rw [List.map_append]; exact upd_same _ _ _) ?_ (Iaaaaa (by rw [List.length_append, List.length_singleton]; exact Nat.le_trans (Nat.le_of_eq (Nat.succ_add_eq_add_succ _ _)) hlen) (fun b o hb hb2 h => Zaa (Zaa (hfr b o hb hb2 h) hb) (Zag h hmi)) hmi (by walk_at "lk") (by walk_at "lk") (by walk_at "lk"))); rw [← hF]; refine (?_ : _ = uldF (x :: r) mis act); rw [uldF, if_neg (by rw [hc]; decide)]
set_option maxHeartbeats 4000000 in
theorem Zv5 {e : Addr} {es as : List Str} (he : H e = some (.list (es.map .str))) (ha : H a = some (.list (as.map .str))) (hl : es.length ≤ 100) (hl2 : as.length ≤ 100) (hes : es.Pairwise fun x y => strLt x y = true) (has : as.Pairwise fun x y => strLt x y = true)
   (hQ : ∀ H' t mi un, H' t = some (.tup [.ref mi, .ref un]) → H' mi = some (.list ((sldF es as).1.map .str)) → H' un = some (.list ((sldF es as).2.map .str)) → HExt H H' → Q (.ref t) H') : Body P 210 [("expected", .ref e), ("actual", .ref a)] Q H := by
 ((with_reducible refine Za2 (s := ?s20) (r := ?r20) (l := ?l20) ?hb20 ?hl20 ?_); (case hb20 => exact rfl); (case hl20 => (dsimp only [locOf]; exact rfl)))
 with_reducible refine Zhy ?_; refine Za0 ?_; refine x_AS ?_; refine x_AS ?_; refine x_KC ?_; refine Zad ?_; refine Zbc ?_; refine Zah ?_
 refine Zap (h := fun mi hmi => ?_)
 with_reducible refine x_AS ?_; refine x_KC ?_; refine Zad ?_; refine Zbc ?_; refine Zah ?_
 refine Zap (h := fun un hun => ?_)
 have q1 : mi ≠ un := Zag (upd_same _ _ _) hun
 have q2 : H un = none := (HExt.upd _ hmi).none hun
 have E0 := (HExt.upd (.list []) hmi).trans (HExt.upd (.list []) hun)
 have L0 := SL.mk (es := es) (as := as) (m0 := []) (u0 := []) (E0 _ _ he) (E0 _ _ ha) (Zaa (upd_same _ _ _) q1) (upd_same _ _ _)
 have ne1 : mi ≠ e := (Zag he hmi).symm
 have ne2 : mi ≠ a := (Zag ha hmi).symm
 have ne3 : un ≠ e := (Zag he q2).symm
 have ne4 : un ≠ a := (Zag ha q2).symm
 with_reducible refine x_AS ?_; refine x_KC ?_
 refine Zel (by decide) (fun w σ => ∃ (i j : Nat) (m0 u0 : List Str), w = (es.length + as.length) - (i + j) ∧ i ≤ es.length ∧ j ≤ as.length ∧ SL σ.H e a mi un es as m0 u0 ∧ m0 ++ (sldF (es.drop i) (as.drop j)).1 = (sldF es as).1 ∧ u0 ++ (sldF (es.drop i) (as.drop j)).2 = (sldF es as).2 ∧ m0.length ≤ i ∧ u0.length ≤ j ∧ HExt H σ.H ∧
    σ.loc "i" = some (.int (i : Int)) ∧ σ.loc "j" = some (.int (j : Int)) ∧ σ.loc "missing" = some (.ref mi) ∧ σ.loc "unexpected" = some (.ref un) ∧ σ.loc "expected" = some (.ref e) ∧ σ.loc "actual" = some (.ref a)) _
    (Ieeeeaaaa 0 0 [] [] rfl (Nat.zero_le _) (Nat.zero_le _) L0 (Iaaaaaaaa rfl rfl (Nat.zero_le _) (Nat.zero_le _) E0 (by refine (?_ : _ = some (AV.int 0)); walk_at "lk") (by refine (?_ : _ = some (AV.int 0)); walk_at "lk") (by walk_at "lk") (Iaa (by walk_at "lk") (by walk_at "lk") (by walk_at "lk")))) ?_
 intro U y_1; obtain ⟨l, H1⟩ := y_1; intro I hI y_2; refine Oeeeeaaaaa y_2 ?_; clear y_2; intro i j m0 u0 e_4; obtain rfl := e_4; intro hi hj L hm z_3; refine Oaaaaaaaaa z_3 ?_; clear z_3; intro hu hm0 hu0 hE l1 l2 l3 l4 l5 l6
 dsimp only at L hE l1 l2 l3 l4 l5 l6
 refine x_wT ?_
 refine x_tr (h := ?_)
 refine Zmc ?_
 refine Zbv ?_
 refine Zgq rfl ?_
 refine Zam ?_
 refine Ztz (by kernel_rfl!) (fun c σ' => c.cls = "IndexError" ∧ ∃ (i j : Nat) (m0 u0 : List Str), i ≤ es.length ∧ j ≤ as.length ∧ SL σ'.H e a mi un es as m0 u0 ∧ m0 ++ es.drop i = (sldF es as).1 ∧ u0 ++ as.drop j = (sldF es as).2 ∧ m0.length ≤ i ∧ u0.length ≤ j ∧ HExt H σ'.H ∧
    σ'.loc "i" = some (.int (i : Int)) ∧ σ'.loc "j" = some (.int (j : Int)) ∧ σ'.loc "missing" = some (.ref mi) ∧ σ'.loc "unexpected" = some (.ref un) ∧ σ'.loc "expected" = some (.ref e) ∧ σ'.loc "actual" = some (.ref a)) ?_ ?_
 · intro X' hX
   obtain ⟨k1, k2, k3, k4⟩ := id L; have bi0 : (0 : Int) ≤ (i : Int) := Int.natCast_nonneg i; have bj0 : (0 : Int) ≤ (j : Int) := Int.natCast_nonneg j; have bi1 : (i : Int) < 2 ^ 40 := by clear hX hI hQ hm hu; exact q145 hl hi
   have bj1 : (j : Int) < 2 ^ 40 := by clear hX hI hQ hm hu; exact q145 hl2 hj
   have bi2 : (0 : Int) ≤ (i : Int) + 1 := by clear hX hI hQ hm hu; exact q146 bi1
   have bj2 : (0 : Int) ≤ (j : Int) + 1 := by clear hX hI hQ hm hu; exact q146 bj1
   have bi3 : (i : Int) + 1 < 2 ^ 40 := by clear hX hI hQ hm hu; exact q147 hl hi bi1
   have bj3 : (j : Int) + 1 < 2 ^ 40 := by clear hX hI hQ hm hu; exact q147 hl2 hj bj1
   have bm : (m0.map AV.str).length < lim := Zea (by rw [List.length_map]; clear hX hI hQ hm hu; exact q148 hl hi hm0 bi1 bi3); have bu : (u0.map AV.str).length < lim := Zea (by rw [List.length_map]; clear hX hI hQ hm hu; exact q148 hl2 hj hu0 bj1 bj3)
   with_reducible refine Zam (h := ?_); refine Zad ?_; refine Zdz ?_; refine x_NV (h := ?_); refine x_NV (h := ?_)
   cases hei : es[i]? with
   | none =>
     have hil : es.length ≤ i := by simpa using hei
     refine Ze6 k1 bi0 bi1 (by simpa using hil) ?_; refine hX _ _ (Iaeeeeaaa rfl i j m0 u0 hi hj L (Iaaaaaaaa ?_ ?_ hm0 hu0 hE l1 l2 l3 (Iaa l4 l5 l6)))
     · rw [← hm, List.drop_eq_nil_of_le hil, Zd4]
     · rw [← hu, List.drop_eq_nil_of_le hil, Zd4]
   | some ei =>
   have hil : i < es.length := (List.getElem?_eq_some_iff.mp hei).1; refine Zht (x := .str ei) k1 bi0 bi1 (by refine (?_ : (es.map AV.str)[i]? = _); rw [List.getElem?_map, hei]; rfl) ?_
   with_reducible refine x_AS ?_; refine x_KC ?_; refine Zad ?_; refine Zdz ?_; refine x_NV (h := ?_); refine x_NV (h := ?_)
   cases haj : as[j]? with
   | none =>
     have hjl : as.length ≤ j := by simpa using haj
     refine Ze6 k2 bj0 bj1 (by simpa using hjl) ?_; refine hX _ _ (Iaeeeeaaa rfl i j m0 u0 hi hj L (Iaaaaaaaa ?_ ?_ hm0 hu0 hE (by walk_at "lk") (by walk_at "lk") (by walk_at "lk") (Iaa (by walk_at "lk") (by walk_at "lk") (by walk_at "lk"))))
     · rw [← hm, List.drop_eq_nil_of_le hjl, Zc3]
     · rw [← hu, List.drop_eq_nil_of_le hjl, Zc3]
   | some aj =>
   have hjl : j < as.length := (List.getElem?_eq_some_iff.mp haj).1; refine Zht (x := .str aj) k2 bj0 bj1 (by refine (?_ : (as.map AV.str)[j]? = _); rw [List.getElem?_map, haj]; rfl) ?_; have de := Zip hei; have da := Zip haj
   with_reducible refine x_AS ?_; refine x_KC ?_; refine Zbx ?_; refine x_NV (h := ?_); refine x_NV (h := ?_); refine Zu5 ?_; refine Zak ?_
   cases hc : strLt ei aj with
   | true =>
     have ef : sldF (es.drop i) (as.drop j) = (ei :: (sldF (es.drop (i + 1)) (as.drop j)).1, (sldF (es.drop (i + 1)) (as.drop j)).2) := by rw [de, da, Zd5, if_pos hc]
     rw [ef] at hm hu
     with_reducible refine x_iT ?_; refine Zam (h := ?_); refine Zan ?_; refine Zbd ?_; refine Zal (h := ?_); refine x_EO ?_; refine Zbm ?_; refine Zbp ?_; refine x_KC ?_; refine Zc1 ?_; refine x_rv (h := ?_); refine Za0 ?_; refine Zca ?_; refine x_st (h := ?_); refine x_KC ?_
     have L' : SL (upd H1 mi (.list (m0.map .str ++ [.str ei]))) e a mi un es as (m0 ++ [ei]) u0 := ⟨Zaa k1 ne1.symm, Zaa k2 ne2.symm, by rw [List.map_append]; exact upd_same _ _ _, Zaa k4 q1.symm⟩; have hE' : HExt H (upd H1 mi (.list (m0.map .str ++ [.str ei]))) := Zb7 hE hmi; refine Zdy (by decide) fun I2 => ?_; have k1' := L'.e
     with_reducible refine x_wT ?_; refine Za3 (h := ?_); refine Zdz ?_; refine x_NV (h := ?_); refine x_NV (h := ?_)
     cases hn : es[i + 1]? with
     | none =>
       have hil2 : es.length ≤ i + 1 := by simpa using hn
       refine Ze6 k1' bi2 bi3 (by refine (?_ : (es.map AV.str)[i + 1]? = _); rw [List.getElem?_map, hn]; rfl) ?_; refine hX _ _ (Iaeeeeaaa rfl (i + 1) j (m0 ++ [ei]) u0 (by exact q149 hil hil2) hj L' (Iaaaaaaaa ?_ ?_ (by rw [List.length_append, List.length_singleton]; exact q150 hm0) hu0 hE' (by refine (?_ : _ = some (AV.int ((i : Int) + 1))); walk_at "lk") (by walk_at "lk") (by walk_at "lk") (Iaa (by walk_at "lk") (by walk_at "lk") (by walk_at "lk"))))
       · rw [← hm, List.drop_eq_nil_of_le hil2, Zd4]; simp
       · rw [← hu, List.drop_eq_nil_of_le hil2, Zd4]
     | some y =>
       refine Zht (x := .str y) k1' bi2 bi3 (by refine (?_ : (es.map AV.str)[i + 1]? = _); rw [List.getElem?_map, hn]; rfl) ?_; have hyx := Zfh hes hei hn
       with_reducible refine x_NV (h := ?_); refine Zhw ?_; refine Zak ?_; refine Zbk ?_; refine x_KN ?_; refine x_KN ?_; refine x_KN ?_; refine Zhs ?_
       refine hI _ _ (by exact Nat.sub_lt_sub_left (Nat.add_lt_add hil hjl) (Nat.add_lt_add_right (Nat.lt_succ_self _) _)) (Ieeeeaaaa (i + 1) j (m0 ++ [ei]) u0 rfl hil hj L' (Iaaaaaaaa (by rw [← hm]; simp) hu (by rw [List.length_append, List.length_singleton]; exact q150 hm0) hu0 hE' (by refine (?_ : _ = some (AV.int ((i : Int) + 1))); walk_at "lk") (by walk_at "lk") (by walk_at "lk") (Iaa (by walk_at "lk") (by walk_at "lk") (by walk_at "lk"))))
   | false =>
   with_reducible refine x_iF ?_; refine Zam (h := ?_); refine Zbx ?_; refine x_NV (h := ?_); refine x_NV (h := ?_); refine Zve ?_; refine Zak ?_
   cases hc2 : strLt aj ei with
   | true =>
     have ef : sldF (es.drop i) (as.drop j) = ((sldF (es.drop i) (as.drop (j + 1))).1, aj :: (sldF (es.drop i) (as.drop (j + 1))).2) := by rw [de, da, Zd5, if_neg (by rw [hc]; decide), if_pos hc2]
     rw [ef] at hm hu
     with_reducible refine x_iT ?_; refine Zam (h := ?_); refine Zan ?_; refine Zbd ?_; refine Zal (h := ?_); refine x_EO ?_; refine Zbm ?_; refine Zbp ?_; refine x_KC ?_; refine Zc1 ?_; refine x_rv (h := ?_); refine Za0 ?_; refine Zca ?_; refine x_st (h := ?_); refine x_KC ?_
     have L' : SL (upd H1 un (.list (u0.map .str ++ [.str aj]))) e a mi un es as m0 (u0 ++ [aj]) := ⟨Zaa k1 ne3.symm, Zaa k2 ne4.symm, Zaa k3 q1, by rw [List.map_append]; exact upd_same _ _ _⟩; have hE' : HExt H (upd H1 un (.list (u0.map .str ++ [.str aj]))) := Zb7 hE q2; refine Zdy (by decide) fun I2 => ?_; have k2' := L'.a
     with_reducible refine x_wT ?_; refine Za3 (h := ?_); refine Zdz ?_; refine x_NV (h := ?_); refine x_NV (h := ?_)
     cases hn : as[j + 1]? with
     | none =>
       have hil2 : as.length ≤ j + 1 := by simpa using hn
       refine Ze6 k2' bj2 bj3 (by refine (?_ : (as.map AV.str)[j + 1]? = _); rw [List.getElem?_map, hn]; rfl) ?_; refine hX _ _ (Iaeeeeaaa rfl i (j + 1) m0 (u0 ++ [aj]) hi (by exact q149 hjl hil2) L' (Iaaaaaaaa ?_ ?_ hm0 (by rw [List.length_append, List.length_singleton]; exact q150 hu0) hE' (by walk_at "lk") (by refine (?_ : _ = some (AV.int ((j : Int) + 1))); walk_at "lk") (by walk_at "lk") (Iaa (by walk_at "lk") (by walk_at "lk") (by walk_at "lk"))))
       · rw [← hm, List.drop_eq_nil_of_le hil2, Zc3]
       · rw [← hu, List.drop_eq_nil_of_le hil2, Zc3]; simp
     | some y =>
       refine Zht (x := .str y) k2' bj2 bj3 (by refine (?_ : (as.map AV.str)[j + 1]? = _); rw [List.getElem?_map, hn]; rfl) ?_; have hyx := Zfh has haj hn
       with_reducible refine x_NV (h := ?_); refine Zhw ?_; refine Zak ?_; refine Zbk ?_; refine x_KN ?_; refine x_KN ?_; refine x_KN ?_; refine x_KN ?_; refine Zhs ?_
       refine hI _ _ (by exact Nat.sub_lt_sub_left (Nat.add_lt_add hil hjl) (Nat.add_lt_add_left (Nat.lt_succ_self _) _)) (Ieeeeaaaa i (j + 1) m0 (u0 ++ [aj]) rfl hi hjl L' (Iaaaaaaaa hm (by rw [← hu]; simp) hm0 (by rw [List.length_append, List.length_singleton]; exact q150 hu0) hE' (by walk_at "lk") (by refine (?_ : _ = some (AV.int ((j : Int) + 1))); walk_at "lk") (by walk_at "lk") (Iaa (by walk_at "lk") (by walk_at "lk") (by walk_at "lk"))))
   | false =>
     have ef : sldF (es.drop i) (as.drop j) = sldF (es.drop (i + 1)) (as.drop (j + 1)) := by rw [de, da, Zd5, if_neg (by rw [hc]; decide), if_neg (by rw [hc2]; decide)]
     rw [ef] at hm hu
     with_reducible refine x_iF ?_; refine Zam (h := ?_); refine Zc1 ?_; refine x_rv (h := ?_); refine Za0 ?_; refine Zca ?_; refine x_st (h := ?_); refine x_KC ?_; refine Zt0 ?_; refine Zam (h := ?_)
     refine Zdy (by decide) fun I2 => ?_
     with_reducible refine x_wT ?_; refine Za3 (h := ?_); refine Zdz ?_; refine x_NV (h := ?_); refine x_NV (h := ?_)
     have endE : es[i + 1]? = none ∨ as[j + 1]? = none → m0 ++ es.drop (i + 1) = (sldF es as).1 ∧ u0 ++ as.drop (j + 1) = (sldF es as).2 := by
       rintro (q | q)
       · have q' : es.length ≤ i + 1 := by simpa using q
         rw [← hm, ← hu, List.drop_eq_nil_of_le q', Zd4]; exact ⟨rfl, rfl⟩
       · have q' : as.length ≤ j + 1 := by simpa using q
         rw [← hm, ← hu, List.drop_eq_nil_of_le q', Zc3]; exact ⟨rfl, rfl⟩
     cases hn : es[i + 1]? with
     | none =>
       refine Ze6 k1 bi2 bi3 (by refine (?_ : (es.map AV.str)[i + 1]? = _); rw [List.getElem?_map, hn]; rfl) ?_; refine ⟨rfl, ?_⟩; refine Oa (endE (.inl hn)) ?_; intro z1 z2
       with_reducible refine Zam (h := ?_); refine Zc1 ?_; refine x_rv (h := ?_); refine Za0 ?_; refine Zca ?_; refine x_st (h := ?_); refine x_KC ?_
       refine Zdy (by decide) fun I3 => ?_
       with_reducible refine x_wT ?_; refine Za3 (h := ?_); refine Zdz ?_; refine x_NV (h := ?_); refine x_NV (h := ?_)
       cases hn2 : as[j + 1]? with
       | none =>
         refine Ze6 k2 bj2 bj3 (by refine (?_ : (as.map AV.str)[j + 1]? = _); rw [List.getElem?_map, hn2]; rfl) ?_; exact hX _ _ (Iaeeeeaaa rfl (i + 1) (j + 1) m0 u0 hil hjl L (Iaaaaaaaa z1 z2 (by exact q153 hm0) (by exact q153 hu0) hE (by refine (?_ : _ = some (AV.int ((i : Int) + 1))); walk_at "lk") (by refine (?_ : _ = some (AV.int ((j : Int) + 1))); walk_at "lk") (by walk_at "lk") (Iaa (by walk_at "lk") (by walk_at "lk") (by walk_at "lk"))))
       | some y =>
         refine Zht (x := .str y) k2 bj2 bj3 (by refine (?_ : (as.map AV.str)[j + 1]? = _); rw [List.getElem?_map, hn2]; rfl) ?_; have hyx := Zfh has haj hn2
         with_reducible refine x_NV (h := ?_); refine Zhw ?_; refine Zak ?_; refine Zbk ?_; refine x_KN ?_
         dsimp only; exact hX _ _ (Iaeeeeaaa rfl (i + 1) (j + 1) m0 u0 hil hjl L (Iaaaaaaaa z1 z2 (by exact q153 hm0) (by exact q153 hu0) hE (by refine (?_ : _ = some (AV.int ((i : Int) + 1))); walk_at "lk") (by refine (?_ : _ = some (AV.int ((j : Int) + 1))); walk_at "lk") (by walk_at "lk") (Iaa (by walk_at "lk") (by walk_at "lk") (by walk_at "lk"))))
     | some y =>
       refine Zht (x := .str y) k1 bi2 bi3 (by refine (?_ : (es.map AV.str)[i + 1]? = _); rw [List.getElem?_map, hn]; rfl) ?_; have hyx := Zfh hes hei hn
       with_reducible refine x_NV (h := ?_); refine Zhw ?_; refine Zak ?_; refine Zbk ?_; refine x_KN ?_; refine Zam (h := ?_); refine Zc1 ?_; refine x_rv (h := ?_); refine Za0 ?_; refine Zca ?_; refine x_st (h := ?_); refine x_KC ?_
       refine Zdy (by decide) fun I3 => ?_
       with_reducible refine x_wT ?_; refine Za3 (h := ?_); refine Zdz ?_; refine x_NV (h := ?_); refine x_NV (h := ?_)
       cases hn2 : as[j + 1]? with
       | none =>
         refine Oa (endE (.inr hn2)) ?_; intro z1 z2; refine Ze6 k2 bj2 bj3 (by refine (?_ : (as.map AV.str)[j + 1]? = _); rw [List.getElem?_map, hn2]; rfl) ?_; exact hX _ _ (Iaeeeeaaa rfl (i + 1) (j + 1) m0 u0 hil hjl L (Iaaaaaaaa z1 z2 (by exact q153 hm0) (by exact q153 hu0) hE (by refine (?_ : _ = some (AV.int ((i : Int) + 1))); walk_at "lk") (by refine (?_ : _ = some (AV.int ((j : Int) + 1))); walk_at "lk") (by walk_at "lk") (Iaa (by walk_at "lk") (by walk_at "lk") (by walk_at "lk"))))
       | some y2 =>
         refine Zht (x := .str y2) k2 bj2 bj3 (by refine (?_ : (as.map AV.str)[j + 1]? = _); rw [List.getElem?_map, hn2]; rfl) ?_; have hyx2 := Zfh has haj hn2
         with_reducible refine x_NV (h := ?_); refine Zhw ?_; refine Zak ?_; refine Zbk ?_; refine x_KN ?_
         dsimp only
         with_reducible refine x_KN ?_; refine x_KN ?_; refine x_KN ?_; refine x_KN ?_; refine Zhs ?_
         refine hI _ _ (by exact Nat.sub_lt_sub_left (Nat.add_lt_add hil hjl) (Nat.add_lt_add (Nat.lt_succ_self _) (Nat.lt_succ_self _))) (Ieeeeaaaa (i + 1) (j + 1) m0 u0 rfl hil hjl L (Iaaaaaaaa hm hu (by exact q153 hm0) (by exact q153 hu0) hE (by refine (?_ : _ = some (AV.int ((i : Int) + 1))); walk_at "lk") (by refine (?_ : _ = some (AV.int ((j : Int) + 1))); walk_at "lk") (by walk_at "lk") (Iaa (by walk_at "lk") (by walk_at "lk") (by walk_at "lk"))))
 · intro y_1; obtain ⟨c, ch⟩ := y_1; intro y_2; obtain ⟨l', H2⟩ := y_2; intro y_3; refine Oaeeeeaaaa y_3 ?_; clear y_3; intro hc i j m0 u0 hi hj L hm z_4; refine Oaaaaaaaaa z_4 ?_; clear z_4; intro hu hm0 hu0 hE l1 l2 l3 l4 l5 l6
   dsimp only at hc L hE l1 l2 l3 l4 l5 l6; subst hc; refine ⟨Zvz, .head _, by simp, ?_⟩; obtain ⟨k1, k2, k3, k4⟩ := L
   with_reducible refine Zam (h := ?_); refine Zan ?_; refine Zbd ?_; refine Zal (h := ?_); refine Zau (h := ?_); refine Zbw ?_; refine x_NV (h := ?_); refine Zdw ?_; refine x_NV (h := ?_); refine Za8 ?_; refine Za8 ?_
   refine Zl7 (l := some (i : Int)) (h' := none) rfl rfl ⟨by refine (?_ : (i : Int) ≥ 0); exact q155, by refine (?_ : (i : Int) < _); exact q145 hl hi, by decide, by decide⟩ k1 ?_; rw [Zkh]; refine Zbh fun s1 hs1 => ?_; have w1 : mi ≠ s1 := Zag k3 hs1; have w2 : un ≠ s1 := Zag k4 hs1; have w3 : a ≠ mi := ne2.symm
   with_reducible refine Zah ?_; refine Zbm ?_
   refine Zke w1 (Zac k3 hs1) (upd_same _ _ _) (Zea (by simp; exact q156 hl hi hm0)) ?_; have k2' := Zaa (o := AObj.list (m0.map .str ++ (es.drop i).map .str)) (Zac (o := .list ((es.drop i).map .str)) k2 hs1) w3; have k4' := Zaa (o := AObj.list (m0.map .str ++ (es.drop i).map .str)) (Zac (o := .list ((es.drop i).map .str)) k4 hs1) q1.symm
   with_reducible refine x_KC ?_; refine Zan ?_; refine Zbd ?_; refine Zal (h := ?_); refine Zau (h := ?_); refine Zbw ?_; refine x_NV (h := ?_); refine Zdw ?_; refine x_NV (h := ?_); refine Za8 ?_; refine Za8 ?_
   refine Zl7 (l := some (j : Int)) (h' := none) rfl rfl ⟨by refine (?_ : (j : Int) ≥ 0); exact q155, by refine (?_ : (j : Int) < _); exact q145 hl2 hj, by decide, by decide⟩ k2' ?_; rw [Zkh]; refine Zbh fun s2 hs2 => ?_; have w4 : un ≠ s2 := Zag k4' hs2
   with_reducible refine Zah ?_; refine Zbm ?_
   refine Zke w4 (Zac k4' hs2) (upd_same _ _ _) (Zea (by simp; exact q156 hl2 hj hu0)) ?_
   with_reducible refine x_KC ?_; refine Zi5 ?_; refine x_kb ?_; refine x_kb ?_; refine Zrv ?_; refine x_KC ?_; refine Zaw ?_; refine Zfs ?_; refine x_EV (h := ?_); refine x_EO ?_
   refine Zap (h := fun t ht => ?_)
   with_reducible refine x_kr ?_; refine x_fr ?_
   refine hQ _ t mi un (upd_same _ _ _) ?_ ?_ ?_
   · rw [← hm, List.map_append]; exact Zac (Zaa (Zac (upd_same _ _ _) hs2) q1) ht
   · rw [← hu, List.map_append]; exact Zac (upd_same _ _ _) ht
   · exact (Zb7 ((Zb7 (hE.trans (HExt.upd _ hs1)) hmi).trans (HExt.upd _ hs2)) q2).trans (HExt.upd _ ht)
noncomputable def Spec76 (P : Par) : Prop := ∀ x d ms dl ig ts ds igs fn m Q H, Rd H x d ms dl ig ts ds igs → m.length ≤ 100 → (∀ t ∈ ts, t.length ≤ 100) → (∀ t ∈ ds, t.length ≤ 100) → igs.length ≤ 100 →
   (∀ v, lookA igs m = some v → Q v H) → (lookA igs m = none → ∀ ep, Q (.int (ansOf ts ds fn m)) (upd H ig (.dict (putA igs m (.int (ansOf ts ds fn m))) ep))) → P.F 76 [.ref x, fnV fn, .str m] Q H
theorem Rd.ext {x ms : Addr} (R : Rd H x d ms dl ig ts ds igs) (E : HExt H H') : Rd H' x d ms dl ig ts ds igs :=
 ⟨E _ _ R.x, Oe (R.d) fun ep e => ⟨ep, E _ _ e⟩, Oee (R.ms) fun n dd e => ⟨n, dd, E _ _ e⟩, E _ _ R.dl, Oe (R.ig) fun ep e => ⟨ep, E _ _ e⟩⟩
theorem Rd.put {x ms : Addr} {igs' : List (Str × AV)} (R : Rd H x d ms dl ig ts ds igs) (h : d ≠ ig) : Rd (upd H ig (.dict igs' ep)) x d ms dl ig ts ds igs' := by
 obtain ⟨e1, ⟨ep1, e2⟩, ⟨n, dt, e3⟩, e4, ⟨ep2, e5⟩⟩ := R
 have q1 : x ≠ ig := by intro q; rw [q, e5] at e1; cases e1
 have q3 : ms ≠ ig := by intro q; rw [q, e5] at e3; cases e3
 have q4 : dl ≠ ig := by intro q; rw [q, e5] at e4; cases e4
 exact ⟨Zaa e1 q1, ⟨ep1, Zaa e2 h⟩, ⟨n, dt, Zaa e3 q3⟩, Zaa e4 q4, ⟨ep, upd_same _ _ _⟩⟩
theorem Zis (H : AH) (n : Nat) : ∀ xs : List Int, deqs (deq H n) (xs.map .int) (xs.map .int) = some true
 | [] => rfl
 | x :: r => by
   rw [List.map_cons, Zb8, Zis H n r, Zju]; simp
theorem Znh {k l : Str} : lookA (putA es k v) l = if l = k then some v else lookA es l := by
 delta putA
 split
 · rename_i h
   delta lookA
   induction es with
   | nil => exact Zai h
   | cons e r ih =>
     rw [List.map_cons, List.find?_cons, List.find?_cons]; by_cases q : e.1 = k
     · rw [if_pos q]
       by_cases z : l = k
       · subst z; rw [if_pos rfl]; simp [q]
       · rw [if_neg z]
         rw [decide_eq_false (show ¬ (e.1 = l) by rw [q]; exact Ne.symm z)]; dsimp only; by_cases w : (r.any fun p => decide (p.1 = k)) = true
         · have := ih w; rw [if_neg z] at this; exact this
         · have hr : (r.map fun p => if p.1 = k then (p.1, v) else p) = r := by
             rw [List.map_congr_left (g := id) fun p hp => ?_, List.map_id]; rw [if_neg]; rfl; intro e'; exact w (List.any_eq_true.mpr (Iea p hp (decide_eq_true e')))
           rw [hr]
     · rw [if_neg q]
       have h' : (r.any fun p => decide (p.1 = k)) = true := by rw [List.any_cons, decide_eq_false q, Bool.false_or] at h; exact h
       by_cases z : e.1 = l
       · rw [decide_eq_true z]
         dsimp only; rw [if_neg (by rintro rfl; exact q z)]
       · rw [decide_eq_false z]
         exact ih h'
 · rename_i h
   delta lookA; rw [List.find?_append]; by_cases z : l = k
   · subst z
     rw [if_pos rfl]; have : es.find? (fun p => decide (p.1 = l)) = none := by
       rw [List.find?_eq_none]; intro p hp e; exact h (List.any_eq_true.mpr (Iea p hp e))
     rw [this]; simp
   · rw [if_neg z]
     have : List.find? (fun p : Str × AV => decide (p.1 = l)) [(k, v)] = none := by simp [Ne.symm z]
     rw [this, Option.or_none]
theorem Zll {o : AObj} (ha : H a = some o) (hb : H b = none) : b ≠ a := (Zag ha hb).symm
theorem Zjr (f : Md → Int) : ∀ os : List Md, (os.flatMap fun m => [AV.int (f m)]) = (os.map f).map .int
 | [] => rfl
 | m :: r => by rw [List.flatMap_cons, Zjr f r]; rfl
theorem Zux {x sm oa : Addr} {ep0 : Nat} (F76 : Spec76 P) (R : Rd H x d sm dl ig ts ds [("<string>", .int 1)]) (hdi : d ≠ ig) (hoa : H oa = some (.list ((os.map nmS).map .str))) (ho : ∀ m ∈ os, okM m) (hnd : os.Nodup) (hlen : os.length ≤ 30) (hts : ∀ t ∈ ts, t.length ≤ 100) (hds : ∀ t ∈ ds, t.length ≤ 100)
   (hQ : ∀ H' r, H r = none → H' r = some (.list (((os.filter fun m => ansOf ts ds (some (fileS m)) (nmS m) == 1).map nmS).map .str)) → (∀ b o, b ≠ ig → H b = some o → H' b = some o) → Q (.ref r) H') : Body P 234 [("reader", .ref x), ("order", .ref oa)] Q H := by
 have hoi : oa ≠ ig := by (refine Oe R.ig ?_; intro U e); intro q; rw [q, e] at hoa; cases hoa
 have hfm : ∀ os : List Md, ((Src.list oa ((os.map nmS).map .str)).items).flatMap (fun i => match i with | .one (.str s) => [AV.int (ansOf ts ds (some (("/x/" : Str) ++ Txt.replace s "." "/" ++ (".py" : Str))) s)] | _ => []) = (os.map fun m => ansOf ts ds (some (fileS m)) (nmS m)).map .int := by
   intro os; rw [← Zjr]; refine (?_ : (List.map _ _).flatMap _ = _); rw [List.map_map, List.map_map, List.flatMap_map]; rfl
 ((with_reducible refine Za2 (s := ?s21) (r := ?r21) (l := ?l21) ?hb21 ?hl21 ?_); (case hb21 => exact rfl); (case hl21 => (dsimp only [locOf]; exact rfl)))
 with_reducible refine Zad ?_; refine Zby ?_; refine Zdh (h := ?_); refine x_NV (h := ?_); refine Zav ?_
 refine Zq3 (fun r σ => ∃ dn r' igs, os = dn ++ r' ∧ r = r'.map (fun m => Item.one (.str (nmS m))) ∧ Rd σ.H x d sm dl ig ts ds igs ∧ (∀ m ∈ os, lookA igs (nmS m) = if m ∈ dn then some (.int (ansOf ts ds (some (fileS m)) (nmS m))) else none) ∧ igs.length ≤ 1 + dn.length ∧ (∀ b o, b ≠ ig → H b = some o → σ.H b = some o) ∧ σ.loc "reader" = some (.ref x))
   (fun i => match i with | .one (.str s) => [.int (ansOf ts ds (some (("/x/" : Str) ++ Txt.replace s "." "/" ++ (".py" : Str))) s)] | _ => []) ?_ ?_ _ _ _ _ (Ieeeaaaaa [] os _ rfl (by refine (?_ : List.map _ _ = _); rw [List.map_map, List.map_map]; rfl) R (fun m hm => ?_) (Nat.le_refl _) (Ia (fun b o U e => e) (by walk_at "lk"))) ?_ ?_
 · (intro r σ y_1; refine Oeeeaaaaaa y_1 ?_; clear y_1; intro U U U U U U U U h U); exact h oa _ hoi hoa
 · intro i r k y_1; obtain ⟨l, H1⟩ := y_1; intro K y_2; refine Oeeeaaaaaa y_2 ?_; clear y_2; intro dn r' igs hdn hr R1 hlk hil hfr l1; intro hk hK
   dsimp only at R1 hfr l1; cases r' with
   | nil => cases hr
   | cons m r' =>
     cases hr; have hmo : m ∈ os := by rw [hdn]; simp
     have hO := Zc0 (ho m hmo); have hl8 := hO.len; have hrep := hO.rep; have hdnl : dn.length ≤ 30 := by have := congrArg List.length hdn; rw [List.length_append] at this; exact Nat.le_trans (Nat.le_add_right _ _) (Nat.le_trans (Nat.le_of_eq this.symm) hlen)
     have hmn : m ∉ dn := by rw [hdn, List.nodup_append] at hnd; intro q; exact hnd.2.2 m q m (by simp) rfl
     obtain ⟨hx1, ⟨ep1, hd1⟩, _⟩ := id R1
     with_reducible refine x_AI ?_; refine Zbu ?_; refine Zbd ?_
     refine Zal (m := .own 76) (hm := Zbg hx1 hd1 (by kernel_rfl!) (by kernel_rfl!)) (h := ?_)
     with_reducible refine Zau (h := ?_); refine Zcq ?_; refine Zcq ?_; refine Zb2 ?_; refine Zbd ?_; refine Zhx ?_; refine Ztl ?_; refine Zet ?_; refine Zb2 ?_; refine Zet ?_; refine x_EO ?_
     refine Zfr ?_; refine F76 x d sm dl ig ts ds igs (some (fileS m)) (nmS m) _ _ R1 (by exact q158 hl8) hts hds (by exact Nat.le_trans hil (Nat.le_trans (Nat.add_le_add_left hdnl 1) (Nat.le_of_ble_eq_true rfl))) (fun v hv => ?_) fun U ep => ?_
     · rw [hlk m hmo, if_neg hmn] at hv; exact Zab hv
     · refine ⟨by rw [List.flatMap_cons, List.length_append] at hk; exact Nat.lt_of_lt_of_le (Nat.lt_succ_self k) (Nat.le_trans (by rw [List.length_singleton]; omega) hk), hK _ (Ieeeaaaaa (dn ++ [m]) r' _ (by rw [hdn]; simp) rfl (R1.put hdi) (fun l hl => ?_) ?_ (Ia (fun b o hb e => Zaa (hfr b o hb e) hb) (by walk_at "lk")))⟩
       · rw [Znh]
         by_cases q : l = m
         · subst q; rw [if_pos rfl, if_pos (by simp)]
         · rw [if_neg (fun e => q (Zfv (ho l hl) (ho m hmo) e)), hlk l hl]
           simp [q]
       · have := Znj (es := igs) (k := nmS m) (v := .int (ansOf ts ds (some (fileS m)) (nmS m))); rw [List.length_append, List.length_singleton]; exact Nat.le_trans this (Nat.succ_le_succ hil)
 · rw [if_neg (by simp)]
   delta lookA; have := (Zc0 (ho m hm)).str; simp only [List.find?_cons, List.find?_nil]; rw [decide_eq_false (fun e => by rw [← e, beq_self_eq_true] at this; exact Zai (Eq.symm this))]; rfl
 · rw [hfm os]; simp only [List.length_map]; exact Zat (by exact q161 hlen)
 intro y_1; obtain ⟨l1, H1⟩ := y_1; intro y_2; refine Oeeeaaaaaa y_2 ?_; clear y_2; intro dn r' igs hdn hr R1 hlk hil hfr l1'
 dsimp only at R1 hfr l1'
 have hr' : r' = [] := by cases r' with | nil => rfl | cons _ _ => cases hr
 subst hr'
 rw [List.append_nil] at hdn
 subst hdn
 rw [hfm os]
 refine Zap (hl := by rw [List.length_map, List.length_map]; exact Zat (by exact q162 hlen)) (h := fun an han => ?_)
 have hoa1 := hfr oa _ hoi hoa
 obtain ⟨e1, ⟨ep1, e2⟩, _, _, ⟨ep3, e3⟩⟩ := id R1
 have E2 := HExt.upd (.list ((os.map fun m => ansOf ts ds (some (fileS m)) (nmS m)).map .int)) han
 have R2 := R1.ext E2
 obtain ⟨f1, ⟨ep2, f2⟩, _⟩ := id R2
 generalize hH2 : upd H1 an _ = H2 at E2 R2 f1 f2 ⊢
 have han2 : H2 an = some (.list ((os.map fun m => ansOf ts ds (some (fileS m)) (nmS m)).map .int)) := by rw [← hH2]; exact upd_same _ _ _
 have hoa2 := E2 _ _ hoa1
 clear hH2
 with_reducible refine x_AS ?_; refine x_KC ?_; refine x_If ?_; refine Zb9 ?_; refine Zcy ?_; refine Za3 (h := ?_); refine Zby ?_; refine Zdh (h := ?_); refine x_NV (h := ?_); refine Zav ?_
 refine Zbi os (fun m => .one (.str (nmS m))) (fun m => [.int (ansOf ts ds (some (fileS m)) (nmS m))]) (fun σ => σ.H = H2 ∧ σ.loc "reader" = some (.ref x)) ?_ ?_ (by refine (?_ : List.map _ _ = _); rw [List.map_map, List.map_map]; rfl) ⟨rfl, by walk_at "lk"⟩ ?_ ?_
 · (intro y_1; obtain ⟨l, H3⟩ := y_1; intro y_2; refine Oa y_2 ?_; clear y_2; intro h U); dsimp only at h; subst h; exact hoa2
 · intro m hm k y_1; obtain ⟨l, H3⟩ := y_1; intro K y_2; refine Oa y_2 ?_; clear y_2; intro h l2; intro hk hK
   dsimp only at h l2; subst h; have hO := Zc0 (ho m hm); have hl8 := hO.len
   with_reducible refine x_AI ?_; refine Zbu ?_; refine Zbd ?_
   refine Zal (m := .own 76) (hm := Zbg f1 f2 (by kernel_rfl!) (by kernel_rfl!)) (h := ?_)
   with_reducible refine Zau (h := ?_); refine Zch ?_; refine x_EO ?_
   refine Zfr ?_; refine F76 x d sm dl ig ts ds igs none (nmS m) _ _ R2 (by exact q158 hl8) hts hds (by exact Nat.le_trans hil (Nat.le_trans (Nat.add_le_add_left hlen 1) (Nat.le_of_ble_eq_true rfl))) (fun v hv => ?_) fun hv => ?_
   · rw [hlk m hm, if_pos hm] at hv
     cases hv; exact ⟨by rw [List.length_singleton] at hk; exact hk, hK _ ⟨rfl, by walk_at "lk"⟩⟩
   · rw [hlk m hm, if_pos hm] at hv; exact Zab (Eq.symm hv)
 · have := Zba (fun m : Md => [AV.int (ansOf ts ds (some (fileS m)) (nmS m))]) (fun U => Nat.le_refl _) os; exact Zat (by exact q164 hlen this)
 intro y_1; obtain ⟨l2, H3⟩ := y_1; intro y_2; refine Oa y_2 ?_; clear y_2; intro h l2'
 dsimp only at h l2'
 subst h
 rw [Zjr]
 refine Zap (hl := by rw [List.length_map, List.length_map]; exact Zat (by exact q162 hlen)) (h := fun bn hbn => ?_)
 with_reducible refine x_NV (h := ?_)
 refine Zgo (r := true) (by rw [Zda (upd_same _ _ _) (Zac han2 hbn), if_pos rfl, Zis]) ?_
 have hoa3 := Zac (o := .list ((os.map fun m => ansOf ts ds (some (fileS m)) (nmS m)).map .int)) hoa2 hbn
 have han3 := Zac (o := .list ((os.map fun m => ansOf ts ds (some (fileS m)) (nmS m)).map .int)) han2 hbn
 have E3 := HExt.upd (.list ((os.map fun m => ansOf ts ds (some (fileS m)) (nmS m)).map .int)) hbn
 generalize upd H3 bn _ = H4 at E3 hoa3 han3 ⊢
 with_reducible refine Zak ?_; refine x_iF ?_; refine Zcy ?_; refine Za3 (h := ?_); refine Zmc ?_; refine Zby ?_; refine Zdh (h := ?_); refine x_NV (h := ?_); refine Zav ?_
 refine Zbi os (fun m => .one (.int (ansOf ts ds (some (fileS m)) (nmS m)))) (fun U => [.bool false]) (fun σ => σ.H = H4) ?_ ?_ (by refine (?_ : List.map _ _ = _); rw [List.map_map, List.map_map]; rfl) rfl ?_ ?_
 · rintro ⟨l, H5⟩ h; dsimp only at h; subst h; exact han3
 · rintro m hm k ⟨l, H5⟩ K h hk hK
   dsimp only at h; subst h; rw [List.length_singleton] at hk
   with_reducible refine x_AI ?_; refine Zbu ?_; refine x_CG (hl := Zhd) (h := ?_); refine x_EV (h := ?_); refine Zau (h := ?_); refine x_NG (hl := Znv) (h := ?_); refine Zah ?_; refine Zaz (hf := Zf0) (h := ?_); refine Zou ?_
   exact ⟨hk, hK _ rfl⟩
 · have := Zba (fun _ : Md => [AV.bool false]) (fun U => Nat.le_refl _) os; exact Zat (by exact q164 hlen this)
 rintro ⟨l5, H5⟩ h
 dsimp only at h
 subst h
 have hbl := Zba (fun _ : Md => [AV.bool false]) (fun U => Nat.le_refl _) os
 refine Zap (hl := Zat (by exact q165 hlen hbl)) (h := fun cn hcn => ?_)
 refine Zvc (upd_same _ _ _) ?_ ?_
 · refine List.all_eq_true.mpr ?_
   intro v hv; refine Oea (List.mem_flatMap.mp hv) ?_; intro U U h; rw [List.mem_singleton.mp h]
 have hnc : (os.flatMap fun _ : Md => [AV.bool false]).contains (.bool true) = false := by
   rw [List.contains_eq_any_beq, List.any_eq_false]; intro v hv; refine Oea (List.mem_flatMap.mp hv) ?_; intro U U h; rw [List.mem_singleton.mp h]
   decide
 rw [hnc]
 have hoa5 := Zac (o := .list (os.flatMap fun _ : Md => [AV.bool false])) hoa3 hcn
 have han5 := Zac (o := .list (os.flatMap fun _ : Md => [AV.bool false])) han3 hcn
 have E5 := E3.trans (HExt.upd (.list (os.flatMap fun _ : Md => [AV.bool false])) hcn)
 generalize upd H5 cn _ = H6 at E5 hoa5 han5 ⊢
 with_reducible refine Zak ?_; refine x_iF ?_; refine Zgk ?_; refine Zbk ?_; refine x_KC ?_; refine Zaw ?_; refine Zby ?_; refine Zto ?_; refine x_NV (h := ?_); refine x_NV (h := ?_)
 refine Zu2 hoa5 han5 (by simp only [List.length_map]) ?_
 have hitems : (Src.zip oa an ((os.map nmS).map .str) ((os.map fun m => ansOf ts ds (some (fileS m)) (nmS m)).map .int)).items = os.map fun m => Item.two (.str (nmS m)) (.int (ansOf ts ds (some (fileS m)) (nmS m))) := by
   refine (?_ : ((((os.map nmS).map AV.str).zip ((os.map fun m => ansOf ts ds (some (fileS m)) (nmS m)).map AV.int)).map fun p => Item.two p.1 p.2) = _); rw [List.map_map, List.map_map, List.zip_map', List.map_map]; rfl
 refine Zbi os (fun m => .two (.str (nmS m)) (.int (ansOf ts ds (some (fileS m)) (nmS m)))) (fun m => if (ansOf ts ds (some (fileS m)) (nmS m) == 1) = true then [.str (nmS m)] else []) (fun σ => σ.H = H6) ?_ ?_ hitems rfl ?_ ?_
 · rintro ⟨l, H7⟩ h; dsimp only at h; subst h; exact ⟨hoa5, han5⟩
 · rintro m hm k ⟨l, H7⟩ K h hk hK
   dsimp only at h; subst h
   with_reducible refine Zr2 ?_; refine Zgj ?_; refine x_st (h := ?_); refine Zgj ?_; refine x_st (h := ?_); refine Zka ?_; refine Zdx ?_; refine Za3 (h := ?_); refine x_NV (h := ?_); refine Za0 ?_; refine Zk3 ?_; refine Zak ?_
   split
   · rename_i hc
     rw [if_pos hc] at hk hK
     with_reducible refine Zbu ?_; refine x_NV (h := ?_)
     exact ⟨hk, hK _ rfl⟩
   · rename_i hc
     rw [if_neg hc] at hK; exact hK _ rfl
 · have := Zba (fun m : Md => if (ansOf ts ds (some (fileS m)) (nmS m) == 1) = true then [AV.str (nmS m)] else []) (fun m => by split <;> simp) os; exact Zat (by exact q164 hlen this)
 rintro ⟨l7, H7⟩ h
 dsimp only at h
 subst h
 have hfl := Zba (fun m : Md => if (ansOf ts ds (some (fileS m)) (nmS m) == 1) = true then [AV.str (nmS m)] else []) (fun m => by split <;> simp) os
 refine Zap (hl := Zat (by exact q165 hlen hfl)) (h := fun r hr => ?_)
 with_reducible refine x_kr ?_; refine x_fr ?_
 have hfr7 : ∀ b o, b ≠ ig → H b = some o → H7 b = some o := fun b o hb e => E5 _ _ (E2 _ _ (hfr b o hb e))
 refine hQ _ r ?_ ?_ fun b o hb e => Zac (hfr7 b o hb e) hr
 · have hr' : H7 r = none := hr
   cases q : H r with
   | none => rfl
   | some o =>
     have hri : r ≠ ig := Zll (E5 _ _ (E2 _ _ e3)) hr'; exact absurd rfl (Zag (hfr7 r o hri q) hr')
 · have e9 := Zcw (fun m : Md => ansOf ts ds (some (fileS m)) (nmS m) == 1) (fun m => AV.str (nmS m)) os
   rw [List.map_map]; exact (upd_same _ _ _).trans (congrArg (fun z => some (AObj.list z)) e9)
theorem Zpi (z : Int) (z1 : 0 ≤ z) (z2 : z < 3) (p : z.toNat < 3) : ([AV.str "a", .str "ab", .str "c"] : List AV)[z.toNat]? = some (.str (part ⟨z.toNat, p⟩)) := by
 have : z = 0 ∨ z = 1 ∨ z = 2 := by first | lia | omega
 rcases this with rfl | rfl | rfl <;> rfl
set_option maxHeartbeats 4000000 in
theorem Zog {na : Addr} (hna : H na = some (.list (ns.map .int))) (hlen : ns.length ≤ 7)
   (hQ : ∀ H' t mo to (ms tl : List Md), H' t = some (.tup [.ref mo, .ref to]) → H' mo = some (.list ((ms.map nmS).map .str)) → H' to = some (.list ((tl.map nmS).map .str)) → Mods ms → (∀ m ∈ tl, m ∈ ms) → tl.length ≤ 7 → mo ≠ to → HExt H H' → Q (.ref t) H') : Body P 222 [("numbers", .ref na)] Q H := by
 ((with_reducible refine Za2 (s := ?s22) (r := ?r22) (l := ?l22) ?hb22 ?hl22 ?_); (case hb22 => exact rfl); (case hl22 => (dsimp only [locOf]; exact rfl)))
 with_reducible refine Zad ?_; refine Zfs ?_; refine Zau (h := ?_); refine Zbc ?_; refine Zah ?_
 refine Zap (h := fun mo hmo => ?_)
 with_reducible refine Zau (h := ?_); refine Zbc ?_; refine Zah ?_
 refine Zap (h := fun to hto => ?_)
 have q1 : mo ≠ to := Zag (upd_same _ _ _) hto
 have E0 := (HExt.upd (.list []) hmo).trans (HExt.upd (.list []) hto)
 have hto0 : H to = none := (HExt.upd _ hmo).none hto
 have g1 : upd (upd H mo (.list [])) to (.list []) mo = some (.list []) := Zaa (upd_same _ _ _) q1
 have g2 : upd (upd H mo (.list [])) to (.list []) to = some (.list []) := upd_same _ _ _
 have g3 := E0 _ _ hna
 generalize upd (upd H mo (.list [])) to (.list []) = H1 at E0 g1 g2 g3 ⊢
 with_reducible refine Zah ?_
 refine Zap (h := fun t0 ht0 => ?_)
 refine Zgt (by kernel_rfl!) (upd_same _ _ _) rfl (by decide) ?_
 have E1 := E0.trans (HExt.upd (.tup [.ref mo, .ref to]) ht0)
 have g1' := Zac (o := .tup [.ref mo, .ref to]) g1 ht0
 have g2' := Zac (o := .tup [.ref mo, .ref to]) g2 ht0
 have g3' := Zac (o := .tup [.ref mo, .ref to]) g3 ht0
 generalize upd H1 t0 (.tup [.ref mo, .ref to]) = H2 at E1 g1' g2' g3' ⊢
 with_reducible refine Zgj ?_; refine x_st (h := ?_); refine Zgj ?_; refine x_st (h := ?_); refine Zka ?_; refine x_KC ?_; refine Ze7 ?_; refine x_NV (h := ?_); refine Zav ?_
 refine Zdi (fun x => .one (.int x)) (fun r σ => ∃ (dn : List Int) (ms tl : List Md), ns = dn ++ r ∧ MI ms ∧ (∀ m : Md, m ∈ tl → m ∈ ms) ∧ ms.length ≤ 3 * dn.length ∧ tl.length ≤ dn.length ∧ σ.H mo = some (.list ((ms.map nmS).map .str)) ∧ σ.H to = some (.list ((tl.map nmS).map .str)) ∧ HExt H σ.H ∧ σ.loc "modules" = some (.ref mo) ∧ σ.loc "told" = some (.ref to)) ?_ ?_ ?_ ns (List.map_map ..) (Ieeeaaaaa [] [] [] rfl ⟨fun U h => (nomatch h), List.nodup_nil, fun U h => (nomatch h)⟩ (fun U h => (nomatch h)) (Nat.le_refl _) (Nat.le_refl _) (Iaaaa g1' g2' E1 (by walk_at "lk") (by walk_at "lk")))
 · (intro r σ y_1; refine Oeeeaaaaaa y_1 ?_; clear y_1; intro U U U U U U U U U z_2; refine Oaa z_2 ?_; clear z_2; intro U h U); exact h _ _ hna
 · intro x r y_1; obtain ⟨l, H3⟩ := y_1; intro K y_2; refine Oeeeaaaaaa y_2 ?_; clear y_2; intro dn ms tl hdn M hsub hml htl k1 z_3; refine Oaaa z_3 ?_; clear z_3; intro k2 hE l1 l2; intro kn kc kb kr
   dsimp only at k1 k2 hE l1 l2; have hdl : dn.length ≤ 6 := by have := congrArg List.length hdn; rw [List.length_append, List.length_cons] at this; exact Nat.le_of_succ_le_succ (Nat.le_trans (Nat.succ_le_succ (Nat.le_add_right _ _)) (Nat.le_trans (Nat.le_of_eq this.symm) hlen))
   have hx3 : 0 ≤ x % 3 ∧ x % 3 < 3 := ⟨Int.emod_nonneg _ (by decide), Int.emod_lt_of_pos _ (by decide)⟩
   with_reducible refine x_AI ?_; refine Zam (h := ?_); refine Zad ?_; refine Zby ?_; refine Zdh (h := ?_); refine x_CG (hl := Zhb) (h := ?_); refine Zau (h := ?_); refine Zcq ?_; refine Zcq ?_; refine x_NV (h := ?_); refine Za0 ?_; refine Zl9 ?_; refine Za0 ?_; refine Zme ?_; refine Zah ?_; refine Zaz (hf := Zfn) (h := ?_)
   refine Zqw (by delta small; exact ⟨Int.lt_trans (by decide) (Int.lt_add_one_of_le hx3.1), Int.lt_of_le_of_lt hx3.2 (by decide)⟩) (Zbh fun ra hra => ?_); have E3 := hE.trans (HExt.upd (.rng 0 (x % 3 + 1).toNat) hra); have m1 := Zac (o := .rng 0 (x % 3 + 1).toNat) k1 hra; have m2 := Zac (o := .rng 0 (x % 3 + 1).toNat) k2 hra; have m3 : upd H3 ra (.rng 0 (x % 3 + 1).toNat) ra = some (.rng 0 (x % 3 + 1).toNat) := upd_same _ _ _; generalize upd H3 ra (.rng 0 (x % 3 + 1).toNat) = H4 at E3 m1 m2 m3 ⊢
   with_reducible refine Zgm ?_
   refine Zbi (List.range (x % 3 + 1).toNat) (fun (i : Nat) => .one (.int (0 + (i : Int)))) (fun k => [.str (part (digit x k))]) (fun σ => HExt H4 σ.H ∧ σ.loc "x" = some (.int x)) ?_ ?_ rfl ⟨HExt.refl _, by walk_at "lk"⟩ ?_ ?_
   · (intro y_1; obtain ⟨l, H5⟩ := y_1; intro y_2; refine Oa y_2 ?_; clear y_2; intro h U); exact h _ _ m3
   · intro k hk j y_1; obtain ⟨l, H5⟩ := y_1; intro K5 y_2; refine Oa y_2 ?_; clear y_2; intro h l5; intro hj hK
     dsimp only at h l5; have hk3 : k < 3 := by have := List.mem_range.mp hk; exact Nat.lt_of_lt_of_le this (Int.toNat_le.2 hx3.2)
     rw [List.length_singleton] at hj
     with_reducible refine x_AI ?_; refine Zbu ?_; refine Zdz ?_; refine Zbc ?_; refine Zau (h := ?_); refine Zb2 ?_; refine Zau (h := ?_); refine Zb2 ?_; refine Zau (h := ?_); refine Zb2 ?_; refine Zah ?_
     refine Zap (h := fun la hla => ?_)
     with_reducible refine Zcq ?_; refine Zcq ?_; refine Zcq ?_; refine x_NV (h := ?_); refine Za0 ?_; refine Zmb (h := ?_); refine Zcq ?_; refine Za0 ?_; refine x_NV (h := ?_)
     refine Ztm (by exact Int.add_nonneg (by decide) (Int.natCast_nonneg _)) (by exact Int.lt_of_le_of_lt (Int.le_of_eq (Int.zero_add _)) (Int.ofNat_lt.2 hk3)) ?_; have e3k : (3 : Int) ^ (0 + (k : Int)).toNat = 3 ^ k := by rw [Int.zero_add, Int.toNat_natCast]
     rw [e3k]; have h3k : (0 : Int) < 3 ^ k ∧ (3 : Int) ^ k < 1000 := by
       rcases k with _ | _ | _ | k
       · decide
       · decide
       · decide
       · exact (Nat.not_lt.2 (Nat.le_add_left 3 _) hk3).elim
     refine Zmb (h0 := by rw [Bool.and_eq_true, decide_eq_true_eq, decide_eq_true_eq]; exact h3k) (h := ?_)
     with_reducible refine Za0 ?_; refine Zl9 ?_
     have hd0 : 0 ≤ x / 3 / 3 ^ k % 3 ∧ x / 3 / 3 ^ k % 3 < 3 := ⟨Int.emod_nonneg _ (by decide), Int.emod_lt_of_pos _ (by decide)⟩; refine Zht (x := .str (part (digit x k))) (upd_same _ _ _) hd0.1 (by exact Int.lt_trans hd0.2 (by decide)) ?_ ?_
     · exact Zpi _ hd0.1 hd0.2 _
     exact ⟨hj, hK _ ⟨h.trans (HExt.upd _ hla), by walk_at "lk"⟩⟩
   · have := Zba (fun k : Nat => [AV.str (part (digit x k))]) (fun U => Nat.le_refl _) (List.range (x % 3 + 1).toNat); rw [List.length_range] at this; exact Zat (by exact qz (Nat.le_trans this (qL (Int.toNat_le.2 hx3.2) rfl)))
   intro y_1; obtain ⟨l6, H6⟩ := y_1; intro y_2; refine Oa y_2 ?_; clear y_2; intro h6 l6'; dsimp only at h6 l6'; have hpf : ((List.range (x % 3 + 1).toNat).flatMap fun k => [AV.str (part (digit x k))]) = ((partsOf x).map part).map .str := by
     delta partsOf; rw [Zed, List.map_map, List.map_map, List.map_map]; rfl
   rw [hpf]; have hpl : (partsOf x).length ≤ 3 := (Zem x).2; refine Zap (hl := by simp only [List.length_map]; exact Zat (by exact qL hpl rfl)) (h := fun pa hpa => ?_); have E6 := E3.trans (h6.trans (HExt.upd (.list (((partsOf x).map part).map .str)) hpa)); have n1 := Zac (o := .list (((partsOf x).map part).map .str)) (h6 _ _ m1) hpa; have n2 := Zac (o := .list (((partsOf x).map part).map .str)) (h6 _ _ m2) hpa; have n3 : upd H6 pa (.list (((partsOf x).map part).map .str)) pa = some (.list (((partsOf x).map part).map .str)) := upd_same _ _ _; have nmp : mo ≠ pa := Zag (h6 _ _ m1) hpa; have ntp : to ≠ pa := Zag (h6 _ _ m2) hpa; generalize upd H6 pa (.list (((partsOf x).map part).map .str)) = H7 at E6 n1 n2 n3 ⊢
   with_reducible refine x_AS ?_; refine x_KC ?_; refine Ze7 ?_; refine x_CG (hl := Zhb) (h := ?_); refine Zau (h := ?_); refine Za0 ?_; refine Zau (h := ?_); refine Zcq ?_; refine x_CG (hl := Zge) (h := ?_); refine x_EO ?_; refine Zaz (hf := Zep) (h := ?_); refine Zqy ?_; refine Za0 ?_; refine Zme ?_; refine Zah ?_; refine Zaz (hf := Zfn) (h := ?_)
   simp only [List.length_map]; refine Ztk (by delta small; exact by decide) (by delta small; exact ⟨Int.lt_of_lt_of_le (by decide) (Int.natCast_nonneg (_ + 1)), Int.lt_of_le_of_lt (Int.ofNat_le.2 (Nat.succ_le_succ hpl)) (by decide)⟩) (Zbh fun sa hsa => ?_); have ern : (((partsOf x).length : Int) + 1 - 1).toNat = (partsOf x).length := by exact Int.toNat_sub (_ + 1) 1
   rw [ern]; have E8 := E6.trans (HExt.upd (.rng 1 (partsOf x).length) hsa); have o1 := Zac (o := .rng 1 (partsOf x).length) n1 hsa; have o2 := Zac (o := .rng 1 (partsOf x).length) n2 hsa; have o3 := Zac (o := .rng 1 (partsOf x).length) n3 hsa; have o4 : upd H7 sa (.rng 1 (partsOf x).length) sa = some (.rng 1 (partsOf x).length) := upd_same _ _ _; have nms : mo ≠ sa := Zag n1 hsa; have nts : to ≠ sa := Zag n2 hsa; have nps : pa ≠ sa := Zag n3 hsa; generalize upd H7 sa (.rng 1 (partsOf x).length) = H8 at E8 o1 o2 o3 o4 ⊢
   with_reducible refine Zgm ?_
   refine Zdi (fun (i : Nat) => .one (.int (1 + (i : Int)))) (fun r σ => ∃ (i : Nat) (ms' : List Md), List.range (partsOf x).length = List.range i ++ r ∧ i ≤ (partsOf x).length ∧ MI ms' ∧ (∀ m ∈ ms, m ∈ ms') ∧ (∀ j, j < i → (partsOf x).take (j + 1) ∈ ms') ∧ ms'.length ≤ ms.length + i ∧ σ.H mo = some (.list ((ms'.map nmS).map .str)) ∧ σ.H to = some (.list ((tl.map nmS).map .str)) ∧ σ.H pa = some (.list (((partsOf x).map part).map .str)) ∧ σ.H sa = some (.rng 1 (partsOf x).length) ∧ HExt H σ.H ∧
       σ.loc "modules" = some (.ref mo) ∧ σ.loc "told" = some (.ref to) ∧ σ.loc "parts" = some (.ref pa) ∧ σ.loc "x" = some (.int x)) ?_ ?_ ?_ (List.range (partsOf x).length) rfl
     (Ieeaaaaaa 0 ms rfl (Nat.zero_le _) M (fun U h => h) (fun U h => (nomatch h)) (Nat.le_refl _) (Iaaaaaaaa o1 o2 o3 o4 E8 (by walk_at "lk") (by walk_at "lk") (by walk_at "lk") (by walk_at "lk")))
   · (intro r σ y_1; refine Oeeaaaaaaa y_1 ?_; clear y_1; intro U U U U U U U U U z_2; refine Oaaa z_2 ?_; clear z_2; intro U U h U); exact h
   · intro i' r' y_1; obtain ⟨l9, H9⟩ := y_1; intro K9 y_2; refine Oeeaaaaaaa y_2 ?_; clear y_2; intro i ms' hr9 hi9 M9 hs9 hd9 hl9 p1 z_3; refine Oaaaaaaa z_3 ?_; clear z_3; intro p2 p3 p4 E9 s1 s2 s3 s4; intro kn9 kc9 kb9 kr9
     dsimp only at p1 p2 p3 p4 E9 s1 s2 s3 s4; refine Oaa (Zlf hr9) ?_; intro e_1; obtain rfl := e_1; intro hlt hr10; have hpok : okM ((partsOf x).take (i' + 1)) := ⟨by rw [List.length_take]; exact Nat.le_min.2 ⟨Nat.succ_pos _, Nat.lt_of_le_of_lt (Nat.zero_le _) hlt⟩, by rw [List.length_take]; exact Nat.le_trans (Nat.min_le_right _ _) hpl⟩; have hl8 := (Zc0 hpok).len; have emap : (((partsOf x).map part).map AV.str).take (i' + 1) = (((partsOf x).take (i' + 1)).map part).map .str := by rw [← List.map_take, ← List.map_take]
     have ecast : (1 + (i' : Int)) = ((i' + 1 : Nat) : Int) := by exact Int.add_comm _ _
     have hj0 := Zgd hpok; have hcont : ((ms'.map nmS)).contains (nmS ((partsOf x).take (i' + 1))) = ms'.contains ((partsOf x).take (i' + 1)) := Zdv M9.ok hpok; have hb9 := Zsq (n := i' + 1) (by exact Nat.le_trans hlt (qL hpl rfl)); have bms : (ms'.map nmS).length ≤ 100 := by rw [List.length_map]; exact Nat.le_trans hl9 (Nat.le_trans (Nat.add_le_add (Nat.le_trans hml (Nat.mul_le_mul_left 3 hdl)) (Nat.le_trans (Nat.le_of_lt hlt) hpl)) (Nat.le_of_ble_eq_true rfl))
     have hdl9 : 1 < ((partsOf x).take (i' + 1)).length → ((partsOf x).take (i' + 1)).dropLast ∈ ms' := by
       intro h1; have e9 : ((partsOf x).take (i' + 1)).dropLast = (partsOf x).take i' := by
         rw [List.dropLast_eq_take, List.length_take, List.take_take]
         congr 1
         exact (congrArg (fun t => min (t - 1) _) (Nat.min_eq_left hlt)).trans (Nat.min_eq_left (Nat.le_succ _))
       rw [e9]; have hi0 : i' - 1 + 1 = i' := by rw [List.length_take] at h1; exact Nat.sub_add_cancel (Nat.lt_of_succ_lt_succ (Nat.lt_of_lt_of_le h1 (Nat.min_le_left _ _)))
       rw [← hi0]; exact hd9 (i' - 1) (by exact Nat.lt_of_lt_of_eq (Nat.lt_succ_self _) hi0)
     have hd10 : ∀ ms2 : List Md, (∀ m ∈ ms', m ∈ ms2) → (partsOf x).take (i' + 1) ∈ ms2 → ∀ j, j < i' + 1 → (partsOf x).take (j + 1) ∈ ms2 := by
       intro ms2 h1 h2 j hj; by_cases q : j = i'
       · subst q; exact h2
       · exact h1 _ (hd9 j (by exact Nat.lt_of_le_of_ne (Nat.le_of_lt_succ hj) q))
     clear hd9 kn kc kb kr kc9 kb9 kr9 hr9; rw [ecast]
     with_reducible refine x_AI ?_; refine Zam (h := ?_); refine Zbx ?_; refine Zcp (h := ?_); refine Zb2 ?_; refine Zal (h := ?_); refine Zau (h := ?_); refine Zbw ?_; refine x_NV (h := ?_); refine Za8 ?_; refine Zdw ?_; refine x_NV (h := ?_); refine Za8 ?_
     refine Zl7 (l := none) (h' := some ((i' + 1 : Nat) : Int)) rfl rfl ⟨by decide, by decide, hb9.1, hb9.2⟩ p3 ?_; rw [Zms, emap]; refine Zbh fun qa hqa => ?_
     with_reducible refine Zah ?_; refine Zbm ?_
     refine Zkd (upd_same _ _ _) (strsOf_map _) (by kernel_rfl!) (Zat (by exact q188 hj0)) ?_; refine (?_ : ev P _ _ _ (fun b σ2 => cmpD .NotIn (.str (nmS ((partsOf x).take (i' + 1)))) b _ _ σ2) _ _)
     with_reducible refine x_NV (h := ?_); refine Zqx ?_; refine Zak ?_
     rw [hcont]; cases hcc : ms'.contains ((partsOf x).take (i' + 1)) with
     | true =>
       with_reducible refine Zbk ?_; refine x_KN ?_
       exact kn9 _ (Ieeaaaaaa (i' + 1) ms' hr10 hlt M9 hs9 (hd10 ms' (fun U h => h) (List.contains_iff_mem.mp hcc)) (by exact Nat.le_succ_of_le hl9) (Iaaaaaaaa (Zac p1 hqa) (Zac p2 hqa) (Zac p3 hqa) (Zac p4 hqa) (E9.trans (HExt.upd _ hqa)) (by walk_at "lk") (by walk_at "lk") (by walk_at "lk") (by walk_at "lk")))
     | false =>
       have hnc : (partsOf x).take (i' + 1) ∉ ms' := fun h => by rw [List.contains_iff_mem.mpr h] at hcc; exact Zai (Eq.symm hcc)
       have r1 := Zac (o := .list ((((partsOf x).take (i' + 1)).map part).map .str)) p1 hqa; have r2 := Zac (o := .list ((((partsOf x).take (i' + 1)).map part).map .str)) p2 hqa; have r3 := Zac (o := .list ((((partsOf x).take (i' + 1)).map part).map .str)) p3 hqa; have r4 := Zac (o := .list ((((partsOf x).take (i' + 1)).map part).map .str)) p4 hqa; have E10 := E9.trans (HExt.upd (.list ((((partsOf x).take (i' + 1)).map part).map .str)) hqa); generalize upd H9 qa (.list ((((partsOf x).take (i' + 1)).map part).map .str)) = H10 at r1 r2 r3 r4 E10 ⊢
       with_reducible refine x_iT ?_; refine Zam (h := ?_); refine Zan ?_; refine Zbd ?_; refine Zal (h := ?_); refine Zau (h := ?_); refine Zcp (h := ?_); refine Zb2 ?_; refine Zal (h := ?_); refine Zau (h := ?_); refine Zbw ?_; refine x_NV (h := ?_); refine Za8 ?_; refine Zdw ?_; refine x_NV (h := ?_); refine Za8 ?_
       refine Zl7 (l := none) (h' := some ((i' + 1 : Nat) : Int)) rfl rfl ⟨by decide, by decide, hb9.1, hb9.2⟩ r3 ?_; rw [Zms, emap]; refine Zbh fun qb hqb => ?_
       with_reducible refine Zah ?_; refine Zbm ?_
       refine Zkd (upd_same _ _ _) (strsOf_map _) (by kernel_rfl!) (Zat (by exact q188 hj0)) ?_; have t1 := Zac (o := .list ((((partsOf x).take (i' + 1)).map part).map .str)) r1 hqb; have t2 := Zac (o := .list ((((partsOf x).take (i' + 1)).map part).map .str)) r2 hqb; have t3 := Zac (o := .list ((((partsOf x).take (i' + 1)).map part).map .str)) r3 hqb; have t4 := Zac (o := .list ((((partsOf x).take (i' + 1)).map part).map .str)) r4 hqb; have E11 := E10.trans (HExt.upd (.list ((((partsOf x).take (i' + 1)).map part).map .str)) hqb); generalize upd H10 qb (.list ((((partsOf x).take (i' + 1)).map part).map .str)) = H11 at t1 t2 t3 t4 E11 ⊢; have blen : ((ms'.map nmS).map AV.str).length < lim := Zea (by rw [List.length_map]; exact qN bms rfl); have npm : pa ≠ mo := nmp.symm; have nsm : sa ≠ mo := nms.symm
       with_reducible refine Zah ?_; refine Zbm ?_; refine Zbp ?_; refine x_KN ?_; refine x_KN ?_
       refine kn9 _ (Ieeaaaaaa (i' + 1) (ms' ++ [(partsOf x).take (i' + 1)]) hr10 hlt (M9.add hpok hnc hdl9) (fun m h => List.mem_append_left _ (hs9 m h)) (hd10 _ (fun U h => List.mem_append_left _ h) (by simp)) (by rw [List.length_append, List.length_singleton]; exact Nat.succ_le_succ hl9) (Iaaaaaaaa ?_ (Zaa t2 q1.symm) (Zaa t3 npm) (Zaa t4 nsm) (Zb7 E11 hmo) (by walk_at "lk") (by walk_at "lk") (by walk_at "lk") (by walk_at "lk"))); rw [List.map_append, List.map_append]; exact upd_same _ _ _
   · intro y_1; obtain ⟨l9, H9⟩ := y_1; intro y_2; refine Oeeaaaaaaa y_2 ?_; clear y_2; intro i ms' hr9 hi9 M9 hs9 hd9 hl9 p1 z_3; refine Oaaaaaaa z_3 ?_; clear z_3; intro p2 p3 p4 E9 s1 s2 s3 s4
     dsimp only at p1 p2 p3 p4 E9 s1 s2 s3 s4; have hie := Zm0 hr9; subst hie; have hpm : partsOf x ∈ ms' := by
       have h1 := (Zem x).1; have := hd9 ((partsOf x).length - 1) (by exact Nat.sub_lt h1 Nat.one_pos)
       rwa [Nat.sub_add_cancel h1, List.take_length] at this
     have hj0 := Zgd (Zem x); have hml' : ms'.length ≤ 3 * (dn ++ [x]).length := by rw [List.length_append, List.length_singleton]; exact Nat.le_trans hl9 (Nat.add_le_add hml hpl)
     clear hd9 hr9
     with_reducible refine x_KC ?_; refine Zbx ?_; refine Zcq ?_; refine Zcq ?_; refine x_NV (h := ?_); refine Za0 ?_; refine Zmb (h := ?_); refine Za0 ?_; refine Zl9 ?_; refine Za0 ?_; refine Zk3 ?_; refine Zak ?_
     cases hcc : (x / 81 % 2 == 1) with
     | false =>
       with_reducible refine Zbk ?_; refine x_KN ?_
       exact kn _ (Ieeeaaaaa (dn ++ [x]) ms' tl (by rw [hdn]; simp) M9 (fun m h => hs9 m (hsub m h)) hml' (by rw [List.length_append]; exact Nat.le_trans htl (Nat.le_add_right _ _)) (Iaaaa p1 p2 E9 (by walk_at "lk") (by walk_at "lk")))
     | true =>
       have blen : ((tl.map nmS).map AV.str).length < lim := Zea (by rw [List.length_map, List.length_map]; exact qN (Nat.le_trans htl hdl) rfl)
       with_reducible refine x_iT ?_; refine Zam (h := ?_); refine Zan ?_; refine Zbd ?_; refine Zal (h := ?_); refine Zau (h := ?_); refine Zcp (h := ?_); refine Zb2 ?_; refine Zal (h := ?_); refine x_EO ?_; refine Zbm ?_
       refine Zkd p3 (strsOf_map _) (by kernel_rfl!) (Zat (by exact q188 hj0)) ?_
       with_reducible refine Zah ?_; refine Zbm ?_; refine Zbp ?_; refine x_KN ?_; refine x_KN ?_
       refine kn _ (Ieeeaaaaa (dn ++ [x]) ms' (tl ++ [partsOf x]) (by rw [hdn]; simp) M9 (fun m h => ?_) hml' (by rw [List.length_append, List.length_append]; simp; exact htl) (Iaaaa (Zaa p1 q1) ?_ (Zb7 E9 hto0) (by walk_at "lk") (by walk_at "lk")))
       · rcases List.mem_append.mp h with h | h
         · exact hs9 m (hsub m h)
         · rw [List.mem_singleton.mp h]; exact hpm
       · rw [List.map_append, List.map_append]; exact upd_same _ _ _
 · intro y_1; obtain ⟨l3, H3⟩ := y_1; intro y_2; refine Oeeeaaaaaa y_2 ?_; clear y_2; intro dn ms tl hdn M hsub hml htl k1 z_3; refine Oaaa z_3 ?_; clear z_3; intro k2 hE l1 l2
   dsimp only at k1 k2 hE l1 l2; rw [List.append_nil] at hdn; subst hdn
   with_reducible refine x_KC ?_; refine Zaw ?_; refine Zfs ?_; refine x_EV (h := ?_); refine x_EO ?_
   refine Zap (h := fun t ht => ?_)
   with_reducible refine x_kr ?_; refine x_fr ?_
   exact hQ _ t mo to ms tl (upd_same _ _ _) (Zac k1 ht) (Zac k2 ht) ⟨M.ok, M.nd, M.par, by exact Nat.le_trans hml (Nat.le_trans (Nat.mul_le_mul_left 3 hlen) (Nat.le_of_ble_eq_true rfl))⟩ hsub (by exact Nat.le_trans htl hlen) q1 (hE.trans (HExt.upd _ ht))
noncomputable def Spec222 (P : Par) : Prop := ∀ (na : Addr) (ns : List Int) Q H, H na = some (.list (ns.map .int)) → ns.length ≤ 7 → (∀ H' t mo to (ms tl : List Md), H' t = some (.tup [.ref mo, .ref to]) → H' mo = some (.list ((ms.map nmS).map .str)) → H' to = some (.list ((tl.map nmS).map .str)) → Mods ms → (∀ m ∈ tl, m ∈ ms) → tl.length ≤ 7 → mo ≠ to → HExt H H' → Q (.ref t) H') → P.F 222 [.ref na] Q H
noncomputable def Spec229 (P : Par) : Prop := ∀ (mo : Addr) (ms : List Md) Q H, Mods ms → H mo = some (.list ((ms.map nmS).map .str)) → (∀ H' r as, HExt H H' → H' r = some (.list (as.map .ref)) → Rounds H' ms as → (∀ i, as.length ≤ i → lvl ms i = []) → Q (.ref r) H') → P.F 229 [.ref mo] Q H
noncomputable def Spec69 (P : Par) : Prop := ∀ x d mo di (ts : List Str) (dl : List Md) Q H, H x = some (.inst 79 d) → H d = some (.dict [] 0) → H mo = some (.list (ts.map .str)) → H di = some (.list ((dl.map dirS).map .str)) → (∀ m ∈ dl, okM m) → ts.length < 100 → dl.length < 100 →
 (∀ H' sm sl ig, Rd H' x d sm sl ig ts (dl.map normS) [("<string>", .int 1)] → d ≠ ig → (∀ a o, a ≠ d → H a = some o → H' a = some o) → Q .none H') → P.F 69 [.ref x, .ref mo, .ref di] Q H
noncomputable def Spec234 (P : Par) : Prop := ∀ (x d sm sl ig oa : Addr) (ts ds : List Str) (os : List Md) Q H, Rd H x d sm sl ig ts ds [("<string>", .int 1)] → d ≠ ig → H oa = some (.list ((os.map nmS).map .str)) → (∀ m ∈ os, okM m) → os.Nodup → os.length ≤ 30 → (∀ t ∈ ts, t.length ≤ 100) → (∀ t ∈ ds, t.length ≤ 100) →
 (∀ H' r, H r = none → H' r = some (.list (((os.filter fun m => ansOf ts ds (some (fileS m)) (nmS m) == 1).map nmS).map .str)) → (∀ b o, b ≠ ig → H b = some o → H' b = some o) → Q (.ref r) H') → P.F 234 [.ref x, .ref oa] Q H
noncomputable def Spec239 (P : Par) : Prop := ∀ (m : Str) (t : Addr) (ns : List Str) Q H, H t = some (.list (ns.map .str)) → ns.length ≤ 100 → m.length ≤ 100 → (∀ n ∈ ns, n.length ≤ 100) → (∀ H', HExt H H' → Q (.bool (belowS m ns)) H') → P.F 239 [.str m, .ref t] Q H
noncomputable def Spec210 (P : Par) : Prop := ∀ (e a : Addr) (es as : List Str) Q H, H e = some (.list (es.map .str)) → H a = some (.list (as.map .str)) → es.length ≤ 100 → as.length ≤ 100 → (es.Pairwise fun x y => strLt x y = true) → (as.Pairwise fun x y => strLt x y = true) →
 (∀ H' t mi un, H' t = some (.tup [.ref mi, .ref un]) → H' mi = some (.list ((sldF es as).1.map .str)) → H' un = some (.list ((sldF es as).2.map .str)) → HExt H H' → Q (.ref t) H') → P.F 210 [.ref e, .ref a] Q H
noncomputable def Spec217 (P : Par) : Prop := ∀ (e a : Addr) (es as : List Str) Q H, H e = some (.list (es.map .str)) → H a = some (.list (as.map .str)) → e ≠ a → es.length ≤ 100 →
 (∀ H' t mi, H' t = some (.tup [.ref mi, .ref a]) → H' mi = some (.list ((uldF es.reverse [] as).1.map .str)) → H' a = some (.list ((uldF es.reverse [] as).2.map .str)) → (∀ b o, b ≠ e → b ≠ a → H b = some o → H' b = some o) → Q (.ref t) H') → P.F 217 [.ref e, .ref a] Q H
theorem Zg4 (ook : ∀ m ∈ os, okM m) (nd : os.Nodup) : (os.map nmS).Nodup :=
 List.nodup_iff_pairwise_ne.mpr (List.pairwise_map.mpr ((List.pairwise_iff_forall_sublist.mpr fun {a b} h e => by
   have ha := h.subset (.head _); have hb := h.subset (.tail _ (.head _)); have := Zfv (ook a ha) (ook b hb) e; exact (List.pairwise_iff_forall_sublist.mp (List.nodup_iff_pairwise_ne.mp nd)) h this)))
theorem Zhl (ook : ∀ m ∈ os, okM m) (q : Md → Bool) {z : List Str} (hz : z.Perm ((os.filter q).map nmS)) (hm : m ∈ os) : z.contains (nmS m) = q m := by
 rw [Bool.eq_iff_iff, List.contains_iff_mem, hz.mem_iff, List.mem_map]
 constructor
 · intro y_1; refine Oea y_1 ?_; clear y_1; intro n hn e
   have hn := List.mem_filter.mp hn; have := Zfv (ook n hn.1) (ook m hm) e; rw [← this]; exact hn.2
 · exact fun h => (Iea m (List.mem_filter.mpr ⟨hm, h⟩) rfl)
theorem Zpz (ook : ∀ m ∈ os, okM m) (nd : os.Nodup) {p q : Md → Bool} (hpq : ∀ m, q m = true → p m = true) {z z1 z2 : List Str}
   (hz : z.Perm (((os.filter p).filter fun m => !q m).map nmS)) (sz : sortedS z = true) (h1 : z1.Perm ((os.filter p).map nmS)) (s1 : sortedS z1 = true) (h2 : z2.Perm ((os.filter q).map nmS)) (s2 : sortedS z2 = true) :
   (z1.Pairwise fun x y => strLt x y = true) ∧ (z2.Pairwise fun x y => strLt x y = true) ∧ sldF z1 z2 = (z, []) ∧ sldF z2 z1 = ([], z) := by
 have nds : ∀ r : Md → Bool, ((os.filter r).map nmS).Nodup := fun r => Zg4 (fun m h => ook m (List.mem_filter.mp h).1) (nd.filter _)
 have t1 := Zh1 (Zb3 s1) (h1.nodup_iff.mpr (nds p))
 have t2 := Zh1 (Zb3 s2) (h2.nodup_iff.mpr (nds q))
 have e1 : z1.filter (fun x => !z2.contains x) = z := by
   refine Zd3 ((Zb3 s1).filter _) (Zb3 sz) ((h1.filter _).trans ?_); rw [List.filter_map]; refine List.Perm.trans ?_ hz.symm; refine List.Perm.of_eq (congrArg _ (List.filter_congr fun m hm => ?_)); refine (?_ : (!z2.contains (nmS m)) = _); rw [Zhl ook q h2 (List.mem_filter.mp hm).1]
 have e2 : z2.filter (fun x => !z1.contains x) = [] := by
   refine List.filter_eq_nil_iff.mpr fun x hx => ?_; refine Oea (List.mem_map.mp (h2.mem_iff.mp hx)) ?_; intro m hm e_1; obtain rfl := e_1; have hm := List.mem_filter.mp hm; rw [Zhl ook p h1 hm.1, hpq m hm.2]
   decide
 refine ⟨t1, t2, ?_, ?_⟩
 · rw [Zfe t1 t2, e1, e2]
 · rw [Zfe t2 t1, e1, e2]
theorem Ze4 {x y x' y' : Addr} {u v : List Str} (ha : H a = some (.tup [.ref x, .ref y])) (hb : H b = some (.tup [.ref x', .ref y'])) (h1 : H x = some (.list (u.map .str))) (h2 : H x' = some (.list (u.map .str))) (h3 : H y = some (.list (v.map .str))) (h4 : H y' = some (.list (v.map .str))) : deq H (n + 2) (.ref a) (.ref b) = some true := by
 have e : deq H (n + 2) (.ref a) (.ref b) = if [AV.ref x, AV.ref y].length = [AV.ref x', AV.ref y'].length then deqs (deq H (n + 1)) [AV.ref x, AV.ref y] [AV.ref x', AV.ref y'] else none := by
   refine (?_ : deqR H (deq H (n + 1)) a b = _); delta deqR; rw [ha]; dsimp only; rw [hb]
 rw [e]
 refine (if_pos rfl).trans ?_
 rw [Zb8, Zb8, Zeg h1 h2, Zeg h3 h4]
 rfl
theorem Zs8 {x y x' y' : Addr} (ha : H a = some (.list [.ref x, .ref y])) (hb : H b = some (.list [.ref x', .ref y'])) (h1 : deq H n (.ref x) (.ref x') = some true) (h2 : deq H n (.ref y) (.ref y') = some true) : deq H (n + 1) (.ref a) (.ref b) = some true := by
 rw [Zda ha hb]
 refine (if_pos rfl).trans ?_
 rw [Zb8, Zb8, h1, h2]
 rfl
theorem Zsv (ook : ∀ m ∈ os, okM m) (nd : os.Nodup) (p : Md → Bool) :
   uldF ((os.filter p).map nmS).reverse [] (os.map nmS) = ([], (os.filter fun m => !p m).map nmS) ∧ uldF (os.map nmS).reverse [] ((os.filter p).map nmS) = (((os.filter fun m => !p m).map nmS).reverse, []) := by
 have nds : ((os.filter p).map nmS).Nodup := Zg4 (fun m h => ook m (List.mem_filter.mp h).1) (nd.filter _)
 have nda := Zg4 ook nd
 have sub : ∀ x, x ∈ (os.filter p).map nmS → x ∈ os.map nmS := fun x h => by
   refine Oea (List.mem_map.mp h) ?_; intro m hm e_1; obtain rfl := e_1; exact List.mem_map_of_mem (List.mem_filter.mp hm).1
 have e1 : (os.map nmS).filter (fun x => !((os.filter p).map nmS).contains x) = (os.filter fun m => !p m).map nmS := by
   rw [List.filter_map]; refine congrArg _ (List.filter_congr fun m hm => ?_); refine (?_ : (!((os.filter p).map nmS).contains (nmS m)) = _); rw [Zhl ook p (.refl _) hm]
 have crev : ∀ (l : List Str) x, l.reverse.contains x = l.contains x := fun l x => by
   rw [Bool.eq_iff_iff, List.contains_iff_mem, List.contains_iff_mem, List.mem_reverse]
 constructor
 · rw [Zgu ((List.reverse_perm _).nodup_iff.mpr nds) nda]
   refine Prod.ext ?_ ?_
   · refine (?_ : [] ++ _ = [])
     rw [List.nil_append]; refine List.filter_eq_nil_iff.mpr fun x hx => ?_; rw [List.contains_iff_mem.mpr (sub x (List.mem_reverse.mp hx))]
     decide
   · refine Eq.trans (List.filter_congr fun x U => ?_) e1
     rw [crev]
 · rw [Zgu ((List.reverse_perm _).nodup_iff.mpr nda) nds]
   refine Prod.ext ?_ ?_
   · refine (?_ : [] ++ _ = _)
     rw [List.nil_append, List.filter_reverse, e1]
   · refine List.filter_eq_nil_iff.mpr fun x hx => ?_
     rw [crev, List.contains_iff_mem.mpr (sub x hx)]
     decide
theorem Ziu (M : Mods ms) (i : Nat) : (ms.flatMap fun m => if (Txt.count (nmS m) "." == (0 + (i : Int))) = true then [AV.str (nmS m)] else []) = (lvl ms i).map .str := by
 rw [Zcw (fun m : Md => Txt.count (nmS m) "." == (0 + (i : Int))) (fun m => AV.str (nmS m))]
 unfold lvl
 rw [List.map_map]
 congr 1
 refine List.filter_congr fun m hm => ?_
 have := (Zc0 (M.ok m hm)).count
 have h1 := (M.ok m hm).1
 rw [this, Bool.eq_iff_iff, beq_iff_eq, beq_iff_eq]
 (first | lia | omega)
set_option maxHeartbeats 4000000 in
theorem Zv6 (hsn : H P.scr = none) (F222 : Spec222 P) (F229 : Spec229 P) (F69 : Spec69 P) (F234 : Spec234 P) (F239 : Spec239 P) (F210 : Spec210 P) (F217 : Spec217 P)
   (hQ : ∀ H', Q (.bool true) H') : Body P 244 [("script", .ref P.scr)] Q H := by
 ((with_reducible refine Za2 (s := ?s23) (r := ?r23) (l := ?l23) ?hb23 ?hl23 ?_); (case hb23 => exact rfl); (case hl23 => (dsimp only [locOf]; exact rfl)))
 with_reducible refine Zad ?_; refine x_CG (hl := Zlo) (h := ?_); refine Zau (h := ?_); refine Zcq ?_; refine Zbc ?_; refine Zau (h := ?_); refine Za0 ?_; refine Zau (h := ?_); refine Za0 ?_; refine Zau (h := ?_); refine Za0 ?_; refine Zah ?_
 refine Zap (h := fun la hla => ?_)
 with_reducible refine Zbw ?_; refine x_NV (h := ?_); refine Za8 ?_; refine Zdw ?_; refine Za0 ?_; refine Za8 ?_
 refine Zoq ?_ fun ys hys => ?_
 · by_cases e : P.scr = la
   · right; exact ⟨[65, 91, 3], by rw [e]; exact upd_same _ _ _⟩
   · left; exact (Zay _ _ e).trans hsn
 refine Zbh fun lb hlb => ?_
 refine Zty (xs := [65, 91, 3].map .int) (ys := ys.map .int) (Zac (upd_same _ _ _) hlb) (upd_same _ _ _) (by simp only [List.length_map, List.length_cons, List.length_nil]; exact Zat (by exact Nat.le_trans (Nat.add_le_add_left hys 3) (Nat.le_of_ble_eq_true rfl))) ?_
 rw [← List.map_append]
 refine Zbh fun lc hlc => ?_
 have hc1 : upd (upd (upd H la (.list [.int 65, .int 91, .int 3])) lb (.list (ys.map .int))) lc (.list (([65, 91, 3] ++ ys).map .int)) lc = some (.list (([65, 91, 3] ++ ys).map .int)) := upd_same _ _ _
 generalize upd (upd (upd H la (.list [.int 65, .int 91, .int 3])) lb (.list (ys.map .int))) lc (.list (([65, 91, 3] ++ ys).map .int)) = H1 at hc1 ⊢
 with_reducible refine Zah ?_
 refine Zbj ?_
 refine F222 lc _ _ _ hc1 (by simp only [List.length_append, List.length_cons, List.length_nil]; exact Nat.add_le_add_left hys 3) fun H2 t mo to ms tl ht hmo hto M hsub htl hmt hE => ?_
 refine Zgt (by kernel_rfl!) ht rfl (by decide) ?_
 clear hE hc1 hla hlb hlc
 with_reducible refine Zgj ?_; refine x_st (h := ?_); refine Zgj ?_; refine x_st (h := ?_); refine Zka ?_; refine x_KC ?_; refine Zad ?_; refine x_CG (hl := Zns) (h := ?_); refine x_EO ?_
 refine Zbj ?_
 refine F229 mo ms _ _ M hmo fun H3 r as hE3 hr hR hRe => ?_
 have hmo3 := hE3 _ _ hmo
 have hto3 := hE3 _ _ hto
 clear hmo hto ht
 with_reducible refine x_AS ?_; refine x_KC ?_; refine Zad ?_; refine Zby ?_; refine Zdh (h := ?_); refine x_CG (hl := Zhb) (h := ?_); refine Zau (h := ?_); refine Za0 ?_; refine Zah ?_; refine Zaz (hf := Zfn) (h := ?_)
 refine Zqw ⟨by decide, by decide⟩ (Zbh fun ra hra => ?_)
 have E4 := HExt.upd (.rng 0 (3 : Int).toNat) hra
 have hra4 : upd H3 ra (.rng 0 (3 : Int).toNat) ra = some (.rng 0 (3 : Int).toNat) := upd_same _ _ _
 have hmo4 := E4 _ _ hmo3
 have hto4 := E4 _ _ hto3
 have hr4 := E4 _ _ hr
 have hR4 : Rounds (upd H3 ra (.rng 0 (3 : Int).toNat)) ms as := ⟨fun i h => Oea (hR.at_ i h) fun zs e x => (Iea zs (E4 _ _ e) x)⟩
 generalize upd H3 ra (.rng 0 (3 : Int).toNat) = H4 at hra4 hmo4 hto4 hr4 hR4 ⊢
 clear E4 hmo3 hto3 hr hR hE3 hra
 with_reducible refine Zgm ?_
 refine Zry (List.range 3) (fun (i : Nat) => .one (.int (0 + (i : Int)))) (fun dn out σ => ∃ ls : List Addr, out = ls.map .ref ∧ ls.length = dn.length ∧ Lvls σ.H ms ls ∧ HExt H4 σ.H ∧ σ.loc "modules" = some (.ref mo)) ?_ ?_ rfl (Ieaaaa [] rfl rfl (fun U h => (nomatch h)) (HExt.refl _) (by walk_at "lk")) ?_
 · (intro dn out σ y_1; refine Oeaaaa y_1 ?_; clear y_1; intro U U U U h U); exact h _ _ hra4
 · intro dn i rst out y_1; obtain ⟨l, H5⟩ := y_1; intro K hrg y_2; refine Oeaaaa y_2 ?_; clear y_2; intro ls e_3; obtain rfl := e_3; intro hll hL hE5 l1; intro hK
   dsimp only at hL hE5 l1; have hi3 : i = dn.length ∧ dn.length < 3 := by
     have h1 := congrArg List.length hrg; rw [List.length_range, List.length_append, List.length_cons] at h1; have h2 := congrArg (fun l => l[dn.length]?) hrg; simp only [List.getElem?_range (show dn.length < 3 by exact q202 hll h1), List.getElem?_append_right (Nat.le_refl _), Nat.sub_self] at h2; exact ⟨(Option.some.inj h2).symm, by exact q202 hll h1⟩
   refine Oa hi3 ?_; clear hi3; intro e_1; obtain rfl := e_1; intro hi3; have hmo5 := hE5 _ _ hmo4
   with_reducible refine x_AI ?_; refine Zbu ?_; refine x_CG (hl := Zc8) (h := ?_); refine Zau (h := ?_); refine Zby ?_; refine Zdh (h := ?_); refine x_NV (h := ?_); refine Zav ?_
   refine Zbi ms (fun m => .one (.str (nmS m))) (fun m => if (Txt.count (nmS m) "." == (0 + (dn.length : Int))) = true then [.str (nmS m)] else []) (fun σ => σ.H = H5 ∧ σ.loc "dots" = some (.int (0 + (dn.length : Int))) ∧ σ.loc "modules" = some (.ref mo)) ?_ ?_ (by refine (?_ : List.map _ _ = _); rw [List.map_map, List.map_map]; rfl) ⟨rfl, by walk_at "lk", by walk_at "lk"⟩ ?_ ?_
   · (intro y_1; obtain ⟨l, H6⟩ := y_1; intro y_2; refine Oa y_2 ?_; clear y_2; intro h U); dsimp only at h; subst h; exact hmo5
   · intro m hm k y_1; obtain ⟨l, H6⟩ := y_1; intro K6 y_2; refine Oaa y_2 ?_; clear y_2; intro h l2 l3; intro hk hK6
     dsimp only at h l2 l3; subst h; have hl8 := (Zc0 (M.ok m hm)).len
     with_reducible refine x_AI ?_; refine Zdx ?_; refine Za3 (h := ?_); refine Zbd ?_; refine Zal (h := ?_); refine Zau (h := ?_); refine Zb2 ?_; refine Zah ?_; refine Zbm ?_; refine Zrx ?_; refine x_NV (h := ?_); refine Zk3 ?_; refine Zak ?_
     split
     · rename_i hc
       rw [if_pos hc] at hk hK6
       with_reducible refine Zbu ?_; refine x_NV (h := ?_)
       exact ⟨hk, hK6 _ ⟨rfl, by walk_at "lk", by walk_at "lk"⟩⟩
     · rename_i hc
       rw [if_neg hc] at hK6; exact hK6 _ ⟨rfl, by walk_at "lk", by walk_at "lk"⟩
   · rw [Ziu M]; simp only [List.length_map]; exact Zat (by have := Zfj M dn.length; exact q161 this)
   intro y_1; obtain ⟨l6, H6⟩ := y_1; intro y_2; refine Oaa y_2 ?_; clear y_2; intro h l2 l3; dsimp only at h l2 l3; subst h; rw [Ziu M]; refine Zap (hl := by rw [List.length_map]; exact Zat (by have := Zfj M dn.length; exact q162 this)) (h := fun ca hca => ?_)
   with_reducible refine Zah ?_; refine Zaz (hf := Zcm) (h := ?_)
   refine Zgn (upd_same _ _ _) (strsOf_map _) (by have := Zfj M dn.length; exact q136 this) fun zs hzp hzs => Zbh fun za hza => ?_; refine ⟨by rw [List.length_map]; exact Zea (by exact qe hll (qM hi3 rfl)), hK [.ref za] _ (Ieaaaa (ls ++ [za]) (by rw [List.map_append]; rfl) (by rw [List.length_append, List.length_append, hll]; rfl) ?_ (hE5.trans ((HExt.upd _ hca).trans (HExt.upd _ hza))) (by walk_at "lk"))⟩; intro i hi; by_cases q : i < ls.length
   · refine Oea (hL i q) ?_; intro zs' e1 e2
     refine (Iea zs' ?_ e2); rw [List.getElem_append_left q]; exact Zac (Zac e1 hca) hza
   · have hi2 : i = ls.length := by rw [List.length_append, List.length_singleton] at hi; exact q142 hll hi q
     subst hi2; refine (Ieaa zs ?_ (by rw [hll]; exact hzp) hzs); have : (ls ++ [za])[ls.length]'hi = za := by simp
     rw [this]; exact upd_same _ _ _
 intro out y_1; obtain ⟨l, H5⟩ := y_1; intro y_2; refine Oeaaaa y_2 ?_; clear y_2; intro ls e_3; obtain rfl := e_3; intro hll hL hE5 l1
 dsimp only at hL hE5 l1
 rw [List.length_range] at hll
 refine Zap (hl := by rw [List.length_map, hll]; exact Zat (by decide)) (h := fun lv hlv => ?_)
 have E6 := HExt.upd (.list (ls.map .ref)) hlv
 have hlv6 : upd H5 lv (.list (ls.map .ref)) lv = some (.list (ls.map .ref)) := upd_same _ _ _
 have hmo6 := E6 _ _ (hE5 _ _ hmo4)
 have hto6 := E6 _ _ (hE5 _ _ hto4)
 have hr6 := E6 _ _ (hE5 _ _ hr4)
 have hR6 : Rounds (upd H5 lv (.list (ls.map .ref))) ms as := ⟨fun i h => Oea (hR4.at_ i h) fun zs e x => (Iea zs (E6 _ _ (hE5 _ _ e)) x)⟩
 have hL6 := hL.ext E6
 dsimp only at hlv6 hmo6 hto6 hr6 hR6 hL6 ⊢
 generalize upd H5 lv (.list (ls.map .ref)) = H6 at hlv6 hmo6 hto6 hr6 hR6 hL6 ⊢
 clear E6 hL hE5 hmo4 hto4 hr4 hR4 hra4 l1 hlv
 have has3 : as.length ≤ 3 := by
   refine Nat.le_of_not_lt fun q => ?_; refine Oeaaa (hR6.at_ 3 q) ?_; intro zs U U U hne; cases z : lvl ms 3 with
   | nil => exact hne z
   | cons k r =>
     refine Oeaa (Zcv.mp (show k ∈ lvl ms 3 by rw [z]; exact .head _)) ?_; intro m hm h4 U; have := (M.ok m hm).2; exact (Nat.not_succ_le_self 3 (Nat.le_trans (Nat.le_of_eq h4.symm) this)).elim
 let ne : Addr → Bool := fun a => match H6 a with
   | some (.list xs) => !xs.isEmpty
   | _ => false
 have hne : ∀ i (h : i < ls.length), ne ls[i] = decide (i < as.length) := by
   intro i h; refine Oeaa (hL6 i h) ?_; intro zs e hp U; refine (?_ : (match H6 ls[i] with | some (.list xs) => !xs.isEmpty | _ => false) = _); rw [e]; dsimp only; rw [List.isEmpty_map]; by_cases q : i < as.length
   · refine Oeaaa (hR6.at_ i q) ?_; intro U U U U hn
     rw [decide_eq_true q]; cases zs with
     | nil => exact absurd hp.nil_eq.symm hn
     | cons _ _ => rfl
   · rw [decide_eq_false q]
     rw [hRe i (Nat.le_of_not_lt q)] at hp; rw [hp.eq_nil]; rfl
 with_reducible refine x_AS ?_; refine x_KC ?_; refine Zbx ?_; refine x_NV (h := ?_); refine Zby ?_; refine Zdh (h := ?_); refine x_NV (h := ?_); refine Zav ?_
 refine Zbi ls (fun a => .one (.ref a)) (fun a => if ne a = true then [.ref a] else []) (fun σ => HExt H6 σ.H) ?_ ?_ (List.map_map ..) (HExt.refl _) ?_ ?_
 · intro σ h; exact h _ _ hlv6
 · rintro a ha k ⟨l, H7⟩ K hE7 hk hK
   dsimp only at hE7; refine Oep (List.getElem_of_mem ha) ?_; intro i hi e_1; obtain rfl := e_1; refine Oea (hL6 i hi) ?_; intro zs e U; have e7 := hE7 _ _ e; have hnz : ne ls[i] = !(zs.map AV.str).isEmpty := by
     refine (?_ : (match H6 ls[i] with | some (.list xs) => !xs.isEmpty | _ => false) = _); rw [e]
   with_reducible refine x_AI ?_; refine Zdx ?_; refine Za3 (h := ?_); refine x_NV (h := ?_); refine Zbc ?_; refine Zah ?_
   refine Zap (h := fun ea hea => ?_); refine Zgo (Zku (Zac e7 hea) (upd_same _ _ _)) ?_; rw [← hnz]
   with_reducible refine Zak ?_
   cases hz : ne ls[i] with
   | true =>
     rw [if_pos hz] at hk hK
     with_reducible refine x_iT ?_; refine Zbu ?_; refine x_NV (h := ?_)
     exact ⟨hk, hK _ (hE7.trans (HExt.upd _ hea))⟩
   | false =>
     rw [if_neg (by rw [hz]; decide)] at hK
     with_reducible refine x_iF ?_
     exact hK _ (hE7.trans (HExt.upd _ hea))
 · have := Zba (fun a : Addr => if ne a = true then [AV.ref a] else []) (fun a => by split <;> simp) ls; exact Zat (by exact qz (Nat.le_trans this (qL (Nat.le_of_eq hll) rfl)))
 rintro ⟨l7, H7⟩ hE7
 dsimp only at hE7
 rw [Zcw ne (fun a => AV.ref a), Zdu ne ls as.length hne]
 refine Zap (hl := by rw [List.length_map, List.length_take]; exact Zat (by exact Nat.le_trans (Nat.min_le_left _ _) (qL has3 rfl))) (h := fun fa hfa => ?_)
 dsimp only at hfa ⊢
 have E8 := hE7.trans (HExt.upd (.list ((ls.take as.length).map .ref)) hfa)
 refine Zgo (r := true) ?_ ?_
 · rw [Zda (E8 _ _ hr6) (upd_same _ _ _), if_pos (by rw [List.length_map, List.length_map, List.length_take]; exact q207 hll has3)]
   refine Zir (by rw [List.length_take]; exact q207 hll has3) fun i h1 h2 => ?_; refine Oeaaa (hR6.at_ i h1) ?_; intro zs e1 p1 s1 U; refine Oeaa (hL6 i (by exact Nat.lt_of_lt_of_le h1 (Nat.le_trans has3 (Nat.le_of_eq hll.symm)))) ?_; intro zs' e2 p2 s2; have := Zd3 (Zb3 s1) (Zb3 s2) (p1.trans p2.symm); subst this; rw [List.getElem_take]; exact Iea zs (E8 _ _ e1) (E8 _ _ e2)
 have hlv8 := E8 _ _ hlv6
 have hto8 := E8 _ _ hto6
 have hL8 := hL6.ext E8
 generalize upd H7 fa (.list ((ls.take as.length).map .ref)) = H8 at hlv8 hto8 hL8 ⊢
 clear E8 hE7 hfa hR6 hr6 hlv6 hmo6 hto6
 with_reducible refine Zak ?_; refine Zbk ?_; refine x_KC ?_; refine Zad ?_; refine Zby ?_; refine Zdh (h := ?_); refine x_NV (h := ?_); refine Zav ?_
 have hzf : ∀ a ∈ ls, H8 a = some (.list ((zfH H8 a).map .str)) := fun a ha => by
   refine Oep (List.getElem_of_mem ha) ?_; intro i hi e_1; obtain rfl := e_1; refine Oea (hL8 i hi) ?_; intro zs e U; rw [Zj9 e]; exact e
 refine Oeaaa (Zvp M hll hL8) ?_; intro os eos hosn hosm hosl
 have hodl : (ls.flatMap fun a => (zfH H8 a).map AV.str).length ≤ 30 := by rw [Zfm, ← eos, List.length_map, List.length_map]; exact hosl
 refine Zbi ls (fun a => .one (.ref a)) (fun a => (zfH H8 a).map .str) (fun σ => σ.H = H8) ?_ ?_ (List.map_map ..) rfl (by rw [Nat.zero_add]; exact Zat (by exact q162 hodl)) ?_
 · rintro ⟨l, H9⟩ h; dsimp only at h; subst h; exact hlv8
 · rintro a ha k ⟨l, H9⟩ K h hk hK
   dsimp only at h; subst h; have hza := hzf a ha
   with_reducible refine x_AI ?_; refine Ztw ?_; refine x_NV (h := ?_); refine Zav ?_
   have e1 : (zfH H9 a).flatMap (fun s => [AV.str s]) = (zfH H9 a).map .str := by exact (Zed id _).trans (by rw [List.map_id])
   refine Zbi (zfH H9 a) (fun s => .one (.str s)) (fun s => [.str s]) (fun σ => σ.H = H9) ?_ ?_ (List.map_map ..) rfl ?_ ?_
   · rintro ⟨l, H10⟩ h; dsimp only at h; subst h; exact hza
   · rintro s hs k2 ⟨l, H10⟩ K2 h hk2 hK2
     dsimp only at h; subst h
     with_reducible refine x_AI ?_; refine Zbu ?_; refine x_NV (h := ?_)
     exact ⟨hk2, hK2 _ rfl⟩
   · rw [e1]; exact hk
   · rintro ⟨l, H10⟩ h
     rw [e1]; exact hK _ h
 rintro ⟨l9, H9⟩ h
 dsimp only at h
 subst h
 rw [Zfm, ← eos]
 refine Zap (hl := by rw [List.length_map, List.length_map]; exact Zat (by exact q162 hosl)) (h := fun oa hoa => ?_)
 dsimp only at hoa ⊢
 have hoa1 : upd H9 oa (.list ((os.map nmS).map .str)) oa = some (.list ((os.map nmS).map .str)) := upd_same _ _ _
 have hto9 := Zac (o := .list ((os.map nmS).map .str)) hto8 hoa
 have hoa2 : to ≠ oa := Zag hto8 hoa
 generalize upd H9 oa (.list ((os.map nmS).map .str)) = H10 at hoa1 hto9 ⊢
 clear hlv8 hto8 hL8 hzf hoa eos hodl
 have tok : ∀ t ∈ tl, okM t := fun t h => M.ok t (hsub t h)
 have hbl : ∀ t ∈ tl.map nmS, t.length ≤ 100 := fun t h => by
   refine Oea (List.mem_map.mp h) ?_; intro m hm e_1; obtain rfl := e_1; have := (Zc0 (tok m hm)).len; exact q158 this
 have ook : ∀ m ∈ os, okM m := fun m h => M.ok m ((hosm m).mp h)
 with_reducible refine x_AS ?_; refine x_KC ?_; refine Zad ?_; refine x_CG (hl := Znt) (h := ?_); refine Zau (h := ?_); refine x_CG (hl := Zil) (h := ?_); refine x_EV (h := ?_); refine Zau (h := ?_); refine Zbc ?_; refine Zah ?_
 refine Zap (h := fun na hna => ?_)
 with_reducible refine Zah ?_
 refine Zgs ?_ (fi := 69)
 intro d x hd hx hdx
 have up1 : HExt H10 (upd (upd (upd H10 na (.list [])) d (.dict [] 0)) x (.inst 79 d)) := fun b o e => Zaa (Zac (Zac e hna) hd) (Zag (Zac e hna) hx)
 refine F69 x d to na (tl.map nmS) [] _ _ (upd_same _ _ _) (Zaa (upd_same _ _ _) hdx) (up1 _ _ hto9) (Zaa (Zac (upd_same _ _ _) hd) (Zag (upd_same _ _ _) hx)) (fun U h => nomatch h) (by rw [List.length_map]; exact q209 htl) (by decide) fun H11 sm1 sl1 ig1 R1 hdi1 fr1 => ⟨rfl, ?_⟩
 have E11 : HExt H10 H11 := fun b o e => fr1 _ _ (Zag (Zac e hna) hd) (up1 _ _ e)
 have hto11 := E11 _ _ hto9
 have hoa11 := E11 _ _ hoa1
 clear fr1 E11 up1 hd hx hdx hna hto9 hoa1
 with_reducible refine x_EO ?_
 refine Zbj ?_
 refine F234 x d sm1 sl1 ig1 oa (tl.map nmS) [] os _ _ R1 hdi1 hoa11 ook hosn hosl (fun t h => ?_) (fun U h => nomatch h) fun H12 fr hfr0 hfr fr2 => ?_
 · refine Oea (List.mem_map.mp h) ?_; intro m hm e_1; obtain rfl := e_1
   have := (Zc0 (tok m hm)).len; exact q158 this
 have nig : ∀ b xs, H11 b = some (.list xs) → b ≠ ig1 := fun b xs e q => by (refine Oe R1.ig ?_; intro U e2); rw [q, e2] at e; cases e
 have hto12 := fr2 _ _ (nig _ _ hto11) hto11
 have hoa12 := fr2 _ _ (nig _ _ hoa11) hoa11
 rw [List.filter_congr fun m hm => Zok tok (ook m hm)] at hfr
 have nfo : fr ≠ oa := fun q => by rw [q, hoa11] at hfr0; exact Zab (Eq.symm hfr0)
 clear fr2 nig R1 hto11 hoa11 hfr0 hdi1
 with_reducible refine x_AS ?_; refine x_KC ?_; refine Zad ?_; refine x_CG (hl := Znt) (h := ?_); refine Zau (h := ?_); refine x_CG (hl := Zil) (h := ?_); refine Zau (h := ?_); refine Zbc ?_; refine Zah ?_
 refine Zap (h := fun nb hnb => ?_)
 have hnb1 : upd H12 nb (.list []) nb = some (.list []) := upd_same _ _ _
 have hto13 := Zac (o := .list []) hto12 hnb
 have hoa13 := Zac (o := .list []) hoa12 hnb
 have hfr13 := Zac (o := .list []) hfr hnb
 generalize upd H12 nb (.list []) = H13 at hnb1 hto13 hoa13 hfr13 ⊢
 clear hnb hto12 hoa12 hfr
 with_reducible refine Zau (h := ?_); refine Zby ?_; refine Zdh (h := ?_); refine x_NV (h := ?_); refine Zav ?_
 refine Zbi tl (fun m => .one (.str (nmS m))) (fun m => [.str (dirS m)]) (fun σ => σ.H = H13) ?_ ?_ (by refine (?_ : List.map _ _ = _); rw [List.map_map, List.map_map]; rfl) rfl ?_ ?_
 · rintro ⟨l, H6⟩ h; dsimp only at h; subst h; exact hto13
 · rintro m hm k ⟨l, H6⟩ K6 h hk hK6
   dsimp only at h; subst h; have hl8 := (Zc0 (tok m hm)).len; have hr8 := (Zc0 (tok m hm)).rep
   with_reducible refine x_AI ?_; refine Zbu ?_; refine Zcq ?_; refine Zcq ?_; refine Zb2 ?_; refine Zbd ?_; refine Zhx ?_; refine Ztl ?_; refine Zet ?_; refine Zb2 ?_; refine Zet ?_
   exact ⟨hk, hK6 _ rfl⟩
 · have := Zba (fun m : Md => [AV.str (dirS m)]) (fun U => by simp) tl; exact Zat (by exact qz (Nat.le_trans this (qL htl rfl)))
 rintro ⟨l6, H6⟩ h
 dsimp only at h
 subst h
 have efl : (tl.flatMap fun m => [AV.str (dirS m)]) = (tl.map dirS).map .str := by rw [Zed dirS, List.map_map]
 rw [efl]
 refine Zap (hl := by rw [List.length_map, List.length_map]; exact Zat (by exact qL htl rfl)) (h := fun db hdb => ?_)
 have hdb1 : upd H6 db (.list ((tl.map dirS).map .str)) db = some (.list ((tl.map dirS).map .str)) := upd_same _ _ _
 have hnb4 := Zac (o := .list ((tl.map dirS).map .str)) hnb1 hdb
 have hto14 := Zac (o := .list ((tl.map dirS).map .str)) hto13 hdb
 have hoa14 := Zac (o := .list ((tl.map dirS).map .str)) hoa13 hdb
 have hfr14 := Zac (o := .list ((tl.map dirS).map .str)) hfr13 hdb
 dsimp only at hdb1 hnb4 hto14 hoa14 hfr14 ⊢
 generalize upd H6 db (.list ((tl.map dirS).map .str)) = H14 at hdb1 hnb4 hto14 hoa14 hfr14 ⊢
 clear hdb hnb1 hto13 hoa13 hfr13 efl
 with_reducible refine Zah ?_
 refine Zgs ?_ (fi := 69)
 intro d2 x2 hd hx hdx
 have up1 : HExt H14 (upd (upd H14 d2 (.dict [] 0)) x2 (.inst 79 d2)) := fun b o e => Zaa (Zac e hd) (Zag e hx)
 refine F69 x2 d2 nb db [] tl _ _ (upd_same _ _ _) (Zaa (upd_same _ _ _) hdx) (up1 _ _ hnb4) (up1 _ _ hdb1) tok (by decide) (by exact q209 htl) fun H15 sm2 sl2 ig2 R2 hdi2 fr2 => ⟨rfl, ?_⟩
 have E15 : HExt H14 H15 := fun b o e => fr2 _ _ (Zag e hd) (up1 _ _ e)
 have hto15 := E15 _ _ hto14
 have hoa15 := E15 _ _ hoa14
 have hfr15 := E15 _ _ hfr14
 clear fr2 E15 up1 hd hx hdx hto14 hoa14 hfr14 hnb4 hdb1
 with_reducible refine x_EO ?_
 refine Zbj ?_
 refine F234 x2 d2 sm2 sl2 ig2 oa [] (tl.map normS) os _ _ R2 hdi2 hoa15 ook hosn hosl (fun U h => nomatch h) (fun t h => ?_) fun H16 sr hsr0 hsr fr3 => ?_
 · refine Oea (List.mem_map.mp h) ?_; intro m hm e_1; obtain rfl := e_1
   have := (Zc0 (tok m hm)).norm; exact q212 this
 have nig : ∀ b xs, H15 b = some (.list xs) → b ≠ ig2 := fun b xs e q => by (refine Oe R2.ig ?_; intro U e2); rw [q, e2] at e; cases e
 have hto16 := fr3 _ _ (nig _ _ hto15) hto15
 have hoa16 := fr3 _ _ (nig _ _ hoa15) hoa15
 have hfr16 := fr3 _ _ (nig _ _ hfr15) hfr15
 rw [List.filter_congr fun m hm => Zlz tok (ook m hm)] at hsr
 have nsr1 : sr ≠ oa := fun q => by rw [q, hoa15] at hsr0; exact Zab (Eq.symm hsr0)
 have nsr2 : sr ≠ fr := fun q => by rw [q, hfr15] at hsr0; exact Zab (Eq.symm hsr0)
 clear fr3 nig R2 hto15 hoa15 hfr15 hsr0 hdi2
 with_reducible refine x_AS ?_; refine x_KC ?_; refine Zad ?_; refine Zby ?_; refine Zdh (h := ?_); refine x_NV (h := ?_); refine Zav ?_
 refine Zbi os (fun m => .one (.str (nmS m))) (fun m => if (inT tl m || blT tl m) = true then [.str (nmS m)] else []) (fun σ => HExt H16 σ.H ∧ σ.loc "told" = some (.ref to)) ?_ ?_ (by refine (?_ : List.map _ _ = _); rw [List.map_map, List.map_map]; rfl) ⟨HExt.refl _, by walk_at "lk"⟩ ?_ ?_
 · (intro σ y_1; refine Oa y_1 ?_; clear y_1; intro h U); exact h _ _ hoa16
 · intro m hm k y_1; obtain ⟨l, H6⟩ := y_1; intro K6 y_2; refine Oa y_2 ?_; clear y_2; intro h l2; intro hk hK6
   dsimp only at h l2; have hl8 := (Zc0 (ook m hm)).len; have hto6 := h _ _ hto16
   with_reducible refine x_AI ?_; refine Zdx ?_; refine Zb9 ?_; refine Zcy ?_; refine Za3 (h := ?_); refine x_NV (h := ?_); refine x_NV (h := ?_); refine Zvb ?_; refine Zak ?_
   rw [Zdv tok (ook m hm)]; cases e : tl.contains m with
   | true =>
     rw [if_pos (by delta inT; rw [e]; rfl)] at hk hK6
     with_reducible refine x_iT ?_; refine x_iT ?_; refine Zbu ?_; refine x_NV (h := ?_)
     exact ⟨hk, hK6 _ ⟨h, by walk_at "lk"⟩⟩
   | false =>
     rw [show (inT tl m || blT tl m) = blT tl m by delta inT; rw [e]; rfl] at hk hK6
     with_reducible refine x_iF ?_; refine Zcy ?_; refine x_tr (h := ?_); refine x_CG (hl := Zhe) (h := ?_); refine x_EV (h := ?_); refine x_EO ?_
     refine Zbj ?_; refine F239 (nmS m) to _ _ _ hto6 (by rw [List.length_map]; exact q213 htl) (by exact q158 hl8) hbl fun H7 hE7 => ?_; rw [Zhq tok (ook m hm)]; cases e2 : blT tl m with
     | true =>
       rw [e2, if_pos rfl] at hk hK6
       with_reducible refine Zbv ?_; refine x_iT ?_; refine x_iT ?_; refine Zbu ?_; refine x_NV (h := ?_)
       exact ⟨hk, hK6 _ ⟨h.trans hE7, by walk_at "lk"⟩⟩
     | false =>
       rw [e2, if_neg (by decide)] at hK6
       with_reducible refine Zbv ?_; refine x_iF ?_; refine Zgk ?_; refine x_iF ?_
       exact hK6 _ ⟨h.trans hE7, by walk_at "lk"⟩
 · have := Zba (fun m : Md => if (inT tl m || blT tl m) = true then [AV.str (nmS m)] else []) (fun U => by split <;> simp) os; exact Zat (by exact q164 hosl this)
 intro y_1; obtain ⟨l6, H6⟩ := y_1; intro y_2; refine Oa y_2 ?_; clear y_2; intro h l2
 dsimp only at h l2
 rw [Zcw (fun m => inT tl m || blT tl m) (fun m => AV.str (nmS m))]
 have emm : ∀ p : Md → Bool, ((os.filter p).map fun m => AV.str (nmS m)) = ((os.filter p).map nmS).map .str := fun p => by rw [List.map_map]; rfl
 rw [emm]
 have hfl : ∀ p : Md → Bool, (os.filter p).length ≤ 30 := fun p => Nat.le_trans (List.length_filter_le _ _) hosl
 refine Zap (hl := by rw [List.length_map, List.length_map]; exact Zat (by have := hfl fun m => inT tl m || blT tl m; exact q162 this)) (h := fun du hdu => ?_)
 dsimp only at hdu ⊢
 have E17 := h.trans (HExt.upd (.list (((os.filter fun m => inT tl m || blT tl m).map nmS).map .str)) hdu)
 have hdu1 : upd H6 du (.list (((os.filter fun m => inT tl m || blT tl m).map nmS).map .str)) du = some (.list (((os.filter fun m => inT tl m || blT tl m).map nmS).map .str)) := upd_same _ _ _
 have hto17 := E17 _ _ hto16
 have hoa17 := E17 _ _ hoa16
 have hfr17 := E17 _ _ hfr16
 have hsr17 := E17 _ _ hsr
 generalize upd H6 du (.list (((os.filter fun m => inT tl m || blT tl m).map nmS).map .str)) = H17 at E17 hdu1 hto17 hoa17 hfr17 hsr17 ⊢
 clear E17 hto16 hoa16 hfr16 hsr hdu h l2
 with_reducible refine x_AS ?_; refine x_KC ?_; refine x_If ?_; refine Zb9 ?_; refine Zcy ?_; refine Za3 (h := ?_); refine x_NV (h := ?_); refine x_NV (h := ?_)
 refine Zgo (Zeg hfr17 hdu1) ?_
 with_reducible refine Zak ?_; refine x_iF ?_; refine Zcy ?_; refine Za3 (h := ?_); refine x_NV (h := ?_); refine Zby ?_; refine Zdh (h := ?_); refine x_NV (h := ?_); refine Zav ?_
 refine Zbi os (fun m => .one (.str (nmS m))) (fun m => if blT tl m = true then [.str (nmS m)] else []) (fun σ => HExt H17 σ.H ∧ σ.loc "told" = some (.ref to)) ?_ ?_ (by refine (?_ : List.map _ _ = _); rw [List.map_map, List.map_map]; rfl) ⟨HExt.refl _, by walk_at "lk"⟩ ?_ ?_
 · (intro σ y_1; refine Oa y_1 ?_; clear y_1; intro h U); exact h _ _ hoa17
 · intro m hm k y_1; obtain ⟨l, H6⟩ := y_1; intro K6 y_2; refine Oa y_2 ?_; clear y_2; intro h l2; intro hk hK6
   dsimp only at h l2; have hl8 := (Zc0 (ook m hm)).len; have hto6 := h _ _ hto17
   with_reducible refine x_AI ?_; refine Zdx ?_; refine x_tr (h := ?_); refine x_CG (hl := Zhe) (h := ?_); refine x_EV (h := ?_); refine x_EO ?_
   refine Zbj ?_; refine F239 (nmS m) to _ _ _ hto6 (by rw [List.length_map]; exact q213 htl) (by exact q158 hl8) hbl fun H7 hE7 => ?_; rw [Zhq tok (ook m hm)]; cases e2 : blT tl m with
   | true =>
     rw [e2, if_pos rfl] at hk hK6
     with_reducible refine Zbv ?_; refine x_iT ?_; refine Zbu ?_; refine x_NV (h := ?_)
     exact ⟨hk, hK6 _ ⟨h.trans hE7, by walk_at "lk"⟩⟩
   | false =>
     rw [e2, if_neg (by decide)] at hK6
     with_reducible refine Zbv ?_; refine x_iF ?_
     exact hK6 _ ⟨h.trans hE7, by walk_at "lk"⟩
 · have := Zba (fun m : Md => if blT tl m = true then [AV.str (nmS m)] else []) (fun U => by split <;> simp) os; exact Zat (by exact q164 hosl this)
 intro y_1; obtain ⟨l6, H6⟩ := y_1; intro y_2; refine Oa y_2 ?_; clear y_2; intro h l2
 dsimp only at h l2
 rw [Zcw (fun m => blT tl m) (fun m => AV.str (nmS m)), emm]
 refine Zap (hl := by rw [List.length_map, List.length_map]; exact Zat (by have := hfl fun m => blT tl m; exact q162 this)) (h := fun bu hbu => ?_)
 dsimp only at hbu ⊢
 have E18 := h.trans (HExt.upd (.list (((os.filter fun m => blT tl m).map nmS).map .str)) hbu)
 refine Zgo (Zeg (E18 _ _ hsr17) (upd_same _ _ _)) ?_
 have hto18 := E18 _ _ hto17
 have hoa18 := E18 _ _ hoa17
 have hfr18 := E18 _ _ hfr17
 have hsr18 := E18 _ _ hsr17
 have hdu18 := E18 _ _ hdu1
 generalize upd H6 bu (.list (((os.filter fun m => blT tl m).map nmS).map .str)) = H18 at E18 hdu18 hto18 hoa18 hfr18 hsr18 ⊢
 clear E18 hto17 hoa17 hfr17 hsr17 hdu1 hbu h l2
 with_reducible refine Zak ?_; refine x_iF ?_; refine Zgk ?_; refine Zbk ?_; refine x_KC ?_; refine Zad ?_; refine x_CG (hl := Zc8) (h := ?_); refine Zau (h := ?_); refine Zby ?_; refine Zdh (h := ?_); refine x_NV (h := ?_); refine Zav ?_
 refine Zbi (os.filter fun m => inT tl m || blT tl m) (fun m => .one (.str (nmS m))) (fun m => if (!blT tl m) = true then [.str (nmS m)] else []) (fun σ => HExt H18 σ.H ∧ σ.loc "told" = some (.ref to)) ?_ ?_ (by refine (?_ : List.map _ _ = _); rw [List.map_map, List.map_map]; rfl) ⟨HExt.refl _, by walk_at "lk"⟩ ?_ ?_
 · (intro σ y_1; refine Oa y_1 ?_; clear y_1; intro h U); exact h _ _ hdu18
 · intro m hm k y_1; obtain ⟨l, H6⟩ := y_1; intro K6 y_2; refine Oa y_2 ?_; clear y_2; intro h l2; intro hk hK6
   dsimp only at h l2; replace hm := (List.mem_filter.mp hm).1; have hl8 := (Zc0 (ook m hm)).len; have hto6 := h _ _ hto18
   with_reducible refine x_AI ?_; refine Zdx ?_; refine Zdn ?_; refine x_tr (h := ?_); refine x_CG (hl := Zhe) (h := ?_); refine x_EV (h := ?_); refine x_EO ?_
   refine Zbj ?_; refine F239 (nmS m) to _ _ _ hto6 (by rw [List.length_map]; exact q213 htl) (by exact q158 hl8) hbl fun H7 hE7 => ?_; rw [Zhq tok (ook m hm)]; cases e2 : blT tl m with
   | false =>
     rw [e2, if_pos (show (!false) = true from rfl)] at hk hK6
     with_reducible refine Zbv ?_; refine x_iT ?_; refine Zbu ?_; refine x_NV (h := ?_)
     exact ⟨hk, hK6 _ ⟨h.trans hE7, by walk_at "lk"⟩⟩
   | true =>
     rw [e2, if_neg (show ¬((!true) = true) by decide)] at hK6
     with_reducible refine Zbv ?_; refine x_iF ?_
     exact hK6 _ ⟨h.trans hE7, by walk_at "lk"⟩
 · have := Zba (fun m : Md => if (!blT tl m) = true then [AV.str (nmS m)] else []) (fun U => by split <;> simp) (os.filter fun m => inT tl m || blT tl m); have := hfl fun m => inT tl m || blT tl m; exact Zat (by omega)
 intro y_1; obtain ⟨l6, H6⟩ := y_1; intro y_2; refine Oa y_2 ?_; clear y_2; intro h l2
 dsimp only at h l2
 rw [Zcw (fun m => !blT tl m) (fun m => AV.str (nmS m))]
 have hf2 : ((os.filter fun m => inT tl m || blT tl m).filter fun m => !blT tl m).length ≤ 30 := Nat.le_trans (List.length_filter_le _ _) (hfl _)
 rw [show (((os.filter fun m => inT tl m || blT tl m).filter fun m => !blT tl m).map fun m => AV.str (nmS m)) = (((os.filter fun m => inT tl m || blT tl m).filter fun m => !blT tl m).map nmS).map .str by rw [List.map_map]; rfl]
 refine Zap (hl := by rw [List.length_map, List.length_map]; exact Zat (by exact q162 hf2)) (h := fun hh hhh => ?_)
 dsimp only at hhh ⊢
 have E19 := h.trans (HExt.upd (.list ((((os.filter fun m => inT tl m || blT tl m).filter fun m => !blT tl m).map nmS).map .str)) hhh)
 with_reducible refine Zah ?_; refine Zaz (hf := Zcm) (h := ?_)
 refine Zgn (upd_same _ _ _) (strsOf_map _) (by rw [List.length_map]; exact q136 hf2) fun z hz sz => Zbh fun za hza => ?_
 replace E19 := E19.trans (HExt.upd (.list (z.map .str)) hza)
 have hza1 := upd_same (upd H6 hh (.list ((((os.filter fun m => inT tl m || blT tl m).filter fun m => !blT tl m).map nmS).map .str))) za (.list (z.map .str))
 have hoa19 := E19 _ _ hoa18
 have hfr19 := E19 _ _ hfr18
 have hsr19 := E19 _ _ hsr18
 have hdu19 := E19 _ _ hdu18
 generalize upd (upd H6 hh (.list ((((os.filter fun m => inT tl m || blT tl m).filter fun m => !blT tl m).map nmS).map .str))) za (.list (z.map .str)) = H19 at E19 hza1 hoa19 hfr19 hsr19 hdu19 ⊢
 clear E19 hoa18 hfr18 hsr18 hdu18 hza hhh h l2 hto18
 with_reducible refine x_AS ?_; refine x_KC ?_; refine Zad ?_; refine Zfs ?_; refine Zau (h := ?_); refine x_CG (hl := Zc8) (h := ?_); refine x_EO ?_; refine Zaz (hf := Zcm) (h := ?_)
 refine Zgn hfr19 (strsOf_map _) (by rw [List.length_map]; have := hfl fun m => inT tl m || blT tl m; exact q136 this) fun z1 hz1 s1 => Zbh fun ya hya => ?_
 with_reducible refine Zau (h := ?_); refine x_CG (hl := Zc8) (h := ?_); refine x_EO ?_; refine Zaz (hf := Zcm) (h := ?_)
 have hsr20 := Zac (o := .list (z1.map .str)) hsr19 hya
 refine Zgn hsr20 (strsOf_map _) (by rw [List.length_map]; exact Nat.le_trans (hfl _) (by decide)) fun z2 hz2 s2 => Zbh fun yb hyb => ?_
 with_reducible refine Zah ?_
 refine Zap (h := fun ro hro => ?_)
 try dsimp only at hya
 try dsimp only at hyb
 try dsimp only at hro
 try dsimp only
 have E20 : HExt H19 (upd (upd (upd H19 ya (.list (z1.map .str))) yb (.list (z2.map .str))) ro (.tup [.ref ya, .ref yb])) := (HExt.upd _ hya).trans ((HExt.upd _ hyb).trans (HExt.upd _ hro))
 have hya1 := Zac (o := .tup [.ref ya, .ref yb]) (Zac (o := .list (z2.map .str)) (upd_same H19 ya (.list (z1.map .str))) hyb) hro
 have hyb1 := Zac (o := .tup [.ref ya, .ref yb]) (upd_same (upd H19 ya (.list (z1.map .str))) yb (.list (z2.map .str))) hro
 have hro1 := upd_same (upd (upd H19 ya (.list (z1.map .str))) yb (.list (z2.map .str))) ro (.tup [.ref ya, .ref yb])
 have hza2 := E20 _ _ hza1
 have hoa20 := E20 _ _ hoa19
 have hfr20 := E20 _ _ hfr19
 have hdu20 := E20 _ _ hdu19
 generalize upd (upd (upd H19 ya (.list (z1.map .str))) yb (.list (z2.map .str))) ro (.tup [.ref ya, .ref yb]) = H20 at E20 hya1 hyb1 hro1 hza2 hoa20 hfr20 hdu20 ⊢
 clear E20 hya hyb hro hza1 hoa19 hfr19 hdu19 hsr19 hsr20
 refine Oaaa (Zpz (q := fun m => blT tl m) ook hosn (fun m h => by refine (?_ : (inT tl m || blT tl m) = true); rw [show blT tl m = true from h, Bool.or_true]) hz sz hz1 s1 hz2 s2) ?_; intro t1 t2 q1 q2
 have hl1 : z1.length ≤ 100 := by rw [hz1.length_eq, List.length_map]; have := hfl fun m => inT tl m || blT tl m; exact q133 this
 have hl2 : z2.length ≤ 100 := by rw [hz2.length_eq, List.length_map]; exact Nat.le_trans (hfl _) (by decide)
 with_reducible refine x_AS ?_; refine x_KC ?_; refine Zbx ?_; refine Zbc ?_; refine Zau (h := ?_); refine Zkf (h := ?_); refine x_NG (hl := Zre) (h := ?_); refine Zhv ?_; refine x_NV (h := ?_); refine Zl2 ?_
 refine Zbj ?_
 refine F210 ya yb z1 z2 _ _ hya1 hyb1 hl1 hl2 t1 t2 fun H21 ta mi un hta hmi hun hE21 => ?_
 rw [q1] at hmi hun
 have hya21 := hE21 _ _ hya1
 have hyb21 := hE21 _ _ hyb1
 have hro21 := hE21 _ _ hro1
 have hza21 := hE21 _ _ hza2
 have hoa21 := hE21 _ _ hoa20
 have hfr21 := hE21 _ _ hfr20
 have hdu21 := hE21 _ _ hdu20
 clear hE21 hya1 hyb1 hro1 hza2 hoa20 hfr20 hdu20
 with_reducible refine Zau (h := ?_); refine Zkf (h := ?_); refine x_NG (hl := Zre) (h := ?_); refine Zhv ?_; refine Zbw ?_; refine x_NV (h := ?_); refine Za8 ?_; refine Za8 ?_; refine Zdw ?_; refine Zoz ?_; refine Za0 ?_; refine Zkc ?_
 refine Zrq hro21 (Zbh fun rv hrv => ?_)
 have hrv1 := upd_same H21 rv (.tup [.ref yb, .ref ya])
 have hya22 := Zac (o := .tup [.ref yb, .ref ya]) hya21 hrv
 have hyb22 := Zac (o := .tup [.ref yb, .ref ya]) hyb21 hrv
 have hza22 := Zac (o := .tup [.ref yb, .ref ya]) hza21 hrv
 have hoa22 := Zac (o := .tup [.ref yb, .ref ya]) hoa21 hrv
 have hfr22 := Zac (o := .tup [.ref yb, .ref ya]) hfr21 hrv
 have hdu22 := Zac (o := .tup [.ref yb, .ref ya]) hdu21 hrv
 have hta22 := Zac (o := .tup [.ref yb, .ref ya]) hta hrv
 have hmi22 := Zac (o := .tup [.ref yb, .ref ya]) hmi hrv
 have hun22 := Zac (o := .tup [.ref yb, .ref ya]) hun hrv
 generalize upd H21 rv (.tup [.ref yb, .ref ya]) = H22 at hrv1 hya22 hyb22 hza22 hoa22 hfr22 hdu22 hta22 hmi22 hun22 ⊢
 clear hya21 hyb21 hza21 hoa21 hfr21 hdu21 hta hmi hun hro21 hrv
 with_reducible refine Zl2 ?_
 refine Zbj ?_
 refine F210 yb ya z2 z1 _ _ hyb22 hya22 hl2 hl1 t2 t1 fun H23 tb mi2 un2 htb hmi2 hun2 hE23 => ?_
 rw [q2] at hmi2 hun2
 have hza23 := hE23 _ _ hza22
 have hoa23 := hE23 _ _ hoa22
 have hfr23 := hE23 _ _ hfr22
 have hdu23 := hE23 _ _ hdu22
 have hta23 := hE23 _ _ hta22
 have hmi23 := hE23 _ _ hmi22
 have hun23 := hE23 _ _ hun22
 clear hE23 hya22 hyb22 hza22 hoa22 hfr22 hdu22 hta22 hmi22 hun22 hrv1
 with_reducible refine Zah ?_
 refine Zap (h := fun L1 hL1 => ?_)
 with_reducible refine Zbc ?_; refine Zau (h := ?_); refine Zfs ?_; refine x_EV (h := ?_); refine Zau (h := ?_); refine Zbc ?_; refine Zah ?_
 refine Zap (h := fun n1 hn1 => ?_)
 with_reducible refine Zah ?_
 refine Zap (h := fun T1 hT1 => ?_)
 with_reducible refine Zau (h := ?_); refine Zfs ?_; refine Zau (h := ?_); refine Zbc ?_; refine Zah ?_
 refine Zap (h := fun n2 hn2 => ?_)
 with_reducible refine x_EO ?_
 refine Zap (h := fun T2 hT2 => ?_)
 with_reducible refine Zah ?_
 refine Zap (h := fun L2 hL2 => ?_)
 refine Zgo (r := true) (Zs8 (x := ta) (y := tb) (x' := T1) (y' := T2) (by walk_at "hk") (upd_same _ _ _) (Ze4 (x := mi) (y := un) (x' := za) (y' := n1) (u := z) (v := []) (by walk_at "hk") (by walk_at "hk") (by walk_at "hk") (by walk_at "hk") (by walk_at "hk") (show _ = some (AObj.list ([] : List AV)) by walk_at "hk")) (Ze4 (x := mi2) (y := un2) (x' := n2) (y' := za) (u := []) (v := z) (by walk_at "hk") (by walk_at "hk") (by walk_at "hk") (show _ = some (AObj.list ([] : List AV)) by walk_at "hk") (by walk_at "hk") (by walk_at "hk"))) ?_
 try dsimp only at hn1 hT1 hn2 hT2 hL2
 have E24 : HExt H23 _ := (HExt.upd _ hL1).trans ((HExt.upd _ hn1).trans ((HExt.upd _ hT1).trans ((HExt.upd _ hn2).trans ((HExt.upd _ hT2).trans (HExt.upd (.list [.ref T1, .ref T2]) hL2)))))
 have hoa24 := E24 _ _ hoa23
 have hfr24 := E24 _ _ hfr23
 have hdu24 := E24 _ _ hdu23
 clear E24 hoa23 hfr23 hdu23 hza23 hta23 hmi23 hun23 htb hmi2 hun2
 generalize upd (upd (upd (upd (upd (upd H23 L1 (.list [.ref ta, .ref tb])) n1 (.list [])) T1 (.tup [.ref za, .ref n1])) n2 (.list [])) T2 (.tup [.ref n2, .ref za])) L2 (.list [.ref T1, .ref T2]) = H24 at hoa24 hfr24 hdu24 ⊢
 with_reducible refine Zak ?_; refine Zbk ?_; refine x_KC ?_; refine Zad ?_; refine Zby ?_; refine Zdh (h := ?_); refine x_NV (h := ?_); refine Zav ?_
 refine Zbi os (fun m => .one (.str (nmS m))) (fun m => if (!(inT tl m || blT tl m)) = true then [.str (nmS m)] else []) (fun σ => σ.H = H24 ∧ σ.loc "due" = some (.ref du)) ?_ ?_ (by refine (?_ : List.map _ _ = _); rw [List.map_map, List.map_map]; rfl) ⟨rfl, by walk_at "lk"⟩ ?_ ?_
 · (intro σ y_1; refine Oa y_1 ?_; clear y_1; intro h U); rw [h]; exact hoa24
 · intro m hm k y_1; obtain ⟨l, H6⟩ := y_1; intro K6 y_2; refine Oa y_2 ?_; clear y_2; intro h l2; intro hk hK6
   dsimp only at h l2; subst h; have hl8 := (Zc0 (ook m hm)).len
   with_reducible refine x_AI ?_; refine Zdx ?_; refine Za3 (h := ?_); refine x_NV (h := ?_); refine x_NV (h := ?_); refine Zqx ?_; refine Zak ?_
   rw [Zhl ook (fun m => inT tl m || blT tl m) (.refl _) hm]; cases e2 : (inT tl m || blT tl m) with
   | false =>
     rw [e2, if_pos (show (!false) = true from rfl)] at hk hK6
     with_reducible refine x_iT ?_; refine Zbu ?_; refine x_NV (h := ?_)
     exact ⟨hk, hK6 _ ⟨rfl, by walk_at "lk"⟩⟩
   | true =>
     rw [e2, if_neg (show ¬((!true) = true) by decide)] at hK6
     with_reducible refine x_iF ?_
     exact hK6 _ ⟨rfl, by walk_at "lk"⟩
 · have := Zba (fun m : Md => if (!(inT tl m || blT tl m)) = true then [AV.str (nmS m)] else []) (fun U => by split <;> simp) os; exact Zat (by exact q164 hosl this)
 intro y_1; obtain ⟨l6, H6⟩ := y_1; intro y_2; refine Oa y_2 ?_; clear y_2; intro h l2
 dsimp only at h l2
 subst h
 rw [Zcw (fun m => !(inT tl m || blT tl m)) (fun m => AV.str (nmS m)), emm]
 refine Zap (hl := by rw [List.length_map, List.length_map]; exact Nat.le_trans (hfl _) (by decide)) (h := fun ke hke => ?_)
 dsimp only at hke ⊢
 with_reducible refine x_AS ?_; refine x_KC ?_; refine Zad ?_; refine x_CG (hl := Zrd) (h := ?_); refine Zau (h := ?_); refine x_CG (hl := Zhc) (h := ?_); refine x_EO ?_; refine Zaz (hf := Ze3) (h := ?_); refine Ze2 ?_
 refine Zbh fun a1 ha1 => ?_
 have hoa25 := Zac (o := .list (((os.filter fun m => inT tl m || blT tl m).map nmS).map .str)) (Zac (o := .list (((os.filter fun m => !(inT tl m || blT tl m)).map nmS).map .str)) hoa24 hke) ha1
 have hfr25 := Zac (o := .list (((os.filter fun m => inT tl m || blT tl m).map nmS).map .str)) (Zac (o := .list (((os.filter fun m => !(inT tl m || blT tl m)).map nmS).map .str)) hfr24 hke) ha1
 have hke25 := Zac (o := .list (((os.filter fun m => inT tl m || blT tl m).map nmS).map .str)) (upd_same H6 ke (.list (((os.filter fun m => !(inT tl m || blT tl m)).map nmS).map .str))) ha1
 have ha125 := upd_same (upd H6 ke (.list (((os.filter fun m => !(inT tl m || blT tl m)).map nmS).map .str))) a1 (.list (((os.filter fun m => inT tl m || blT tl m).map nmS).map .str))
 have m4 : oa ≠ a1 := Zag (Zac (o := .list (((os.filter fun m => !(inT tl m || blT tl m)).map nmS).map .str)) hoa24 hke) ha1
 have m5 : fr ≠ a1 := Zag (Zac (o := .list (((os.filter fun m => !(inT tl m || blT tl m)).map nmS).map .str)) hfr24 hke) ha1
 have m6 : ke ≠ a1 := Zag (upd_same H6 ke (.list (((os.filter fun m => !(inT tl m || blT tl m)).map nmS).map .str))) ha1
 clear hoa24 hfr24 hdu24
 generalize upd (upd H6 ke (.list (((os.filter fun m => !(inT tl m || blT tl m)).map nmS).map .str))) a1 (.list (((os.filter fun m => inT tl m || blT tl m).map nmS).map .str)) = H25 at hoa25 hfr25 hke25 ha125 ⊢
 with_reducible refine Zau (h := ?_); refine x_CG (hl := Zhc) (h := ?_); refine x_EO ?_; refine Zaz (hf := Ze3) (h := ?_); refine Ze2 ?_
 refine Oa (Zsv ook hosn (fun m => inT tl m || blT tl m)) ?_; intro k1 k2
 refine Zbh fun a2 ha2 => ?_
 have n12 : a1 ≠ a2 := Zag ha125 ha2
 have E26 := HExt.upd (.list ((os.map nmS).map .str)) ha2
 have ha226 := upd_same H25 a2 (.list ((os.map nmS).map .str))
 have hoa26 := E26 _ _ hoa25
 have hfr26 := E26 _ _ hfr25
 have hke26 := E26 _ _ hke25
 have ha126 := E26 _ _ ha125
 have m1 : oa ≠ a2 := Zag hoa25 ha2
 have m2 : fr ≠ a2 := Zag hfr25 ha2
 have m3 : ke ≠ a2 := Zag hke25 ha2
 generalize upd H25 a2 (.list ((os.map nmS).map .str)) = H26 at ha226 hoa26 hfr26 hke26 ha126 ⊢
 clear E26 hoa25 hfr25 hke25 ha125 ha2
 with_reducible refine Zah ?_
 refine Zbj ?_
 refine F217 a1 a2 _ _ _ _ ha126 ha226 n12 (by rw [List.length_map]; exact Nat.le_trans (hfl _) (by decide)) fun H27 t1' mi1 ht1 hm1 ha227 fr27 => ?_
 rw [k1] at hm1 ha227
 have hoa27 := fr27 _ _ m4 m1 hoa26
 have hfr27 := fr27 _ _ m5 m2 hfr26
 have hke27 := fr27 _ _ m6 m3 hke26
 clear fr27 hoa26 hfr26 hke26 ha126 ha226
 with_reducible refine x_AS ?_; refine x_KC ?_; refine Zaw ?_; refine Zmi ?_; refine Zrw ?_; refine Zo1 ?_; refine x_NV (h := ?_); refine Zfs ?_; refine Zau (h := ?_); refine Zbc ?_; refine Zah ?_
 refine Zap (h := fun n3 hn3 => ?_)
 with_reducible refine x_EO ?_
 refine Zap (h := fun T3 hT3 => ?_)
 refine Zow (r := true) (Ze4 (x := mi1) (y := a2) (x' := n3) (y' := ke) (u := []) (v := (os.filter fun m => !(inT tl m || blT tl m)).map nmS) (by walk_at "hk") (upd_same _ _ _) (by walk_at "hk") (show _ = some (AObj.list ([] : List AV)) by walk_at "hk") (by walk_at "hk") (by walk_at "hk")) ?_
 with_reducible refine Zbv ?_; refine x_iT ?_; refine Zq2 ?_; refine Zo1 ?_; refine x_CG (hl := Zrd) (h := ?_); refine Zau (h := ?_); refine x_CG (hl := Zhc) (h := ?_); refine x_EO ?_; refine Zaz (hf := Ze3) (h := ?_); refine Ze2 ?_
 have E28 := (HExt.upd (.list []) hn3).trans (HExt.upd (.tup [.ref n3, .ref ke]) hT3)
 have hoa28 := E28 _ _ hoa27
 have hfr28 := E28 _ _ hfr27
 have hke28 := E28 _ _ hke27
 generalize upd (upd H27 n3 (.list [])) T3 (.tup [.ref n3, .ref ke]) = H28 at hoa28 hfr28 hke28 ⊢
 clear E28 hoa27 hfr27 hke27 hn3 hT3 ht1 hm1 ha227
 refine Zbh fun b1 hb1 => ?_
 have hb128 := upd_same H28 b1 (.list ((os.map nmS).map .str))
 have hfr29 := Zac (o := .list ((os.map nmS).map .str)) hfr28 hb1
 have hke29 := Zac (o := .list ((os.map nmS).map .str)) hke28 hb1
 have k8 : ke ≠ b1 := Zag hke28 hb1
 generalize upd H28 b1 (.list ((os.map nmS).map .str)) = H29 at hb128 hfr29 hke29 ⊢
 clear hoa28 hfr28 hke28 hb1
 with_reducible refine Zau (h := ?_); refine x_CG (hl := Zhc) (h := ?_); refine x_EO ?_; refine Zaz (hf := Ze3) (h := ?_); refine Ze2 ?_
 refine Zbh fun b2 hb2 => ?_
 have hb129 := Zac (o := .list (((os.filter fun m => inT tl m || blT tl m).map nmS).map .str)) hb128 hb2
 have hb229 := upd_same H29 b2 (.list (((os.filter fun m => inT tl m || blT tl m).map nmS).map .str))
 have hke30 := Zac (o := .list (((os.filter fun m => inT tl m || blT tl m).map nmS).map .str)) hke29 hb2
 have k9 : ke ≠ b2 := Zag hke29 hb2
 have k10 : b1 ≠ b2 := Zag hb128 hb2
 generalize upd H29 b2 (.list (((os.filter fun m => inT tl m || blT tl m).map nmS).map .str)) = H30 at hb129 hb229 hke30 ⊢
 clear hb128 hfr29 hke29 hb2
 with_reducible refine Zah ?_
 refine Zbj ?_
 refine F217 b1 b2 _ _ _ _ hb129 hb229 k10 (by rw [List.length_map]; exact q133 hosl) fun H31 t2' mi2 ht2 hm2 hb231 fr31 => ?_
 rw [k2] at hm2 hb231
 have hke31 := fr31 _ _ k8 k9 hke30
 clear fr31 hke30 hb129 hb229
 dsimp only at ht2 hm2 hb231
 with_reducible refine Zfs ?_; refine Zau (h := ?_); refine Zbw ?_; refine x_NV (h := ?_); refine Za8 ?_; refine Za8 ?_; refine Zdw ?_; refine Zoz ?_; refine Za0 ?_; refine Zkc ?_; refine Zl6 ?_
 rw [← List.map_reverse]
 refine Zbh fun kr hkr => ?_
 with_reducible refine Zau (h := ?_); refine Zbc ?_; refine Zah ?_
 refine Zap (h := fun n4 hn4 => ?_)
 with_reducible refine Zah ?_
 refine Zap (h := fun T4 hT4 => ?_)
 refine Zow (r := true) (Ze4 (x := mi2) (y := b2) (x' := kr) (y' := n4) (u := ((os.filter fun m => !(inT tl m || blT tl m)).map nmS).reverse) (v := []) (by walk_at "hk") (upd_same _ _ _) (by walk_at "hk") (by walk_at "hk") (by walk_at "hk") (show _ = some (AObj.list ([] : List AV)) by walk_at "hk")) ?_
 with_reducible refine x_kr ?_; refine x_fr ?_
 exact hQ _
theorem Zr8 (h : statB K = true) : Stat K := by
 delta statB at h
 rw [Bool.and_eq_true, Bool.and_eq_true, Bool.and_eq_true, Bool.and_eq_true, Bool.and_eq_true] at h
 obtain ⟨⟨⟨⟨⟨h1, h2⟩, h3⟩, h4⟩, h5⟩, h6⟩ := h
 refine ⟨fun C hC nm hnm => ?_, fun C hC => ?_, fun C nm f hm => ?_, fun nm i hi => ?_, fun C f hf => ?_, fun x a hx ha => ?_⟩
 · have := List.all_eq_true.mp (List.all_eq_true.mp h1 C (by rcases Zgh hC with rfl | rfl <;> decide)) nm hnm
   clear h1 h2 h3 h4 h5 h6; simp only [st1, Bool.and_eq_true, beq_iff_eq] at this; exact ⟨this.1.1.1, this.1.1.2, this.1.2, this.2⟩
 · have := List.all_eq_true.mp h2 C (by rcases hC with rfl | rfl | rfl <;> decide)
   clear h1 h2 h3 h4 h5 h6; simp only [st2, Bool.and_eq_true, beq_iff_eq] at this; exact this
 · unfold meth at hm
   obtain ⟨p, hp, rfl⟩ := Option.map_eq_some_iff.mp hm; have hpq := List.find?_some hp; have := List.all_eq_true.mp h3 p (List.mem_of_find?_eq_some hp); clear h1 h2 h3 h4 h5 h6 hm; simp only [Bool.and_eq_true, beq_iff_eq] at hpq; obtain ⟨rfl, rfl⟩ := hpq; simp only [st3, Bool.and_eq_true, beq_iff_eq, Bool.not_eq_true'] at this; exact ⟨this.1.1.1.1.1.1, this.1.1.1.1.1.2, this.1.1.1.1.2, this.1.1.1.2, this.1.1.2, this.1.2, this.2⟩
 · obtain ⟨p, hp, rfl, rfl⟩ := Zo7 hi
   have := List.all_eq_true.mp h4 p hp; clear h1 h2 h3 h4 h5 h6 hi; rw [st4, Bool.and_eq_true, Bool.and_eq_true] at this; obtain ⟨⟨a, b⟩, c⟩ := this; have hlt : p.2 < 1000 := by
     have : nodeT.all (fun p => decide (p.2 < 1000)) = true := by decide
     exact of_decide_eq_true (List.all_eq_true.mp this p hp)
   refine ⟨a, b, hlt, ?_⟩; obtain ⟨d, hd, c⟩ := Zo6 c; simp only [st4a, Bool.and_eq_true, beq_iff_eq] at c; exact ⟨d, hd, c.1.1.1.1, c.1.1.1.2, c.1.1.2, c.1.2, c.2⟩
 · have := List.all_eq_true.mp h5 _ (Zpx hf)
   clear h1 h2 h3 h4 h5 h6; simp only [st5, Bool.and_eq_true, beq_iff_eq] at this; exact ⟨this.1.1.1, this.1.1.2, this.1.2, this.2⟩
 · unfold glob at hx
   obtain ⟨p, hp, hp2⟩ := Option.map_eq_some_iff.mp hx; have := List.all_eq_true.mp h6 p (List.mem_of_find?_eq_some hp); clear h1 h2 h3 h4 h5 h6; unfold st6 at this; rw [hp2] at this; simpa [ha] using this
theorem Zc7 {α β : Type} [BEq α] [LawfulBEq α] : ∀ {ns : List α} {vs : List β}, ns.length ≤ vs.length → ∀ n ∈ ns, ((ns.zip vs).lookup n).isSome = true
 | [], _, _, n, h => nomatch h
 | m :: ns, v :: vs, hl, n, h => by
   rw [List.zip_cons_cons, List.lookup_cons]
   split
   · rfl
   · rename_i q
     rcases List.mem_cons.mp h with rfl | h
     · simp at q
     · exact Zc7 (Nat.le_of_succ_le_succ hl) n h
theorem Zkt {α β : Type} {f g : α → Option β} : ∀ {l : List α}, (∀ a ∈ l, f a = g a) → l.filterMap f = l.filterMap g
 | [], _ => rfl
 | a :: l, h => by rw [List.filterMap_cons, List.filterMap_cons, h a (.head _), Zkt fun b hb => h b (.tail _ hb)]
theorem Zf2 {α β : Type} [BEq α] [LawfulBEq α] : ∀ {ns : List α} {vs : List β}, ns.Nodup → ns.length ≤ vs.length → ns.filterMap (fun n => ((ns.zip vs).lookup n).map (n, ·)) = ns.zip vs
 | [], _, _, _ => rfl
 | m :: ns, v :: vs, nd, hl => by
   have nd' := List.nodup_cons.mp nd; rw [List.zip_cons_cons, List.filterMap_cons]; simp only [List.lookup_cons, beq_self_eq_true, Option.map_some]; refine congrArg _ (Eq.trans (Zkt fun n hn => ?_) (Zf2 nd'.2 (Nat.le_of_succ_le_succ hl))); have : (n == m) = false := by rw [beq_eq_false_iff_ne]; rintro rfl; exact nd'.1 hn
   rw [this]
theorem Zgf {α β : Type} {f : α → β → Sem (ForInStep β)} {b : β} : ∀ {l : List α}, (∀ p ∈ l, f p b = pure (.yield b)) → forIn l b f = pure b
 | [], _ => rfl
 | p :: l, h => by
   rw [List.forIn_cons, h p (.head _)]; exact Zgf fun q hq => h q (.tail _ hq)
section
variable {M : Model} {A : Around} {E : Value → Shared → Prop} {s : Shared}
theorem Zd1 {α : Type} {x y : Sem α} {Q : α → Shared → Prop} (e : x = y) (h : wpAny M A y Q E s) : wpAny M A x Q E s := e ▸ h
theorem Zpy {α : Type} {c : Prop} {inst : Decidable c} {a b : Sem α} {Q : α → Shared → Prop} (hc : ¬ c) (h : wpAny M A b Q E s) : wpAny M A (@ite _ c inst a b) Q E s := by rw [if_neg hc]; exact h
theorem Ziy {ns : List Str} {vals : List Value} {slots : List (Str × Value)} {Q : List (Str × Value) → Shared → Prop} {df : Option (Array Value)} (hp : fd.params.posonlyargs = []) (hk : fd.params.kwonlyargs = []) (hn : fd.params.args.map (·.arg) = ns) (hv : vals.length ≤ ns.length ∨ fd.params.vararg.isSome = true)
   (hd : ∀ (Q : Option (Array Value) → Shared → Prop) (E : Value → Shared → Prop), Q df s → wpAny M A (seqItems? fd.defaults) Q E s)
   (hm : ∀ k, k = ns.length - ((df.getD #[]).toList.drop ((df.getD #[]).toList.length - ns.length)).length → (ns.take k).filter (fun n => ((ns.zip vals).lookup n).isNone) = [] ∧
     ∀ f : Str × Value → List (Str × Value) → Sem (ForInStep (List (Str × Value))), (∀ p r, f p r = if (r.lookup p.1).isNone = true then pure (.yield (r ++ [p])) else pure (.yield r)) → forIn ((ns.drop k).zip ((df.getD #[]).toList.drop ((df.getD #[]).toList.length - ns.length))) (ns.zip vals) f = pure slots)
   (hz : ns.filterMap (fun n => (slots.lookup n).map (n, ·)) = binds)
   (h : wpAny M A (do
       let b ← (match fd.params.vararg with | some a => do let t ← newTuple (vals.drop ns.length); pure (binds ++ [(a.arg, t)]) | none => pure (binds))
       match fd.params.kwarg with
       | some a => do let d ← alloc { cls := .type "dict", data := .dict #[] }; pure (b ++ [(a.arg, .ref d)])
       | none => pure b) Q E s) : wpAny M A (bindArgs fd ⟨vals, []⟩) Q E s := by
 obtain ⟨nm, qn, ⟨po, ar, va, ko, kd, kw, ds⟩, body, sco, gl, clo, dfl, kdf, doc, pm, an, code, ct, bu⟩ := fd
 cases hp
 cases hk
 dsimp only at hn hv hd h
 subst hn
 have hm := hm _ rfl
 unfold bindArgs
 refine wpAny_bind (wpAny_pure ?_)
 refine wpAny_bind (hd _ _ ?_)
 refine Zpy ?_ ?_
 · show ¬ ((decide _ && Option.isNone va) = true)
   rw [Bool.and_eq_true, decide_eq_true_eq]; intro h1; rcases hv with h3 | h3
   · exact absurd (Nat.lt_of_lt_of_le h1.1 h3) (Nat.lt_irrefl _)
   · have h2 := h1.2; rw [Option.isNone_iff_eq_none] at h2; rw [h2] at h3; exact Zai h3
 refine Zpy ?_ ?_
 · exact fun h => Bool.false_ne_true ((congrArg (fun l => !List.isEmpty l) hm.1).symm.trans h)
 refine wpAny_bind (Zd1 (hm.2 _ fun U U => rfl) (wpAny_pure ?_))
 refine wpAny_bind (wpAny_pure ?_)
 refine Zpy ?_ ?_
 · exact Bool.false_ne_true
 have hz2 : (ar.map Arg.arg ++ []).filterMap (fun n => (slots.lookup n).map (n, ·)) = binds := by rw [List.append_nil]; exact hz
 cases va with
 | none =>
   cases kw with
   | none => exact Zd1 (congrArg pure hz2) h
   | some b =>
     refine Zpy (Nat.not_lt_zero _) ?_; exact Zd1 (congrArg (fun l => Bind.bind (alloc _) fun d => pure (l ++ [(b.arg, .ref d)])) hz2) h
 | some a =>
   cases kw with
   | none =>
     rw [bind_assoc] at h; exact Zd1 (congrArg (fun l => Bind.bind (newTuple _) fun t => pure (l ++ [(a.arg, t)])) hz2) h
   | some b =>
     rw [bind_assoc] at h; exact Zd1 (congrArg (Bind.bind (newTuple _)) (funext fun t => (if_neg (Nat.not_lt_zero _)).trans (congrArg (fun l => Bind.bind (alloc _) fun d => pure (l ++ [(a.arg, t)] ++ [(b.arg, .ref d)])) hz2))) h
theorem Zhp {ns : List Str} {vals : List Value} {Q : List (Str × Value) → Shared → Prop} {df : Option (Array Value)} (hp : fd.params.posonlyargs = []) (hk : fd.params.kwonlyargs = []) (hn : fd.params.args.map (·.arg) = ns) (nd : ns.Nodup) (hl : ns.length ≤ vals.length) (hv : vals.length ≤ ns.length ∨ fd.params.vararg.isSome = true)
   (hd : ∀ (Q : Option (Array Value) → Shared → Prop) (E : Value → Shared → Prop), Q df s → wpAny M A (seqItems? fd.defaults) Q E s)
   (h : wpAny M A (do
       let b ← (match fd.params.vararg with | some a => do let t ← newTuple (vals.drop ns.length); pure (ns.zip vals ++ [(a.arg, t)]) | none => pure (ns.zip vals))
       match fd.params.kwarg with
       | some a => do let d ← alloc { cls := .type "dict", data := .dict #[] }; pure (b ++ [(a.arg, .ref d)])
       | none => pure b) Q E s) : wpAny M A (bindArgs fd ⟨vals, []⟩) Q E s := by
 have hs := fun n (hn : n ∈ ns) => Zc7 hl n hn
 have no : ∀ n ∈ ns, ((ns.zip vals).lookup n).isNone = false := fun n hn => by
   cases q : (ns.zip vals).lookup n with
   | none => have := hs n hn; rw [q] at this; exact Zai this
   | some _ => rfl
 refine Ziy hp hk hn hv hd (fun k U => ⟨List.filter_eq_nil_iff.mpr fun n hn => ?_, fun f hf => Zgf fun p hp => ?_⟩) (Zf2 nd hl) h
 · rw [no n (List.mem_of_mem_take hn)]; exact Bool.false_ne_true
 · rw [hf, no _ (List.mem_of_mem_drop (List.of_mem_zip (a := p.1) (b := p.2) hp).1)]; rfl
theorem Zqn {n1 n2 : Str} {v d : Value} {Q : List (Str × Value) → Shared → Prop} (hp : fd.params.posonlyargs = []) (hk : fd.params.kwonlyargs = []) (hn : fd.params.args.map (·.arg) = [n1, n2]) (nd : n1 ≠ n2) (hva : fd.params.vararg = none) (hka : fd.params.kwarg = none)
   (hd : ∀ (Q : Option (Array Value) → Shared → Prop) (E : Value → Shared → Prop), Q (some #[d]) s → wpAny M A (seqItems? fd.defaults) Q E s)
   (h : Q [(n1, v), (n2, d)] s) : wpAny M A (bindArgs fd ⟨[v], []⟩) Q E s := by
 have e1 : (n2 == n1) = false := by rw [beq_eq_false_iff_ne]; exact fun q => nd q.symm
 have l1 : [(n1, v)].lookup n1 = some v := by rw [List.lookup_cons, beq_self_eq_true]
 have l2 : [(n1, v)].lookup n2 = none := by rw [List.lookup_cons, e1]; rfl
 have m1 : [(n1, v), (n2, d)].lookup n1 = some v := by rw [List.lookup_cons, beq_self_eq_true]
 have m2 : [(n1, v), (n2, d)].lookup n2 = some d := by rw [List.lookup_cons, e1, List.lookup_cons, beq_self_eq_true]
 refine Ziy (slots := [(n1, v), (n2, d)]) (binds := [(n1, v), (n2, d)]) hp hk hn (.inl (Nat.le_succ 1)) hd (fun k hk => ?_) ?_ (by rw [hva, hka]; exact wpAny_pure h)
 · cases (show k = 1 from hk)
   refine ⟨?_, fun f hf => ?_⟩
   · show List.filter (fun n => (List.lookup n [(n1, v)]).isNone) [n1] = []
     rw [List.filter_cons, l1]; rfl
   · show (Bind.bind (f (n2, d) [(n1, v)]) _ : Sem _) = _
     rw [hf, l2]; rfl
 · rw [List.filterMap_cons, m1, Option.map_some]
   dsimp only; rw [List.filterMap_cons, m2]; rfl
end
noncomputable def shapeB (f : Addr) : Bool :=
 (fnAt f).params.posonlyargs.isEmpty && (fnAt f).params.kwonlyargs.isEmpty && decide (((fnAt f).params.args.map (·.arg)).Nodup) &&
 ((fnAt f).scope.kind == .function && !(fnAt f).scope.isGenerator && !(fnAt f).scope.isCoroutine && decide (((fnAt f).scope.names.map (·.1)).Nodup)) &&
 ((fnAt f).scope.names.all fun p => p.1 != ("__debug__" : Str) && p.1 != ("__classdict__" : Str)) && ((fnAt f).scope.names.all fun p => p.2 != .free && p.1 != (".0" : Str)) &&
 (((fnAt f).params.args.map (·.arg) ++ (fnAt f).params.vararg.toList.map (·.arg) ++ (fnAt f).params.kwarg.toList.map (·.arg)).all fun n => (fnAt f).scope.names.contains (n, NameKind.local) || (fnAt f).scope.names.contains (n, NameKind.cell)) &&
 (f != 135 || ((fnAt f).params.args.length == 2 && (fnAt f).params.vararg.isNone && (fnAt f).params.kwarg.isNone)) && ((fnAt f).params.kwarg.isNone || (fnAt f).params.vararg.isSome)
theorem shapes : (fnTab.all fun p => shapeB p.1) = true := by kernel_rfl
structure Shape (f : Addr) : Prop where
 pos : (fnAt f).params.posonlyargs = []
 kwo : (fnAt f).params.kwonlyargs = []
 nd : ((fnAt f).params.args.map (·.arg)).Nodup
 kind : (fnAt f).scope.kind = .function
 gen : (fnAt f).scope.isGenerator = false
 co : (fnAt f).scope.isCoroutine = false
 snd : ((fnAt f).scope.names.map (·.1)).Nodup
 nm : ((fnAt f).scope.names.all fun p => p.1 != ("__debug__" : Str) && p.1 != ("__classdict__" : Str)) = true
 free : ∀ p ∈ (fnAt f).scope.names, p.2 ≠ .free
 dot : ∀ p ∈ (fnAt f).scope.names, p.1 ≠ (".0" : Str)
 binds : ∀ n ∈ (fnAt f).params.args.map (·.arg) ++ (fnAt f).params.vararg.toList.map (·.arg) ++ (fnAt f).params.kwarg.toList.map (·.arg), (n, NameKind.local) ∈ (fnAt f).scope.names ∨ (n, NameKind.cell) ∈ (fnAt f).scope.names
 dflt : f = 135 → (fnAt f).params.args.length = 2 ∧ (fnAt f).params.vararg = none ∧ (fnAt f).params.kwarg = none
theorem Zo9 {f : Addr} (hf : f ∈ fnTab.map (·.1)) : Shape f := by
 refine Oea (List.mem_map.mp hf) ?_; intro p hp e_1; obtain rfl := e_1
 have h := List.all_eq_true.mp shapes p hp
 unfold shapeB at h
 simp only [Bool.and_eq_true, List.isEmpty_iff, decide_eq_true_eq, beq_iff_eq, Bool.not_eq_true', List.all_eq_true, bne_iff_ne, Bool.or_eq_true, List.contains_iff_mem, Option.isNone_iff_eq_none] at h
 refine Oa h ?_; clear h; intro z_1 h12; (refine Oa z_1 ?_; clear z_1; intro z_1 h11; obtain ⟨⟨⟨⟨⟨⟨h1, h2⟩, h3⟩, ⟨⟨h4, h5⟩, h6⟩, h7⟩, h8⟩, h9⟩, h10⟩ := z_1)
 refine ⟨h1, h2, h3, h4, h5, h6, h7, ?_, fun q hq => (h9 q hq).1, fun q hq => (h9 q hq).2, h10, fun e => ?_⟩
 · simp only [List.all_eq_true, Bool.and_eq_true, bne_iff_ne]; exact h8
 · rcases h11 with h | h
   · exact absurd e h
   · exact ⟨h.1.1, h.1.2, h.2⟩
structure FnIn (h : Heap) (f : Addr) (fd : FuncData) : Prop where
 ok : FnOk h f fd (fnAt f).body
 par : fd.params = (fnAt f).params
 sco : fd.scope = (fnAt f).scope
 shape : Shape f
 dflt : ∃ df, (f = 135 → df = some #[.none]) ∧ ∀ (M : Model) (A : Around) (s : Shared) (Q : Option (Array Value) → Shared → Prop) (E : Value → Shared → Prop), (∀ b o, h.get? b = some o → s.heap.get? b = some o) → Q df s → wpAny M A (seqItems? fd.defaults) Q E s
theorem Zgc {α β γ : Type} {f g : α → β} : ∀ {l : List α}, l.map f = l.map g → ∀ a ∈ l, f a = g a
 | [], _, a, h => nomatch h
 | b :: l, e, a, h => by
   rw [List.map_cons, List.map_cons, List.cons.injEq] at e; rcases List.mem_cons.mp h with rfl | h
   · exact e.1
   · exact Zgc (γ := γ) e.2 a h
theorem Zv0 {h : Heap} {f : Addr} (hf : f ∈ fnTab.map (·.1)) (hb : fnB (frag h) f = true) (hv : fnSeen h f = some ((fnAt f).params, .stmts (fnAt f).body, (fnAt f).scope)) : ∃ fd, FnIn h f fd := by
 have X := Znx h
 delta fnB at hb
 generalize hl : (frag h).lookup f = o at hb
 cases o with
 | none => exact Zai hb
 | some o =>
 obtain ⟨c, d, data, sl⟩ := o
 cases data with
 | func fd =>
   have ho := X _ _ hl; simp only [Bool.and_eq_true, List.isEmpty_iff, beq_iff_eq] at hb; refine Oa hb ?_; clear hb; intro z_1 b5; (refine Oa z_1 ?_; clear z_1; intro z_1 b4; obtain ⟨⟨b1, b2⟩, b3⟩ := z_1); delta fnSeen at hv; rw [ho] at hv; simp only [Option.bind_some, Option.some.injEq, Prod.mk.injEq] at hv; refine Oaa hv ?_; clear hv; intro v1 v2 v3; have S := Zo9 hf; refine ⟨fd, ⟨(Iea _ ho rfl), v2, codeRec_of X b4, b1, by rw [v3]; exact S.kind, by rw [v3]; exact S.gen, by rw [v3]; exact S.co, b2, b3, by rw [v3]; exact S.snd, by rw [v3]; exact S.nm, by rw [v3]; exact S.free, by rw [v3]; exact S.dot⟩, v1, v3, S, ?_⟩; delta dfltB at b5; generalize hd : fd.defaults = dv at b5; cases dv with
   | none =>
     dsimp only at b5; refine (Iea none (fun e => ?_) (fun M A s Q E U hq => ?_))
     · rw [bne_iff_ne] at b5; exact absurd e b5
     · exact wpAny_pure hq
   | ref T =>
     dsimp only at b5; generalize hT : (frag h).lookup T = ot at b5; cases ot with
     | none => exact Zai b5
     | some ot =>
     obtain ⟨tc, td, data, tsl⟩ := ot; cases data with
     | seq items n =>
       simp only [Bool.and_eq_true, beq_iff_eq, Bool.or_eq_true, bne_iff_ne] at b5; refine (Iea (some items) (fun e => ?_) (fun M A s Q E up hq => ?_))
       · rcases b5.2 with h | h
         · exact absurd e h
         · rw [h]
       · exact wpAny_seqItems (up _ _ (X _ _ hT)) rfl hq
     | _ => exact Zai b5
   | _ => exact Zai b5
 | _ => exact Zai hb
noncomputable def bindD (f : Addr) (args : List AV) : AM (List (Str × AV)) := fun Q X σ =>
 match (fnAt f).params.vararg, (fnAt f).params.kwarg with
 | none, none => if args.length = ((fnAt f).params.args.map (·.arg)).length then Q (((fnAt f).params.args.map (·.arg)).zip args) σ
     else f = 135 ∧ args.length = 1 ∧ Q (((fnAt f).params.args.map (·.arg)).zip (args ++ [.none])) σ
 | some va, none => ((fnAt f).params.args.map (·.arg)).length ≤ args.length ∧ args.length ≤ lim ∧ newA (.tup (args.drop ((fnAt f).params.args.map (·.arg)).length)) (fun t σ1 => Q (((fnAt f).params.args.map (·.arg)).zip args ++ [(va.arg, t)]) σ1) X σ
 | some va, some ka => ((fnAt f).params.args.map (·.arg)).length ≤ args.length ∧ args.length ≤ lim ∧ newA (.tup (args.drop ((fnAt f).params.args.map (·.arg)).length)) (fun t σ1 => newA (.dict [] 0) (fun d σ2 => Q (((fnAt f).params.args.map (·.arg)).zip args ++ [(va.arg, t), (ka.arg, d)]) σ2) X σ1) X σ
 | _, _ => False
theorem Zj8 : ∀ (ns : List Str) (vs : List Value), (ns.zip vs).map (fun p => (p.1, er p.2)) = ns.zip (vs.map er)
 | [], _ => rfl
 | _ :: _, [] => rfl
 | n :: ns, v :: vs => by rw [List.zip_cons_cons, List.map_cons, Zj8 ns vs, List.map_cons, List.zip_cons_cons]
section
variable {c : Cx} {f : Addr} {fd : FuncData}
theorem Ztc (K : FnIn c.h₀ f fd) (args : List AV) : BindSd c fd args (bindD f args) := by
 intro vals A E Q σ s hv R hm
 refine Oea K.dflt ?_; intro df hdf hD
 have S := K.shape
 have hl : vals.length = args.length := by rw [← hv, List.length_map]
 have hlim : lim ≤ sizeLine := by rw [sizeLine_eq]; refine (?_ : 4000 ≤ _); exact Nat.le_of_ble_eq_true rfl
 have hp : fd.params.posonlyargs = [] := by rw [K.par]; exact S.pos
 have hk : fd.params.kwonlyargs = [] := by rw [K.par]; exact S.kwo
 have hin : ∀ (ns : List Str) (vs : List Value) (p : Str × Value), p ∈ ns.zip vs → p.1 ∈ ns := fun ns vs p hp => (List.of_mem_zip hp).1
 have hb : ∀ n ∈ (fnAt f).params.args.map (·.arg) ++ (fnAt f).params.vararg.toList.map (·.arg) ++ (fnAt f).params.kwarg.toList.map (·.arg), (n, NameKind.local) ∈ fd.scope.names ∨ (n, NameKind.cell) ∈ fd.scope.names := by rw [K.sco]; exact S.binds
 delta bindD at hm
 split at hm
 · rename_i hva hka
   split at hm
   · rename_i hle
     refine Zhp hp hk (by rw [K.par]) S.nd (by exact Nat.le_of_eq (hl.trans hle).symm) (.inl (by exact Nat.le_of_eq (hl.trans hle))) (fun Q E h => hD _ _ _ _ _ R.base h) ?_; rw [K.par, hva, hka]; refine wpAny_pure (Ieaa σ.H R (fun p hp => hb _ ?_) ?_)
     · exact List.mem_append_left _ (List.mem_append_left _ (hin _ _ _ hp))
     · rw [Zj8, hv]; exact hm
   · refine Oaa hm ?_; clear hm; intro e_1; obtain rfl := e_1; intro h1 hm
     refine Oaa (S.dflt rfl) ?_; intro g1 g2 g3; rw [hdf rfl] at hD; obtain ⟨v, rfl⟩ : ∃ v, vals = [v] := by
       rcases vals with _ | ⟨v, _ | ⟨u, r⟩⟩
       · simp at hl; exact (Nat.zero_ne_one (hl.trans h1)).elim
       · exact ⟨v, rfl⟩
       · simp at hl; exact (Nat.succ_ne_zero _ (Nat.succ.inj (hl.trans h1))).elim
     have hns : ∃ n1 n2, (fnAt 135).params.args.map (·.arg) = [n1, n2] := by
       have : ((fnAt 135).params.args.map (·.arg)).length = 2 := by rw [List.length_map]; exact g1
       generalize (fnAt 135).params.args.map (·.arg) = ns at this; rcases ns with _ | ⟨a, _ | ⟨b, _ | ⟨d, r⟩⟩⟩
       · cases this
       · cases this
       · exact ⟨a, b, rfl⟩
       · simp at this
     refine Oee hns ?_; clear hns; intro n1 n2 hns; have hnd := S.nd; rw [hns] at hnd hm hb; refine Zqn (n1 := n1) (n2 := n2) (d := .none) hp hk (by rw [K.par]; exact hns) (fun e => by subst e; simp at hnd) (by rw [K.par]; exact g2) (by rw [K.par]; exact g3) (fun Q E h => hD _ _ _ _ _ R.base h) (Ieaa σ.H R (fun p hp => hb _ (List.mem_append_left _ (List.mem_append_left _ ?_))) ?_)
     · simp only [List.mem_cons, List.not_mem_nil, or_false] at hp
       rcases hp with rfl | rfl <;> simp
     · subst hv; exact hm
 · rename_i va hva hka
   refine Oaa hm ?_; clear hm; intro h1 h2 hm; refine Zhp hp hk (by rw [K.par]) S.nd (by exact q219 hl h1) (.inr (by rw [K.par, hva]; rfl)) (fun Q E h => hD _ _ _ _ _ R.base h) ?_; rw [K.par, hva, hka]; dsimp only; rw [bind_assoc]; delta newTuple; refine wpAny_bind (wpAny_newObj_type ?_ ?hz)
   case hz => refine (?_ : (vals.drop _).toArray.size ≤ sizeLine); rw [List.size_toArray, List.length_drop]; exact q220 hl hlim h1 h2
   have R1 := R.make (ao := .tup (args.drop ((fnAt f).params.args.map (·.arg)).length)) (Zae _) (fun b o e => Heap.get?_push_of_some _ e) (Heap.get?_push_size _ rfl) (Ieeaa ((vals.drop ((fnAt f).params.args.map (·.arg)).length).toArray) 0 rfl (by rw [← hv, List.map_drop]) (by rw [List.length_drop]; exact q221 h1 h2)) R.tok; refine wpAny_bind (wpAny_pure (wpAny_pure (Ieaa _ R1 (fun p hp => hb _ ?_) ?_)))
   · rcases List.mem_append.mp hp with hp | hp
     · exact List.mem_append_left _ (List.mem_append_left _ (hin _ _ _ hp))
     · rcases List.mem_singleton.mp hp with rfl
       refine List.mem_append_left _ (List.mem_append_right _ ?_); rw [hva]; simp
   · rw [List.map_append, Zj8, hv]; exact hm _ (R.H_none (Zae _))
 · rename_i va ka hva hka
   refine Oaa hm ?_; clear hm; intro h1 h2 hm; refine Zhp hp hk (by rw [K.par]) S.nd (by exact q219 hl h1) (.inr (by rw [K.par, hva]; rfl)) (fun Q E h => hD _ _ _ _ _ R.base h) ?_; rw [K.par, hva, hka]; dsimp only; rw [bind_assoc]; delta newTuple; refine wpAny_bind (wpAny_newObj_type ?_ ?hz)
   case hz => refine (?_ : (vals.drop _).toArray.size ≤ sizeLine); rw [List.size_toArray, List.length_drop]; exact q220 hl hlim h1 h2
   have R1 := R.make (ao := .tup (args.drop ((fnAt f).params.args.map (·.arg)).length)) (Zae _) (fun b o e => Heap.get?_push_of_some _ e) (Heap.get?_push_size _ rfl) (Ieeaa ((vals.drop ((fnAt f).params.args.map (·.arg)).length).toArray) 0 rfl (by rw [← hv, List.map_drop]) (by rw [List.length_drop]; exact q221 h1 h2)) R.tok; have hm1 := hm _ (R.H_none (Zae _)); refine wpAny_bind (wpAny_pure (wpAny_bind (wpAny_alloc (wpAny_pure ?_)))); have R2 := R1.make (ao := .dict [] 0) (Zae _) (fun b o e => Heap.get?_push_of_some _ e) (Heap.get?_push_size _ rfl) Zkl R1.tok; refine (Ieaa _ R2 (fun p hp => hb _ ?_) ?_)
   · rw [List.append_assoc] at hp
     rcases List.mem_append.mp hp with hp | hp
     · exact List.mem_append_left _ (List.mem_append_left _ (hin _ _ _ hp))
     · simp only [List.cons_append, List.nil_append, List.mem_cons, List.not_mem_nil, or_false] at hp
       rcases hp with rfl | rfl
       · refine List.mem_append_left _ (List.mem_append_right _ ?_)
         rw [hva]; simp
       · refine List.mem_append_right _ ?_
         rw [hka]; simp
   · rw [List.append_assoc, List.map_append, Zj8, hv]; exact hm1 _ (R1.H_none (Zae _))
 · exact hm.elim
end
noncomputable def stage (scr : Addr) (ns : List Int) : Nat → Par
 | 0 => ⟨fun U U U U => False, scr, ns⟩
 | k + 1 => ⟨fun f args Q H => f ∈ fnTab.map (·.1) ∧ ∀ l, bindD f args (fun bs σ => Body (stage scr ns k) f bs Q σ.H) noX ⟨l, H⟩, scr, ns⟩
section
variable {prog : Program} {w : World} {h₀ : Heap} {scr : Addr} {ns : List Int}
theorem Zjb (hfn : ∀ f ∈ fnTab.map (·.1), ∃ fd, FnIn h₀ f fd) (B : ∀ k, Base prog w h₀ (stage scr ns k)) (k : Nat) : SoundF prog w h₀ (stage scr ns k) k := by
 induction k with
 | zero => exact fun c A g f vals Q σ s U U U U U U U h => h.elim
 | succ k ih =>
   intro c A g f vals Q σ s e1 e2 e3 F W hlv R h; subst e1; subst e2; subst e3; refine Oa h ?_; clear h; intro hf hm; refine Oe (hfn f hf) ?_; intro fd K; refine Oea K.ok.obj ?_; intro o ho hd; refine ⟨(Ieea o fd ho hd), ?_⟩; refine Zta K.ok (B k) F W hlv (Ztc K _) (mb := exs (stage scr ns k) 60 (fnG f) (fnAt f).body) (fun c' A' p1 p2 p3 F' => ?_) rfl R ?_
   · have := (Zh5 (stage scr ns k) k 60 c' A' (fnSE fd.scope) (by rw [p1, p2, p3]; exact B k) (by rw [p1, p2, p3]; exact ih) F').exs (fnAt f).body
     rw [K.sco] at this; exact this
   · have h1 := hm σ.loc
     refine cast (congrArg (fun K => bindD f (vals.map er) K noX ⟨σ.loc, σ.H⟩) ?_) h1
     funext bs σ1
     delta Body
     congr 1
end
section
variable {scr : Addr} {ns : List Int} {k : Nat} {f : Addr} {args : List AV} {Q : AV → AH → Prop} {H : AH}
theorem Zao (hf : (fnTab.map (·.1)).contains f = true) (hva : (fnAt f).params.vararg = none) (hka : (fnAt f).params.kwarg = none) (hn : (fnAt f).params.args.map (·.arg) = nl) (hl : args.length = nl.length) (h : Body (stage scr ns k) f (nl.zip args) Q H) : (stage scr ns (k + 1)).F f args Q H := by
 refine ⟨List.contains_iff_mem.mp hf, fun l => ?_⟩
 delta bindD
 rw [hva, hka]
 dsimp only
 rw [hn, if_pos hl]
 exact h
theorem Zk9 {n1 n2 : Str} {a : AV} (hf : (fnTab.map (·.1)).contains 135 = true) (hva : (fnAt 135).params.vararg = none) (hka : (fnAt 135).params.kwarg = none) (hn : (fnAt 135).params.args.map (·.arg) = [n1, n2]) (h : Body (stage scr ns k) 135 [(n1, a), (n2, .none)] Q H) : (stage scr ns (k + 1)).F 135 [a] Q H := by
 refine ⟨List.contains_iff_mem.mp hf, fun l => ?_⟩
 delta bindD
 rw [hva, hka]
 dsimp only
 rw [hn, if_neg (by simp)]
 exact ⟨rfl, rfl, h⟩
theorem Zf5 {nv : Str} (hf : (fnTab.map (·.1)).contains f = true) (hva : (fnAt f).params.vararg.map (·.arg) = some nv) (hka : (fnAt f).params.kwarg = none) (hn : (fnAt f).params.args.map (·.arg) = nl) (hl : nl.length ≤ args.length) (hm : args.length ≤ lim)
   (h : ∀ t, H t = none → Body (stage scr ns k) f (nl.zip args ++ [(nv, .ref t)]) Q (upd H t (.tup (args.drop nl.length)))) : (stage scr ns (k + 1)).F f args Q H := by
 refine ⟨List.contains_iff_mem.mp hf, fun l => ?_⟩
 delta bindD
 refine Oea (Option.map_eq_some_iff.mp hva) ?_; intro va hva' e_1; obtain rfl := e_1
 rw [hva', hka]
 dsimp only
 rw [hn]
 exact ⟨hl, hm, h⟩
theorem Zk8 {nv nk : Str} (hf : (fnTab.map (·.1)).contains f = true) (hva : (fnAt f).params.vararg.map (·.arg) = some nv) (hka : (fnAt f).params.kwarg.map (·.arg) = some nk) (hn : (fnAt f).params.args.map (·.arg) = nl) (hl : nl.length ≤ args.length) (hm : args.length ≤ lim)
   (h : ∀ t d, H t = none → upd H t (.tup (args.drop nl.length)) d = none → Body (stage scr ns k) f (nl.zip args ++ [(nv, .ref t), (nk, .ref d)]) Q (upd (upd H t (.tup (args.drop nl.length))) d (.dict [] 0))) : (stage scr ns (k + 1)).F f args Q H := by
 refine ⟨List.contains_iff_mem.mp hf, fun l => ?_⟩
 delta bindD
 refine Oea (Option.map_eq_some_iff.mp hva) ?_; intro va hva' e_1; obtain rfl := e_1
 refine Oea (Option.map_eq_some_iff.mp hka) ?_; intro ka hka' e_1; obtain rfl := e_1
 rw [hva', hka']
 dsimp only
 rw [hn]
 exact ⟨hl, hm, fun t ht d hd => h t d ht hd⟩
end
section
variable (scr : Addr) (ns : List Int) (k : Nat)
theorem S28 (u : AV) (v : Str) (Q : AV → AH → Prop) (H : AH) (h : Q (.str "") H) : (stage scr ns (k + 1)).F 28 [u, .str v] Q H :=
 Zao (nl := ["name", "x"]) (by kernel_rfl) (by kernel_rfl) (by kernel_rfl) (by kernel_rfl) rfl (Zuy h)
theorem S35 (n c m : AV) (a kk : Addr) (x : Str) (Q : AV → AH → Prop) (H : AH) (ha : H a = some (.tup [.str x])) (hk : H kk = some (.dict [] 0)) (h : Q (.str x) H) : (stage scr ns (k + 2)).F 35 [n, c, m, .ref a, .ref kk] Q H :=
 Zao (nl := ["name", "cname", "argname", "args", "kwargs"]) (by kernel_rfl) (by kernel_rfl) (by kernel_rfl) (by kernel_rfl) rfl (Zqq ha hk (fun u v Q H h => S28 scr ns k u v Q H h) h)
theorem S42 (p : Str) (Q : AV → AH → Prop) (H : AH) (hl : p.length ≤ 100) (h1 : (Txt.slice p none (some 1) == ("/" : Str)) = true) (h2 : (Txt.slice p (some 1) (some 2) == ("/" : Str)) = false) (h : ∀ a, H a = none → Q (.ref a) (upd H a (.tup [.str "", .str "/", .str (Txt.slice p (some 1) none)]))) : (stage scr ns (k + 1)).F 42 [.str p] Q H :=
 Zao (nl := ["p"]) (by kernel_rfl) (by kernel_rfl) (by kernel_rfl) (by kernel_rfl) rfl (Zjy hl h1 h2 h)
theorem Zsh : (allM.all fun m => decide ((Txt.slice (dirS m) (some 1) none).length ≤ 100) && ((dirS m).length != 0) && decide ((("x" : Str) :: m.map part).length ≤ 10) && decide ((Txt.join "/" (("x" : Str) :: m.map part)).length ≤ 100) && decide (((("x" : Str) :: m.map part).map (·.length)).sum + (("x" : Str) :: m.map part).length ≤ 200) &&
   ((("x" : Str) :: m.map part).all fun c => (c.length != 0) && !(c == ("." : Str)) && !(c == (".." : Str)) && decide (c.length ≤ 10))) = true := by kernel_rfl
theorem S49 (m : Md) (hm : okM m) (Q : AV → AH → Prop) (H : AH) (h : ∀ H', HExt H H' → Q (.str (normS m)) H') : (stage scr ns (k + 2)).F 49 [.str (dirS m)] Q H := by
 refine Oaa (Zui hm) ?_; intro d1 d2 d3
 have := Zjm Zsh hm
 simp only [Bool.and_eq_true, decide_eq_true_eq, List.all_eq_true, Bool.not_eq_true'] at this
 refine Oa this ?_; clear this; intro z_1 a6; (refine Oa z_1 ?_; clear z_1; intro z_1 a5; obtain ⟨⟨⟨a1, a2⟩, a3⟩, a4⟩ := z_1)
 have hd := (Zc0 hm).dir
 refine Zao (nl := ["path"]) (by kernel_rfl) (by kernel_rfl) (by kernel_rfl) (by kernel_rfl) rfl ?_
 exact Zj1 a2 (by exact q212 hd) d1 d2 d3 a1 a3 (fun c hc => ⟨(a6 c hc).1.1.1, (a6 c hc).1.1.2, (a6 c hc).1.2, (a6 c hc).2⟩) a4 a5 (fun Q H h => S42 scr ns k _ Q H (by exact q212 hd) d1 d2 h) h
theorem S56 (m : Md) (hm : okM m) (Q : AV → AH → Prop) (H : AH) (h : ∀ H', HExt H H' → Q (.str (normS m)) H') : (stage scr ns (k + 3)).F 56 [.str (dirS m)] Q H := by
 refine Zk8 (nl := []) (nv := "args") (nk := "kwargs") (by kernel_rfl) (by kernel_rfl) (by kernel_rfl) (by kernel_rfl) (Nat.zero_le _) (Zat (by simp)) fun t d ht hd => ?_
 have htd : t ≠ d := Zag (upd_same _ _ _) hd
 have E0 := (HExt.upd (.tup [.str (dirS m)]) ht).trans (HExt.upd (.dict [] 0) hd)
 exact Zlw (x := dirS m) (y := normS m) (Zaa (upd_same _ _ _) htd) (upd_same _ _ _) (fun n c m' Q hq => S35 scr ns (k) n c m' t d _ Q _ (Zaa (upd_same _ _ _) htd) (upd_same _ _ _) hq) (fun Q H hq => S49 scr ns k m hm Q H hq) fun H' hE => h H' (E0.trans hE)
noncomputable def nfD (s : Str) : Str := ("/" : Str) ++ Txt.join "/" (Txt.split (Txt.slice s (some 1) none) "/").dropLast
theorem Zm7 (hm : okM m) : nfD (dirS m) = normS m := by
 delta nfD normS
 rw [(Zui hm).2.2, List.dropLast_concat]
theorem S69 : Spec69 (stage scr ns (k + 4)) := by
 intro x d mo di ts dl Q H hx hd hmo hdi hok ht hdl h
 have hxd : x ≠ d := by rintro rfl; rw [hx] at hd; cases hd
 refine Zao (nl := ["self", "modules", "dirs"]) (by kernel_rfl) (by kernel_rfl) (by kernel_rfl) (by kernel_rfl) rfl ?_
 refine Zqr (nf := nfD) hx hd hmo hdi ht (by rw [List.length_map]; exact hdl) (fun s hs Q H' hq => ?_) fun H' ms sl ig n dd ep g1 g2 g3 g4 g5 g6 g7 g8 => ?_
 · refine Oea (List.mem_map.mp hs) ?_; intro m hm e_1; obtain rfl := e_1
   exact S56 scr ns k m (hok m hm) Q H' fun H'' hE => by have := hq H'' hE; rw [Zm7 (hok m hm)] at this; exact this
 · have e : (dl.map dirS).map nfD = dl.map normS := by
     rw [List.map_map]; exact List.map_congr_left fun m hm => Zm7 (hok m hm)
   rw [e] at g4; exact h H' ms sl ig ⟨g8 x _ hxd hx, ⟨ep, g1⟩, ⟨n, dd, g3⟩, g4, g2⟩ (Zag hd g7) g8
theorem S98 : Spec98 (stage scr ns (k + 1)) := by
 intro nd x d Q H hx hd hdx h
 refine Oe hd ?_; clear hd; intro o hd
 exact Zao (nl := ["self", "node"]) (by kernel_rfl) (by kernel_rfl) (by kernel_rfl) (by kernel_rfl) rfl (Zlx hx hd hdx h)
theorem S135 : Spec135 (stage scr ns (k + 1)) := fun x d Q H hx hd h =>
 Zk9 (n1 := "self") (n2 := "graph") (by kernel_rfl) (by kernel_rfl) (by kernel_rfl) (by kernel_rfl) (b_TS hx hd h)
theorem S142 : Spec142 (stage scr ns (k + 2)) := fun x d n2 rn p f kk ks ad sd np ch Q H T G hl h =>
 Zao (nl := ["self", "node"]) (by kernel_rfl) (by kernel_rfl) (by kernel_rfl) (by kernel_rfl) rfl (Zuz (S98 scr ns k) T G hl h)
theorem S168 : Spec168 (stage scr ns (k + 1)) := fun x d n2 rl rs p f ks ad sd np ch Q H S h =>
 Zao (nl := ["self"]) (by kernel_rfl) (by kernel_rfl) (by kernel_rfl) (by kernel_rfl) rfl (Zjz S h)
theorem S161 : Spec161 (stage scr ns (k + 1)) := fun x d n2 rl rs p f ks ad sd np ch Q H S hr h =>
 Zao (nl := ["self"]) (by kernel_rfl) (by kernel_rfl) (by kernel_rfl) (by kernel_rfl) rfl (Zj0 S hr h)
theorem S76 : Spec76 (stage scr ns (k + 1)) := fun x d ms dl ig ts ds igs fn m Q H R h1 h2 h3 h4 h5 h6 =>
 Zao (nl := ["self", "filename", "modulename"]) (by kernel_rfl) (by kernel_rfl) (by kernel_rfl) (by kernel_rfl) rfl (Ztf R h1 h2 h3 h4 h5 h6)
theorem S239 : Spec239 (stage scr ns (k + 1)) := fun m t ns' Q H h1 h2 h3 h4 h5 =>
 Zao (nl := ["module", "told"]) (by kernel_rfl) (by kernel_rfl) (by kernel_rfl) (by kernel_rfl) rfl (Ztg h1 h2 h3 h4 h5)
theorem S210 : Spec210 (stage scr ns (k + 1)) := fun e a es as Q H h1 h2 h3 h4 h5 h6 h7 =>
 Zao (nl := ["expected", "actual"]) (by kernel_rfl) (by kernel_rfl) (by kernel_rfl) (by kernel_rfl) rfl (Zv5 h1 h2 h3 h4 h5 h6 h7)
theorem S217 : Spec217 (stage scr ns (k + 1)) := fun e a es as Q H h1 h2 h3 h4 h5 =>
 Zao (nl := ["expected", "actual"]) (by kernel_rfl) (by kernel_rfl) (by kernel_rfl) (by kernel_rfl) rfl (Zv4 h1 h2 h3 h4 h5)
theorem S222 : Spec222 (stage scr ns (k + 1)) := fun na ns' Q H h1 h2 h3 =>
 Zao (nl := ["numbers"]) (by kernel_rfl) (by kernel_rfl) (by kernel_rfl) (by kernel_rfl) rfl (Zog h1 h2 h3)
theorem S234 : Spec234 (stage scr ns (k + 2)) := fun x d sm sl ig oa ts ds os Q H R h1 h2 h3 h4 h5 h6 h7 h8 =>
 Zao (nl := ["reader", "order"]) (by kernel_rfl) (by kernel_rfl) (by kernel_rfl) (by kernel_rfl) rfl (Zux (ep0 := 0) (S76 scr ns k) R h1 h2 h3 h4 h5 h6 h7 h8)
theorem S149 : Spec149 (stage scr ns (k + 3)) := by
 intro x d n2 p f m po ks ad sd np ch Q H T G hl hc h
 refine Zf5 (nl := ["self", "node"]) (nv := "predecessors") (by kernel_rfl) (by kernel_rfl) (by kernel_rfl) (by kernel_rfl) (by simp) (Zat (by cases po <;> simp)) fun t ht => ?_
 have E := HExt.upd (.tup (po.toList.map .str)) ht
 refine Zv8 (tp := t) (S142 scr ns k) ⟨E _ _ T.hx, Oe (T.hd) fun ep e => ⟨ep, E _ _ e⟩, T.ne⟩ (G.ext E) hl (upd_same _ _ _) hc fun H' ad' sd' G' g' => h H' ad' sd' G' ⟨g'.old, fun k h1 h2 => ⟨E.none (g'.new k h1 h2).1, E.none (g'.new k h1 h2).2⟩, fun b o hb h1 h2 => g'.fr b o (E _ _ hb) h1 h2⟩
theorem S154 : Spec154 (stage scr ns (k + 2)) := by
 intro x d n2 p f ks ad sd np ch dep Q H T G hl hc hd h
 refine Zao (nl := ["self"]) (by kernel_rfl) (by kernel_rfl) (by kernel_rfl) (by kernel_rfl) rfl (Zof T G hl (fun rl H' T' G' Q' hq => ?_) h)
 exact Zao (nl := ["self"]) (by kernel_rfl) (by kernel_rfl) (by kernel_rfl) (by kernel_rfl) rfl (Zu0 T' G' hc hd hl hq)
theorem S182 : Spec182 (stage scr ns (k + 1)) := by
 intro x d n2 rl rs nl p f ks ad sd np ch Q H S h1 h2 h3 h4 h5 h6 h7
 refine Zf5 (nl := ["self"]) (nv := "nodes") (by kernel_rfl) (by kernel_rfl) (by kernel_rfl) (by kernel_rfl) (by simp) (Zat (by simp; exact qL h6 rfl)) fun t ht => ?_
 have E := HExt.upd (.tup (nl.map .str)) ht
 exact Zu1 (tn := t) (S.ext E) (upd_same _ _ _) h1 h2 h3 h4 h5 fun H' S' f' => h7 H' S' fun b o hs hb => f' b o hs (E _ _ hb)
theorem S229 : Spec229 (stage scr ns (k + 4)) := fun mo ms Q H M h1 h2 =>
 Zao (nl := ["modules"]) (by kernel_rfl) (by kernel_rfl) (by kernel_rfl) (by kernel_rfl) rfl (Zqp M h1 (S135 scr ns (k + 2)) (S149 scr ns k) (S154 scr ns (k + 1)) (S168 scr ns (k + 2)) (S161 scr ns (k + 2)) (S182 scr ns (k + 2)) h2)
theorem Zpt (hs : H scr = none) (Q : AV → AH → Prop) (hQ : ∀ H', Q (.bool true) H') : Body (stage scr ns 4) 244 [("script", .ref scr)] Q H :=
 Zv6 (P := stage scr ns 4) hs (S222 scr ns 3) (S229 scr ns 0) (S69 scr ns 0) (S234 scr ns 2) (S239 scr ns 3) (S210 scr ns 3) (S217 scr ns 3) hQ
end
theorem Ztd {h : Heap} {scr : Addr} {vs : List Value} {mb : Str → Option Value} (b : baseB h₀ = true) (keeps : ∀ b o, h₀.get? b = some o → h.get? b = some o) (hb : h.Ns builtinsNs mb) (hbb : ∀ x : Str, x ≠ "__name__" → mb x = bootBuiltins x) (hl : h.NoLimit)
   (hL : h.IsList scr vs.toArray) (hI : IntsAre vs ns) (hn : ns.length ≤ 4000) (k : Nat) : Base prog w h (stage scr ns k) := by
 have c1 := Bool.and_eq_true_iff.mp (Bool.and_eq_true_iff.mp b).1
 have b7 := c1.2
 have c2 := Bool.and_eq_true_iff.mp c1.1
 have b6 := c2.2
 have c3 := Bool.and_eq_true_iff.mp c2.1
 have b5 := List.all_eq_true.mp c3.2
 have c4 := Bool.and_eq_true_iff.mp c3.1
 have b4 := List.all_eq_true.mp c4.2
 have c5 := Bool.and_eq_true_iff.mp c4.1
 have b3 := List.all_eq_true.mp c5.2
 have b1 := (Bool.and_eq_true_iff.mp c5.1).1
 clear b c1 c2 c3 c4 c5
 have hscr : (stage scr ns k).scr = scr := by cases k <;> rfl
 have hns : (stage scr ns k).ns = ns := by cases k <;> rfl
 refine ⟨(Ieeaaaa (h₀.nsMap mainGlobals) mb ((Heap.Ns.of_isNs b7).keeps keeps) hb (fun x v hx => ?_) hbb (fun x hx => ?_)), hl, (Iea _ ((Znx h₀).keeps keeps) (Zr8 b1)), ?_, fun a ha => ?_, (Ieaa vs (by rw [hscr]; exact hL) (by rw [hns]; exact hI) (by rw [hns]; exact hn))⟩
 · unfold glob at hx
   refine Oea (Option.map_eq_some_iff.mp hx) ?_; intro p hp e_1; obtain rfl := e_1; have hq := List.find?_some hp; have := b3 p (List.mem_of_find?_eq_some hp); rw [beq_iff_eq] at hq; subst hq
   split at this
   · rename_i u hu
     exact Iea u (of_decide_eq_true this) (.inl hu)
   · rename_i hu
     refine Oa (Bool.and_eq_true_iff.mp this) ?_; intro h1 h2; rw [bne_iff_ne] at h2
     split at h1
     · rename_i u hq
       exact Iea u (of_decide_eq_true h1) (.inr ⟨hu, (hbb _ h2).trans hq⟩)
     · exact Zai h1
 · have : ∃ y ∈ ["IndexError", "StopIteration", "ValueError"], x = Str.ofString y := by
     simp only [List.mem_cons, List.not_mem_nil, or_false] at hx; rcases hx with rfl | rfl | rfl
     · exact Iea _ (by simp) rfl
     · exact Iea ("StopIteration") (by simp) rfl
     · exact Iea ("ValueError") (by simp) rfl
   refine Oea this ?_; clear this; intro y hy e_1; obtain rfl := e_1; exact Option.isNone_iff_eq_none.mp (b4 y hy)
 · refine Oe (Option.isSome_iff_exists.mp b6) ?_; intro o ho
   exact ⟨o, keeps _ _ ho⟩
 · have key : ∀ f ∈ [28, 35, 42, 49, 56, 210, 217, 222, 229, 234, 239, 79, 199, 102], a ≠ f := fun f hf e => by
     subst e; refine Oe (Option.isSome_iff_exists.mp (b5 a hf)) ?_; intro o ho; rw [keeps _ _ ho] at ha; exact Zab (Eq.symm ha)
   constructor
   · delta initOf
     rw [if_neg (key 79 (by simp)), if_neg (key 199 (by simp)), if_neg (key 102 (by simp))]
   · delta isFnA
     rw [Bool.eq_false_iff]; intro h; have hm := List.contains_iff_mem.mp h; exact key a (List.mem_append_left [79, 199, 102] hm) rfl
theorem FnIn.keeps {h : Heap} {f : Addr} (K : FnIn h f fd) (k : ∀ b o, h.get? b = some o → h'.get? b = some o) : FnIn h' f fd :=
 ⟨{ K.ok with obj := Oea (K.ok.obj) fun o ho hd => (Iea o (k _ _ ho) hd), code := K.ok.code.keeps k }, K.par, K.sco, K.shape, Oea (K.dflt) fun df h1 h2 => (Iea df h1 (fun M A s Q E up hq => h2 M A s Q E (fun b o e => up b o (k b o e)) hq))⟩
theorem Zqo {h : Heap} (b : baseB h = true) : h.nsMap mainGlobals (Str.ofString "law") = some (.ref 244) := beq_iff_eq.mp (Bool.and_eq_true_iff.mp b).2
theorem Zte {h : Heap} (b : baseB h = true) : h.isNs mainGlobals = true := (Bool.and_eq_true_iff.mp (Bool.and_eq_true_iff.mp b).1).2
theorem Zur {h : Heap} (b : baseB h₀ = true) (hv : (fnTab.map fun p => fnSeen h₀ p.1) = fnTab.map fun p => some ((fnAt p.1).params, .stmts (fnAt p.1).body, (fnAt p.1).scope)) (keeps : ∀ b o, h₀.get? b = some o → h.get? b = some o) : ∀ f ∈ fnTab.map (·.1), ∃ fd, FnIn h f fd := by
 intro f hf
 delta baseB at b
 simp only [Bool.and_eq_true, List.all_eq_true] at b
 refine Oa b ?_; clear b; intro z_1 b8; (refine Oa z_1 ?_; clear z_1; intro z_1 b7; obtain ⟨⟨⟨⟨⟨b1, b2⟩, b3⟩, b4⟩, b5⟩, b6⟩ := z_1)
 refine Oea (List.mem_map.mp hf) ?_; intro p hp e_1; obtain rfl := e_1
 refine Oe (Zv0 hf (b2 p hp) (Zgc (γ := Unit) hv p hp)) ?_; intro fd K
 exact ⟨fd, K.keeps keeps⟩
theorem Zr7 {f : Addr} (K : FnOk s.heap f fd body) (hg : s.gens = #[]) (tp : 0 < s'.toks)
   (x : InCallC s (fnEnv fd f s.heap.objs.size).locals (bindL (fnEnv fd f s.heap.objs.size).kindOf binds fun U => none) (fnEnv fd f s.heap.objs.size).cells (bindC (fnEnv fd f s.heap.objs.size).kindOf binds fun U => none) s') :
   Rel prog w s.heap s.os [fnEnv fd f s.heap.objs.size] [] [] (fnEnv fd f s.heap.objs.size) (ownNames fd.scope) ⟨locOf (binds.map fun p => (p.1, er p.2)) fun U => none, fun U => none⟩ s' := by
 obtain ⟨x1, x2, x3, x4⟩ := x
 refine Oee x1.same ?_; intro h' tk e_1; obtain rfl := e_1
 have up := x1.keep
 have fresh : ∀ a, s.heap.objs.size ≤ a → s.heap.get? a = none := fun a ha => Heap.get?_none_of_le ha
 refine { base := up, objs := fun a ao e => (nomatch e), hidk := fun p hp => (nomatch hp), hfrk := fun p hp => (nomatch hp), fsk := ?_, loc := ?_, cel := ?_, hfd := fun e U p hp => (nomatch hp), lnew := ⟨Nat.le_refl _, rfl, fun h => (nomatch h), fun h => (nomatch h)⟩, wrs := ?_, gens := hg, os := rfl, tok := tp }
 · intro e he
   rcases List.mem_singleton.mp he with rfl
   refine Oeeeaa x1.ns ?_; intro o es ep ho hd U; refine (Iaeeaaaae ?_ s.heap.objs.size o rfl (Zae _) rfl ho _ (Ie _ hd)); refine (?_ : fd.scope.kind ≠ .module); rw [K.kind]; decide
 · exact Iea _ x1.ns (fun y hy => Zds (kind := (fnEnv fd f s.heap.objs.size).kindOf) hy binds _ _ rfl)
 · intro y k hy hc
   have hy' : fd.scope.names.lookup y = some k := hy; rcases hc with rfl | rfl
   · refine Oe (Za7 fd.scope.names (s.heap.objs.size + 1) (Za1 hy')) ?_; intro a ha
     refine Oe (Zas ha) ?_; intro b hb; have hlt : s.heap.objs.size < b := x4 _ _ (Zar hb); exact Ieeaaaa b _ hb (x2 y b hb) (Zen (kind := (fnEnv fd f s.heap.objs.size).kindOf) hy binds _ _ rfl) rfl (Nat.ne_of_gt hlt)
   · exact absurd rfl (K.free _ (Za1 hy'))
 · intro y hy
   have hy' := Zbn.mp hy; rcases hy'.1 with h | h
   · exact .inl (Zaf K.nd h)
   · refine .inr ⟨Zaf K.nd h, fun a ha => ?_⟩
     have hm := Zar ha; have hlt : s.heap.objs.size < a := x4 _ _ hm; exact ⟨fresh a (Nat.le_of_lt hlt), fun q => (nomatch q), fun q => (nomatch q), fun z hz q => hz (name_of_addr x3 (Zar q) hm)⟩
theorem Zqj {scr : Addr} {R : Result → Shared → Prop} (hfn : ∀ f ∈ fnTab.map (·.1), ∃ fd, FnIn s.heap f fd) (B : ∀ k, Base prog w s.heap (stage scr ns k)) (hg : s.gens = #[]) (tp : 0 < s.toks)
   (h : ∀ s', (∀ b o, s.heap.get? b = some o → s'.heap.get? b = some o) → s'.os = s.os → s'.gens = #[] → R (.ok (.ret (.bool true))) s') :
   codeAny (model prog w) callerA (.call (.ref 244) ⟨[.ref scr], []⟩) R s := by
 refine Oe (hfn 244 (List.contains_iff_mem.mp (by kernel_rfl))) ?_; intro fd K
 refine Oea K.ok.obj ?_; intro o ho hdat
 refine Oea K.dflt ?_; intro df U hD
 have S := K.shape
 have hns : (fnAt 244).params.args.map (·.arg) = ([("script" : Str)] : List Str) := by kernel_rfl
 have hva : (fnAt 244).params.vararg = none := by kernel_rfl
 have hka : (fnAt 244).params.kwarg = none := by kernel_rfl
 have hsc : ((("script" : Str), NameKind.local) ∈ (fnAt 244).scope.names ∨ (("script" : Str), NameKind.cell) ∈ (fnAt 244).scope.names) := S.binds _ (List.mem_append_left _ (List.mem_append_left _ (by rw [hns]; exact .head _)))
 refine codeAny_call_function (by simp only [recursionLimit]; decide) ho hdat K.ok.co K.ok.gen K.ok.body K.ok.code ?_
 refine Zhp (ns := ["script"]) (df := df) (by rw [K.par]; exact S.pos) (by rw [K.par]; exact S.kwo) (by rw [K.par]; exact hns) (by simp) (by simp) (.inl (by simp)) (fun Q E hq => hD _ _ _ _ _ (fun U U e => e) hq) ?_
 rw [K.par, hva, hka]
 refine wpAny_pure ?_
 rw [K.ok.clo]
 refine wpAny_with_toks (n := s.toks) (Nat.le_refl _) ?_
 refine wpAny_newFunctionEnv_cells K.ok.kind (fun y hy => ?_) fun env he s2 x tk => ?_
 · have : y = (("script" : Str), .ref scr) := by simpa using hy
   subst this; rcases hsc with h | h
   · exact .inl (Zaf K.ok.nd (by rw [K.sco]; exact h))
   · rw [← K.sco] at h
     refine Oe (Za7 fd.scope.names (s.heap.objs.size + 1) h) ?_; intro a ha; refine Oe (Zas ha) ?_; intro b hb; exact .inr ⟨Zaf K.ok.nd h, by rw [hb]; rfl⟩
 · subst he
   have R2 := Zr7 (prog := prog) (w := w) K.ok hg (Nat.lt_of_lt_of_le tp tk) x; refine ⟨(B 0).lim.keeps x.toInCall.keep, codeAny_func ?_⟩; have F : Fit ⟨prog, w, s.heap, s.os, [fnEnv fd 244 s.heap.objs.size], [], [], fnEnv fd 244 s.heap.objs.size, ownNames fd.scope, 0⟩ 5 (fnSE fd.scope) (callerA.deeper (fnEnv fd 244 s.heap.objs.size)) := {
     frames := rfl
     depth := by refine (?_ : 1 + claimMargin + 1 + 20 < 600); decide
     units := by refine (?_ : 4 + 3 + 150 + 60 < cLine); decide
     lv := rfl
     le := by refine (?_ : 0 ≤ 3); decide
     calm := fun U => rfl
     held := fun h => nomatch h
     sc := rfl
     kind := K.ok.kind
     glob := K.ok.glob
     blt := K.ok.blt
     wr := rfl
     fr := ⟨_, rfl⟩
     nm := K.ok.nm
     top := fun U => (Iea [] rfl rfl) }
   have S4 := (Zh5 (stage scr ns 4) 4 60 _ _ _ (B 4) (Zjb hfn B 4) F).exs (fnAt 244).body; have hb := Zpt scr ns (H := fun U => none) rfl (fun v U => v = .bool true) (fun U => rfl); unfold Body at hb; refine wpAny_mono (S4 _ noX _ s2 (fun U U U h => h) R2 (by rw [K.sco]; exact hb)) (fun fw s3 h3 => ?_) fun U U h => h.none.elim; refine Oea h3 ?_; clear h3; intro σ3 R3 h3; cases fw with
   | ret v =>
     have hv : er v = .bool true := h3; rw [Zs7 hv]; exact h s3 R3.base R3.os R3.gens
   | next => cases h3
   | brk => exact h3.elim
   | cont => exact h3.elim
set_option maxHeartbeats 8000000
noncomputable def dLaw : DefRec := ((defOf vw "law").getD (⟨"law", ⟨[], [], none, [], [], none, []⟩, [], ⟨.function, [], false, false, []⟩, default⟩, [])).1
theorem claim : PySem.Challenge.rw_oy0320_01.Holds := by
 refine holds_law (by kernel_rfl) fun said => ?_
 refine holds_openX (q := vw) (loose := ["_NodeInfo"]) (Xt := fun s => xlAt vw [] s && recOk (RowW.records PySem.Challenge.rw_oy0320_01.row.toRowW) s) (XP := XL vw []) (Yf := obs) (Ya := fun U => obsE) (N := 3550) (d := dLaw) (kwd := []) left0 (fun s e => xl_of s (Bool.and_eq_true_iff.mp e).1) XL.keeps (by kernel_rfl) (by kernel_rfl) (by kernel_rfl) (fun s e => recFacts_of (Bool.and_eq_true_iff.mp e).2) (by rfl) (by assumption) (by decide +kernel) ⟨rfl, rfl, rfl, rfl, rfl, by decide +kernel⟩ ?hw ?hc
 case hw => w_witness2
 case hc =>
   intro w s₀ s₁ mg mb G Y a o pm cd doc dV kV h1 h2 h3 h4 h5 hg args vals as L hpre hlay hR hW hlow; clear h1 h2 h3 h4; have keeps := L.keeps; have hnm : dLaw.name = "law" := by kernel_rfl
   rw [hnm] at h5; have Y1 : (baseB s₀.heap && decide (0 < s₀.toks)) = true := congrArg Prod.fst Y; have Y2 : (fnTab.map fun p => fnSeen s₀.heap p.1) = fnTab.map fun p => some ((fnAt p.1).params, .stmts (fnAt p.1).body, (fnAt p.1).scope) := congrArg Prod.snd Y; clear Y
   wrow_args hpre hlay hR hW hlow
   rename_i ns hs hlay0 hL1 hr1 hl2 as4 as3 scr vs as0 hL ra w1 r0 hI hr hc1 hc2
   refine Oa (Bool.and_eq_true_iff.mp Y1) ?_; intro Y0 Y3; have e244 := Zqo Y0; have hg0 := (Heap.Ns.of_isNs (Zte Y0)).keeps keeps; have T := G.T; have ha : a = 244 := by
     refine Oeeeaaa hg0 ?_; clear hg0; intro o1 es1 ep1 ho1 hd1 U hf1; refine Oeeeaaa T.g ?_; intro o2 es2 ep2 ho2 hd2 U hf2; rw [ho1] at ho2; cases ho2; rw [hd1] at hd2; cases hd2; have := (hf1 (Str.ofString "law")).symm.trans (hf2 (Str.ofString "law")); rw [e244] at this; have h6 := this.trans h5; cases h6; rfl
   subst ha; have tk := PySem.W.X.script_toks L rfl; have tp : 0 < s₁.toks := Nat.lt_of_lt_of_le (of_decide_eq_true Y3) tk; have hfn := Zur Y0 Y2 keeps; have B := fun k => Ztd (prog := PySem.Challenge.rw_oy0320_01.row.prog) (w := w) (scr := scr) (ns := ns) Y0 keeps T.b T.builtins T.nolimit hL hI (by omega) k; refine enter_call (Zqj hfn B hg tp fun s' k1 k2 k3 => ?_); clear B hfn Y0 Y1 Y2; refine GoodW.toG ⟨.inl ⟨.bool true, .bool true, [], rfl, fun cls => ?_, .bool _, ?_, fun U => ⟨.nil, fun a ha => (nomatch ha)⟩⟩, k1, k2, k3⟩
   · first | rfl | kernel_rfl | (cases cls <;> first | rfl | kernel_rfl)
   · first | rfl | kernel_rfl
end Mine
theorem PySem.Challenge.cw_oy0320_01_holds : PySem.Challenge.rw_oy0320_01.Holds := by
 exact Mine.claim
