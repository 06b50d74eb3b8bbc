import PyProof.Rows.All
import Wide.All
import OpenK.AllK
import Wide.FinOn
import PySem.Challenge.RW_xj0013_01
set_option linter.all false
set_option Elab.async false
set_option maxRecDepth 100000
set_option maxHeartbeats 8000000

section
open PySem PySem.W PyProof.Rows
set_option maxHeartbeats 8000000
namespace Mine
local macro_rules | `(tactic| o_head $_) => `(tactic| exact False.elim (by assumption))
/-- it makes the heap's constant hd.heap_1 alone -/
theorem hd (hno : False) : PySem.Challenge.rw_xj0013_01.Holds := by
  w_on
  refine holds_law (False.elim hno) fun said => ?_
  k_head
noncomputable abbrev HH : Hook := kmHook hd.heap_1 [2, 3, 15, 17, 18, 20, 21, 22, 25, 30, 31, 32, 34, 35, 37, 38, 39, 41, 42, 44, 45, 46, 47, 49, 50, 52, 53, 54, 55, 57, 58, 60, 61, 62, 64, 65, 67, 68, 69, 71, 72, 74, 75, 76, 77, 79, 80, 82, 83, 84, 86, 87, 89, 90, 91, 92, 94, 95, 97, 98, 99, 100, 101, 102, 103, 113, 115, 116, 118, 119, 120, 122, 123, 125, 126, 127, 129, 130, 132, 133, 134, 136, 137, 139, 140, 141, 142, 143, 144, 145, 148, 150, 151, 153, 154, 155, 157, 158, 160, 161, 162, 164, 165, 167, 168, 169, 171, 172, 174, 175, 176, 178, 179, 181, 182, 183, 185, 186, 188, 189, 190, 192, 193, 195, 196, 197, 199, 200, 202, 203, 204, 206, 207, 209, 210, 211, 214, 215, 216, 219, 220, 221, 224, 225] (fun _ => by kernel_rfl) [63, 70, 184]
end Mine
end

section
namespace Mine
theorem sh {a b n k m : Nat} (h : a + n < b) (e : k + m ≤ n) : a + k + m < b := Nat.lt_of_le_of_lt (Nat.add_assoc a k m ▸ Nat.add_le_add_left e a) h
theorem sh2 {a b n m : Nat} (h : a + n < b) (e : m ≤ n) : a + m < b := Nat.lt_of_le_of_lt (Nat.add_le_add_left e a) h
theorem half2 (a : Nat) : ∃ (q : Nat) (r : Fin 2), a = 2 * q + r.1 := ⟨a / 2, ⟨a % 2, Nat.mod_lt _ (by decide)⟩, (Nat.div_add_mod a 2).symm⟩
theorem adder {a0 a1 a2 a3 : Nat} (e : a0 % 2 + 2 * (a1 % 2) = a2 % 2 + a3 % 2) (h : a0 / 2 + 2 * (a1 / 2) = a2 / 2 + a3 / 2) : a0 + 2 * a1 = a2 + a3 := by
  rw [← Nat.div_add_mod a0 2, ← Nat.div_add_mod a1 2, ← Nat.div_add_mod a2 2, ← Nat.div_add_mod a3 2]
  generalize a0 / 2 = x0 at *; generalize a1 / 2 = x1 at *; generalize a2 / 2 = x2 at *; generalize a3 / 2 = x3 at *
  generalize a0 % 2 = r0 at *; generalize a1 % 2 = r1 at *; generalize a2 % 2 = r2 at *; generalize a3 % 2 = r3 at *
  lia
theorem om1 {a0 : Int} (h0 : ((0 : Int) ≤ a0)) (h1 : ((a0 : Int) < (2 * 2))) : (((0 : Int) ≤ (a0 / 2)) ∧ (((a0 / 2) : Int) ≤ 1)) := ⟨Int.ediv_nonneg h0 (by decide), Int.le_of_lt_add_one (Int.ediv_lt_of_lt_mul (by decide) h1)⟩
theorem om2 {a0 : Int} (h0 : ((0 : Int) ≤ a0)) (h1 : ((a0 : Int) < (2 * 4))) : (((0 : Int) ≤ (a0 / 4)) ∧ (((a0 / 4) : Int) ≤ 1)) := ⟨Int.ediv_nonneg h0 (by decide), Int.le_of_lt_add_one (Int.ediv_lt_of_lt_mul (by decide) h1)⟩
theorem om3 {a0 : Nat} {a1 : Nat} (h0 : (((a0 + ((0 + 2) * 4)) : Nat) < a1)) : (((a0 + 1) : Nat) < a1) := sh2 h0 (by decide)
theorem om4 {a0 : Nat} : (¬ (((a0 + 1) : Nat) = a0)) := by first | lia | omega
theorem om5 {a0 : Nat} (h0 : ((a0 : Nat) < 1000)) : ((a0 : Nat) ≤ 16777216) := by first | lia | omega
theorem om6 {a0 : Nat} (h0 : ((a0 : Nat) < 1000)) : ((a0 : Nat) ≤ 16777217) := by first | lia | omega
theorem om7 {a0 : Nat} : (((Int.toNat ((-1) + ((((a0 + 1) : Nat) : Int)))) : Nat) = a0) := (congrArg Int.toNat (Int.add_comm (-1) _)).trans (congrArg Int.toNat (Int.add_sub_cancel (a0 : Int) 1))
theorem om8 {a0 : Nat} : (((0 : Int) ≤ ((-1) + ((((a0 : Nat) : Int)) + 1))) ∧ ((((-1) + ((((a0 : Nat) : Int)) + 1)) : Int) < ((((a0 : Nat) : Int)) + 1))) := by first | lia | omega
theorem om9 {a0 : Nat} : (¬ ((((((a0 : Nat) : Int)) + 1) : Int) = 0)) := by first | (rcases ‹_ ∨ _› with h | h <;> subst h <;> first | decide | lia | omega) | omega
theorem om10 {a0 : Nat} {a1 : Nat} (h0 : (((a0 + ((1 + 2) * 12)) : Nat) < a1)) : ((((a0 + 3) + ((0 + 2) * 12)) : Nat) < a1) := sh h0 (by decide)
theorem om11 {a0 : Nat} {a1 : Nat} (h0 : (((a0 + ((1 + 2) * 4)) : Nat) < a1)) : ((((a0 + 1) + ((0 + 2) * 4)) : Nat) < a1) := by first | lia | omega
theorem om12 {a0 : Nat} {a1 : Nat} (h0 : (((a0 + ((1 + 2) * 4)) : Nat) < a1)) : ((a0 : Nat) < a1) := by first | exact Nat.lt_of_le_of_lt (Nat.le_add_right _ _) (by assumption) | omega
theorem om13 {a0 : Nat} {a1 : Nat} (h0 : (((a0 + ((0 + 2) * 4)) : Nat) < a1)) : ((a0 : Nat) < a1) := by first | exact Nat.lt_of_le_of_lt (Nat.le_add_right _ _) (by assumption) | omega
theorem om14 {a0 : Nat} {a1 : Nat} (h0 : ((a0 : Nat) < 1000)) : (((min a1 a0) : Nat) ≤ 16777217) := Nat.le_trans (Nat.min_le_right _ _) (Nat.le_trans (Nat.le_of_lt h0) (by decide))
theorem om15 {a0 : Nat} {a1 : Nat} (h0 : ((a0 : Nat) < 1000)) : ((a0 : Nat) ≤ (16777216 + a1)) := Nat.le_trans (Nat.le_trans (Nat.le_of_lt h0) (by decide)) (Nat.le_add_right _ _)
theorem om16 {a0 : Nat} {a1 : Nat} (h0 : ((a0 : Nat) ≤ a1)) : (((Int.toNat (max (((a0 : Nat) : Int)) (((a1 : Nat) : Int)))) : Nat) = a1) := congrArg Int.toNat (Int.max_eq_right (Int.ofNat_le.mpr h0))
theorem om17 {a0 : Nat} {a1 : Nat} (h0 : ((a0 : Nat) ≤ a1)) : (((max 0 (min (((a0 : Nat) : Int)) (((a1 : Nat) : Int)))) : Int) = (((a0 : Nat) : Int))) := by rw [Int.min_eq_left (Int.ofNat_le.mpr h0), Int.max_eq_right (Int.natCast_nonneg _)]
theorem om18 {a0 : Nat} {a1 : Nat} (h0 : ((a0 : Nat) ≤ a1)) : (¬ (((((a0 : Nat) : Int)) : Int) < 0)) := by first | lia | omega
theorem om20 {a0 : Nat} {a1 : Nat} {a2 : Nat} : ((((((a0 : Nat) : Int)) + ((((a1 + a2) : Nat) : Int))) : Int) = ((((a0 + ((a1 + a2) + 0)) : Nat) : Int))) := by first | ac_rfl | omega
theorem om21 {a0 : Nat} {a1 : Nat} (h0 : (((a0 + 1) : Nat) ≤ a1)) : ((a0 : Nat) < a1) := by first | assumption | omega
theorem om22 {a0 : Nat} {a1 : Nat} (h0 : (((a0 + 1) : Nat) ≤ a1)) : ((a0 : Nat) ≤ a1) := by first | exact Nat.le_of_lt (by assumption) | omega
theorem om23 {a0 : Nat} {a1 : Nat} (h0 : ((a0 : Nat) ≤ 100)) (h1 : ((a1 : Nat) ≤ (a0 * 2000))) : (((a1 + a0) : Nat) ≤ 1048576) := Nat.le_trans (Nat.add_le_add (Nat.le_trans h1 (Nat.mul_le_mul_right 2000 h0)) h0) (by decide)
theorem om24 {a0 : Nat} {a1 : Nat} {a2 : Nat} (h0 : ((a0 : Nat) = a1)) (h1 : (¬ ((a2 : Nat) < a0))) : ((a1 : Nat) ≤ a2) := h0 ▸ Nat.le_of_not_lt h1
theorem om25 {a0 : Nat} {a1 : Nat} (h0 : (((a0 : Nat) ≤ 1000) ∧ ((a1 : Nat) ≤ 1000))) : ((((a0 + (a1 + 0)) + (((0 + 1) + 1) * 0)) : Nat) ≤ 16777216) := (show a0 + a1 ≤ 16777216 from Nat.le_trans (m := 1000 + 1000) (Nat.add_le_add h0.1 h0.2) (by decide))
theorem om26 {a0 : Nat} {a1 : Nat} {a2 : Nat} {a3 : Nat} (h0 : (((a0 : Nat) ≤ 1000) ∧ ((a1 : Nat) ≤ 1000))) (h1 : ((a2 : Nat) ≤ (a3 * 2000))) : ((((a0 + a1) + a2) : Nat) ≤ ((a3 + 1) * 2000)) := Nat.le_trans (Nat.add_le_add (Nat.add_le_add h0.1 h0.2) h1) (Nat.le_of_eq ((Nat.add_comm _ _).trans (Nat.succ_mul a3 2000).symm))
theorem om27 {a0 : Nat} {a1 : Nat} {a2 : Nat} {a3 : Nat} {a4 : Nat} {a5 : Nat} {a6 : Nat} (h0 : ((a0 : Nat) < a1)) (h1 : ((a1 : Nat) < a2)) (h2 : ((a2 : Nat) < a3)) (h3 : ((a3 : Nat) < a4)) (h4 : ((a4 : Nat) < a5)) (h5 : ((a5 : Nat) < a6)) : ((a0 : Nat) ≤ a6) := Nat.le_of_lt (Nat.lt_trans h0 (Nat.lt_trans h1 (Nat.lt_trans h2 (Nat.lt_trans h3 (Nat.lt_trans h4 h5)))))
theorem om28 {a0 : Nat} {a1 : Nat} {a2 : Nat} {a3 : Nat} {a4 : Nat} {a5 : Nat} {a6 : Nat} {a7 : Nat} {a8 : Nat} (h0 : ((a0 : Nat) < a1)) (h1 : ((a1 : Nat) < a2)) (h2 : ((a2 : Nat) < a3)) (h3 : ((a3 : Nat) < a4)) (h4 : ((a4 : Nat) < a5)) (h5 : ((a5 : Nat) < a6)) (h6 : ((a6 : Nat) < a7)) (h7 : ((a7 : Nat) < a8)) : ((a0 : Nat) ≤ a8) := Nat.le_of_lt (Nat.lt_trans h0 (Nat.lt_trans h1 (Nat.lt_trans h2 (Nat.lt_trans h3 (Nat.lt_trans h4 (Nat.lt_trans h5 (Nat.lt_trans h6 h7)))))))
theorem om29 {a0 : Nat} {a1 : Nat} {a2 : Nat} (h0 : ((a0 : Nat) < a1)) (h1 : ((a1 : Nat) < a2)) : ((a0 : Nat) ≤ a2) := Nat.le_of_lt (Nat.lt_trans h0 h1)
theorem om30 {a0 : Nat} {a1 : Nat} {a2 : Nat} {a3 : Nat} {a4 : Nat} {a5 : Nat} {a6 : Nat} {a7 : Nat} (h0 : ((a0 : Nat) < a1)) (h1 : ((a1 : Nat) < a2)) (h2 : ((a2 : Nat) < a3)) (h3 : ((a3 : Nat) < a4)) (h4 : ((a4 : Nat) < a5)) (h5 : ((a5 : Nat) < a6)) (h6 : ((a6 : Nat) < a7)) : ((a0 : Nat) ≤ a7) := Nat.le_of_lt (Nat.lt_trans h0 (Nat.lt_trans h1 (Nat.lt_trans h2 (Nat.lt_trans h3 (Nat.lt_trans h4 (Nat.lt_trans h5 h6))))))
theorem om31 {a0 : Nat} {a1 : Nat} {a2 : Nat} {a3 : Nat} {a4 : Nat} (h0 : ((a0 : Nat) < a1)) (h1 : ((a1 : Nat) < a2)) (h2 : ((a2 : Nat) < a3)) (h3 : ((a3 : Nat) < a4)) : ((a0 : Nat) ≤ a4) := Nat.le_of_lt (Nat.lt_trans h0 (Nat.lt_trans h1 (Nat.lt_trans h2 h3)))
theorem om32 {a0 : Nat} {a1 : Nat} {a2 : Nat} {a3 : Nat} {a4 : Nat} {a5 : Nat} (h0 : ((a0 : Nat) < a1)) (h1 : ((a1 : Nat) < a2)) (h2 : ((a2 : Nat) < a3)) (h3 : ((a3 : Nat) < a4)) (h4 : ((a4 : Nat) < a5)) : ((a0 : Nat) ≤ a5) := Nat.le_of_lt (Nat.lt_trans h0 (Nat.lt_trans h1 (Nat.lt_trans h2 (Nat.lt_trans h3 h4))))
theorem om33 {a0 : Nat} {a1 : Nat} {a2 : Nat} {a3 : Nat} (h0 : ((a0 : Nat) < a1)) (h1 : ((a1 : Nat) < a2)) (h2 : ((a2 : Nat) < a3)) : ((a0 : Nat) ≤ a3) := Nat.le_of_lt (Nat.lt_trans h0 (Nat.lt_trans h1 h2))
theorem om34 {a0 : Nat} {a1 : Nat} (h0 : ((a0 : Nat) < a1)) : ((a0 : Nat) ≤ a1) := by first | exact Nat.le_of_lt (by assumption) | omega
theorem om35 {a0 : Nat} : ((a0 : Nat) ≤ a0) := by first | lia | omega
theorem om36 {a0 : Nat} {a1 : Nat} {a2 : Nat} (h0 : ((a0 : Nat) ≤ a1)) (h1 : (((((a1 + 1) + 1) + 1) : Nat) ≤ a2)) : ((a0 : Nat) ≤ a2) := by first | lia | omega
theorem om37 {a0 : Nat} (h0 : ((2 : Nat) ≤ a0)) : (¬ ((1 : Nat) = a0)) := by first | exact Nat.ne_of_lt (by assumption) | omega
theorem om38 {a0 : Nat} (h0 : ((2 : Nat) ≤ a0)) : (¬ ((0 : Nat) = a0)) := by first | lia | omega
theorem om39 {a0 : Nat} {a1 : Nat} {a2 : Nat} (h0 : ((a0 : Nat) ≤ a1)) (h1 : (((a1 + 1) : Nat) ≤ a2)) : ((a0 : Nat) ≤ (a2 + 1)) := by first | lia | omega
theorem om40 {a0 : Nat} {a1 : Nat} {a2 : Nat} {a3 : Nat} {a4 : Nat} {a5 : Nat} {a6 : Nat} (h0 : ((a0 : Nat) < a1)) (h1 : ((a1 : Nat) < a2)) (h2 : ((a3 : Nat) < a4)) (h3 : ((a4 : Nat) < a5)) (h4 : ((a5 : Nat) < a6)) (h5 : ((a6 : Nat) < a0)) : ((a3 : Nat) < a2) := Nat.lt_trans h2 (Nat.lt_trans h3 (Nat.lt_trans h4 (Nat.lt_trans h5 (Nat.lt_trans h0 h1))))
theorem om41 {a0 : Nat} {a1 : Nat} {a2 : Nat} {a3 : Nat} {a4 : Nat} (h0 : ((a0 : Nat) < a1)) (h1 : ((a1 : Nat) < a2)) (h2 : ((a2 : Nat) < a3)) (h3 : ((a3 : Nat) < a4)) : ((a0 : Nat) < a4) := Nat.lt_trans h0 (Nat.lt_trans h1 (Nat.lt_trans h2 h3))
theorem om42 {a0 : Nat} {a1 : Nat} (h0 : ((((a0 + 1) + ((1 + 2) * 12)) : Nat) < a1)) : ((((a0 + 1) + ((1 + 2) * 12)) : Nat) < a1) := by first | ac_rfl | omega
theorem om43 {a0 : Nat} {a1 : Nat} (h0 : (((a0 + ((1 + 2) * 4)) : Nat) < a1)) : (((a0 + ((1 + 2) * 4)) : Nat) < a1) := by first | ac_rfl | omega
theorem om44 {a0 : Nat} (h0 : ((a0 : Nat) = 0)) : ((a0 : Nat) = 0) := by first | assumption | omega
theorem om45 {a0 : Nat} (h0 : ((1 : Nat) = a0)) : ((a0 : Nat) = 1) := by first | lia | omega
theorem om46 {a0 : Nat} {a1 : Nat} (h0 : ((a0 : Nat) < a1)) (h1 : ((1 : Nat) = a1)) : ((a0 : Nat) = 0) := by first | lia | omega
theorem om47 {a0 : Nat} {a1 : Nat} (h0 : ((a0 : Nat) = 10)) : ((((((a1 : Nat) : Int)) + 1) : Int) = (1 + (((a1 : Nat) : Int)))) := by first | ac_rfl | omega
theorem om48 {a0 : Int} {a1 : Int} : ((a0 : Int) = ((a0 + a1) - a1)) := by first | lia | omega
theorem om49 {a0 : Nat} {a1 : Nat} (h0 : ((a0 : Nat) ≤ a1)) : ((a0 : Nat) ≤ a1) := by first | ac_rfl | omega
theorem om50 {a0 : Nat} {a1 : Nat} {a2 : Nat} (h0 : ((((a0 + 1) + a1) : Nat) ≤ a2)) : (((a0 + a1) : Nat) ≤ a2) := Nat.le_trans (Nat.add_le_add_right (Nat.le_succ _) _) h0
theorem om51 {a0 : Nat} {a1 : Nat} {a2 : Nat} (h0 : ((((a0 + 1) + (a1 + 1)) : Nat) ≤ a2)) : ((((a0 + 1) + a1) : Nat) ≤ a2) := by first | exact Nat.le_of_lt (by assumption) | omega
theorem om52 {a0 : Int} {a1 : Int} : ((((a0 + 1) + a1) : Int) = (a0 + (1 + a1))) := by first | lia | omega
theorem om53 {a0 : Int} {a1 : Int} : (((a0 + a1) : Int) = (a0 + (0 + a1))) := by first | lia | omega
theorem om54 {a0 : Nat} {a1 : Nat} (h0 : (((a0 + ((2 + 2) * 12)) : Nat) < a1)) : ((((a0 + 3) + ((1 + 2) * 12)) : Nat) < a1) := by first | lia | omega
theorem om55 {a0 : Nat} {a1 : Nat} (h0 : (((a0 + ((2 + 2) * 4)) : Nat) < a1)) : ((((a0 + 1) + ((1 + 2) * 4)) : Nat) < a1) := sh h0 (by decide)
theorem om56 {a0 : Nat} {a1 : Nat} {a2 : Nat} (h0 : ((((a0 + 1) + a1) : Nat) ≤ a2)) : ((((a0 + 1) + a1) : Nat) ≤ a2) := by first | ac_rfl | omega
theorem om57 {a0 : Nat} {a1 : Nat} {a2 : Nat} (h0 : (((a0 + (a1 + 1)) : Nat) ≤ a2)) : ((((a0 + 1) + a1) : Nat) ≤ a2) := by first | lia | omega
theorem om58 {a0 : Nat} {a1 : Nat} (h0 : (((a0 + ((2 + 2) * 12)) : Nat) < a1)) : (((((a0 + 3) + 1) + ((1 + 2) * 12)) : Nat) < a1) := sh (a := a0 + 3) (Nat.add_assoc a0 3 _ ▸ sh2 h0 (by decide)) (Nat.le_refl _)
theorem om59 {a0 : Nat} {a1 : Nat} (h0 : (((a0 + 1) : Nat) ≤ a1)) : (((1 + a0) : Nat) ≤ a1) := by first | lia | omega
theorem om60 {a0 : Nat} {a1 : Nat} (h0 : ((a0 : Nat) ≤ a1)) : ((a0 : Nat) ≤ (a1 + 1)) := by first | exact Nat.le_succ_of_le (by assumption) | omega
theorem om61 {a0 : Nat} {a1 : Nat} {a2 : Nat} {a3 : Nat} {a4 : Nat} {a5 : Nat} {a6 : Nat} (h0 : ((a0 : Nat) < a1)) (h1 : ((a1 : Nat) < a2)) (h2 : ((a2 : Nat) < a3)) (h3 : ((a3 : Nat) < a4)) (h4 : ((a4 : Nat) < a5)) (h5 : ((a5 : Nat) < a6)) : ((a0 : Nat) < a6) := Nat.lt_trans h0 (Nat.lt_trans h1 (Nat.lt_trans h2 (Nat.lt_trans h3 (Nat.lt_trans h4 h5))))
theorem om62 {a0 : Nat} (h0 : ((a0 : Nat) < 100)) : ((a0 : Nat) < 1000) := by first | exact Nat.lt_of_lt_of_le (by assumption) (Nat.le_of_ble_eq_true rfl) | omega
theorem om63 {a0 : Nat} (h0 : ((a0 : Nat) < 100)) : ((((((a0 : Nat) : Int)) + 1) : Int) < 9223372036854775808) := Int.lt_trans (Int.add_lt_add_right (Int.ofNat_lt.mpr h0) 1) (by decide)
theorem om64 {a0 : Nat} {a1 : Nat} (h0 : ((a0 : Nat) ≤ a1)) (h1 : (¬ ((a0 : Nat) = a1))) : (((a0 + 1) : Nat) ≤ a1) := by first | lia | omega
theorem om65 {a0 : Nat} {a1 : Nat} (h0 : ((a0 : Nat) < a1)) : ((((a1 - (a0 + 1)) + 1) : Nat) < ((a1 - a0) + 1)) := Nat.succ_lt_succ (Nat.sub_lt_sub_left h0 (Nat.lt_succ_self _))
theorem om66 {a0 : Nat} {a1 : Nat} (h0 : ((a0 : Nat) ≤ a1)) (h1 : (¬ ((a0 : Nat) = a1))) : ((a0 : Nat) < a1) := by first | lia | omega
theorem om67 {a0 : Nat} {a1 : Nat} (h0 : ((a0 : Nat) ≤ a1)) (h1 : ((a1 : Nat) ≤ a0)) : ((a0 : Nat) = a1) := Nat.le_antisymm h0 h1
theorem om68 {a0 : Nat} {a1 : Nat} {a2 : Nat} (h0 : ((a0 : Nat) ≤ a1)) : ((a0 : Nat) < (a1 + (a2 + 1))) := by first | lia | omega
theorem om69 {a0 : Nat} (h0 : ((a0 : Nat) < 3)) : (((a0 : Nat) = 0) ∨ (((a0 : Nat) = 1) ∨ ((a0 : Nat) = 2))) := (by decide : ∀ a : Fin 3, a.1 = 0 ∨ a.1 = 1 ∨ a.1 = 2) ⟨a0, h0⟩
theorem om70 {a0 : Nat} {a1 : Nat} (h0 : ((a0 : Nat) ≤ a1)) (h1 : (¬ ((a0 : Nat) < a1))) : ((a0 : Nat) = a1) := by first | exact Nat.le_antisymm (by assumption) (Nat.le_of_not_lt (by assumption)) | omega
theorem om71 {a0 : Nat} {a1 : Nat} (h0 : ((a0 : Nat) ≤ ((2 * a1) + 1))) : (((a0 + 1) : Nat) ≤ (2 * (a1 + 1))) := by first | exact Nat.lt_succ_of_le (by assumption) | omega
theorem om72 {a0 : Nat} {a1 : Nat} (h0 : ((a0 : Nat) < a1)) : (((a0 + 1) : Nat) ≤ a1) := by first | assumption | omega
theorem om73 {a0 : Nat} {a1 : Nat} (h0 : ((a0 : Nat) ≤ (2 * a1))) : ((a0 : Nat) ≤ (2 * a1)) := by first | ac_rfl | omega
theorem om74 {a0 : Nat} {a1 : Nat} (h0 : ((a0 : Nat) ≤ (2 * a1))) : ((a0 : Nat) ≤ ((2 * a1) + 1)) := by first | exact Nat.le_succ_of_le (by assumption) | omega
theorem om75 {a0 : Nat} {a1 : Nat} (h0 : ((a0 : Nat) < 100)) (h1 : ((a1 : Nat) ≤ (0 + (2 * a0)))) : ((a1 : Nat) ≤ 300) := Nat.le_trans h1 (Nat.le_trans (Nat.le_of_eq (Nat.zero_add _)) (Nat.le_trans (Nat.mul_le_mul_left 2 (Nat.le_of_lt h0)) (by decide)))
theorem om76 {a0 : Nat} {a1 : Nat} {a2 : Nat} {a3 : Nat} (h0 : ((a0 : Nat) ≤ (a1 + (2 * a2)))) (h1 : ((a1 : Nat) ≤ (a3 + 2))) : ((a0 : Nat) ≤ (a3 + (2 * (a2 + 1)))) := Nat.le_trans h0 (Nat.le_trans (Nat.add_le_add_right h1 _) (Nat.le_of_eq ((Nat.add_assoc a3 2 (2 * a2)).trans (congrArg (a3 + ·) (Nat.add_comm 2 (2 * a2))))))
theorem om77 {a0 : Nat} {a1 : Nat} {a2 : Nat} (h0 : ((a0 : Nat) ≤ (5 * a1))) (h1 : ((a2 : Nat) ≤ 4)) : (((a0 + (a2 + 1)) : Nat) ≤ (5 * (a1 + 1))) := Nat.add_le_add h0 (Nat.succ_le_succ h1)
theorem om79 {a0 : Nat} : ((0 : Int) ≤ (((a0 : Nat) : Int))) := by first | lia | omega
theorem om80 {a0 : Nat} (h0 : ((a0 : Nat) < 4)) : (((a0 : Nat) = 0) ∨ (((a0 : Nat) = 1) ∨ (((a0 : Nat) = 2) ∨ ((a0 : Nat) = 3)))) := (by decide : ∀ a : Fin 4, a.1 = 0 ∨ a.1 = 1 ∨ a.1 = 2 ∨ a.1 = 3) ⟨a0, h0⟩
theorem om81 {a0 : Nat} {a1 : Nat} : ((((((((a0 : Nat) : Int)) / 3) + (((a1 : Nat) : Int))) % 4) : Int) = ((((((a0 / 3) + a1) % 4) : Nat) : Int))) := by first | ac_rfl | omega
theorem om82 {a0 : Nat} {a1 : Nat} : (((((((a0 : Nat) : Int)) + (((a1 : Nat) : Int))) % 3) : Int) = (((((a0 + a1) % 3) : Nat) : Int))) := by first | ac_rfl | omega
theorem om85 {a0 : Nat} (h0 : ((a0 : Nat) < 10)) : (((((a0 : Nat) : Int)) : Int) < 9223372036854775808) := by first | exact Int.ofNat_lt.mpr (Nat.lt_of_lt_of_le (by assumption) (Nat.le_of_ble_eq_true rfl)) | omega
theorem om86 {a0 : Nat} (h0 : ((a0 : Nat) ≤ (0 + (2 * (0 + 1))))) : ((a0 : Nat) ≤ 4) := by first | exact Nat.le_trans (by assumption) (Nat.le_of_ble_eq_true rfl) | omega
theorem om87 {a0 : Nat} (h0 : ((a0 : Nat) ≤ (0 + (2 * (0 + 1))))) : ((a0 : Nat) ≤ 2) := by first | (rcases ‹_ ∨ _› with ⟨h, h2⟩ | ⟨h, h2⟩ <;> subst h <;> subst h2 <;> first | decide | lia | omega) | omega
theorem om89 {a0 : Nat} {a1 : Int} (h0 : ((a0 : Nat) = 4)) (h1 : ((a1 : Int) < 4)) : ((a1 : Int) < (((a0 : Nat) : Int))) := h0.symm ▸ h1
theorem om91 {a0 : Nat} : ((((((a0 : Nat) : Int)) + (1 - 1)) : Int) = (((a0 : Nat) : Int))) := by first | lia | omega
theorem om93 {a0 : Nat} : (((((((((a0 : Nat) : Int)) - 0) - 1) / 1) + 1) : Int) = (((a0 : Nat) : Int))) := by rw [Int.ediv_one, Int.sub_zero, Int.sub_add_cancel]
theorem om94 {a0 : Nat} (h0 : (¬ ((0 : Int) < (((a0 : Nat) : Int))))) : ((0 : Int) = (((a0 : Nat) : Int))) := by first | lia | omega
theorem om95 {a0 : Nat} {a1 : Nat} (h0 : ((a0 : Nat) = (2 * a1))) : ((((((a0 : Nat) : Int)) / 2) : Int) = (((a1 : Nat) : Int))) := h0.symm ▸ congrArg Int.ofNat (Nat.mul_div_cancel_left a1 (by decide : 0 < 2))
theorem om96 {a0 : Nat} {a1 : Nat} {a2 : Nat} {a3 : Nat} (h0 : ((a0 : Nat) = (2 * a1))) (h1 : ((a1 : Nat) < 5)) (h2 : ((a2 : Nat) = 16777216)) : (((((min (a1 + a3) a0) - a1) + (a0 - (a1 + a3))) : Nat) ≤ a2) := Nat.le_trans (Nat.add_le_add (Nat.le_trans (Nat.sub_le _ _) (Nat.min_le_right _ _)) (Nat.sub_le _ _)) (have hx : a0 ≤ 10 := h0 ▸ Nat.mul_le_mul_left 2 (Nat.le_of_lt h1); h2 ▸ Nat.le_trans (Nat.add_le_add hx hx) (by decide))
theorem om97 {a0 : Nat} {a1 : Nat} {a2 : Nat} (h0 : ((a0 : Nat) = (2 * a1))) : ((a1 : Nat) ≤ (min (a1 + a2) a0)) := Nat.le_min.mpr ⟨Nat.le_add_right _ _, h0 ▸ Nat.le_mul_of_pos_left _ (by decide)⟩
theorem om98 {a0 : Nat} {a1 : Nat} {a2 : Nat} (h0 : ((a0 : Nat) < a1)) (h1 : ((a1 : Nat) < 5)) : (((min (a1 + a0) a2) : Nat) < 1000) := Nat.lt_of_le_of_lt (Nat.min_le_left _ _) (Nat.lt_trans (Nat.add_lt_add h1 (Nat.lt_trans h0 h1)) (by decide))
theorem om99 {a0 : Nat} {a1 : Nat} {a2 : Nat} (h0 : ((a0 : Nat) = (2 * a1))) (h1 : ((a2 : Nat) < a1)) : (((a1 + a2) : Nat) ≤ a0) := by first | lia | omega
theorem om100 {a0 : Nat} {a1 : Nat} (h0 : ((a0 : Nat) = (2 * a1))) (h1 : ((a1 : Nat) < 5)) : ((a0 : Nat) < 1000) := by first | lia | omega
theorem om101 {a0 : Nat} {a1 : Nat} {a2 : Nat} {a3 : Nat} (h0 : ((a0 : Nat) = a1)) (h1 : ((a1 : Nat) < 5)) (h2 : ((a2 : Nat) = 16777216)) : (((((min a3 a0) - 0) + (a0 - a3)) : Nat) ≤ a2) := Nat.le_trans (Nat.add_le_add (Nat.min_le_right _ _) (Nat.sub_le _ _)) (have hx : a0 ≤ 5 := h0 ▸ Nat.le_of_lt h1; h2 ▸ Nat.le_trans (Nat.add_le_add hx hx) (by decide))
theorem om102 {a0 : Nat} {a1 : Nat} {a2 : Nat} (h0 : ((a0 : Nat) < a1)) (h1 : ((a1 : Nat) < 5)) : (((min a0 a2) : Nat) < 1000) := Nat.lt_of_le_of_lt (Nat.min_le_left _ _) (Nat.lt_trans h0 (Nat.lt_trans h1 (by decide)))
theorem om103 {a0 : Nat} {a1 : Nat} {a2 : Nat} (h0 : ((a0 : Nat) = a1)) (h1 : ((a2 : Nat) < a1)) : ((a2 : Nat) ≤ a0) := by first | lia | omega
theorem om104 {a0 : Nat} {a1 : Nat} (h0 : ((a0 : Nat) = a1)) (h1 : ((a1 : Nat) < 5)) : ((a0 : Nat) < 1000) := h0.symm ▸ Nat.lt_trans h1 (by decide)
theorem om105 {a0 : Nat} {a1 : Nat} {a2 : Nat} (h0 : (((a0 + ((1 + 2) * 12)) : Nat) < a1)) (h1 : ((a2 : Nat) ≤ 3)) : ((((a0 + 3) + a2) : Nat) < a1) := sh (Nat.lt_of_le_of_lt (Nat.add_le_add_left (Nat.add_le_add_left h1 3) a0) (sh2 h0 (by decide))) (Nat.le_refl _)
theorem om106 {a0 : Nat} {a1 : Nat} (h0 : ((a0 : Nat) ≤ 1)) (h1 : ((a1 : Nat) ≤ 1)) : ((((max (a0 + 1) (max (a1 + 1) 0)) + 1) : Nat) ≤ 3) := Nat.succ_le_succ (Nat.max_le.mpr ⟨Nat.succ_le_succ h0, Nat.max_le.mpr ⟨Nat.succ_le_succ h1, Nat.zero_le _⟩⟩)
theorem om107 {a0 : Nat} {a1 : Nat} {a2 : Nat} (h0 : ((a0 : Nat) < 5)) (h1 : ((a1 : Nat) = (2 * a0))) (h2 : ((a2 : Nat) = 16777216)) : ((a1 : Nat) ≤ a2) := by subst h1 h2; exact Nat.le_trans (Nat.mul_le_mul_left 2 (Nat.le_of_lt h0)) (by decide)
theorem om108 {a0 : Nat} {a1 : Nat} : (((a0 - a1) : Nat) ≤ (a0 - (min a1 a0))) := Nat.sub_le_sub_left (Nat.min_le_left _ _) _
theorem om109 {a0 : Nat} {a1 : Nat} : (((max 0 (min (((a0 : Nat) : Int)) (((a1 : Nat) : Int)))) : Int) = ((((min a0 a1) : Nat) : Int))) := (Nat.le_total a0 a1).elim (fun h => by rw [Int.min_eq_left (Int.ofNat_le.mpr h), Nat.min_eq_left h, Int.max_eq_right (Int.natCast_nonneg _)]) (fun h => by rw [Int.min_eq_right (Int.ofNat_le.mpr h), Nat.min_eq_right h, Int.max_eq_right (Int.natCast_nonneg _)])
theorem om110 {a0 : Nat} : (¬ (((((a0 : Nat) : Int)) : Int) < 0)) := by first | lia | omega
theorem om111 {a0 : Nat} {a1 : Nat} {a2 : Nat} {a3 : Nat} (h0 : ((a0 : Nat) < 5)) (h1 : ((a1 : Nat) = a0)) (h2 : ((a2 : Nat) ≤ a3)) (h3 : ((a3 : Nat) < a1)) : ((a2 : Nat) < 1000) := Nat.lt_of_le_of_lt h2 (Nat.lt_trans h3 (h1 ▸ Nat.lt_trans h0 (by decide)))
theorem om112 {a0 : Nat} {a1 : Nat} : (((min a0 a1) : Nat) ≤ a0) := Nat.min_le_left _ _
theorem om114 {a0 : Nat} {a1 : Nat} {a2 : Nat} {a3 : Nat} (h0 : ((a0 : Nat) < 5)) (h1 : ((a1 : Nat) = a0)) (h2 : ((a2 : Nat) ≤ a3)) (h3 : ((a3 : Nat) < a1)) : ((a2 : Nat) < 100) := Nat.lt_of_le_of_lt h2 (Nat.lt_trans h3 (h1 ▸ Nat.lt_trans h0 (by decide)))
theorem om115 {a0 : Nat} (h0 : ((a0 : Nat) < 2)) : (((a0 : Nat) = 0) ∨ ((a0 : Nat) = 1)) := by first | lia | omega
theorem om116 {a0 : Nat} {a1 : Nat} {a2 : Nat} {a3 : Nat} {a4 : Nat} {a5 : Nat} {a6 : Nat} : ((((a0 + (a1 + ((a2 + (a3 + a4)) + a5))) + a6) : Nat) = ((a2 + ((a0 + ((a1 + a3) + a4)) + a6)) + a5)) := by first | lia | omega
theorem om117 {a0 : Nat} {a1 : Nat} {a2 : Nat} {a3 : Nat} {a4 : Nat} : ((((a0 + ((a1 + a2) + a3)) + a4) : Nat) = ((a1 + ((a0 + a2) + a4)) + a3)) := by first | lia | omega
theorem om118 {a0 : Nat} {a1 : Nat} {a2 : Nat} {a3 : Nat} {a4 : Nat} {a5 : Nat} {a6 : Nat} : ((((a0 + (a1 + ((a2 + (a3 + a4)) + a5))) + a6) : Nat) = (((a0 + (a2 + ((a1 + a3) + a4))) + a6) + a5)) := by first | ac_rfl | omega
theorem om119 {a0 : Nat} {a1 : Nat} {a2 : Nat} {a3 : Nat} {a4 : Nat} : (((((a0 + (a1 + a2)) + a3) + a4) : Nat) = ((a0 + ((a1 + a2) + a4)) + a3)) := by first | ac_rfl | omega
theorem om120 {a0 : Nat} {a1 : Nat} (h0 : (((a0 + ((2 + 2) * 12)) : Nat) < a1)) : ((((a0 + 3) + ((0 + 2) * 12)) : Nat) < a1) := by first | lia | omega
theorem om121 {a0 : Nat} {a1 : Nat} (h0 : (((a0 + ((2 + 2) * 4)) : Nat) < a1)) : ((((a0 + 1) + ((0 + 2) * 4)) : Nat) < a1) := sh h0 (by decide)
theorem om122 {a0 : Nat} (h0 : ((a0 : Nat) < 99)) : ((a0 : Nat) < 100) := by first | exact Nat.lt_succ_of_lt (by assumption) | omega
theorem om123 {a0 : Nat} (h0 : ((a0 : Nat) < 50)) : ((a0 : Nat) < 99) := by first | exact Nat.lt_of_lt_of_le (by assumption) (Nat.le_of_ble_eq_true rfl) | omega
theorem om124 {a0 : Nat} (h0 : ((a0 : Nat) < 50)) : ((a0 : Nat) < 100) := by first | exact Nat.lt_of_lt_of_le (by assumption) (Nat.le_of_ble_eq_true rfl) | omega
theorem om125 {a0 : Nat} {a1 : Nat} {a2 : Nat} {a3 : Nat} {a4 : Nat} : (((((a0 + (a1 + a2)) + a3) + a4) : Nat) = ((a1 + ((a0 + a2) + a3)) + a4)) := by first | lia | omega
theorem om126 {a0 : Nat} {a1 : Nat} {a2 : Nat} {a3 : Nat} : ((((a0 + (a1 + a2)) + a3) : Nat) = (((a0 + a1) + a2) + a3)) := by first | lia | omega
theorem om127 {a0 : Nat} {a1 : Nat} {a2 : Nat} {a3 : Nat} {a4 : Nat} : (((a0 + ((a1 + (a2 + a3)) + a4)) : Nat) = ((a0 + ((a1 + a2) + a4)) + a3)) := by first | lia | omega
theorem om128 {a0 : Nat} {a1 : Nat} {a2 : Nat} {a3 : Nat} : ((((a0 + (a1 + a2)) + a3) : Nat) = (a0 + (0 + ((a1 + a3) + a2)))) := by first | lia | omega
theorem om129 {a0 : Nat} (h0 : ((a0 : Nat) = 0)) : (¬ ((a0 : Nat) = 1)) := by first | lia | omega
theorem om130 {a0 : Nat} {a1 : Nat} : (((((a0 % 2) + (a1 / 2)) % 2) : Nat) = ((a0 + (a1 / 2)) % 2)) := Nat.mod_add_mod _ _ _
theorem om131 {a0 : Nat} (h0 : ((a0 : Nat) < 4)) : (((a0 / 2) : Nat) < 2) := (Nat.div_lt_iff_lt_mul (by decide)).mpr h0
theorem om132 {a0 : Nat} : (((a0 % 2) : Nat) < 2) := Nat.mod_lt _ (by decide)
theorem om133 {a0 : Nat} (h0 : ((a0 : Nat) < 8)) : (((a0 : Nat) = 0) ∨ (((a0 : Nat) = 1) ∨ (((a0 : Nat) = 2) ∨ (((a0 : Nat) = 3) ∨ (((a0 : Nat) = 4) ∨ (((a0 : Nat) = 5) ∨ (((a0 : Nat) = 6) ∨ ((a0 : Nat) = 7)))))))) := (by decide : ∀ a : Fin 8, a.1 = 0 ∨ a.1 = 1 ∨ a.1 = 2 ∨ a.1 = 3 ∨ a.1 = 4 ∨ a.1 = 5 ∨ a.1 = 6 ∨ a.1 = 7) ⟨a0, h0⟩
theorem om134 {a0 : Nat} : ((a0 : Nat) ≤ (((2 * a0) + 1) / 2)) := (Nat.mul_add_div (m := 2) (by decide) a0 1).symm ▸ Nat.le_add_right _ _
theorem om135 {a0 : Nat} : ((a0 : Nat) ≤ (((2 * a0) + 0) / 2)) := (Nat.mul_add_div (m := 2) (by decide) a0 0).symm ▸ Nat.le_add_right _ _
theorem om136 {a0 : Nat} {a1 : Nat} (h0 : ((((a0 + (a1 / 2)) % 2) : Nat) = 1)) : (¬ ((((a0 + (a1 / 2)) % 2) : Nat) = 0)) := by first | lia | omega
theorem om137 {a0 : Nat} {a1 : Nat} {a2 : Nat} (h0 : ((a0 : Nat) < 5)) (h1 : ((a1 : Nat) < (2 * a0))) (h2 : ((a2 : Nat) ≤ a1)) : ((a2 : Nat) < 100) := Nat.lt_of_le_of_lt h2 (Nat.lt_trans h1 (Nat.lt_of_le_of_lt (Nat.mul_le_mul_left 2 (Nat.le_of_lt h0)) (by decide)))
theorem om138 {a0 : Nat} {a1 : Nat} {a2 : Nat} (h0 : ((a0 : Nat) < 5)) (h1 : ((a1 : Nat) = a0)) : (((a1 - ((a2 / 2) + 1)) : Nat) < 50) := Nat.lt_of_le_of_lt (Nat.sub_le _ _) (h1 ▸ Nat.lt_trans h0 (by decide))
theorem om139 {a0 : Nat} {a1 : Nat} (h0 : ((a0 : Nat) < (2 * a1))) : (((a0 / 2) : Nat) < a1) := (Nat.div_lt_iff_lt_mul (by decide)).mpr (Nat.mul_comm 2 a1 ▸ h0)
theorem om140 {a0 : Nat} {a1 : Nat} (h0 : ((((a0 + (a1 / 2)) % 2) : Nat) = 1)) : (¬ ((0 : Nat) = ((a0 + (a1 / 2)) % 2))) := by first | lia | omega
theorem om141 {a0 : Nat} {a1 : Nat} {a2 : Nat} {a3 : Nat} (h0 : ((a0 : Nat) < 5)) (h1 : ((a1 : Nat) = a0)) (h2 : (((a2 / 2) : Nat) < a1)) (h3 : ((a3 : Nat) ≤ a2)) : ((a3 : Nat) < 100) := Nat.lt_of_le_of_lt h3 (Nat.lt_trans ((Nat.div_lt_iff_lt_mul (by decide)).mp (Nat.lt_trans h2 (h1 ▸ h0))) (by decide))
theorem om142 {a0 : Nat} {a1 : Nat} (h0 : ((((a0 + (a1 / 2)) % 2) : Nat) = 0)) : (¬ ((1 : Nat) = ((a0 + (a1 / 2)) % 2))) := by first | lia | omega
theorem om143 {a0 : Nat} {a1 : Nat} : (((((a0 + (a1 / 2)) % 2) : Nat) = 0) ∨ ((((a0 + (a1 / 2)) % 2) : Nat) = 1)) := by first | exact Nat.mod_two_eq_zero_or_one _ | omega
theorem om144 {a0 : Nat} {a1 : Nat} (h0 : ((a0 : Nat) < 5)) (h1 : ((a1 : Nat) < (2 * a0))) : ((a1 : Nat) < 8) := Nat.lt_of_lt_of_le h1 (Nat.mul_le_mul_left 2 (Nat.le_of_lt_succ h0))
theorem om146 {a0 : Nat} : (((2 * (((a0 : Nat) : Int))) : Int) = ((((2 * a0) : Nat) : Int))) := by first | lia | omega
theorem om147 {a0 : Nat} {a1 : Nat} {a2 : Nat} {a3 : Nat} {a4 : Nat} {a5 : Nat} {a6 : Nat} {a7 : Nat} : ((((a0 + ((a1 + ((a2 + (a3 + a4)) + a5)) + a6)) + a7) : Nat) = ((a2 + ((a0 + (((a3 + a1) + a4) + a6)) + a7)) + a5)) := by first | ac_rfl | omega
theorem om148 {a0 : Nat} {a1 : Nat} {a2 : Nat} {a3 : Nat} {a4 : Nat} {a5 : Nat} : ((((a0 + ((a1 + (a2 + a3)) + a4)) + a5) : Nat) = ((a1 + (((a0 + a2) + a5) + a3)) + a4)) := by first | lia | omega
theorem om149 {a0 : Nat} {a1 : Nat} {a2 : Nat} {a3 : Nat} {a4 : Nat} {a5 : Nat} {a6 : Nat} {a7 : Nat} : ((((a0 + ((a1 + ((a2 + (a3 + a4)) + a5)) + a6)) + a7) : Nat) = (((a0 + (a2 + (((a3 + a1) + a4) + a6))) + a7) + a5)) := by first | lia | omega
theorem om150 {a0 : Nat} {a1 : Nat} {a2 : Nat} {a3 : Nat} {a4 : Nat} {a5 : Nat} : (((((a0 + (a1 + (a2 + a3))) + a4) + a5) : Nat) = ((a0 + (((a1 + a2) + a5) + a3)) + a4)) := by first | lia | omega
theorem om151 {a0 : Nat} {a1 : Nat} {a2 : Nat} (h0 : ((a0 : Nat) < 2)) (h1 : (¬ ((a0 : Nat) = ((a1 + a2) % 2)))) (h2 : ((a0 : Nat) = a2)) : (((((a1 + 1) + 1) / 2) : Nat) = ((a1 + 1) / 2)) := by obtain ⟨q, r, rfl⟩ := half2 a1; subst h2; rw [Nat.add_assoc, Nat.mul_add_mod] at h1; rw [show 2 * q + r.1 + 1 + 1 = 2 * q + (r.1 + 1 + 1) from rfl, show 2 * q + r.1 + 1 = 2 * q + (r.1 + 1) from rfl, Nat.mul_add_div (by decide), Nat.mul_add_div (by decide), (by decide : ∀ r a0 : Fin 2, ¬ a0.1 = (r.1 + a0.1) % 2 → (r.1 + 1 + 1) / 2 = (r.1 + 1) / 2) r ⟨a0, h0⟩ h1]
theorem om152 {a0 : Nat} {a1 : Nat} {a2 : Nat} (h0 : ((a0 : Nat) < 2)) (h1 : ((a1 : Nat) < 2)) (h2 : (¬ ((a1 : Nat) = ((a2 + a0) % 2)))) (h3 : (¬ ((a1 : Nat) = a0))) : (((((a2 + 1) + 0) / 2) : Nat) = ((a2 + 0) / 2)) := by obtain ⟨q, r, rfl⟩ := half2 a2; rw [show 2 * q + r.1 + 1 + 0 = 2 * q + (r.1 + 1) from rfl, show 2 * q + r.1 + 0 = 2 * q + r.1 from rfl, Nat.mul_add_div (by decide), Nat.mul_add_div (by decide), (by decide : ∀ r a0 a1 : Fin 2, ¬ a1.1 = (r.1 + a0.1) % 2 → ¬ a1.1 = a0.1 → (r.1 + 1) / 2 = r.1 / 2) r ⟨a0, h0⟩ ⟨a1, h1⟩ (by rw [Nat.add_assoc, Nat.mul_add_mod] at h2; exact h2) h3]
theorem om153 {a0 : Nat} {a1 : Nat} {a2 : Nat} (h0 : ((a0 : Nat) = ((a1 + a2) % 2))) (h1 : ((a0 : Nat) = a2)) : (((((a1 + 1) / 2) : Nat) = (a1 / 2)) ∧ (((((a1 + 1) + 1) / 2) : Nat) = ((a1 / 2) + 1))) := by subst h1; have h2 : a0 < 2 := h0 ▸ Nat.mod_lt _ (by decide); obtain ⟨q, r, rfl⟩ := half2 a1; rw [Nat.add_assoc, Nat.mul_add_mod] at h0; have e := (by decide : ∀ r a0 : Fin 2, a0.1 = (r.1 + a0.1) % 2 → (r.1 + 1) / 2 = r.1 / 2 ∧ (r.1 + 1 + 1) / 2 = r.1 / 2 + 1) r ⟨a0, h2⟩ h0; rw [show 2 * q + r.1 + 1 + 1 = 2 * q + (r.1 + 1 + 1) from rfl, show 2 * q + r.1 + 1 = 2 * q + (r.1 + 1) from rfl, Nat.mul_add_div (by decide), Nat.mul_add_div (by decide), Nat.mul_add_div (by decide), e.1, e.2]; exact ⟨rfl, rfl⟩
theorem om154 {a0 : Nat} {a1 : Nat} {a2 : Nat} (h0 : ((a0 : Nat) < 2)) (h1 : ((a1 : Nat) = ((a2 + a0) % 2))) (h2 : (¬ ((a1 : Nat) = a0))) : (((((a2 + 0) / 2) : Nat) = (a2 / 2)) ∧ (((((a2 + 1) + 0) / 2) : Nat) = ((a2 / 2) + 1))) := by obtain ⟨q, r, rfl⟩ := half2 a2; rw [show 2 * q + r.1 + 1 + 0 = 2 * q + (r.1 + 1) from rfl, show 2 * q + r.1 + 0 = 2 * q + r.1 from rfl, Nat.mul_add_div (by decide), Nat.mul_add_div (by decide)]; subst h1; rw [Nat.add_assoc, Nat.mul_add_mod] at h2; exact ⟨rfl, congrArg (q + ·) ((by decide : ∀ r a0 : Fin 2, ¬ (r.1 + a0.1) % 2 = a0.1 → (r.1 + 1) / 2 = r.1 / 2 + 1) r ⟨a0, h0⟩ h2)⟩
theorem om155 {a0 : Nat} {a1 : Nat} {a2 : Nat} (h0 : ((a0 : Nat) ≤ a1)) (h1 : ((a2 : Nat) ≤ 1)) : (((a0 + a2) : Nat) ≤ (a1 + 1)) := by first | lia | omega
theorem om156 {a0 : Nat} {a1 : Nat} {a2 : Nat} {a3 : Nat} {a4 : Nat} : ((((((a0 + a1) + a2) + a3) + a4) : Nat) = ((((a0 + a2) + a4) + a1) + a3)) := by first | lia | omega
theorem om157 {a0 : Nat} {a1 : Nat} (h0 : (((a0 + ((3 + 2) * 12)) : Nat) < a1)) : ((((a0 + 3) + ((0 + 2) * 12)) : Nat) < a1) := by first | lia | omega
theorem om158 {a0 : Nat} {a1 : Nat} (h0 : (((a0 + ((3 + 2) * 4)) : Nat) < a1)) : ((((a0 + 1) + ((0 + 2) * 4)) : Nat) < a1) := by first | lia | omega
theorem om159 {a0 : Nat} {a1 : Nat} (h0 : (((a0 + ((3 + 2) * 12)) : Nat) < a1)) : ((((a0 + 3) + ((2 + 2) * 12)) : Nat) < a1) := sh h0 (by decide)
theorem om160 {a0 : Nat} {a1 : Nat} (h0 : (((a0 + ((3 + 2) * 4)) : Nat) < a1)) : ((((a0 + 1) + ((2 + 2) * 4)) : Nat) < a1) := by first | lia | omega
theorem om161 {a0 : Nat} : (((((a0 + 1) + 1) + 1) : Nat) < (a0 + 4)) := by first | lia | omega
theorem om162 {a0 : Nat} : ((a0 : Nat) ≤ (((a0 + 1) + 1) + 1)) := by first | lia | omega
theorem om163 {a0 : Nat} : ((((a0 + 1) + 1) : Nat) < (a0 + 4)) := by first | lia | omega
theorem om164 {a0 : Nat} : ((a0 : Nat) ≤ ((a0 + 1) + 1)) := by first | lia | omega
theorem om165 {a0 : Nat} : (((a0 + 1) : Nat) < (a0 + 4)) := by first | lia | omega
theorem om166 {a0 : Nat} : ((a0 : Nat) ≤ (a0 + 1)) := by first | exact Nat.le_add_right _ _ | omega
theorem om167 {a0 : Nat} : ((a0 : Nat) < (a0 + 4)) := by first | exact Nat.lt_add_of_pos_right (by decide) | omega
theorem om168 {a0 : Nat} (h0 : ((1 : Nat) ≤ a0)) (h1 : ((a0 : Nat) ≤ 0)) : False := by first | lia | omega
theorem om169 {a0 : Nat} : (((a0 + 4) : Nat) ≤ (((((a0 + 1) + 1) + 1) + 1) + 1)) := by first | exact Nat.le_add_right _ _ | omega
theorem om170 {a0 : Nat} : (((a0 / 4) : Nat) = ((a0 / 2) / 2)) := (Nat.div_div_eq_div_mul a0 2 2).symm
theorem om171 {a0 : Nat} {a1 : Nat} (h0 : (((a0 + ((3 + 2) * 12)) : Nat) < a1)) : (((a0 + ((2 + 2) * 12)) : Nat) < a1) := by first | lia | omega
theorem om172 {a0 : Nat} {a1 : Nat} (h0 : (((a0 + ((3 + 2) * 4)) : Nat) < a1)) : (((a0 + ((2 + 2) * 4)) : Nat) < a1) := sh2 h0 (by decide)
theorem om173 {a0 : Nat} {a1 : Nat} (h0 : ((a0 : Nat) = (2 * a1))) : (((a0 - a1) : Nat) = a1) := by rw [h0, Nat.two_mul, Nat.add_sub_cancel]
theorem om174 {a0 : Nat} {a1 : Nat} (h0 : ((a0 : Nat) = (2 * a1))) : (((min a1 a0) : Nat) = a1) := Nat.min_eq_left (h0 ▸ Nat.le_mul_of_pos_left _ (by decide))
theorem om175 {a0 : Nat} {a1 : Nat} (h0 : (((a0 + ((3 + 2) * 12)) : Nat) < a1)) : (((a0 + ((1 + 2) * 12)) : Nat) < a1) := sh2 h0 (by decide)
theorem om176 {a0 : Nat} {a1 : Nat} (h0 : (((a0 + ((3 + 2) * 4)) : Nat) < a1)) : (((a0 + ((1 + 2) * 4)) : Nat) < a1) := by first | lia | omega
theorem om177 {a0 : Nat} {a1 : Nat} (h0 : (((a0 : Nat) = 2) ∨ ((a0 : Nat) = 4))) (h1 : ((a1 : Nat) = (2 * a0))) : (((a1 - a0) : Nat) < 5) := by rcases h0 with rfl | rfl <;> subst h1 <;> decide
theorem om178 {a0 : Nat} {a1 : Nat} (h0 : ((a0 : Nat) < 5)) : (((min a0 a1) : Nat) < 5) := Nat.lt_of_le_of_lt (Nat.min_le_left _ _) h0
theorem om179 {a0 : Nat} {a1 : Nat} (h0 : (((a0 + ((3 + 2) * 12)) : Nat) < a1)) : (((a0 + ((3 + 2) * 12)) : Nat) < a1) := by first | ac_rfl | omega
theorem om180 {a0 : Nat} {a1 : Nat} (h0 : (((a0 + ((3 + 2) * 4)) : Nat) < a1)) : (((a0 + ((3 + 2) * 4)) : Nat) < a1) := by first | ac_rfl | omega
theorem om181 {a0 : Nat} : (((a0 % 2) : Nat) < 4) := Nat.lt_trans (Nat.mod_lt a0 (by decide : 2 > 0)) (by decide)
theorem om182 {a0 : Nat} (h0 : (((a0 : Nat) = 2) ∨ ((a0 : Nat) = 4))) : ((0 : Nat) < a0) := by first | (rcases ‹_ ∨ _› with h | h <;> subst h <;> first | decide | lia | omega) | omega
theorem om183 {a0 : Nat} (h0 : ((a0 : Nat) < 8)) : (((a0 / 2) : Nat) < 4) := (Nat.div_lt_iff_lt_mul (by decide)).mpr h0
theorem om184 {a0 : Nat} (h0 : (((a0 : Nat) = 2) ∨ ((a0 : Nat) = 4))) : ((a0 : Nat) < 5) := by first | (rcases ‹_ ∨ _› with h | h <;> subst h <;> first | decide | lia | omega) | omega
theorem om185 {a0 : Nat} : ((1 : Nat) ≤ (a0 + 3)) := by first | lia | omega
theorem om186 {a0 : Nat} {a1 : Nat} {a2 : Nat} {a3 : Nat} {a4 : Nat} {a5 : Nat} {a6 : Nat} {a7 : Nat} {a8 : Nat} {a9 : Nat} : (((a0 + (a1 + (a2 + (a3 + (a4 + (a5 + (a6 + (a7 + (a8 + a9))))))))) : Nat) = ((a5 + (a3 + a4)) + ((a0 + (a1 + (a2 + (a6 + (a7 + a8))))) + a9))) := by first | ac_rfl | omega
theorem om187 {a0 : Nat} {a1 : Nat} {a2 : Nat} {a3 : Nat} {a4 : Nat} : ((((a0 + a1) + ((a2 + a3) + a4)) : Nat) = (a0 + (a2 + (a1 + (a3 + a4))))) := by first | lia | omega
theorem om188 {a0 : Nat} {a1 : Nat} {a2 : Nat} {a3 : Nat} {a4 : Nat} {a5 : Nat} {a6 : Nat} : ((((a0 + a1) + ((a2 + a3) + (a4 + (a5 + a6)))) : Nat) = ((a0 + a1) + ((a2 + a3) + (a5 + (a4 + a6))))) := by first | lia | omega
theorem om189 {a0 : Nat} {a1 : Nat} {a2 : Nat} {a3 : Nat} {a4 : Nat} {a5 : Nat} {a6 : Nat} {a7 : Nat} {a8 : Nat} {a9 : Nat} {a10 : Nat} {a11 : Nat} {a12 : Nat} {a13 : Nat} : (((a0 + (a1 + (a2 + (a3 + (a4 + (a5 + (a6 + (a7 + (a8 + (a9 + (a10 + (a11 + (a12 + a13))))))))))))) : Nat) = ((a2 + a11) + ((a1 + a12) + (a6 + ((a0 + (a3 + (a4 + (a5 + (a7 + (a8 + (a9 + a10))))))) + a13))))) := by first | lia | omega
theorem om190 {a0 : Nat} {a1 : Nat} {a2 : Nat} {a3 : Nat} : (((a0 + (a1 + (a2 + a3))) : Nat) = (a1 + (a2 + (a0 + a3)))) := by first | ac_rfl | omega
theorem om191 {a0 : Nat} {a1 : Nat} {a2 : Nat} {a3 : Nat} {a4 : Nat} : (((a0 + (a1 + (a2 + (a3 + a4)))) : Nat) = (a3 + (a0 + (a1 + (a2 + a4))))) := by first | lia | omega
theorem om192 {a0 : Nat} {a1 : Nat} {a2 : Nat} {a3 : Nat} : ((((a0 + (a1 + a2)) + a3) : Nat) = (a1 + (a2 + (a0 + a3)))) := by first | ac_rfl | omega
theorem om193 {a0 : Nat} {a1 : Nat} (h0 : (¬ ((a0 : Nat) = a1))) : (¬ (((((a0 : Nat) : Int)) : Int) = (((a1 : Nat) : Int)))) := by first | lia | omega
theorem om195 {a0 : Nat} (h0 : ((a0 : Nat) = 0)) : (((a0 + 1) : Nat) ≤ 64) := by first | lia | omega
theorem om196 {a0 : Nat} {a1 : Nat} {a2 : Nat} (h0 : ((a0 : Nat) ≤ (4 * a1))) (h1 : ((a2 : Nat) ≤ 3)) : ((((a2 + 1) + a0) : Nat) ≤ (4 * (a1 + 1))) := Nat.le_trans (Nat.add_le_add (Nat.succ_le_succ h1) h0) (Nat.le_of_eq (Nat.add_comm 4 _))
theorem om197 {a0 : Nat} (h0 : ((a0 : Nat) = 0)) : (((max 0 a0) : Nat) = 0) := by first | assumption | omega
theorem om198 {a0 : Nat} {a1 : Nat} (h0 : ((a0 : Nat) < a1)) : ((((((a0 : Nat) : Int)) + (1 - 1)) : Int) = (((a0 : Nat) : Int))) := by first | ac_rfl | omega
theorem om199 {a0 : Nat} (h0 : ((0 : Int) < (((a0 : Nat) : Int)))) : (((((((((a0 : Nat) : Int)) - 0) - 1) / 1) + 1) : Int) = (((a0 : Nat) : Int))) := by first | lia | omega
theorem om200 {a0 : Nat} {a1 : Nat} {a2 : Nat} (h0 : (((a0 + (a1 + 1)) : Nat) = a2)) : ((((a0 + 1) + a1) : Nat) = a2) := by first | lia | omega
theorem om201 {a0 : Nat} {a1 : Nat} {a2 : Nat} (h0 : (((a0 + (a1 + 1)) : Nat) = a2)) : ((a0 : Nat) < a2) := h0 ▸ Nat.lt_add_of_pos_right (Nat.succ_pos _)
theorem om202 {a0 : Nat} {a1 : Nat} {a2 : Nat} (h0 : ((a0 : Nat) = (2 * a1))) (h1 : ((a2 : Nat) < (2 * a1))) : ((a2 : Nat) < a0) := h0.symm ▸ h1
theorem om204 {a0 : Nat} {a1 : Nat} (h0 : (((a0 : Nat) = 2) ∨ ((a0 : Nat) = 4))) (h1 : ((a1 : Nat) = (2 * a0))) : ((a1 : Nat) ≤ 8) := by rcases h0 with rfl | rfl <;> subst h1 <;> decide
theorem om205 {a0 : Nat} {a1 : Nat} (h0 : (((a0 : Nat) = 2) ∨ ((a0 : Nat) = 4))) (h1 : ((a1 : Nat) < (2 * a0))) : ((a1 : Nat) < 8) := by rcases h0 with rfl | rfl; exact Nat.lt_trans h1 (by decide); exact h1
theorem om206 {a0 : Nat} : (((0 + (((a0 : Nat) : Int))) : Int) = (((a0 : Nat) : Int))) := by first | lia | omega
theorem om207 {a0 : Nat} : (((0 + (2 * a0)) : Nat) = (2 * a0)) := by first | lia | omega
theorem om208 {a0 : Nat} (h0 : (((a0 : Nat) = 2) ∨ ((a0 : Nat) = 4))) : (((2 * a0) : Nat) ≤ 16777216) := by first | (rcases ‹_ ∨ _› with h | h <;> subst h <;> first | decide | lia | omega) | omega
theorem om210 {a0 : Nat} : (((((((2 * a0) : Nat) : Int)) / 2) : Int) = (((a0 : Nat) : Int))) := congrArg Int.ofNat (Nat.mul_div_cancel_left a0 (by decide : 0 < 2))
theorem om211 {a0 : Nat} {a1 : Nat} (h0 : (((a0 : Nat) = 2) ∨ ((a0 : Nat) = 4))) (h1 : ((a1 : Nat) = (2 * a0))) : (((((a1 : Nat) : Int)) : Int) < 9223372036854775808) := by rcases h0 with rfl | rfl <;> subst h1 <;> decide
theorem om212 {a0 : Nat} (h0 : ((a0 : Nat) < 8)) : (((((a0 : Nat) : Int)) : Int) < 8) := by first | exact Int.ofNat_lt.mpr (by assumption) | omega
theorem om213 {a0 : Nat} {a1 : Nat} (h0 : ((a0 : Nat) < (2 * a1))) : (((((a0 : Nat) : Int)) : Int) < (2 * (((a1 : Nat) : Int)))) := by first | exact Int.ofNat_lt.mpr (by assumption) | omega
theorem om214 {a0 : Nat} (h0 : (((a0 : Nat) = 2) ∨ ((a0 : Nat) = 4))) : ((((((a0 : Nat) : Int)) : Int) = 2) ∨ (((((a0 : Nat) : Int)) : Int) = 4)) := by first | (rcases ‹_ ∨ _› with h | h <;> subst h <;> first | decide | lia | omega) | omega
theorem om215 {a0 : Nat} : (((0 + a0) : Nat) = a0) := by first | lia | omega
theorem om216 {a0 : Nat} {a1 : Nat} {a2 : Nat} (h0 : (((a0 : Nat) = 2) ∨ ((a0 : Nat) = 4))) (h1 : ((a1 : Nat) = (2 * a0))) (h2 : ((a2 : Nat) = a1)) : ((a2 : Nat) ≤ 16777216) := by rcases h0 with rfl | rfl <;> subst h1 <;> subst h2 <;> decide
theorem om217 {a0 : Nat} {a1 : Nat} (h0 : ((a0 : Nat) < 10)) (h1 : ((a1 : Nat) ≤ (a0 * 2000))) : (((a1 + (a0 * 0)) : Nat) ≤ 16777216) := Nat.le_trans h1 (Nat.le_trans (Nat.mul_le_mul_right 2000 (Nat.le_of_lt h0)) (by decide))
theorem om218 {a0 : Nat} (h0 : ((a0 : Nat) < 10)) : ((a0 : Nat) ≤ 16777216) := Nat.le_trans (Nat.le_of_lt h0) (by decide)
theorem om219 {a0 : Nat} {a1 : Nat} (h0 : (((a0 + ((2 + 2) * 12)) : Nat) < a1)) : ((((a0 + 5) + ((0 + 2) * 12)) : Nat) < a1) := by first | lia | omega
theorem om220 {a0 : Nat} (h0 : ((a0 : Nat) < 10)) : ((a0 : Nat) ≤ 100) := by first | lia | omega
theorem om221 {a0 : Nat} {a1 : Nat} (h0 : (((a0 + ((2 + 2) * 12)) : Nat) < a1)) : (((a0 + 5) : Nat) < a1) := by first | lia | omega
theorem om222 {a0 : Nat} {a1 : Nat} {a2 : Nat} (h0 : (((a0 + ((2 + 2) * 12)) : Nat) < a1)) (h1 : ((a2 : Nat) ≤ 3)) : ((((a0 + 3) + a2) : Nat) < a1) := sh (Nat.lt_of_le_of_lt (Nat.add_le_add_left (Nat.add_le_add_left h1 3) a0) (sh2 h0 (by decide))) (Nat.le_refl _)
theorem om223 {a0 : Nat} {a1 : Nat} (h0 : (((a0 + ((4 + 2) * 12)) : Nat) < a1)) : ((((a0 + 3) + ((3 + 2) * 12)) : Nat) < a1) := sh h0 (by decide)
theorem om224 {a0 : Nat} {a1 : Nat} (h0 : (((a0 + ((4 + 2) * 4)) : Nat) < a1)) : ((((a0 + 1) + ((3 + 2) * 4)) : Nat) < a1) := sh h0 (by decide)
theorem om225 {a0 : Int} {a1 : Int} {a2 : Int} : (((((a0 + a1) - a2) + a2) : Int) = (a0 + a1)) := by first | lia | omega
theorem om226 {a0 : Nat} {a1 : Nat} (h0 : (((a0 + ((5 + 2) * 12)) : Nat) < a1)) : (((a0 + ((2 + 2) * 12)) : Nat) < a1) := sh2 h0 (by decide)
theorem om227 {a0 : Nat} {a1 : Nat} (h0 : (((a0 + ((5 + 2) * 4)) : Nat) < a1)) : (((a0 + ((2 + 2) * 4)) : Nat) < a1) := by first | lia | omega
theorem om228 {a0 : Nat} {a1 : Nat} (h0 : (((a0 : Nat) = 2) ∨ ((a0 : Nat) = 4))) (h1 : ((a1 : Nat) = (2 * a0))) : ((a1 : Nat) < 10) := by rcases h0 with rfl | rfl <;> subst h1 <;> decide
theorem om229 {a0 : Nat} {a1 : Nat} (h0 : (((a0 + ((5 + 2) * 12)) : Nat) < a1)) : (((a0 + ((1 + 2) * 12)) : Nat) < a1) := by first | lia | omega
theorem om230 {a0 : Nat} {a1 : Nat} (h0 : (((a0 + ((5 + 2) * 4)) : Nat) < a1)) : (((a0 + ((1 + 2) * 4)) : Nat) < a1) := sh2 h0 (by decide)
theorem om231 {a0 : Nat} {a1 : Nat} (h0 : (((a0 + ((5 + 2) * 12)) : Nat) < a1)) : (((a0 + ((4 + 2) * 12)) : Nat) < a1) := sh2 h0 (by decide)
theorem om232 {a0 : Nat} {a1 : Nat} (h0 : (((a0 + ((5 + 2) * 4)) : Nat) < a1)) : (((a0 + ((4 + 2) * 4)) : Nat) < a1) := sh2 h0 (by decide)
theorem om233 {a0 : Nat} {a1 : Nat} (h0 : ((a0 : Nat) < a1)) : ((((a1 + 1) - (a0 + 1)) : Nat) < ((a1 + 1) - a0)) := Nat.sub_lt_sub_left (Nat.lt_succ_of_lt h0) (Nat.lt_succ_self _)
theorem om234 {a0 : Nat} {a1 : Nat} {a2 : Nat} {a3 : Nat} {a4 : Nat} {a5 : Nat} {a6 : Nat} {a7 : Nat} {a8 : Nat} {a9 : Nat} : (((a0 + (a1 + (a2 + (a3 + (a4 + (a5 + (a6 + (a7 + (a8 + a9))))))))) : Nat) = (a5 + (a4 + (a2 + (a6 + ((a0 + (a1 + (a3 + (a7 + a8)))) + a9)))))) := by first | lia | omega
theorem om235 {a0 : Nat} {a1 : Nat} {a2 : Nat} {a3 : Nat} {a4 : Nat} {a5 : Nat} : ((((a0 + (a1 + a2)) + (a3 + (0 + (a4 + a5)))) : Nat) = (a1 + (a0 + (a2 + (a3 + (a4 + a5)))))) := by first | lia | omega
theorem om236 {a0 : Nat} {a1 : Nat} {a2 : Nat} {a3 : Nat} {a4 : Nat} : (((a0 + (a1 + (a2 + (a3 + a4)))) : Nat) = ((a0 + (a1 + a2)) + (a3 + (0 + a4)))) := by first | lia | omega
theorem om237 {a0 : Nat} {a1 : Nat} {a2 : Nat} {a3 : Nat} {a4 : Nat} {a5 : Nat} : (((a0 + (a1 + (a2 + ((a3 + a4) + a5)))) : Nat) = (a2 + (a3 + (a4 + ((a0 + a1) + a5))))) := by first | ac_rfl | omega
theorem om238 {a0 : Nat} {a1 : Nat} {a2 : Nat} (h0 : ((a0 : Nat) = (2 * a1))) (h1 : (¬ ((a2 : Nat) < (2 * a1)))) : ((a0 : Nat) ≤ a2) := h0.symm ▸ Nat.le_of_not_lt h1
theorem om239 {a0 : Nat} (h0 : (((a0 : Nat) = 4) ∨ ((a0 : Nat) = 8))) : (¬ (((((a0 : Nat) : Int)) : Int) = 0)) := by first | (rcases ‹_ ∨ _› with ⟨h, h2⟩ | ⟨h, h2⟩ <;> subst h <;> subst h2 <;> first | decide | lia | omega) | omega
theorem om240 {a0 : Nat} : ((((a0 % 2) : Nat) = 0) ∨ (((a0 % 2) : Nat) = 1)) := by first | exact Nat.mod_two_eq_zero_or_one _ | omega
theorem om241 {a0 : Nat} : ((((((2 : Nat) : Int)) + ((((a0 % 2) : Nat) : Int))) : Int) = ((((2 + (a0 % 2)) : Nat) : Int))) := (Int.natCast_add 2 _).symm
theorem om242 {a0 : Int} (h0 : (((0 : Int) ≤ a0) ∧ ((a0 : Int) < 1000000))) : (((Int.toNat a0) : Nat) < 1000000) := (Int.toNat_lt h0.1).mpr h0.2
theorem om243 {a0 : Nat} {a1 : Nat} (h0 : ((a0 : Nat) ≤ 10)) (h1 : ((a1 : Nat) = 9900)) : (((7 + ((a0 + 2) * 12)) : Nat) < a1) := by subst h1; exact Nat.lt_of_le_of_lt (Nat.add_le_add_left (Nat.mul_le_mul_right 12 (Nat.add_le_add_right h0 2)) _) (by decide)
theorem om244 {a0 : Nat} {a1 : Nat} {a2 : Nat} (h0 : ((a0 : Nat) ≤ 10)) (h1 : ((a1 : Nat) = 300)) (h2 : ((a2 : Nat) = 1000)) : (((((1 + a1) + 1) + ((a0 + 2) * 4)) : Nat) < a2) := by subst h1 h2; exact Nat.lt_of_le_of_lt (Nat.add_le_add_left (Nat.mul_le_mul_right 4 (Nat.add_le_add_right h0 2)) _) (by decide)
theorem om245 {a0 : Nat} {a1 : Nat} : (((Int.toNat (((((a0 : Nat) : Int)) - 1) - (0 + (((a1 : Nat) : Int))))) : Nat) = ((a0 - 1) - a1)) := by rw [Int.zero_add]; cases a0 with | zero => exact (Int.toNat_of_nonpos (Int.sub_nonpos_of_le (Int.le_trans (by decide) (Int.natCast_nonneg _)))).trans (Nat.zero_sub _).symm | succ k => exact (congrArg (fun z : Int => (z - a1).toNat) (Int.add_sub_cancel (k : Int) 1)).trans (Int.toNat_sub k a1)
theorem om246 {a0 : Nat} (h0 : (((a0 : Nat) = 2) ∨ ((a0 : Nat) = 3))) : ((a0 : Nat) ≤ 16777216) := by first | (rcases ‹_ ∨ _› with h | h <;> subst h <;> first | decide | lia | omega) | omega
theorem om248 : (((0 + 3) : Nat) = 3) := by first | lia | omega
theorem om249 {a0 : Nat} (h0 : ((a0 : Nat) < 1000000)) : (((a0 / 8) : Nat) < 1000000) := Nat.lt_of_le_of_lt (Nat.div_le_self _ _) h0
theorem om250 {a0 : Nat} {a1 : Nat} (h0 : ((a0 : Nat) = 3)) (h1 : ((a1 : Nat) < 4)) : (((a0 + a1) : Nat) < 10) := h0 ▸ Nat.lt_trans (Nat.add_lt_add_left h1 3) (by decide)
theorem om251 {a0 : Nat} {a1 : Nat} (h0 : (((a0 / 2) : Nat) = a1)) (h1 : ((a0 : Nat) < 8)) : ((a1 : Nat) < 4) := h0 ▸ (Nat.div_lt_iff_lt_mul (by decide)).mpr h1
theorem om252 {a0 : Nat} {a1 : Nat} (h0 : ((a0 : Nat) = 3)) (h1 : ((a1 : Nat) < 4)) : (((a0 + a1) : Nat) ≤ 16777216) := by subst h0; exact Nat.le_trans (Nat.add_le_add_left (Nat.le_of_lt h1) 3) (by decide)
theorem om253 {a0 : Nat} {a1 : Nat} (h0 : (((a0 % 2) : Nat) = a1)) : ((a1 : Nat) < 4) := h0 ▸ Nat.lt_trans (Nat.mod_lt a0 (by decide : 2 > 0)) (by decide)
theorem om254 {a0 : Nat} : ((a0 : Nat) ≤ ((((((((((((a0 + 1) + 1) + 1) + 1) + 1) + 1) + 1) + 1) + 1) + 1) + 1) + 1)) := by first | lia | omega
theorem om255 {a0 : Nat} : (((Int.toNat (97 + (((a0 : Nat) : Int)))) : Nat) = (97 + a0)) := by first | ac_rfl | omega
theorem om257 {a0 : Nat} (h0 : (((a0 : Nat) = 4) ∨ ((a0 : Nat) = 8))) : ((a0 : Nat) ≤ 16777216) := by first | (rcases ‹_ ∨ _› with h | h <;> subst h <;> first | decide | lia | omega) | omega
theorem om258 {a0 : Nat} {a1 : Nat} (h0 : ((a0 : Nat) = 1)) (h1 : ((a1 : Nat) = 1)) : (¬ ((16777216 : Nat) < (a0 + a1))) := by first | lia | omega
theorem om259 {a0 : Nat} (h0 : ((a0 : Nat) < 6)) : (((a0 : Nat) = 0) ∨ (((a0 : Nat) = 1) ∨ (((a0 : Nat) = 2) ∨ (((a0 : Nat) = 3) ∨ (((a0 : Nat) = 4) ∨ ((a0 : Nat) = 5)))))) := (by decide : ∀ a : Fin 6, a.1 = 0 ∨ a.1 = 1 ∨ a.1 = 2 ∨ a.1 = 3 ∨ a.1 = 4 ∨ a.1 = 5) ⟨a0, h0⟩
theorem om260 {a0 : Nat} {a1 : Nat} (h0 : (((a0 : Nat) = 4) ∨ ((a0 : Nat) = 8))) (h1 : ((a1 : Nat) < a0)) : ((a1 : Nat) < 8) := by rcases h0 with rfl | rfl; exact Nat.lt_trans h1 (by decide); exact h1
theorem om262 {a0 : Nat} (h0 : (((a0 : Nat) = 4) ∨ ((a0 : Nat) = 8))) : (((0 + a0) : Nat) = a0) := by first | ac_rfl | omega
theorem om263 : (((0 + 2) : Nat) = 2) := by first | lia | omega
theorem om266 {a0 : Nat} {a1 : Nat} {a2 : Nat} (h0 : ((a0 : Nat) < 10)) (h1 : ((a1 : Nat) < a0)) (h2 : ((a2 : Nat) ≤ a1)) : ((a2 : Nat) < 1000) := Nat.lt_of_le_of_lt h2 (Nat.lt_trans h1 (Nat.lt_trans h0 (by decide)))
theorem om267 {a0 : Nat} {a1 : Nat} {a2 : Nat} {a3 : Nat} : (((a0 + (0 + (a1 + (a2 + a3)))) : Nat) = (a0 + ((a1 + a2) + a3))) := by first | lia | omega
theorem om268 {a0 : Nat} (h0 : (((a0 : Nat) = 2) ∨ ((a0 : Nat) = 4))) (h1 : ((0 : Nat) = (2 * a0))) : False := by rcases h0 with rfl | rfl <;> exact absurd h1 (by decide)
theorem om269 {a0 : Nat} : (((Int.toNat (((((2 * a0) : Nat) : Int)) - 0)) : Nat) = (2 * a0)) := by first | ac_rfl | omega
theorem om270 {a0 : Nat} {a1 : Nat} (h0 : (¬ ((a0 : Nat) < a1))) : ((a1 : Nat) ≤ a0) := by first | exact Nat.le_of_not_lt (by assumption) | omega
theorem om271 {a0 : Nat} {a1 : Nat} (h0 : ((a0 : Nat) = a1)) : ((a0 : Nat) ≤ a1) := by first | lia | omega
theorem om272 {a0 : Nat} {a1 : Nat} {a2 : Nat} (h0 : ((a0 : Nat) = a1)) (h1 : ((a2 : Nat) < a1)) : ((a2 : Nat) < a0) := h0.symm ▸ h1
theorem om273 {a0 : Nat} {a1 : Nat} {a2 : Nat} {a3 : Nat} : (((a0 + (a1 + (a2 + a3))) : Nat) = (a2 + (a1 + (a0 + a3)))) := by first | lia | omega
theorem om274 {a0 : Nat} {a1 : Nat} {a2 : Nat} : (((a0 + (a1 + a2)) : Nat) = (a1 + (a0 + a2))) := by first | lia | omega
theorem om275 {a0 : Nat} (h0 : ((a0 : Nat) < 10)) : ((a0 : Nat) < 100) := by first | exact Nat.le_trans (by assumption) (Nat.le_of_ble_eq_true rfl) | omega
theorem om276 {a0 : Nat} {a1 : Nat} {a2 : Nat} (h0 : ((a0 : Nat) = a1)) (h1 : ((a2 : Nat) < a0)) : ((a2 : Nat) < a1) := by first | ac_rfl | omega
theorem om277 {a0 : Nat} {a1 : Nat} (h0 : ((a0 : Nat) < a1)) : (((min a0 a1) : Nat) = a0) := Nat.min_eq_left (Nat.le_of_lt h0)
theorem om278 {a0 : Nat} : (((1 + (((a0 : Nat) : Int))) : Int) = ((((1 + a0) : Nat) : Int))) := by first | ac_rfl | omega
theorem om279 {a0 : Nat} {a1 : Nat} (h0 : ((a0 : Nat) = a1)) (h1 : ((a1 : Nat) < 10)) : ((a0 : Nat) ≤ 16777216) := by first | lia | omega
theorem om281 {a0 : Nat} {a1 : Nat} {a2 : Nat} (h0 : ((a0 : Nat) = a1)) (h1 : ((a1 : Nat) < 10)) (h2 : ((a2 : Nat) ≤ (a0 * 1001))) : ((a2 : Nat) < 100000) := Nat.lt_of_le_of_lt h2 (Nat.lt_of_le_of_lt (Nat.mul_le_mul_right 1001 (Nat.le_of_lt (h0 ▸ h1))) (by decide))
theorem om282 {a0 : Nat} {a1 : Nat} {a2 : Nat} (h0 : ((a0 : Nat) ≤ 1000)) (h1 : ((a1 : Nat) ≤ (a2 * 1001))) : ((((1 + a0) + a1) : Nat) ≤ ((a2 + 1) * 1001)) := Nat.le_trans (Nat.add_le_add (Nat.add_le_add_left h0 1) h1) (Nat.le_of_eq ((Nat.add_comm _ _).trans (Nat.succ_mul a2 1001).symm))
theorem om283 {a0 : Int} {a1 : Nat} {a2 : Nat} (h0 : ((a0 : Int) = (((a1 : Nat) : Int)))) : ((((((a2 : Nat) : Int)) + (((a1 : Nat) : Int))) : Int) = ((((a2 + a1) : Nat) : Int))) := by first | ac_rfl | omega
theorem om285 {a0 : Nat} (h0 : (¬ ((((((a0 % 2) : Nat) : Int)) : Int) = 1))) : (¬ (((a0 % 2) : Nat) = 1)) := fun h => h0 (congrArg Nat.cast h)
theorem om287 {a0 : Nat} (h0 : ((((((a0 % 2) : Nat) : Int)) : Int) = 1)) : (((a0 % 2) : Nat) = 1) := by first | lia | omega
theorem om288 {a0 : Nat} (h0 : ((a0 : Nat) < 3)) : (((((a0 : Nat) : Int)) : Int) < 100) := by first | exact Int.ofNat_lt.mpr (Nat.lt_of_lt_of_le (by assumption) (Nat.le_of_ble_eq_true rfl)) | omega
theorem om291 {a0 : Nat} {a1 : Nat} {a2 : Nat} (h0 : ((((a0 : Nat) = 4) ∧ ((a1 : Nat) = 2)) ∨ (((a0 : Nat) = 8) ∧ ((a1 : Nat) = 3)))) (h1 : ((a2 : Nat) < a1)) : ((a2 : Nat) < 3) := by rcases h0 with ⟨_, rfl⟩ | ⟨_, rfl⟩; exact Nat.lt_trans h1 (by decide); exact h1
theorem om293 {a0 : Nat} {a1 : Nat} {a2 : Nat} (h0 : ((((a0 : Nat) = 4) ∧ ((a1 : Nat) = 2)) ∨ (((a0 : Nat) = 8) ∧ ((a1 : Nat) = 3)))) (h1 : ((a2 : Nat) = a0)) : ((0 : Nat) < a2) := by subst h1; rcases h0 with ⟨rfl, _⟩ | ⟨rfl, _⟩ <;> decide
theorem om294 {a0 : Nat} {a1 : Nat} {a2 : Nat} (h0 : ((((a0 : Nat) = 4) ∧ ((a1 : Nat) = 2)) ∨ (((a0 : Nat) = 8) ∧ ((a1 : Nat) = 3)))) (h1 : ((a2 : Nat) < a0)) : ((a2 : Nat) < 8) := by rcases h0 with ⟨rfl, _⟩ | ⟨rfl, _⟩; exact Nat.lt_trans h1 (by decide); exact h1
theorem om297 {a0 : Nat} : (((2 * a0) : Nat) ≤ (2 * a0)) := by first | lia | omega
theorem om298 {a0 : Nat} (h0 : (((a0 : Nat) = 2) ∨ ((a0 : Nat) = 4))) : ((((2 * a0) : Nat) = 4) ∨ (((2 * a0) : Nat) = 8)) := by first | (rcases ‹_ ∨ _› with h | h <;> subst h <;> first | decide | lia | omega) | omega
theorem om299 {a0 : Nat} (h0 : ((a0 : Nat) < 100)) : (((((a0 : Nat) : Int)) : Int) < 100) := by first | exact Int.ofNat_lt.mpr (by assumption) | omega
theorem om300 {a0 : Nat} {a1 : Nat} (h0 : ((a0 : Nat) < (2 * a1))) (h1 : ((a1 : Nat) = 2)) : (((2 * a0) : Nat) < 100) := by subst h1; exact Nat.lt_trans (Nat.mul_lt_mul_of_pos_left h0 (by decide)) (by decide)
theorem om301 {a0 : Nat} {a1 : Nat} (h0 : ((a0 : Nat) < (2 * a1))) (h1 : ((a1 : Nat) = 4)) : (((3 * a0) : Nat) < 100) := by subst h1; exact Nat.lt_trans (Nat.mul_lt_mul_of_pos_left h0 (by decide)) (by decide)
theorem om302 {a0 : Nat} {a1 : Nat} (h0 : ((((a0 : Nat) = 2) ∧ ((a1 : Nat) = 2)) ∨ (((a0 : Nat) = 4) ∧ ((a1 : Nat) = 3)))) : (((a0 : Nat) = 2) ∨ ((a0 : Nat) = 4)) := by first | lia | omega
theorem om303 {a0 : Int} {a1 : Int} : ((((a0 + a1) - 0) : Int) = (a0 + a1)) := by first | lia | omega
theorem om304 {a0 : Nat} {a1 : Nat} (h0 : (((a0 + ((5 + 2) * 12)) : Nat) < a1)) : (((a0 + ((5 + 2) * 12)) : Nat) < a1) := by first | ac_rfl | omega
theorem om305 {a0 : Nat} {a1 : Nat} (h0 : (((a0 + ((5 + 2) * 4)) : Nat) < a1)) : (((a0 + ((5 + 2) * 4)) : Nat) < a1) := by first | exact Nat.lt_of_le_of_lt (Nat.le_add_right _ _) (by assumption) | omega
theorem om306 {a0 : Nat} {a1 : Nat} (h0 : (((a0 + ((5 + 2) * 4)) : Nat) < a1)) : ((a0 : Nat) < a1) := by first | exact Nat.lt_of_le_of_lt (Nat.le_add_right _ _) (by assumption) | omega
theorem om307 {a0 : Nat} {a1 : Nat} {a2 : Nat} {a3 : Nat} (h0 : (((a0 + (2 * a1)) : Nat) = (a2 + a3))) : (((((((a2 : Nat) : Int)) + (((a3 : Nat) : Int))) - (2 * (((a1 : Nat) : Int)))) : Int) = (((a0 : Nat) : Int))) := Int.sub_eq_iff_eq_add.mpr (congrArg Nat.cast h0.symm)
theorem om308 {a0 : Nat} {a1 : Nat} {a2 : Nat} {a3 : Nat} (h0 : ((((a0 / 2) + (2 * (a1 / 2))) : Nat) = ((a2 / 2) + (a3 / 2)))) (h1 : ((((a0 % 2) : Nat) = 1) ↔ (¬ ((((a2 % 2) : Nat) = 1) ↔ (((a3 % 2) : Nat) = 1))))) (h2 : ((((a1 % 2) : Nat) = 1) ↔ ((((a2 % 2) : Nat) = 1) ∧ (((a3 % 2) : Nat) = 1)))) : (((a0 + (2 * a1)) : Nat) = (a2 + a3)) := by have key : ∀ r0 r1 r2 r3 : Fin 2, (r0.1 = 1 ↔ ¬ (r2.1 = 1 ↔ r3.1 = 1)) → (r1.1 = 1 ↔ r2.1 = 1 ∧ r3.1 = 1) → r0.1 + 2 * r1.1 = r2.1 + r3.1 := (by decide +kernel); have e := key ⟨a0 % 2, Nat.mod_lt _ (by decide)⟩ ⟨a1 % 2, Nat.mod_lt _ (by decide)⟩ ⟨a2 % 2, Nat.mod_lt _ (by decide)⟩ ⟨a3 % 2, Nat.mod_lt _ (by decide)⟩ h1 h2; exact adder e h0
theorem om309 {a0 : Nat} (h0 : (¬ ((a0 : Nat) = 0))) : (((a0 / 2) : Nat) < a0) := Nat.div_lt_self (Nat.pos_of_ne_zero h0) (by decide)
theorem om310 {a0 : Nat} (h0 : (((a0 % 2) : Nat) < 2)) : ((((a0 % 2) * 4) : Nat) < 8) := Nat.mul_lt_mul_of_pos_right h0 (by decide)
theorem om311 {a0 : Nat} {a1 : Nat} (h0 : ((a0 : Nat) < (2 * a1))) : ((0 : Nat) < (2 * a1)) := Nat.zero_lt_of_lt h0
theorem om315 {a0 : Nat} (h0 : ((a0 : Nat) < 128)) : ((a0 : Nat) < 1114112) := by first | exact Nat.lt_of_lt_of_le (by assumption) (Nat.le_of_ble_eq_true rfl) | omega
theorem om316 {a0 : Nat} {a1 : Nat} {a2 : Nat} (h0 : (((a0 : Nat) ≤ (7 * a1)) ∧ ((a1 : Nat) ≤ a0))) (h1 : ((a2 : Nat) ≤ 6)) : (((((a2 + a0) + 1) : Nat) ≤ (7 * (a1 + 1))) ∧ (((a1 + 1) : Nat) ≤ ((a2 + a0) + 1))) := ⟨Nat.le_trans (Nat.succ_le_succ (Nat.add_le_add h1 h0.1)) (Nat.le_of_eq (congrArg Nat.succ (Nat.add_comm 6 _))), Nat.succ_le_succ (Nat.le_trans h0.2 (Nat.le_add_left _ _))⟩
theorem om317 {a0 : Nat} {a1 : Nat} {a2 : Nat} (h0 : (((a0 : Nat) ≤ (5 * a1)) ∧ ((a1 : Nat) ≤ a0))) (h1 : ((a2 : Nat) ≤ 4)) : ((((a2 + (a0 + 1)) : Nat) ≤ (5 * (a1 + 1))) ∧ (((a1 + 1) : Nat) ≤ (a2 + (a0 + 1)))) := ⟨Nat.le_trans (Nat.add_le_add h1 (Nat.succ_le_succ h0.1)) (Nat.le_of_eq (Nat.add_comm 4 _)), Nat.le_trans (Nat.succ_le_succ h0.2) (Nat.le_add_left _ _)⟩
theorem om318 {a0 : Nat} {a1 : Nat} (h0 : ((a0 : Nat) < a1)) (h1 : ((a1 : Nat) = a0)) : False := by first | lia | omega
theorem om319 {a0 : Nat} {a1 : Nat} {a2 : Nat} (h0 : ((a0 : Nat) < (2 * a1))) (h1 : ((a2 : Nat) < a0)) : ((a2 : Nat) < (2 * a1)) := by first | exact Nat.lt_trans (by assumption) (by assumption) | omega
theorem om320 {a0 : Nat} {a1 : Nat} (h0 : (((97 + a0) : Nat) = (97 + a1))) : ((a0 : Nat) = a1) := by first | lia | omega
theorem om321 {a0 : Nat} {a1 : Nat} {a2 : Nat} (h0 : ((((a0 : Nat) = 2) ∧ ((a1 : Nat) = 2)) ∨ (((a0 : Nat) = 4) ∧ ((a1 : Nat) = 3)))) (h1 : ((a2 : Nat) = a1)) : ((a2 : Nat) < 20) := by rcases h0 with ⟨_, rfl⟩ | ⟨_, rfl⟩ <;> subst h1 <;> decide
theorem om322 {a0 : Nat} {a1 : Nat} (h0 : ((((a0 : Nat) = 2) ∧ ((a1 : Nat) = 2)) ∨ (((a0 : Nat) = 4) ∧ ((a1 : Nat) = 3)))) (h1 : ((0 : Nat) = a1)) : False := by first | lia | omega
theorem om323 {a0 : Nat} {a1 : Nat} (h0 : ((a0 : Nat) = (2 * a1))) : ((a0 : Nat) ≤ (2 * a1)) := by first | lia | omega
theorem om324 {a0 : Nat} {a1 : Nat} (h0 : ((((a0 : Nat) = 2) ∧ ((a1 : Nat) = 2)) ∨ (((a0 : Nat) = 4) ∧ ((a1 : Nat) = 3)))) : (((((2 * a0) : Nat) = 4) ∧ ((a1 : Nat) = 2)) ∨ ((((2 * a0) : Nat) = 8) ∧ ((a1 : Nat) = 3))) := h0.imp (fun h => ⟨congrArg (2 * ·) h.1, h.2⟩) (fun h => ⟨congrArg (2 * ·) h.1, h.2⟩)
theorem om325 {a0 : Nat} (h0 : (((a0 : Nat) = 2) ∨ ((a0 : Nat) = 4))) : (((2 * a0) : Nat) < 10) := by first | (rcases ‹_ ∨ _› with h | h <;> subst h <;> first | decide | lia | omega) | omega
theorem om326 {a0 : Nat} {a1 : Nat} {a2 : Nat} {a3 : Nat} (h0 : ((a0 : Nat) < (2 * a1))) (h1 : (((a2 : Nat) ≤ (7 * (2 * a1))) ∧ (((2 * a1) : Nat) ≤ a2))) (h2 : ((a3 : Nat) = a2)) : ((2 : Nat) ≤ a3) := h2 ▸ Nat.le_trans (Nat.mul_le_mul_left 2 (Nat.pos_of_ne_zero fun e => Nat.not_lt_zero _ (e ▸ h0))) h1.2
theorem om327 {a0 : Nat} {a1 : Nat} {a2 : Nat} (h0 : (((a0 : Nat) = 2) ∨ ((a0 : Nat) = 4))) (h1 : (((a1 : Nat) ≤ (7 * (2 * a0))) ∧ (((2 * a0) : Nat) ≤ a1))) (h2 : ((a2 : Nat) = a1)) : ((a2 : Nat) < 2000) := by rcases h0 with rfl | rfl <;> exact h2 ▸ Nat.lt_of_le_of_lt h1.1 (by decide)
theorem om328 {a0 : Nat} (h0 : ((a0 : Nat) = 3)) : ((a0 : Nat) < 20) := by first | lia | omega
theorem om329 {a0 : Nat} {a1 : Nat} {a2 : Nat} {a3 : Nat} (h0 : ((a0 : Nat) = 3)) (h1 : (((a1 : Nat) ≤ (5 * (a0 + a2))) ∧ (((a0 + a2) : Nat) ≤ a1))) (h2 : ((a3 : Nat) = a1)) : ((2 : Nat) ≤ a3) := h2 ▸ Nat.le_trans (Nat.le_trans (h0.symm ▸ (by decide : 2 ≤ 3)) (Nat.le_add_right a0 a2)) h1.2
theorem om330 {a0 : Nat} {a1 : Nat} {a2 : Nat} {a3 : Nat} (h0 : ((a0 : Nat) = 3)) (h1 : (((a1 : Nat) ≤ (5 * (a0 + a2))) ∧ (((a0 + a2) : Nat) ≤ a1))) (h2 : ((a3 : Nat) = a1)) (h3 : ((a2 : Nat) ≤ 3)) : ((a3 : Nat) < 2000) := h2 ▸ Nat.lt_of_le_of_lt (Nat.le_trans h1.1 (Nat.mul_le_mul_left 5 (Nat.add_le_add (Nat.le_of_eq h0) h3))) (by decide)
theorem om331 {a0 : Nat} (h0 : ((a0 : Nat) ≤ 6)) : ((a0 : Nat) ≤ 1000) := by first | exact Nat.le_trans (by assumption) (Nat.le_of_ble_eq_true rfl) | omega
theorem om332 {a0 : Nat} {a1 : Nat} (h0 : ((((a0 : Nat) = 2) ∧ ((a1 : Nat) = 2)) ∨ (((a0 : Nat) = 4) ∧ ((a1 : Nat) = 3)))) : ((a1 : Nat) ≤ 3) := by rcases h0 with ⟨_, rfl⟩ | ⟨_, rfl⟩ <;> decide
theorem om333 {a0 : Nat} {a1 : Nat} {a2 : Nat} (h0 : ((((a0 : Nat) = 2) ∧ ((a1 : Nat) = 2)) ∨ (((a0 : Nat) = 4) ∧ ((a1 : Nat) = 3)))) (h1 : ((a2 : Nat) = a1)) : ((a2 : Nat) < 4) := by first | lia | omega
theorem om334 {a0 : Nat} {a1 : Nat} {a2 : Nat} {a3 : Nat} (h0 : (((a0 : Nat) = (a1 % 8)) ∨ (((a0 : Nat) = (a2 % 8)) ∨ ((a0 : Nat) = (a3 % 8))))) : ((a0 : Nat) < 8) := by rcases h0 with h | h | h <;> exact h ▸ Nat.mod_lt _ (by decide)
theorem om335 {a0 : Nat} {a1 : Nat} (h0 : ((((a0 : Nat) = 2) ∧ ((a1 : Nat) = 2)) ∨ (((a0 : Nat) = 4) ∧ ((a1 : Nat) = 3)))) : (((a1 : Nat) = 2) ∨ ((a1 : Nat) = 3)) := by first | lia | omega
theorem om336 {a0 : Nat} (h0 : (((a0 : Nat) = 2) ∨ ((a0 : Nat) = 4))) : ((0 : Nat) < (2 * a0)) := by first | (rcases ‹_ ∨ _› with h | h <;> subst h <;> first | decide | lia | omega) | omega
theorem om337 {a0 : Nat} (h0 : (((a0 % 2) : Nat) = 1)) : (((2 + (a0 % 2)) : Nat) = 3) := by first | lia | omega
theorem om338 {a0 : Nat} (h0 : (((a0 % 2) : Nat) = 0)) : (((2 + (a0 % 2)) : Nat) = 2) := by first | lia | omega
theorem om339 {a0 : Int} {a1 : Nat} (h0 : ((a0 : Int) = (((a1 : Nat) : Int)))) : (((1 + a0) : Int) = ((((1 + a1) : Nat) : Int))) := by first | lia | omega
theorem om340 {a0 : Int} {a1 : Int} {a2 : Int} {a3 : Int} {a4 : Int} {a5 : Nat} (h0 : (((a0 + a1) : Int) = (a2 + a3))) (h1 : (((a2 + a3) : Int) = (1 + a4))) (h2 : ((a4 : Int) = (((a5 : Nat) : Int)))) : (((a0 + a1) : Int) = ((((1 + a5) : Nat) : Int))) := h0.trans (h1.trans (h2 ▸ (Int.natCast_add 1 a5).symm))
theorem om341 {a0 : Nat} {a1 : Nat} {a2 : Nat} {a3 : Nat} {a4 : Nat} {a5 : Nat} {a6 : Nat} {a7 : Nat} : (((a0 + ((a1 + (a2 + (a3 + a4))) + (a5 + (a6 + a7)))) : Nat) = (a0 + ((a3 + a4) + (a1 + (a2 + (a5 + (a6 + a7))))))) := by first | lia | omega
theorem om342 {a0 : Nat} {a1 : Nat} {a2 : Nat} {a3 : Nat} {a4 : Nat} {a5 : Nat} {a6 : Nat} : (((a0 + (a1 + (a2 + (a3 + (a4 + (a5 + a6)))))) : Nat) = (a0 + ((a3 + (a2 + (a4 + a5))) + (a1 + a6)))) := by first | lia | omega
theorem om343 {a0 : Nat} {a1 : Nat} {a2 : Nat} {a3 : Nat} {a4 : Nat} {a5 : Nat} {a6 : Nat} {a7 : Nat} : (((a0 + (a1 + (a2 + (a3 + (a4 + (a5 + (a6 + a7))))))) : Nat) = (a0 + (a5 + (a2 + (a6 + (a3 + (a4 + (a1 + a7)))))))) := by first | lia | omega
theorem om344 {a0 : Nat} {a1 : Nat} {a2 : Nat} {a3 : Nat} {a4 : Nat} {a5 : Nat} {a6 : Nat} {a7 : Nat} {a8 : Nat} {a9 : Nat} : (((a0 + (a1 + (a2 + (a3 + (a4 + (a5 + (a6 + (a7 + (a8 + a9))))))))) : Nat) = (a1 + (a2 + (a4 + (a5 + (a6 + (a7 + (a8 + (a0 + (a3 + a9)))))))))) := by first | ac_rfl | omega
theorem om345 {a0 : Nat} {a1 : Nat} {a2 : Nat} {a3 : Nat} {a4 : Nat} {a5 : Nat} {a6 : Nat} {a7 : Nat} {a8 : Nat} {a9 : Nat} : (((a0 + (a1 + (a2 + ((a3 + a4) + (a5 + (a6 + (a7 + (a8 + a9)))))))) : Nat) = (a0 + (a3 + (a5 + (a6 + (a7 + (a8 + (a1 + (a2 + (a4 + a9)))))))))) := by first | lia | omega
theorem om346 {a0 : Nat} {a1 : Nat} {a2 : Nat} {a3 : Nat} {a4 : Nat} {a5 : Nat} {a6 : Nat} {a7 : Nat} {a8 : Nat} : (((a0 + ((a1 + (a2 + (a3 + a4))) + (a5 + (a6 + (a7 + a8))))) : Nat) = (a0 + (a1 + (a6 + (a2 + (a3 + (a4 + (a7 + (a5 + a8))))))))) := by first | lia | omega
theorem om347 {a0 : Nat} {a1 : Nat} {a2 : Nat} {a3 : Nat} {a4 : Nat} {a5 : Nat} {a6 : Nat} {a7 : Nat} {a8 : Nat} {a9 : Nat} {a10 : Nat} {a11 : Nat} {a12 : Nat} {a13 : Nat} : (((a0 + (a1 + (a2 + (a3 + (a4 + (a5 + ((a6 + a7) + ((a8 + (a9 + a10)) + (a11 + (a12 + a13)))))))))) : Nat) = (a3 + ((a13 + (a0 + (a8 + a6))) + (a5 + (a12 + (a1 + (a2 + (a4 + (a7 + (a9 + (a10 + a11))))))))))) := by first | ac_rfl | omega
theorem om348 {a0 : Nat} {a1 : Nat} {a2 : Nat} {a3 : Nat} {a4 : Nat} {a5 : Nat} : (((a0 + (a1 + (a2 + (a3 + (a4 + a5))))) : Nat) = (a1 + (a5 + ((a0 + a2) + (a3 + a4))))) := by first | lia | omega
theorem om349 {a0 : Nat} (h0 : ((a0 : Nat) < 4)) : (((((a0 : Nat) : Int)) : Int) < (2 ^ 63)) := by first | exact Int.ofNat_lt.mpr (Nat.lt_of_lt_of_le (by assumption) (Nat.le_of_ble_eq_true rfl)) | omega
theorem om350 {a0 : Nat} {a1 : Nat} (h0 : ((a0 : Nat) < 10)) (h1 : ((a1 : Nat) < a0)) : (((((a1 : Nat) : Int)) : Int) < (2 ^ 63)) := Int.lt_of_lt_of_le (Int.ofNat_lt.mpr (Nat.lt_trans h1 h0)) (by decide)
theorem om351 {a0 : Nat} (h0 : ((a0 : Nat) < 10)) : ((a0 : Nat) < (2 ^ 60)) := by first | exact Nat.lt_of_lt_of_le (by assumption) (Nat.le_of_ble_eq_true rfl) | omega
theorem om352 {a0 : Int} (h0 : ((a0 : Int) < 4)) : ((a0 : Int) < (2 ^ 63)) := Int.lt_trans h0 (by decide)
theorem om353 {a0 : Nat} (h0 : ((a0 : Nat) < 1000)) : ((a0 : Nat) < (2 ^ 60)) := by first | exact Nat.lt_of_lt_of_le (by assumption) (Nat.le_of_ble_eq_true rfl) | omega
theorem om354 {a0 : Nat} (h0 : ((a0 : Nat) < (2 ^ 60))) : (((((a0 : Nat) : Int)) : Int) < 9223372036854775808) := by first | exact Int.ofNat_lt.mpr (Nat.lt_of_lt_of_le (by assumption) (Nat.le_of_ble_eq_true rfl)) | omega
theorem om355 {a0 : Nat} (h0 : ((a0 : Nat) < 2)) : (((((a0 : Nat) : Int)) : Int) < (2 ^ 63)) := by first | exact Int.ofNat_lt.mpr (Nat.lt_of_lt_of_le (by assumption) (Nat.le_of_ble_eq_true rfl)) | omega
theorem om356 {a0 : Nat} (h0 : ((a0 : Nat) < 5)) : (((2 * a0) : Nat) < (2 ^ 60)) := Nat.lt_of_le_of_lt (Nat.mul_le_mul_left 2 (Nat.le_of_lt h0)) (by decide)
theorem om357 {a0 : Nat} {a1 : Nat} (h0 : ((a0 : Nat) ≤ 8)) (h1 : ((a1 : Nat) ≤ (4 * a0))) : ((a1 : Nat) ≤ (2 ^ 20)) := Nat.le_trans h1 (Nat.le_trans (Nat.mul_le_mul_left 4 h0) (by decide))
theorem om358 {a0 : Nat} {a1 : Nat} (h0 : (((a0 : Nat) = 2) ∨ ((a0 : Nat) = 4))) (h1 : ((a1 : Nat) < (2 * a0))) : (((((a1 : Nat) : Int)) : Int) < (2 ^ 63)) := by rcases h0 with rfl | rfl <;> exact Int.lt_of_lt_of_le (Int.ofNat_lt.mpr h1) (by decide)
theorem om359 {a0 : Nat} (h0 : (((a0 : Nat) = 2) ∨ ((a0 : Nat) = 4))) : (((2 * a0) : Nat) < (2 ^ 60)) := by first | (rcases ‹_ ∨ _› with h | h <;> subst h <;> first | decide | lia | omega) | omega
theorem om360 {a0 : Nat} (h0 : (((a0 : Nat) = 2) ∨ ((a0 : Nat) = 3))) : ((a0 : Nat) < (2 ^ 60)) := by rcases h0 with rfl | rfl <;> decide
theorem om361 {a0 : Nat} (h0 : ((a0 : Nat) < 100000)) : (((((a0 : Nat) : Int)) : Int) < (2 ^ 63)) := by first | exact Int.ofNat_lt.mpr (Nat.lt_of_lt_of_le (by assumption) (Nat.le_of_ble_eq_true rfl)) | omega
theorem om362 {a0 : Nat} (h0 : ((a0 : Nat) < 8)) : (((((a0 : Nat) : Int)) : Int) < (2 ^ 63)) := by first | exact Int.ofNat_lt.mpr (Nat.lt_of_lt_of_le (by assumption) (Nat.le_of_ble_eq_true rfl)) | omega
theorem om363 {a0 : Nat} {a1 : Nat} {a2 : Nat} (h0 : ((((a0 : Nat) = 4) ∧ ((a1 : Nat) = 2)) ∨ (((a0 : Nat) = 8) ∧ ((a1 : Nat) = 3)))) (h1 : ((a2 : Nat) < a0)) : (((((a2 : Nat) : Int)) : Int) < (2 ^ 63)) := by rcases h0 with ⟨rfl, _⟩ | ⟨rfl, _⟩ <;> exact Int.lt_of_lt_of_le (Int.ofNat_lt.mpr h1) (by decide)
theorem om364 {a0 : Nat} {a1 : Nat} (h0 : ((((a0 : Nat) = 4) ∧ ((a1 : Nat) = 2)) ∨ (((a0 : Nat) = 8) ∧ ((a1 : Nat) = 3)))) : (((2 ^ 0) : Nat) < a0) := by first | (rcases ‹_ ∨ _› with ⟨h, h2⟩ | ⟨h, h2⟩ <;> subst h <;> subst h2 <;> first | decide | lia | omega) | omega
theorem om365 {a0 : Nat} {a1 : Nat} (h0 : ((((a0 : Nat) = 4) ∧ ((a1 : Nat) = 2)) ∨ (((a0 : Nat) = 8) ∧ ((a1 : Nat) = 3)))) : (((2 ^ 1) : Nat) < a0) := by rcases h0 with ⟨rfl, _⟩ | ⟨rfl, _⟩ <;> decide
theorem om366 {a0 : Nat} {a1 : Nat} (h0 : ((((a0 : Nat) = 4) ∧ ((a1 : Nat) = 2)) ∨ (((a0 : Nat) = 8) ∧ ((a1 : Nat) = 3)))) (h1 : ((2 : Nat) < a1)) : (((2 ^ 2) : Nat) < a0) := by rcases h0 with ⟨rfl, rfl⟩ | ⟨rfl, rfl⟩; exact absurd h1 (by decide); decide
theorem om367 {a0 : Nat} {a1 : Nat} (h0 : ((((a0 : Nat) = 4) ∧ ((a1 : Nat) = 2)) ∨ (((a0 : Nat) = 8) ∧ ((a1 : Nat) = 3)))) : ((a1 : Nat) < (2 ^ 60)) := by rcases h0 with ⟨_, rfl⟩ | ⟨_, rfl⟩ <;> decide
theorem om368 {a0 : Nat} {a1 : Nat} (h0 : ((((a0 : Nat) = 4) ∧ ((a1 : Nat) = 2)) ∨ (((a0 : Nat) = 8) ∧ ((a1 : Nat) = 3)))) : ((a0 : Nat) < (2 ^ 60)) := by first | (rcases ‹_ ∨ _› with ⟨h, h2⟩ | ⟨h, h2⟩ <;> subst h <;> subst h2 <;> first | decide | lia | omega) | omega
theorem om369 {a0 : Nat} (h0 : (((a0 : Nat) = 4) ∨ ((a0 : Nat) = 8))) : ((a0 : Nat) < (2 ^ 60)) := by first | (rcases ‹_ ∨ _› with h | h <;> subst h <;> first | decide | lia | omega) | omega
theorem om370 {a0 : Nat} (h0 : ((a0 : Nat) < 8)) : (((((a0 : Nat) : Int)) : Int) < (2 ^ 64)) := by first | exact Int.ofNat_lt.mpr (Nat.lt_of_lt_of_le (by assumption) (Nat.le_of_ble_eq_true rfl)) | omega
theorem om371 {a0 : Nat} : (((-(2 ^ 64)) : Int) < (((a0 : Nat) : Int))) := Int.lt_of_lt_of_le (by decide) (Int.natCast_nonneg _)
theorem om372 {a0 : Nat} {a1 : Nat} (h0 : (((a0 : Nat) = 4) ∨ ((a0 : Nat) = 8))) (h1 : ((a1 : Nat) < a0)) : (((((a1 : Nat) : Int)) : Int) < (2 ^ 63)) := by rcases h0 with rfl | rfl <;> exact Int.lt_of_lt_of_le (Int.ofNat_lt.mpr h1) (by decide)
theorem om375 {a0 : Nat} (h0 : (((2 ^ 0) : Nat) ≤ (2 * a0))) : ((0 : Nat) < (2 * a0)) := by first | assumption | omega
end Mine
end

section
open PySem PySem.W PyProof.Rows PySem.Calls PySem.Spec
set_option maxHeartbeats 8000000
namespace Mine
noncomputable abbrev PW := PySem.Challenge.pw_xj0013_01
/-- the names that the module may hold -/
noncomputable abbrev LL : List Str := [Str.ofString "_Accumulator", Str.ofString "_wall", Str.ofString "and_", Str.ofString "rshift", Str.ofString "xor", Str.ofString "indexOf", Str.ofString "_law_numbers", Str.ofString "_law_lexer", Str.ofString "_law_written", Str.ofString "_law_file", Str.ofString "_law_place", Str.ofString "_law_shuffle", Str.ofString "_law_run", Str.ofString "law", Str.ofString "EMPTYSTRING", Str.ofString "_netrclex"]
noncomputable abbrev Tp (mean : ExcName → Option Value) (mg mb : Str → Option Value) (h : Heap) : Prop := Top topProg LL mean mg mb h
noncomputable abbrev Led := List (Addr × Obj)
/-- what a call of f upon vs does that changes no object that stood: the answer is R of a token -/
noncomputable abbrev ClaimV (w : World) (mean : ExcName → Option Value) (mg mb : Str → Option Value) (lv : Nat) (f : Addr) (vs : List Value) (R : Tok → Value) : Prop :=
  ∀ (dp un : Nat) (gd : Option (List Code)) (cn : Str) (cs : Scope) (a : Addr) (ccd : Value) (cl : List (Str × Addr)) (outer : List Env) (A₀ : Around) (base h₀ : Heap) (L : Addr) (m : Str → Option Value) (news : Led) (s : Shared) (Q E : Value → Shared → Prop),
    Below A₀ base outer h₀ → Fr h₀ L s.heap m → (hd.heap_1 w.params).In h₀ → News h₀ L s.heap news → Tp mean mg mb h₀ → cs.kind = .function →
    dp + (lv + 2) * 4 < recursionLimit → un + (lv + 2) * 12 < cLine →
    (∀ (t : Tok) (h' : Heap) (tk' : Nat), Fr h₀ L h' m → News h₀ L h' news → Q (R t) { s with heap := h', toks := tk' }) →
      wpAny (model PySem.Challenge.pw_xj0013_01 w) (ktrTop dp un gd cn cs L a ccd cl outer) (call (.ref f) vs) Q E s
/-- no address of l stands in r -/
noncomputable def Off (l r : Led) : Prop := ∀ p ∈ l, ∀ q ∈ r, q.1 ≠ p.1
/-- what a call of f upon vs does: of what the call may change stands pre, all else that is known rest; behind it post, and extra beside rest -/
noncomputable abbrev ClaimL (w : World) (mean : ExcName → Option Value) (mg mb : Str → Option Value) (lv : Nat) (f : Value) (vs : List Value) (pre : Led) (Rd : Led → Prop) (Post : Value → Led → Led → Prop) : Prop :=
  ∀ (dp un : Nat) (gd : Option (List Code)) (cn : Str) (cs : Scope) (a : Addr) (ccd : Value) (cl : List (Str × Addr)) (outer : List Env) (A₀ : Around) (base h₀ : Heap) (L : Addr) (m : Str → Option Value) (rest : Led) (s : Shared) (Q E : Value → Shared → Prop),
    Below A₀ base outer h₀ → Fr h₀ L s.heap m → (hd.heap_1 w.params).In h₀ → News h₀ L s.heap (pre ++ rest) → Off pre rest → Rd rest → Tp mean mg mb h₀ → cs.kind = .function →
    dp + (lv + 2) * 4 < recursionLimit → un + (lv + 2) * 12 < cLine →
    (∀ (v : Value) (post extra : Led) (h' : Heap) (tk' : Nat), Fr h₀ L h' m → News h₀ L h' (post ++ (extra ++ rest)) → Off post (extra ++ rest) → Off extra rest → Post v post extra → Q v { s with heap := h', toks := tk' }) →
      wpAny (model PySem.Challenge.pw_xj0013_01 w) (ktrTop dp un gd cn cs L a ccd cl outer) (call f vs) Q E s
noncomputable abbrev There : Prop := PySem.Challenge.rw_xj0013_01 = PySem.Challenge.rw_xj0013_01 ∧ hd.heap_1 = hd.heap_1
/-- what stands behind a step is made a name -/
theorem cutQ {α : Type} {M : Model} {A : Around} {T : Sem α} {Q : α → Shared → Prop} {E : Value → Shared → Prop} {s : Shared} (h : ∀ K KE, (∀ {v s}, Q v s → K v s) → (∀ {e s}, E e s → KE e s) → wpAny M A T K KE s) : wpAny M A T Q E s := h Q E id id
/-- the same, and a step's end told first -/
theorem cutP {α : Type} {M : Model} {A : Around} {T : Sem α} {Q : α → Shared → Prop} {E : Value → Shared → Prop} {s : Shared} (P : α → Shared → Prop) (h : ∀ K, (∀ {v s}, P v s → K v s) → wpAny M A T K E s) (k : ∀ v s, P v s → Q v s) : wpAny M A T Q E s := h Q (fun {v s} => k v s)
theorem codeCut {M : Model} {A : Around} {c : Code} {R : Result → Shared → Prop} {s : Shared} (P : Result → Shared → Prop) (h : ∀ K : Result → Shared → Prop, (∀ {r s}, P r s → K r s) → codeAny M A c K s) (k : ∀ r s, P r s → R r s) : codeAny M A c R s := h R (fun {r s} => k r s)
end Mine
end

section
open PySem PySem.W PyProof.Rows PySem.Calls PySem.Spec
set_option maxHeartbeats 3000000
namespace Mine
/-- what a tree asks next -/
inductive Vw (α : Type) : Type 1
  | load (a : Addr) (k : Obj → Sem α)
  | upd (a : Addr) (f : Obj → Obj) (k : Sem α)
  | alloc (o : Obj) (k : Addr → Sem α)
  | fresh (k : Tok → Sem α)
  | call (c : Code) (k : Result → Sem α)
  | pure (v : α)
  | skip (k : Sem α)
  | ask (k : Setting → Sem α)
  | other
noncomputable def vw {α : Type} (t : Sem α) : Vw α := match t with
  | .rule _ k => .skip (k ())
  | .point _ k => .skip (k ())
  | .at _ k => .skip (k ())
  | .ask k => .ask k
  | .load a _ k => .load a k
  | .update a _ f k => .upd a f (k ())
  | .alloc o k => .alloc o k
  | .fresh k => .fresh k
  | .call c none _ _ k => .call c k
  | .pure a => .pure a
  | _ => .other
section
variable {α : Type} {M : Model} {A : Around} {Q : α → Shared → Prop} {E : Value → Shared → Prop} {s : Shared} {K : Frag}
noncomputable def Vw.wp (M : Model) (A : Around) (Q : α → Shared → Prop) (E : Value → Shared → Prop) (s : Shared) : Vw α → Prop
  | .load a k => ∃ o, s.heap.get? a = some o ∧ wpAny M A (k o) Q E s
  | .upd a f k => ∃ o, s.heap.get? a = some o ∧ wpAny M A k Q E { s with heap := s.heap.update a f }
  | .alloc o k => wpAny M A (k s.heap.objs.size) Q E { s with heap := s.heap.push o }
  | .fresh k => wpAny M A (k s.toks) Q E { s with toks := s.toks + 1 }
  | .call c k => codeAny M A c (fun r s' => wpAny M A (k r) Q E s') s
  | .pure v => Q v s
  | .skip k => wpAny M A k Q E s
  | .ask k => wpAny M A (k ⟨M.prog, M.w.params⟩) Q E s
  | .other => False
theorem vw_ok (t : Sem α) (h : (vw t).wp M A Q E s) : wpAny M A t Q E s := by
  cases t with
  | rule _ k => exact nd_rule h
  | point _ k => exact nd_point h
  | «at» p k => exact wpAny_bind (m := standAt p) (f := k) (wpAny_standAt h)
  | ask k => exact nd_ask h
  | load a p k => exact Exists.elim h fun _ h' => nd_load h'.1 h'.2
  | update a p f k => exact Exists.elim h fun _ h' => wpAny_bind (m := updatePart a p f) (f := k) (wpAny_updatePart h'.1 h'.2)
  | alloc o k => exact nd_alloc h
  | fresh k => exact nd_fresh h
  | pure a => exact nd_pure h
  | call c hh g l k =>
    cases hh with
    | some v => exact h.elim
    | none =>
      intro Γ p hΓ
      rw [Sem.wp_call]
      exact codeAny_mono h (fun r s' h => h Γ p hΓ) _ p rfl (hΓ.enter c none p (by intro x; cases x))
  | _ => exact h.elim
variable (K M) in
/-- one node that asks nothing of the call's own objects; c: how many loads of known objects are let by -/
noncomputable def st1 (c : Nat) (t : Sem α) : Option (Nat × Sem α) := match vw t with
  | .skip k => some (c, k)
  | .ask k => some (c, k ⟨M.prog, M.w.params⟩)
  | .load a k => (match c with
    | 0 => none
    | c + 1 => (K.lookup a).map fun o => (c, k o))
  | _ => none
theorem st1_ok (X : K.In s.heap) {c c' : Nat} {t t' : Sem α} (e : st1 M K c t = some (c', t')) (h : wpAny M A t' Q E s) : wpAny M A t Q E s := by
  refine vw_ok t ?_
  unfold st1 at e
  generalize vw t = v at e ⊢
  cases v with
  | skip k => cases e; exact h
  | ask k => cases e; exact h
  | load a k =>
    cases c with
    | zero => cases e
    | succ c =>
      obtain ⟨o, ho, e⟩ := Option.map_eq_some_iff.mp e
      cases e
      exact ⟨o, X _ _ ho, h⟩
  | _ => cases e
variable (K M) in
noncomputable def adv (n : Nat) : Nat → Sem α → Sem α := Nat.rec (fun _ t => t) (fun _ ih c t => (st1 M K c t).elim t fun p => ih p.1 p.2) n
theorem adv_ok (X : K.In s.heap) : ∀ (n c : Nat) (t : Sem α), wpAny M A (adv M K n c t) Q E s → wpAny M A t Q E s := by
  intro n
  induction n with
  | zero => intro c t h; exact h
  | succ n ih =>
    intro c t h
    have h' : wpAny M A ((st1 M K c t).elim t fun p => adv M K n p.1 p.2) Q E s := h
    cases e : st1 M K c t with
    | none => rw [e] at h'; exact h'
    | some p => rw [e] at h'; exact st1_ok X e (ih _ _ h')
theorem inNil (h : Heap) : Frag.In [] h := fun _ _ e => (nomatch e)
variable (K M) in
/-- the next node behind those -/
noncomputable def nx (n c : Nat) (t : Sem α) : Vw α := vw (adv M K n c t)
theorem nx_ok (X : K.In s.heap) (n c : Nat) {t : Sem α} (h : (nx M K n c t).wp M A Q E s) : wpAny M A t Q E s := adv_ok X n c t (vw_ok _ h)
noncomputable def loadA : Vw α → Option Addr
  | .load a _ => some a
  | _ => none
noncomputable def loadK (v : Vw α) (o : Obj) : Sem α := match v with
  | .load _ k => k o
  | _ => .unsupported ""
noncomputable def updP : Vw α → Option (Addr × (Obj → Obj))
  | .upd a f _ => some (a, f)
  | _ => none
noncomputable def updK : Vw α → Sem α
  | .upd _ _ k => k
  | _ => .unsupported ""
noncomputable def allocO : Vw α → Option Obj
  | .alloc o _ => some o
  | _ => none
noncomputable def allocK (v : Vw α) (a : Addr) : Sem α := match v with
  | .alloc _ k => k a
  | _ => .unsupported ""
noncomputable def isFresh : Vw α → Bool
  | .fresh _ => true
  | _ => false
noncomputable def freshK (v : Vw α) (a : Tok) : Sem α := match v with
  | .fresh k => k a
  | _ => .unsupported ""
noncomputable def callC : Vw α → Option Code
  | .call c _ => some c
  | _ => none
noncomputable def callK (v : Vw α) (r : Result) : Sem α := match v with
  | .call _ k => k r
  | _ => .unsupported ""
noncomputable def pureV : Vw α → Option α
  | .pure a => some a
  | _ => none
theorem v_load {v : Vw α} {a : Addr} {o : Obj} (e : loadA v = some a) (ho : s.heap.get? a = some o) (h : wpAny M A (loadK v o) Q E s) : v.wp M A Q E s := by
  cases v with
  | load b k => cases e; exact ⟨o, ho, h⟩
  | _ => cases e
theorem v_upd {v : Vw α} {a : Addr} {f : Obj → Obj} {o : Obj} (e : updP v = some (a, f)) (ho : s.heap.get? a = some o) (h : wpAny M A (updK v) Q E { s with heap := s.heap.update a f }) : v.wp M A Q E s := by
  cases v with
  | upd b g k => cases e; exact ⟨o, ho, h⟩
  | _ => cases e
theorem v_alloc {v : Vw α} {o : Obj} (e : allocO v = some o) (h : wpAny M A (allocK v s.heap.objs.size) Q E { s with heap := s.heap.push o }) : v.wp M A Q E s := by
  cases v with
  | alloc b k => cases e; exact h
  | _ => cases e
theorem v_fresh {v : Vw α} (e : isFresh v = true) (h : wpAny M A (freshK v s.toks) Q E { s with toks := s.toks + 1 }) : v.wp M A Q E s := by
  cases v with
  | fresh k => exact h
  | _ => cases e
theorem v_call {v : Vw α} {c : Code} (e : callC v = some c) (h : codeAny M A c (fun r s' => wpAny M A (callK v r) Q E s') s) : v.wp M A Q E s := by
  cases v with
  | call b k => cases e; exact h
  | _ => cases e
theorem v_pure {v : Vw α} {a : α} (e : pureV v = some a) (h : Q a s) : v.wp M A Q E s := by
  cases v with
  | pure b => cases e; exact h
  | _ => cases e
variable {T : Sem α}
theorem x_load {a : Addr} {o : Obj} (X : K.In s.heap) (n c : Nat) (e : loadA (nx M K n c T) = some a) (ho : s.heap.get? a = some o) (h : wpAny M A (loadK (nx M K n c T) o) Q E s) : wpAny M A T Q E s := nx_ok X n c (v_load e ho h)
theorem x_upd {a : Addr} {f : Obj → Obj} {o : Obj} (X : K.In s.heap) (n c : Nat) (e : updP (nx M K n c T) = some (a, f)) (ho : s.heap.get? a = some o) (h : wpAny M A (updK (nx M K n c T)) Q E { s with heap := s.heap.update a f }) : wpAny M A T Q E s := nx_ok X n c (v_upd e ho h)
theorem x_alloc {o : Obj} (X : K.In s.heap) (n c : Nat) (e : allocO (nx M K n c T) = some o) (h : wpAny M A (allocK (nx M K n c T) s.heap.objs.size) Q E { s with heap := s.heap.push o }) : wpAny M A T Q E s := nx_ok X n c (v_alloc e h)
theorem x_fresh (X : K.In s.heap) (n c : Nat) (e : isFresh (nx M K n c T) = true) (h : wpAny M A (freshK (nx M K n c T) s.toks) Q E { s with toks := s.toks + 1 }) : wpAny M A T Q E s := nx_ok X n c (v_fresh e h)
theorem x_call {c' : Code} (X : K.In s.heap) (n c : Nat) (e : callC (nx M K n c T) = some c') (h : codeAny M A c' (fun r s' => wpAny M A (callK (nx M K n c T) r) Q E s') s) : wpAny M A T Q E s := nx_ok X n c (v_call e h)
theorem x_pure {v : α} (X : K.In s.heap) (n c : Nat) (e : pureV (nx M K n c T) = some v) (h : Q v s) : wpAny M A T Q E s := nx_ok X n c (v_pure e h)
end
end Mine
end

section
open PySem PySem.W PyProof.Rows PySem.Calls PySem.Spec
set_option maxHeartbeats 8000000
namespace Mine
variable {w : World}
section
variable {M : Model} {h : Heap}
theorem acc_made (X : (hd.heap_1 w.params).In h) : Looks M h (Bind.madeBy (.ref 101)) (some "list.__new__") := Looks.of_peek X (by kernel_rfl)
theorem acc_check (X : (hd.heap_1 w.params).In h) : Looks M h (checkBuiltinCall "list.__new__" ⟨[.ref 101], []⟩) () := Looks.of_peek X (by kernel_rfl)
theorem acc_mro (X : (hd.heap_1 w.params).In h) : Looks M h (mroOf (.ref 101)) [.ref 101, .type "list", .type "object"] := Looks.of_peek X (by kernel_rfl)
theorem acc_call (X : (hd.heap_1 w.params).In h) : Looks M h (specialOf (.ref 101) "__call__") (some (.builtin "type.__call__")) := Looks.of_peek X (by kernel_rfl)
theorem acc_type (X : (hd.heap_1 w.params).In h) : Looks M h (isType (.ref 101)) true := Looks.of_peek X (by kernel_rfl)
theorem acc_typ (X : (hd.heap_1 w.params).In h) : Looks M h (isInstance (.ref 101) (.type "type")) true := Looks.of_peek X (by kernel_rfl)
theorem acc_sub (X : (hd.heap_1 w.params).In h) : Looks M h (isSubtype (.ref 101) (.type "list")) true := Looks.of_peek X (by kernel_rfl)
theorem acc_self (X : (hd.heap_1 w.params).In h) : Looks M h (isSubtype (.ref 101) (.ref 101)) true := Looks.of_peek X (by kernel_rfl)
theorem acc_del (X : (hd.heap_1 w.params).In h) : Looks M h (classHasDel 101) false := Looks.of_peek X (by kernel_rfl)
theorem acc_init (X : (hd.heap_1 w.params).In h) : Looks M h (typeLookup (.ref 101) "__init__") (some (.ref 38)) := Looks.of_peek X (by kernel_rfl)
end
end Mine
end

section
open PySem PySem.W PyProof.Rows PySem.Calls PySem.Spec
set_option maxHeartbeats 8000000
namespace Mine
variable {w : World}
noncomputable abbrev accObj (dx : Addr) (xs : List Value) (n : Nat) : Obj := { cls := .ref 101, dict := some dx, data := .seq xs.toArray n }
theorem acc_cls : ∃ oc od cd sl, (hd.heap_1 w.params).lookup 101 = some ⟨oc, od, .cls cd, sl⟩ ∧ cd.hasDel = false := ⟨_, _, _, _, rfl, rfl⟩
theorem acc_cls3 : ∃ oc od cd sl, (hd.heap_1 w.params).lookup 101 = some ⟨oc, od, .cls cd, sl⟩ ∧ cd.hasDict = true := ⟨_, _, _, _, rfl, rfl⟩
theorem acc_cls' : ∃ oc od cd sl, (hd.heap_1 w.params).lookup 101 = some ⟨oc, od, .cls cd, sl⟩ ∧ cd.mro = [.ref 101, .type "list", .type "object"] := ⟨_, _, _, _, rfl, rfl⟩
section
variable {prog : Program} {A : Around} {R : Result → Shared → Prop} {h : Heap} {g : Array GenState} {d : Drawn} {t : Nat} {os : OsState}
theorem acc_new (X : (hd.heap_1 w.params).In h)
    (hq : R (.ok (.ret (.ref (h.objs.size + 1)))) ⟨(h.push emptyDict).push (accObj h.objs.size [] 0), g, d, t, os⟩) :
    codeAny (model prog w) A (.call (.builtin "list.__new__") ⟨[.ref 101], []⟩) R ⟨h, g, d, t, os⟩ := by
  refine codeAny_call_builtin_code (plainId_quiet F.plain_list_new _) ?_
  refine (acc_check X).here ?_
  refine codeAny_builtin_stack F.entry_list_new rfl fun p st => ?_
  rw [Around.under_plainId F.plain_list_new _]
  have hown := owner_list_new
  have h1 := acc_type (M := model prog w) X
  have h2 := acc_sub (M := model prog w) X
  simp only [hown]
  repeat (first | simp only [Bool.not_true, Bool.false_eq_true, if_false] | lk)
  obtain ⟨oc, od, cd, sl, hC, hdel⟩ := acc_cls (w := w)
  refine nd_load (Heap.get?_push_of_some _ (Heap.get?_push_of_some _ (X _ _ hC))) ?_
  repeat (first | simp only [hdel, Bool.not_true, Bool.false_eq_true, if_false] | lk)
  show R _ _
  rw [Heap.size_push]
  exact hq
theorem acc_make (X : (hd.heap_1 w.params).In h)
    (hq : codeAny (model prog w) (A.under (.builtin "type.__call__" ⟨[.ref 101], []⟩)) (.call (.ref 38) ⟨[.ref (h.objs.size + 1)], []⟩) (InitBack (h.objs.size + 1) R) ⟨(h.push emptyDict).push (accObj h.objs.size [] 0), g, d, t, os⟩) :
    codeAny (model prog w) A (.call (.ref 101) ⟨[], []⟩) R ⟨h, g, d, t, os⟩ := by
  obtain ⟨oc, od, cd, sl, hC0, hdel⟩ := acc_cls (w := w)
  have hC := X _ _ hC0
  have made := acc_made (M := model prog w) X
  have call := acc_call (M := model prog w) X
  have typ := acc_typ (M := model prog w) X
  have hm := acc_mro (M := model prog w) X
  refine codeAny_of_tree ?_
  show wpAny _ _ (callAny (.ref 101) _) _ _ _
  refine nd_load hC ?_
  show wpAny _ _ (callAny.viaDunder (.ref 101) _) _ _ _
  unfold callAny.viaDunder
  refine wpAny_bind (call.at ?_)
  dsimp only
  rw [tc_bind]
  refine wpAny_bind (wpAny_pure (wpAny_bind (wpAny_pure ?_)))
  refine wpAny_pure (a := Fin.again (.call (.builtin "type.__call__") ⟨[.ref 101], []⟩)) (And.intro rfl ?_)
  refine codeAny_call_builtin_at (Code.quiet_builtin _ (by decide +kernel)) entry_typeCall (check_slot tc_kind tc_split typ (tc_args _ _ _) ?_)
  unfold Builtin.«type.__call__»
  repeat (first | simp only [List.isEmpty_cons, Bool.false_eq_true, if_false] | with_reducible refine wpAny_call ?_ | lk)
  refine acc_new X ?_
  have k : ∀ b o, h.get? b = some o → ((h.push emptyDict).push (accObj h.objs.size [] 0)).get? b = some o := fun b o e => Heap.get?_push_of_some _ (Heap.get?_push_of_some _ e)
  have hx : ((h.push emptyDict).push (accObj h.objs.size [] 0)).get? (h.objs.size + 1) = some (accObj h.objs.size [] 0) := by heap_get
  have t1 : Looks (model prog w) ((h.push emptyDict).push (accObj h.objs.size [] 0)) (typeOf (.ref (h.objs.size + 1))) (.ref 101) := (Looks.ld hx).andThen .now
  have s1 := (acc_self (M := model prog w) X).keeps k
  have i1 := (acc_init (M := model prog w) X).keeps k
  have b1 := (bind_fn (M := model prog w) (K := hd.heap_1 w.params) (f := 38) X (.ref (h.objs.size + 1)) rfl).keeps k
  unfold isInstance callSpecial? specialOf
  repeat (first | with_reducible refine wpAny_call ?_ | lk)
  refine codeAny_mono hq fun r s' z => ?_
  rcases r with e | (v | _ | _ | _) <;> first | exact z | exact z.elim | skip
  obtain ⟨rfl, z⟩ := z
  exact wpAny_pure (wpAny_pure z)
end
end Mine
end

section
open PySem PySem.W PyProof.Rows PySem.Calls PySem.Spec
set_option maxHeartbeats 8000000
namespace Mine
variable {w : World}
theorem md_slot : Slot "method_descriptor" "__get__" "method_descriptor.__get__" := .of (owner := "method_descriptor") (n := "__get__") (by rw [typeLookup_type, builtinLookup_eq_fast]; kernel_rfl) (by decide +kernel) (by decide +kernel) (by decide +kernel)
    (by first | exact .inl (by decide +kernel) | exact .inr (by decide +kernel)) (by rw [isSubtype_type]; kernel_rfl)
theorem md_entry : entryFor table "method_descriptor.__get__" = some Builtin.«method_descriptor.__get__» := entryFor_of_tree (by kernel_rfl)
theorem md_args (a b c : Value) : argsOk "method_descriptor.__get__" ⟨[a, b, c], []⟩ := by unfold argsOk; kernel_rfl
theorem wd_slot : Slot "wrapper_descriptor" "__get__" "wrapper_descriptor.__get__" := .of (owner := "wrapper_descriptor") (n := "__get__") (by rw [typeLookup_type, builtinLookup_eq_fast]; kernel_rfl) (by decide +kernel) (by decide +kernel) (by decide +kernel)
    (by first | exact .inl (by decide +kernel) | exact .inr (by decide +kernel)) (by rw [isSubtype_type]; kernel_rfl)
theorem wd_entry : entryFor table "wrapper_descriptor.__get__" = some Builtin.«wrapper_descriptor.__get__» := entryFor_of_tree (by kernel_rfl)
theorem wd_args (a b c : Value) : argsOk "wrapper_descriptor.__get__" ⟨[a, b, c], []⟩ := by unfold argsOk; kernel_rfl
section
variable {prog : Program} {M : Model} {A : Around} {E : Value → Shared → Prop} {h : Heap} {g : Array GenState} {d : Drawn} {t : Nat} {os : OsState}
/-- a method of a built-in type, drawn off for a thing of a class below list -/
structure Bnd (id dT getId T : String) (b : Builtin) : Prop where
  slot : Slot dT "__get__" getId
  entry : entryFor table getId = some b
  args : ∀ a b c, argsOk getId ⟨[a, b, c], []⟩
  typ : typeOf (.builtin id) = pure (.type dT)
  run : ∀ {prog : Program} {w w' : World} {A : Around} {E : Value → Shared → Prop} {x : Addr} {ox : Obj} {h : Heap} {g : Array GenState} {d : Drawn} {t : Nat} {os : OsState} {Q : Fin → Shared → Prop}, (hd.heap_1 w'.params).In h → h.get? x = some ox → ox.cls = .ref 101 →
    Q (.done (.ret (.ref h.objs.size))) ⟨h.push { cls := .type T, data := .fields #[.builtin id, .ref x] }, g, d, t, os⟩ →
    wpAny (model prog w) A (b ⟨[.builtin id, .ref x, .ref 101], []⟩) Q E ⟨h, g, d, t, os⟩
theorem pop_bnd : Bnd "list.pop" "method_descriptor" "method_descriptor.__get__" "builtin_function_or_method" Builtin.«method_descriptor.__get__» where
  slot := md_slot
  entry := md_entry
  args := md_args
  typ := by show builtinType _ = _; rw [builtinType_eq_fast]; kernel_rfl
  run := by
    intro prog w w' A E x ox h g d t os Q X hx hc hq
    have t1 : Looks (model prog w) h (typeOf (.ref x)) (.ref 101) := hc ▸ (Looks.ld hx).andThen .now
    have s1 := acc_sub (M := model prog w) X
    have y1 := acc_type (M := model prog w) X
    unfold Builtin.«method_descriptor.__get__»
    obtain ⟨oc, od, cd, sl, hC0, hmro⟩ := acc_cls' (w := w')
    have hC := X _ _ hC0
    repeat (first | simp only [hmro] | lk)
    exact hq
theorem wd_run (id : String) (hid : id = "list.__init__" ∨ id = "list.__len__") : ∀ {prog : Program} {w w' : World} {A : Around} {E : Value → Shared → Prop} {x : Addr} {ox : Obj} {h : Heap} {g : Array GenState} {d : Drawn} {t : Nat} {os : OsState} {Q : Fin → Shared → Prop}, (hd.heap_1 w'.params).In h → h.get? x = some ox → ox.cls = .ref 101 →
    Q (.done (.ret (.ref h.objs.size))) ⟨h.push { cls := .type "method-wrapper", data := .fields #[.builtin id, .ref x] }, g, d, t, os⟩ →
    wpAny (model prog w) A (Builtin.«wrapper_descriptor.__get__» ⟨[.builtin id, .ref x, .ref 101], []⟩) Q E ⟨h, g, d, t, os⟩ := by
  rcases hid with rfl | rfl
  all_goals
    intro prog w w' A E x ox h g d t os Q X hx hc hq
    have t1 : Looks (model prog w) h (typeOf (.ref x)) (.ref 101) := hc ▸ (Looks.ld hx).andThen .now
    unfold Builtin.«wrapper_descriptor.__get__»
    obtain ⟨oc, od, cd, sl, hC0, hmro⟩ := acc_cls' (w := w')
    have hC := X _ _ hC0
    repeat (first | simp only [hmro] | lk)
    exact hq
theorem init_bnd : Bnd "list.__init__" "wrapper_descriptor" "wrapper_descriptor.__get__" "method-wrapper" Builtin.«wrapper_descriptor.__get__» where
  slot := wd_slot
  entry := wd_entry
  args := wd_args
  typ := by show builtinType _ = _; rw [builtinType_eq_fast]; kernel_rfl
  run := wd_run _ (.inl rfl)
theorem len_bnd : Bnd "list.__len__" "wrapper_descriptor" "wrapper_descriptor.__get__" "method-wrapper" Builtin.«wrapper_descriptor.__get__» where
  slot := wd_slot
  entry := wd_entry
  args := wd_args
  typ := by show builtinType _ = _; rw [builtinType_eq_fast]; kernel_rfl
  run := wd_run _ (.inr rfl)
theorem acc_opaque (X : (hd.heap_1 w.params).In h) : Looks M h (opaqueClassAbove (.ref 101)) none := Looks.of_peek X (by kernel_rfl)
noncomputable abbrev sObj (x : Addr) : Obj := { cls := .type "super", dict := none, data := .fields #[.ref 101, .ref x, .ref 101], slots := #[] }
theorem super_ga {so x : Addr} {ox : Obj} {id dT getId T : String} {b : Builtin} {name : Str} {tk : Tok} {Q : Fin → Shared → Prop} (X : (hd.heap_1 w.params).In h) (hB : Bnd id dT getId T b)
    (hso : h.get? so = some (sObj x)) (hx : h.get? x = some ox) (hc : ox.cls = .ref 101) (hx1 : x ≠ 101)
    (hf : alongIn (hd.heap_1 w.params) name [.type "list", .type "object"] = some (some (.builtin id))) (hn : (name == ("__class__" : Str)) = false)
    (hq : Q (.done (.ret (.ref h.objs.size))) ⟨h.push { cls := .type T, data := .fields #[.builtin id, .ref x] }, g, d, t, os⟩) :
    wpAny (model prog w) A (Builtin.«super.__getattribute__» ⟨[.ref so, .str name tk], []⟩) Q E ⟨h, g, d, t, os⟩ := by
  have hlk := hB.slot.lookup
  have hne : (Value.ref x == Value.ref 101) = false := by simp [hx1]
  have hmr := acc_mro (M := model prog w) X
  have hop := acc_opaque (M := model prog w) X
  have htyp := hB.typ
  have hdt : (sObj x).data = .fields #[.ref 101, .ref x, .ref 101] := rfl
  have f0 : (#[.ref 101, .ref x, .ref 101] : Array Value)[0]? = some (.ref 101) := rfl
  have f1 : (#[.ref 101, .ref x, .ref 101] : Array Value)[1]? = some (.ref x) := rfl
  have f2 : (#[.ref 101, .ref x, .ref 101] : Array Value)[2]? = some (.ref 101) := rfl
  have hT : (⟨h, g, d, t, os⟩ : Shared).TypeIs (.builtin id) dT := htyp
  unfold Builtin.«super.__getattribute__»
  repeat (first
    | (with_reducible refine wpAny_field hso hdt f0 ?_) | (with_reducible refine wpAny_field hso hdt f1 ?_) | (with_reducible refine wpAny_field hso hdt f2 ?_)
    | (with_reducible refine ks_wpAny_notOpaque hop ?_)
    | (with_reducible refine Looks.at hmr ?_)
    | (refine ks_forIn_along X (fun _ _ => rfl) rfl ?_ hf)
    | (with_reducible refine wpAny_typeOf hT ?_)
    | (with_reducible refine wpAny_call_entry hB.slot hT hB.entry ?_ (hB.args _ _ _))
    | (with_reducible refine hB.run X hx hc ?_)
    | (with_reducible refine ⟨_, rfl, ?_⟩)
    | (simp only [hn, hne, Bool.or_false, Bool.false_eq_true, if_false])
    | wp_step
    | dsimp only)
  all_goals exact hq
theorem super_method {so x : Addr} {ox : Obj} {id dT getId T : String} {b : Builtin} {name : Str} {pl : Sem Bool} {Q : Value × List Value → Shared → Prop} (X : (hd.heap_1 w.params).In h) (hB : Bnd id dT getId T b)
    (hso : h.get? so = some (sObj x)) (hx : h.get? x = some ox) (hc : ox.cls = .ref 101) (hx1 : x ≠ 101)
    (hf : alongIn (hd.heap_1 w.params) name [.type "list", .type "object"] = some (some (.builtin id))) (hn : (name == ("__class__" : Str)) = false)
    (hq : Q (.ref h.objs.size, []) ⟨h.push { cls := .type T, data := .fields #[.builtin id, .ref x] }, g, d, t + 1, os⟩) :
    wpAny (model prog w) A (getMethod (.ref so) name pl) Q E ⟨h, g, d, t, os⟩ := by
  have hlk := F.ks_slot_super_ga.lookup
  have hT : ∀ t', (⟨h, g, d, t', os⟩ : Shared).TypeIs (.ref so) "super" := fun _ => ⟨_, hso, rfl⟩
  unfold getMethod
  refine wpAny_bind (wpAny_specialOf (hT _) hlk ?_)
  show wpAny _ _ (if (Manifest.canonical "super.__getattribute__" != "object.__getattribute__") = true then _ else _) _ _ _
  rw [if_pos F.ks_canon_super_ga]
  unfold getAttr getAttrBy
  refine wpAny_bind (wpAny_bind (wpAny_mkText (wpAny_holding (wpAny_bind (wpAny_typeOf (hT _) (wpAny_bind (wpAny_of_eq hlk ?_)))))))
  show wpAny _ _ (getAttrByItsOwn (.ref so) (.str name t) (.type "super") (.builtin "super.__getattribute__") true false) _ _ _
  unfold getAttrByItsOwn hookBefore callGetattribute boundAndCalled
  refine wpAny_bind (wpAny_of_eq (show (if onTheHeap (.type "super") then typeLookup (.type "super") "__getattr__" else pure none) = pure none from rfl) ?_)
  refine wpAny_bind (wpAny_attempt (wpAny_holding ?_))
  show wpAny _ _ (bindSpecial (.builtin "super.__getattribute__") (.ref so) >>= _) _ _ _
  refine wpAny_bind (wpAny_of_eq (F.ks_slot_super_ga.bind _) ?_)
  refine wpAny_mono (Q := fun v s' => v = .ref h.objs.size ∧ s' = ⟨h.push { cls := .type T, data := .fields #[.builtin id, .ref x] }, g, d, t + 1, os⟩) (E := fun _ _ => False)
    (wpAny_call_entry F.ks_slot_super_ga (hT _) F.ks_entry_super_ga (super_ga X hB hso hx hc hx1 hf hn ⟨_, rfl, rfl, rfl⟩) (F.ks_gaArgs_super _ _)) (fun v s' hv => ?_) fun _ _ z => z.elim
  obtain ⟨rfl, rfl⟩ := hv
  exact wpAny_pure (wpAny_pure hq)
end
end Mine
end

section
open PySem PySem.W PyProof.Rows PySem.Calls PySem.Spec Builtin Builtin.ObjectAttr
set_option maxHeartbeats 8000000
namespace Mine
variable {w : World} {mean : ExcName → Option Value} {mg mb : Str → Option Value}
noncomputable abbrev accD (w : World) (tk : Tok) : Obj := dictOf [⟨PyData.keyHash w.params "_initial_size", .str (Str.ofString "_initial_size") tk, .int 0 210⟩] 1
theorem nd_upd {α : Type} {M : Model} {A : Around} {Q : α → Shared → Prop} {E : Value → Shared → Prop} {s : Shared} {a : Addr} {p : Option Value} {f : Obj → Obj} {k : Unit → Sem α} {o : Obj} (ho : s.heap.get? a = some o)
    (h : wpAny M A (k ()) Q E { s with heap := s.heap.update a f }) : wpAny M A (.update a p f k) Q E s := wpAny_bind (m := updatePart a p f) (f := k) (wpAny_updatePart ho h)
theorem nd_at {α : Type} {M : Model} {A : Around} {Q : α → Shared → Prop} {E : Value → Shared → Prop} {s : Shared} {p : Pos} {k : Unit → Sem α} (h : wpAny M A (k ()) Q E s) : wpAny M A (.at p k) Q E s := wpAny_bind (m := standAt p) (f := k) (wpAny_standAt h)
section
variable {A : Around} {E : Value → Shared → Prop} {s : Shared} {R : Result → Shared → Prop} {x dx L : Addr} {h₀ : Heap} {m : Str → Option Value}
theorem acc_refuse (x : Addr) : refuseLoop (.ref x) "__setattr__" [.ref 101, .type "list", .type "object"] = pure () := by
  rw [refuseLoop_ref]
  kernel_rfl
theorem acc_setinit {prog : Program} {tk : Tok} {rest : Led} (F : Fr h₀ L s.heap m) (N : News h₀ L s.heap ([(x, accObj dx [] 0), (dx, emptyDict)] ++ rest)) (hne : x ≠ dx) (hoff : ∀ q ∈ rest, q.1 ≠ dx) (X : (hd.heap_1 w.params).In s.heap)
    (h : ∀ h', Fr h₀ L h' m → News h₀ L h' ([(x, accObj dx [] 0), (dx, accD w s.toks)] ++ rest) → R (.ok (.ret .none)) { s with heap := h', toks := s.toks + 1 }) :
    codeAny (model prog w) A (.call (.builtin "object.__setattr__") ⟨[.ref x, .str (Str.ofString "_initial_size") tk, .int 0 210], []⟩) R s := by
  have SF := PySem.F.store_object
  have hx := (N (x, accObj dx [] 0) (.head _)).1
  have hdx := (N (dx, emptyDict) (.tail _ (.head _))).1
  have t1 : Looks (model prog w) s.heap (typeOf (.ref x)) (.ref 101) := (Looks.ld hx).andThen .now
  have sub : Looks (model prog w) s.heap (isInstance (.ref x) (.type "object")) true := t1.andThen (Looks.of_peek X (by kernel_rfl))
  refine codeAny_call_builtin SF.slot.plain SF.entry (@check_slot (model prog w) _ _ s "object.__setattr__" "object" "__setattr__" (.ref x) [.str (Str.ofString "_initial_size") tk, .int 0 210] [] _ SF.kind SF.split sub (SF.args (.ref x) (.str (Str.ofString "_initial_size") tk) (.int 0 210)) ?_)
  obtain ⟨hh, g, d, t, os⟩ := s
  dsimp only at hx hdx X
  refine x_load X 400 0 (by kernel_rfl) hx ?_
  refine x_load X 400 1 (by kernel_rfl) hx ?_
  refine x_load X 400 3 (by kernel_rfl) hx ?_
  refine x_fresh X 400 1 (by kernel_rfl) ?_
  refine x_load X 400 0 (by kernel_rfl) hdx ?_
  obtain ⟨U1, U2⟩ := news_upd (f := Obj.putName (Str.ofString "_initial_size") (PyData.keyHash w.params "_initial_size") (.str (Str.ofString "_initial_size") t) (.int 0 210)) (pre := [(x, accObj dx [] 0)]) (d := dx) (o := emptyDict) (o' := accD w t) F N (by intro p hp; simp at hp; rw [hp]; exact hne) hoff rfl rfl
  refine x_upd (a := dx) (f := Obj.putName (Str.ofString "_initial_size") (PyData.keyHash w.params "_initial_size") (.str (Str.ofString "_initial_size") t) (.int 0 210)) X 400 0 (by kernel_rfl) hdx ?_
  have hdx' := (U2 (dx, accD w t) (.tail _ (.head _))).1
  refine x_load (inNil _) 400 0 (by kernel_rfl) hdx' ?_
  exact x_pure (v := Fin.done (.ret .none)) (inNil _) 400 0 (by kernel_rfl) (h _ U1 U2)
end
end Mine
end

section
open PySem PySem.W PyProof.Rows PySem.Calls PySem.Spec Builtin Builtin.ObjectAttr
set_option maxHeartbeats 8000000
namespace Mine
variable {w : World} {mean : ExcName → Option Value} {mg mb : Str → Option Value}
section
variable {prog : Program} {A : Around} {E : Value → Shared → Prop} {s : Shared}
noncomputable abbrev fnObj (d : Option Addr) (fd : FuncData) : Obj := { cls := .type "function", dict := d, data := .func fd }
noncomputable abbrev fnD (w : World) (v : Value) (tk : Tok) : Obj := dictOf [⟨PyData.keyHash w.params "read", .str (Str.ofString "read") tk, v⟩] 1
theorem fn_setattr {h₀ : Heap} {L : Addr} {m : Str → Option Value} {rest : Led} {fa : Addr} {fd : FuncData} {v : Value} {Q : Unit → Shared → Prop} (F : Fr h₀ L s.heap m) (N : News h₀ L s.heap ((fa, fnObj none fd) :: rest)) (hoff : ∀ q ∈ rest, q.1 ≠ fa)
    (h : ∀ d h' tk tk', Fr h₀ L h' m → News h₀ L h' ((fa, fnObj (some d) fd) :: (d, fnD w v tk) :: rest) → (∀ q ∈ (fa, fnObj none fd) :: rest, q.1 < d) → Q () { s with heap := h', toks := tk' }) :
    wpAny (model prog w) A (setAttr (.ref fa) "read" v) Q E s := by
  have hx := (N (fa, fnObj none fd) (.head _)).1
  have SF := PySem.F.store_object
  obtain ⟨hh, g, d, t, os⟩ := s
  dsimp only at hx
  have X := inNil hh
  refine x_fresh X 400 0 (by kernel_rfl) ?_
  refine x_load X 400 0 (by kernel_rfl) hx ?_
  refine x_call X 400 0 (c' := .call (.builtin "object.__setattr__") ⟨[.ref fa, .str (Str.ofString "read") t, v], []⟩) (by kernel_rfl) ?_
  refine codeAny_call_builtin (b := Builtin.«object.__setattr__») (by decide +kernel) (entryFor_of_tree (by kernel_rfl)) ?_
  refine x_load X 400 0 (by kernel_rfl) hx ?_
  refine x_pure X 400 0 (v := ()) (by kernel_rfl) ?_
  iterate 3 refine x_load X 400 0 (by kernel_rfl) hx ?_
  refine x_alloc X 400 0 (o := emptyDict) (by kernel_rfl) ?_
  have F1 := F.push emptyDict
  have N1 := N.push F emptyDict
  have hlt : fa < hh.objs.size := Heap.lt_size hx
  have hl0 : ∀ q ∈ (fa, fnObj none fd) :: rest, q.1 < hh.objs.size := fun q hq => Heap.lt_size (N q hq).1
  obtain ⟨F2, N2⟩ := news_upd (f := fun o => { cls := o.cls, dict := some hh.objs.size, data := o.data, slots := o.slots }) (pre := [(hh.objs.size, emptyDict)]) (d := fa) (o := fnObj none fd) (o' := fnObj (some hh.objs.size) fd) F1 N1 (by intro p hp; rw [List.mem_singleton.mp hp]; exact Nat.ne_of_gt hlt) hoff rfl rfl
  have hx1 := (N1 (fa, fnObj none fd) (.tail _ (.head _))).1
  have hd2 := (N2 (hh.objs.size, emptyDict) (.head _)).1
  have hx2 := (N2 (fa, fnObj (some hh.objs.size) fd) (.tail _ (.head _))).1
  dsimp only at hd2 hx1 hx2
  refine x_upd (a := fa) (f := fun o => { cls := o.cls, dict := some hh.objs.size, data := o.data, slots := o.slots }) (inNil _) 400 0 (by kernel_rfl) hx1 ?_
  refine x_fresh (inNil _) 400 0 (by kernel_rfl) ?_
  refine x_load (inNil _) 400 0 (by kernel_rfl) hd2 ?_
  obtain ⟨F3, N3⟩ := news_upd (f := Obj.putName (Str.ofString "read") (PyData.keyHash w.params "read") (.str (Str.ofString "read") (t + 1)) v) (pre := []) (d := hh.objs.size) (o := emptyDict) (o' := fnD w v (t + 1)) F2 N2 (by intro p hp; cases hp) (by
    intro q hq
    rcases List.mem_cons.mp hq with rfl | hq
    · exact Nat.ne_of_lt hlt
    · exact Nat.ne_of_lt (hl0 q (.tail _ hq))) rfl rfl
  have hd3 := (N3 (hh.objs.size, fnD w v (t + 1)) (.head _)).1
  refine x_upd (a := hh.objs.size) (f := Obj.putName (Str.ofString "read") (PyData.keyHash w.params "read") (.str (Str.ofString "read") (t + 1)) v) (inNil _) 400 0 (by kernel_rfl) hd2 ?_
  refine x_load (inNil _) 400 0 (by kernel_rfl) hd3 ?_
  refine x_pure (v := Fin.done (Flow.ret Value.none)) (inNil _) 400 0 (by kernel_rfl) ?_
  refine x_pure (v := ()) (inNil _) 400 0 (by kernel_rfl) ?_
  refine h hh.objs.size _ (t + 1) _ F3 (cb_drop N3 ?_) hl0
  intro p hp
  rcases List.mem_cons.mp hp with rfl | hp
  · exact .tail _ (.head _)
  · rcases List.mem_cons.mp hp with rfl | hp
    · exact .head _
    · exact .tail _ (.tail _ hp)
end
end Mine
end

section
open PySem PySem.W PyProof.Rows PySem.Calls PySem.Spec Builtin Builtin.ObjectAttr
set_option maxHeartbeats 8000000
namespace Mine
variable {w : World} {mean : ExcName → Option Value} {mg mb : Str → Option Value}
noncomputable abbrev nE (w : World) (k : String) (t : Tok) (v : Value) : DictEntry := ⟨PyData.keyHash w.params k, .str (Str.ofString k) t, v⟩
/-- the dict of a _netrclex -/
noncomputable abbrev netD (w : World) (t1 t2 t3 t4 tl tw : Tok) (ln : Int) (sf pb : Addr) : Obj := dictOf [nE w "lineno" t1 (.int ln tl), nE w "instream" t2 (.ref sf), nE w "whitespace" t3 (.str (Str.ofString "\n\t\r ") tw), nE w "pushback" t4 (.ref pb)] 4
/-- what stands for one lexer: its objects' addresses, and what of them never changes -/
structure Lx where
  (ix dix sf dsf rd cp ct cr pb pl : Addr)
  (t1 t2 t3 t4 tw td tx : Tok)
  (fds : FuncData)
  (dcr ctr pmr : Value)
  (o1 o2 : Obj)
  (x : Str)
noncomputable def lexBody (P : Params) : List Stmt := match (hd.heap_1 P).lookup 189 with
  | some ⟨_, _, .func fd, _⟩ => (match fd.body with | .stmts b => b | _ => [])
  | _ => []
noncomputable def readParams (P : Params) : Arguments := match lexBody P with
  | [_, .FunctionDef _ ps _ _ _ _ _ _ _ _, _, _, _] => ps
  | _ => default
noncomputable def readBody (P : Params) : List Stmt := match lexBody P with
  | [_, .FunctionDef _ _ b _ _ _ _ _ _ _, _, _, _] => b
  | _ => default
noncomputable def readScope (P : Params) : Scope := match lexBody P with
  | [_, .FunctionDef _ _ _ _ _ _ sc _ _ _, _, _, _] => sc
  | _ => default
noncomputable abbrev readQual : Str := Str.ofString "_law_lexer.<locals>.read"
noncomputable abbrev readObj (P : Params) (cl : List (Str × Addr)) (dc pm : Value) (c' : Addr) (ctv : Value) : Obj := fnMade (Str.ofString "read") readQual (readParams P) (readBody P) (readScope P) cl dc pm c' ctv
/-- what of a lexer never changes -/
noncomputable abbrev Lx.imm (a : Lx) (w : World) : Led := [(a.ix, instObj 143 a.dix), (a.sf, fnObj (some a.dsf) a.fds), (a.dsf, fnD w (.ref a.rd) a.td), (a.rd, readObj w.params [(Str.ofString "text", a.ct), (Str.ofString "place", a.cp)] a.dcr a.pmr a.cr a.ctr), (a.cp, a.o1), (a.ct, a.o2)]
/-- what of a lexer changes: its dict (lineno), its pushback and its place -/
noncomputable abbrev Lx.mut (a : Lx) (w : World) (ln : Int) (tl : Tok) (ts : List Value) (n1 : Nat) (p : Int) (tp : Tok) (n2 : Nat) : Led := [(a.dix, netD w a.t1 a.t2 a.t3 a.t4 tl a.tw ln a.sf a.pb), (a.pb, W.listOf ts.toArray n1), (a.pl, W.listOf #[.int p tp] n2)]
structure Lx.Ok (a : Lx) : Prop where
  d1 : a.o1.data = .cell (some (.ref a.pl))
  d2 : a.o2.data = .cell (some (.str a.x a.tx))
  l1 : a.ct < a.cp
  l2 : a.cp < a.pl
  l3 : a.pl < a.rd
  l4 : a.rd < a.sf
  l5 : a.sf < a.dsf
  l6 : a.dsf < a.dix
  l7 : a.dix < a.ix
  l8 : a.ix < a.pb
theorem Lx.imm_ge {a : Lx} (h : a.Ok) (w : World) : ∀ q ∈ a.imm w, @LE.le Nat _ a.ct q.1 := by
  intro q hq
  have l1 : @LT.lt Nat _ a.ct a.cp := h.l1
  have l2 : @LT.lt Nat _ a.cp a.pl := h.l2
  have l3 : @LT.lt Nat _ a.pl a.rd := h.l3
  have l4 : @LT.lt Nat _ a.rd a.sf := h.l4
  have l5 : @LT.lt Nat _ a.sf a.dsf := h.l5
  have l6 : @LT.lt Nat _ a.dsf a.dix := h.l6
  have l7 : @LT.lt Nat _ a.dix a.ix := h.l7
  have k2 := Nat.lt_trans l1 (Nat.lt_trans l2 l3)
  have k4 := Nat.lt_trans k2 (Nat.lt_trans l4 l5)
  refine (?_ : ∀ q ∈ _, @LE.le Nat _ a.ct q.1) q hq
  exact List.forall_mem_cons.mpr ⟨Nat.le_of_lt (Nat.lt_trans k4 (Nat.lt_trans l6 l7)), List.forall_mem_cons.mpr ⟨Nat.le_of_lt (Nat.lt_trans k2 l4), List.forall_mem_cons.mpr ⟨Nat.le_of_lt k4, List.forall_mem_cons.mpr ⟨Nat.le_of_lt k2, List.forall_mem_cons.mpr ⟨Nat.le_of_lt l1, List.forall_mem_cons.mpr ⟨Nat.le_refl _, fun _ h => nomatch h⟩⟩⟩⟩⟩⟩
theorem Lx.mut_ge {a : Lx} (h : a.Ok) (w : World) {ln p : Int} {tl tp : Tok} {ts : List Value} {n1 n2 : Nat} : ∀ q ∈ a.mut w ln tl ts n1 p tp n2, @LE.le Nat _ a.ct q.1 := by
  intro q hq
  have l1 : @LT.lt Nat _ a.ct a.cp := h.l1
  have l2 : @LT.lt Nat _ a.cp a.pl := h.l2
  have l3 : @LT.lt Nat _ a.pl a.rd := h.l3
  have l4 : @LT.lt Nat _ a.rd a.sf := h.l4
  have l5 : @LT.lt Nat _ a.sf a.dsf := h.l5
  have l6 : @LT.lt Nat _ a.dsf a.dix := h.l6
  have l7 : @LT.lt Nat _ a.dix a.ix := h.l7
  have l8 : @LT.lt Nat _ a.ix a.pb := h.l8
  simp only [List.mem_cons, List.not_mem_nil, or_false] at hq
  rcases hq with rfl | rfl | rfl <;> dsimp only <;> (first | exact om27 l1 l2 l3 l4 l5 l6 | exact om28 l1 l2 l3 l4 l5 l6 l7 l8 | exact om29 l1 l2)
noncomputable def CodeOk (o : Obj) : Prop := ∃ vs t, o.data = .fields vs ∧ vs[1]? = some (.str readQual t)
noncomputable abbrev lexTab (c1 c2 : Addr) : Obj := tabObj (#[] ++ #[rawInt ↑105, rawInt ↑4, Value.ref c1] ++ #[rawInt ↑108, rawInt ↑13, Value.ref c2])
section
variable {prog : Program} {A : Around} {E : Value → Shared → Prop} {s : Shared}
theorem net_set {h₀ : Heap} {L : Addr} {m : Str → Option Value} {rest : Led} {x dx : Addr} {es es' : List DictEntry} {n n' : Nat} {name : Str} {v : Value} {Q : Unit → Shared → Prop} (X : (hd.heap_1 w.params).In s.heap)
    (F : Fr h₀ L s.heap m) (N : News h₀ L s.heap ((x, instObj 143 dx) :: (dx, dictOf es n) :: rest)) (hne : x ≠ dx) (hoff : ∀ q ∈ rest, q.1 ≠ dx) (ht : takerIn (hd.heap_1 w.params) 143 name = some none) (hl : (lookIn name (dictOf es n)).isSome = true)
    (e : Obj.putName name (PyData.keyHash w.params name) (.str name (s.toks + 1)) v (dictOf es n) = dictOf es' n') (hz : es'.length ≤ 1000)
    (h : ∀ h' tk', Fr h₀ L h' m → News h₀ L h' ((x, instObj 143 dx) :: (dx, dictOf es' n') :: rest) → Q () { s with heap := h', toks := tk' }) :
    wpAny (model prog w) A (setAttr (.ref x) name v) Q E s := by
  have I1 := (N (x, instObj 143 dx) (.head _)).1
  have I2 := (N (dx, dictOf es n) (.tail _ (.head _))).1
  refine set_plain (K := hd.heap_1 w.params) (C := 143) (ox := instObj 143 dx) (od := some (dictOf es n)) X ⟨I1, rfl, rfl, I2⟩ (by kernel_rfl) ?_
  refine osa_dict (s := { s with toks := s.toks + 1 }) (K := hd.heap_1 w.params) (C := 143) (ox := instObj 143 dx) (od := dictOf es n) (od' := dictOf es' n') (dx := dx) (pre := [(x, instObj 143 dx)]) (post := rest) F N X ⟨I1, rfl, rfl, I2⟩ rfl (by kernel_rfl) ht (by kernel_rfl) hl (by intro p hp; rw [List.mem_singleton.mp hp]; exact hne) hoff e rfl hz ?_
  intro h' F' N'
  exact h h' _ F' N'
end
end Mine
end

namespace Mine
open PySem PySem.W PyProof.Rows PySem.Calls PySem.Spec
local macro_rules | `(tactic| ktr_room) => `(tactic| exact Nat.lt_of_le_of_lt (Nat.le_add_right _ _) (by assumption))
local macro_rules | `(tactic| k_all) => `(tactic| assumption)
local macro_rules | `(tactic| ktr_rel) => `(tactic| ((try simp only [List.cons_append, List.nil_append]); (repeat (refine List.forall_mem_cons.mpr ⟨?_, ?_⟩; · (repeat (first | exact .head _ | refine .tail _ ?_)))); intro p hp; (repeat (first | assumption | (exact absurd hp List.not_mem_nil) | refine .tail _ ?_))))
local macro_rules | `(tactic| k_mem) => `(tactic| first | assumption | exact List.Mem.head _ | (refine' List.Mem.tail _ ?_; k_mem))

section
open PySem PySem.W PyProof.Rows PySem.Calls PySem.Spec Builtin Builtin.ObjectAttr
set_option maxHeartbeats 8000000
variable {w : World} {mean : ExcName → Option Value} {mg mb : Str → Option Value}
theorem codeHd_lex {h : Heap} (X : (hd.heap_1 w.params).In h) : CodeHd h 188 184 := ⟨_, _, _, _, _, _, _, _, _, X 188 _ rfl, rfl, rfl, rfl, rfl, rfl, rfl, rfl, rfl, by decide⟩
theorem lexer1_w (x : Str) (t : Tok) : PySem.Challenge.rw_xj0013_01 = PySem.Challenge.rw_xj0013_01 → hd.heap_1 = hd.heap_1 →
    ClaimL w mean mg mb 1 (.ref 189) [.str x t] [(184, tabObj #[])] (fun _ => True)
    (fun v' post extra => ∃ (a : Lx) (cs : Addr) (ocr ocs : Obj) (tl tp : Tok), v' = .ref a.ix ∧ a.Ok ∧ a.x = x ∧ CodeOk ocr ∧ a.pl < a.cr ∧ a.cr < a.rd ∧ a.rd < cs ∧ cs < a.sf ∧ post = [(184, lexTab a.cr cs)] ∧ extra = a.mut w 1 tl [] 0 0 tp 0 ++ (a.imm w ++ [(a.cr, ocr), (cs, ocs)])) := by
  k_fill; intro _ _ dp un gd cn cs a ccd cl outer A₀ base h₀ L m rest s Q E hB hF hX hN hO hR hT hk hdp hun hret
  refine wpAny_call ?_
  refine' callX_cells (binds := [(Str.ofString "text", .str x t)]) hB hF hN hT.nolimit ?kA ?kF ?kK ((hX.keeps hF.keep) 189 _ rfl) rfl (codeRec_of (hX.keeps hF.keep) ?k7) ?k8 ?k9 ?kB ?kC ?_ ?c2 ?c3 ?c4
  (case kA => exact rfl); (case kF => exact rfl); (case kK => exact hk); (case k7 => k_is); (case k8 => show dp < recursionLimit; (exact om12 hdp)); (case k9 => exact BindsTo.of_eq rfl)
  (case kB => intro n x hx; rw [List.mem_singleton.mp hx]; exact .inr ⟨rfl, rfl⟩); (case kC => decide); (case c2 => exact rfl); (case c3 => exact rfl); (case c4 => exact rfl)
  intro g1 L' h1 tk1 cells FG F1 N1 CA B1 st1 lt1
  have X1 := hX.keeps st1
  have T1 := hT.keeps st1
  have C1 := codeHd_lex X1
  k_cells CA
  simp only [List.cons_append, List.nil_append] at N1
  have n0 : (184 : Nat) < L' := lt1 (184, tabObj #[]) (.head _)
  have nr : ∀ p ∈ rest, p.1 < L' := fun p hp => lt1 p (.tail _ hp)
  have nr1 : ∀ p ∈ rest, p.1 ≠ L' + 1 := fun p hp => Nat.ne_of_lt (Nat.lt_succ_of_lt (nr p hp))
  have nr2 : ∀ p ∈ rest, p.1 ≠ L' + 1 + 1 := fun p hp => Nat.ne_of_lt (Nat.lt_succ_of_lt (Nat.lt_succ_of_lt (nr p hp)))
  have n1 : (184 : Nat) ≠ L' + 1 := Nat.ne_of_lt (Nat.lt_succ_of_lt n0)
  have n2 : (184 : Nat) ≠ L' + 1 + 1 := Nat.ne_of_lt (Nat.lt_succ_of_lt (Nat.lt_succ_of_lt n0))
  have n5 : ∀ p ∈ rest, p.1 ≠ 184 := fun p hp => hO _ (.head _) p hp
  have n3 : L' + 1 ≠ L' + 1 + 1 := Nat.ne_of_lt (Nat.lt_succ_self _)
  have n4 : L' + 1 + 1 ≠ L' + 1 := Nat.ne_of_gt (Nat.lt_succ_self _)
  (try dsimp only)
  (try k_lift B1)
  (try k_fold)
  iterate 10 (walk1; try dsimp only)
  rename_i oA oB dA dB pl hP lP hS o1 FS NS d1
  walk1; try dsimp only
  rename_i rd cr ocr vsr tr ctr dcr hR tkR FR NR d1r d2r l1r l2r
  iterate 11 (walk1; try dsimp only)
  rename_i sf cs2 ocs vss ts2 cts h5 tk5 d1s d2s l1s l2s h6 F6 N6
  have l2s' : cs2 < sf := l2s
  refine fn_setattr F6 N6 ?_ ?_
  · refine fun q hq => Nat.ne_of_lt ((?_ : ∀ q ∈ _, q.1 < sf) q hq)
    exact List.forall_mem_cons.mpr ⟨l2s', List.forall_mem_cons.mpr ⟨Nat.lt_trans l1s.1 l2s', List.forall_mem_cons.mpr ⟨Nat.lt_trans l1s.2.1 l2s', List.forall_mem_cons.mpr ⟨Nat.lt_trans l1s.2.2.1 l2s', List.forall_mem_cons.mpr ⟨Nat.lt_trans l1s.2.2.2.1 l2s', List.forall_mem_cons.mpr ⟨Nat.lt_trans l1s.2.2.2.2.1 l2s', List.forall_mem_cons.mpr ⟨Nat.lt_trans l1s.2.2.2.2.2.1 l2s', fun q hq => Nat.lt_trans (nr q hq) (Nat.lt_trans (Nat.lt_trans (Nat.lt_succ_self _) l1s.2.2.2.2.1) l2s')⟩⟩⟩⟩⟩⟩⟩
  intro dsf h7 tk7 tk8 F7 N7 l7
  generalize hfds : kla_fn (Str.ofString "<lambda>") _ _ _ _ _ _ _ _ = fds at N7
  clear hfds
  clear F6 N6
  walk1
  iterate 7 (walk1; try dsimp only)
  refine ⟨X1.keeps F7.keep, ?_⟩
  refine call_cls F7 X1 N7 (by kernel_rfl) (by k_is) (by kernel_rfl) ?_
  intro ix dix h8 F8 N8 l8 l9
  clear F7 N7
  k_dflt (refine' code_def ?k1 ?k2 ?k3 ?k4 ?k5 ?kA ?kF ?kK ?k6 ?k7 ?k8 ?k9 ?kB ?_ ?c2 ?c3 ?c4 ?c5; (case kA => exact rfl); (case kF => exact rfl); (case kK => exact rfl); (case k1 => k_asm); (case k2 => k_asm); (case k3 => k_asm); (case k4 => k_asm); (case k5 => k_asm); (case k6 => k_is); (case k7 => k_is); (case k8 => ktr_room); (case k9 => exact BindsTo.of_eq rfl); (case c5 => decide); (case kB => exact locs rfl); (case c2 => exact rfl); (case c3 => exact rfl); (case c4 => exact rfl); k_whole; intro g8 L8 h9 FG8 F9 N9 B9 X9 T9; (try dsimp only); (try k_lift B9); (try k_fold))
  iterate 5 (walk1; try dsimp only)
  refine net_set (es' := [nE w "lineno" _ (.int 1 _)]) (X9.keeps F9.keep) F9 N9 (Nat.ne_of_gt l9) (fun q hq => Nat.ne_of_lt (l8 q hq)) (by kernel_rfl) rfl rfl (by simp) ?_
  intro h10 tk10 F10 N10
  clear F9 N9
  iterate 4 (walk1; try dsimp only)
  refine net_set (es' := [nE w "lineno" _ (.int 1 _), nE w "instream" _ (.ref sf)]) (X9.keeps F10.keep) F10 N10 (Nat.ne_of_gt l9) (fun q hq => Nat.ne_of_lt (l8 q hq)) (by kernel_rfl) rfl rfl (by simp) ?_
  intro h11 tk11 F11 N11
  clear F10 N10
  iterate 4 (walk1; try dsimp only)
  refine net_set (es' := [nE w "lineno" _ (.int 1 _), nE w "instream" _ (.ref sf), nE w "whitespace" _ (.str (Str.ofString "\n\t\r ") _)]) (X9.keeps F11.keep) F11 N11 (Nat.ne_of_gt l9) (fun q hq => Nat.ne_of_lt (l8 q hq)) (by kernel_rfl) rfl rfl (by simp) ?_
  intro h12 tk12 F12 N12
  clear F11 N11
  iterate 6 (walk1; try dsimp only)
  rename_i pb h13 F13 N13 l13
  have hp1 : ix < pb := l13.1
  have hp2 : dix < pb := l13.2.1
  refine net_set (es' := [nE w "lineno" _ (.int 1 _), nE w "instream" _ (.ref sf), nE w "whitespace" _ (.str (Str.ofString "\n\t\r ") _), nE w "pushback" _ (.ref pb)]) (rest := (pb, W.listOf #[] 0) :: _) (X9.keeps F13.keep) F13 (cb_drop N13 (by
    exact List.forall_mem_cons.mpr ⟨.tail _ (.head _), List.forall_mem_cons.mpr ⟨.tail _ (.tail _ (.head _)), List.forall_mem_cons.mpr ⟨.head _, fun _ hp => .tail _ (.tail _ (.tail _ hp))⟩⟩⟩)) (Nat.ne_of_gt l9) (by
    intro q hq
    rcases List.mem_cons.mp hq with rfl | hq
    · exact Nat.ne_of_gt hp2
    · exact Nat.ne_of_lt (l8 q hq)) (by kernel_rfl) rfl rfl (by simp) ?_
  intro h14 tk14 F14 N14
  clear F13 N13
  have c1 : (L' : Nat) + 1 + 1 < pl := lP.1
  have c2 : (pl : Nat) < cr := l1r.1
  have c3 : (cr : Nat) < rd := l2r
  have c4 : (rd : Nat) < cs2 := l1s.1
  have c5 : (cs2 : Nat) < sf := l2s'
  have c6 : (sf : Nat) < dsf := l7 (sf, _) (.head _)
  have c7 : (dsf : Nat) < dix := l8 (dsf, _) (.tail _ (.head _))
  have c8 : (dix : Nat) < ix := l9
  have c9 : (ix : Nat) < pb := hp1
  walk1
  let a₁ : Lx := { ix := ix, dix := dix, sf := sf, dsf := dsf, rd := rd, cp := L' + 1 + 1, ct := L' + 1, cr := cr, pb := pb, pl := pl, t1 := tk + 1 + 1, t2 := tk10 + 1, t3 := tk11 + 1 + 1, t4 := tk12 + 1, tw := tk11, td := tk7, tx := t, fds := fds, dcr := dcr, ctr := ctr, pmr := (mg (Str.ofString "__name__")).getD Value.none, o1 := o1, o2 := oB, x := x }
  have ok : a₁.Ok := ⟨d1, dB, Nat.lt_succ_self _, c1, Nat.lt_trans c2 c3, Nat.lt_trans c4 c5, c6, c7, c8, c9⟩
  have hge : ∀ q ∈ a₁.mut w 1 tk [] 0 0 tk1 0 ++ (a₁.imm w ++ [(cr, ocr), (cs2, ocs)]), (L' : Nat) < q.1 := fun q hq => by
    rcases List.mem_append.mp hq with hq | hq
    · exact Lx.mut_ge ok w q hq
    · rcases List.mem_append.mp hq with hq | hq
      · exact Lx.imm_ge ok w q hq
      · rcases List.mem_cons.mp hq with rfl | hq
        · exact Nat.lt_trans (Nat.lt_trans (Nat.lt_succ_self _) (Nat.lt_trans (Nat.lt_succ_self _) c1)) c2
        · rw [List.mem_singleton.mp hq]
          exact Nat.lt_trans (Nat.lt_trans (Nat.lt_succ_self _) (Nat.lt_trans (Nat.lt_succ_self _) c1)) (Nat.lt_trans c2 (Nat.lt_trans c3 c4))
  exact leaveK_ F14 N14 fun Fo No => ⟨rfl, leaveK_ Fo No fun Fo2 No2 => hret (.ref ix) [(184, lexTab cr cs2)] (a₁.mut w 1 tk [] 0 0 tk1 0 ++ (a₁.imm w ++ [(cr, ocr), (cs2, ocs)])) _ _ Fo2 (cb_drop No2 (by
      iterate 12 (refine List.forall_mem_cons.mpr ⟨?_, ?_⟩; · (repeat (first | exact .head _ | refine .tail _ ?_)))
      intro p hp
      (iterate 12 refine .tail _ ?_)
      exact hp)) (by
      intro p hp q hq
      rw [List.mem_singleton.mp hp]
      rcases List.mem_append.mp hq with hq | hq
      · exact Nat.ne_of_gt (Nat.lt_trans n0 (hge q hq))
      · exact n5 q hq) (by
      intro p hp q hq
      exact Nat.ne_of_lt (Nat.lt_trans (nr q hq) (hge p hp))) ⟨a₁, cs2, ocr, ocs, tk, tk1, rfl, ok, rfl, ⟨vsr, tr, d1r, d2r⟩, c2, c3, c4, c5, rfl, rfl⟩⟩
end

section
open PySem PySem.W PyProof.Rows PySem.Calls PySem.Spec Builtin Builtin.ObjectAttr
set_option maxHeartbeats 8000000
variable {w : World} {mean : ExcName → Option Value} {mg mb : Str → Option Value}
theorem lexer2_w (x : Str) (t : Tok) (cr cs2 : Addr) : PySem.Challenge.rw_xj0013_01 = PySem.Challenge.rw_xj0013_01 → hd.heap_1 = hd.heap_1 →
    ClaimL w mean mg mb 1 (.ref 189) [.str x t] [(184, lexTab cr cs2)] (fun _ => True)
    (fun v' post extra => ∃ (a : Lx) (tl tp : Tok), v' = .ref a.ix ∧ a.Ok ∧ a.x = x ∧ a.cr = cr ∧ post = [(184, lexTab cr cs2)] ∧ extra = a.mut w 1 tl [] 0 0 tp 0 ++ a.imm w) := by
  k_fill; intro _ _ dp un gd cn cs a ccd cl outer A₀ base h₀ L m rest s Q E hB hF hX hN hO hR hT hk hdp hun hret
  refine wpAny_call ?_
  refine' callX_cells (binds := [(Str.ofString "text", .str x t)]) hB hF hN hT.nolimit ?kA ?kF ?kK ((hX.keeps hF.keep) 189 _ rfl) rfl (codeRec_of (hX.keeps hF.keep) ?k7) ?k8 ?k9 ?kB ?kC ?_ ?c2 ?c3 ?c4
  (case kA => exact rfl); (case kF => exact rfl); (case kK => exact hk); (case k7 => k_is); (case k8 => show dp < recursionLimit; (exact om12 hdp)); (case k9 => exact BindsTo.of_eq rfl)
  (case kB => intro n x hx; rw [List.mem_singleton.mp hx]; exact .inr ⟨rfl, rfl⟩); (case kC => decide); (case c2 => exact rfl); (case c3 => exact rfl); (case c4 => exact rfl)
  intro g1 L' h1 tk1 cells FG F1 N1 CA B1 st1 lt1
  have X1 := hX.keeps st1
  have T1 := hT.keeps st1
  have C1 := codeHd_lex X1
  k_cells CA
  simp only [List.cons_append, List.nil_append] at N1
  have n0 : (184 : Nat) < L' := lt1 (184, lexTab cr cs2) (.head _)
  have nr : ∀ p ∈ rest, p.1 < L' := fun p hp => lt1 p (.tail _ hp)
  have nr1 : ∀ p ∈ rest, p.1 ≠ L' + 1 := fun p hp => Nat.ne_of_lt (Nat.lt_succ_of_lt (nr p hp))
  have nr2 : ∀ p ∈ rest, p.1 ≠ L' + 1 + 1 := fun p hp => Nat.ne_of_lt (Nat.lt_succ_of_lt (Nat.lt_succ_of_lt (nr p hp)))
  have n1 : (184 : Nat) ≠ L' + 1 := Nat.ne_of_lt (Nat.lt_succ_of_lt n0)
  have n2 : (184 : Nat) ≠ L' + 1 + 1 := Nat.ne_of_lt (Nat.lt_succ_of_lt (Nat.lt_succ_of_lt n0))
  have n5 : ∀ p ∈ rest, p.1 ≠ 184 := fun p hp => hO _ (.head _) p hp
  have n3 : L' + 1 ≠ L' + 1 + 1 := Nat.ne_of_lt (Nat.lt_succ_self _)
  have n4 : L' + 1 + 1 ≠ L' + 1 := Nat.ne_of_gt (Nat.lt_succ_self _)
  (try dsimp only)
  (try k_lift B1)
  (try k_fold)
  iterate 10 (walk1; try dsimp only)
  rename_i oA oB dA dB pl hP lP hS o1 FS NS d1
  walk1; try dsimp only
  rename_i rd ctr dcr hR tkR FR NR l1r
  iterate 11 (walk1; try dsimp only)
  rename_i sf cts h5 tk5 l1s h6 F6 N6
  refine fn_setattr F6 N6 ?_ ?_
  · intro q hq
    have hlt : q.1 < sf := by
      rcases List.mem_cons.mp hq with rfl | hq
      · exact l1s.1
      · rcases List.mem_cons.mp hq with rfl | hq
        · exact l1s.2.1
        · rcases List.mem_cons.mp hq with rfl | hq
          · exact l1s.2.2.1
          · rcases List.mem_cons.mp hq with rfl | hq
            · exact l1s.2.2.2.1
            · rcases List.mem_cons.mp hq with rfl | hq
              · exact l1s.2.2.2.2.1
              · exact Nat.lt_trans (nr q hq) (Nat.lt_trans (Nat.lt_succ_self _) l1s.2.2.2.1)
    exact Nat.ne_of_lt hlt
  intro dsf h7 tk7 tk8 F7 N7 l7
  generalize hfds : kla_fn (Str.ofString "<lambda>") _ _ _ _ _ _ _ _ = fds at N7
  clear hfds
  clear F6 N6
  walk1
  iterate 7 (walk1; try dsimp only)
  refine ⟨X1.keeps F7.keep, ?_⟩
  refine call_cls F7 X1 N7 (by kernel_rfl) (by k_is) (by kernel_rfl) ?_
  intro ix dix h8 F8 N8 l8 l9
  clear F7 N7
  k_dflt (refine' code_def ?k1 ?k2 ?k3 ?k4 ?k5 ?kA ?kF ?kK ?k6 ?k7 ?k8 ?k9 ?kB ?_ ?c2 ?c3 ?c4 ?c5; (case kA => exact rfl); (case kF => exact rfl); (case kK => exact rfl); (case k1 => k_asm); (case k2 => k_asm); (case k3 => k_asm); (case k4 => k_asm); (case k5 => k_asm); (case k6 => k_is); (case k7 => k_is); (case k8 => ktr_room); (case k9 => exact BindsTo.of_eq rfl); (case c5 => decide); (case kB => exact locs rfl); (case c2 => exact rfl); (case c3 => exact rfl); (case c4 => exact rfl); k_whole; intro g8 L8 h9 FG8 F9 N9 B9 X9 T9; (try dsimp only); (try k_lift B9); (try k_fold))
  iterate 5 (walk1; try dsimp only)
  refine net_set (es' := [nE w "lineno" _ (.int 1 _)]) (X9.keeps F9.keep) F9 N9 (Nat.ne_of_gt l9) (fun q hq => Nat.ne_of_lt (l8 q hq)) (by kernel_rfl) rfl rfl (by simp) ?_
  intro h10 tk10 F10 N10
  clear F9 N9
  iterate 4 (walk1; try dsimp only)
  refine net_set (es' := [nE w "lineno" _ (.int 1 _), nE w "instream" _ (.ref sf)]) (X9.keeps F10.keep) F10 N10 (Nat.ne_of_gt l9) (fun q hq => Nat.ne_of_lt (l8 q hq)) (by kernel_rfl) rfl rfl (by simp) ?_
  intro h11 tk11 F11 N11
  clear F10 N10
  iterate 4 (walk1; try dsimp only)
  refine net_set (es' := [nE w "lineno" _ (.int 1 _), nE w "instream" _ (.ref sf), nE w "whitespace" _ (.str (Str.ofString "\n\t\r ") _)]) (X9.keeps F11.keep) F11 N11 (Nat.ne_of_gt l9) (fun q hq => Nat.ne_of_lt (l8 q hq)) (by kernel_rfl) rfl rfl (by simp) ?_
  intro h12 tk12 F12 N12
  clear F11 N11
  iterate 6 (walk1; try dsimp only)
  rename_i pb h13 F13 N13 l13
  have hp1 : ix < pb := l13.1
  have hp2 : dix < pb := l13.2.1
  refine net_set (es' := [nE w "lineno" _ (.int 1 _), nE w "instream" _ (.ref sf), nE w "whitespace" _ (.str (Str.ofString "\n\t\r ") _), nE w "pushback" _ (.ref pb)]) (rest := (pb, W.listOf #[] 0) :: _) (X9.keeps F13.keep) F13 (cb_drop N13 (by
    exact List.forall_mem_cons.mpr ⟨.tail _ (.head _), List.forall_mem_cons.mpr ⟨.tail _ (.tail _ (.head _)), List.forall_mem_cons.mpr ⟨.head _, fun _ hp => .tail _ (.tail _ (.tail _ hp))⟩⟩⟩)) (Nat.ne_of_gt l9) (by
    intro q hq
    rcases List.mem_cons.mp hq with rfl | hq
    · exact Nat.ne_of_gt hp2
    · exact Nat.ne_of_lt (l8 q hq)) (by kernel_rfl) rfl rfl (by simp) ?_
  intro h14 tk14 F14 N14
  clear F13 N13
  have c1 : (L' : Nat) + 1 + 1 < pl := lP.1
  have c2 : (pl : Nat) < rd := l1r.1
  have c4 : (rd : Nat) < sf := l1s.1
  have c6 : (sf : Nat) < dsf := l7 (sf, _) (.head _)
  have c7 : (dsf : Nat) < dix := l8 (dsf, _) (.tail _ (.head _))
  have c8 : (dix : Nat) < ix := l9
  have c9 : (ix : Nat) < pb := hp1
  walk1
  let a₁ : Lx := { ix := ix, dix := dix, sf := sf, dsf := dsf, rd := rd, cp := L' + 1 + 1, ct := L' + 1, cr := cr, pb := pb, pl := pl, t1 := tk + 1 + 1, t2 := tk10 + 1, t3 := tk11 + 1 + 1, t4 := tk12 + 1, tw := tk11, td := tk7, tx := t, fds := fds, dcr := dcr, ctr := ctr, pmr := (mg (Str.ofString "__name__")).getD Value.none, o1 := o1, o2 := oB, x := x }
  have ok : a₁.Ok := ⟨d1, dB, Nat.lt_succ_self _, c1, c2, c4, c6, c7, c8, c9⟩
  have hge : ∀ q ∈ a₁.mut w 1 tk [] 0 0 tk1 0 ++ a₁.imm w, (L' : Nat) < q.1 := fun q hq => by
    rcases List.mem_append.mp hq with hq | hq
    · exact Lx.mut_ge ok w q hq
    · exact Lx.imm_ge ok w q hq
  exact leaveK_ F14 N14 fun Fo No => ⟨rfl, leaveK_ Fo No fun Fo2 No2 => hret (.ref ix) [(184, lexTab cr cs2)] (a₁.mut w 1 tk [] 0 0 tk1 0 ++ a₁.imm w) _ _ Fo2 (cb_drop No2 (by
      iterate 10 (refine List.forall_mem_cons.mpr ⟨?_, ?_⟩; · (repeat (first | exact .head _ | refine .tail _ ?_)))
      intro p hp
      (iterate 10 refine .tail _ ?_)
      exact hp)) (by
      intro p hp q hq
      rw [List.mem_singleton.mp hp]
      rcases List.mem_append.mp hq with hq | hq
      · exact Nat.ne_of_gt (Nat.lt_trans n0 (hge q hq))
      · exact n5 q hq) (by
      intro p hp q hq
      exact Nat.ne_of_lt (Nat.lt_trans (nr q hq) (hge p hp))) ⟨a₁, tk, tk1, rfl, ok, rfl, rfl, rfl, rfl⟩⟩
end

section
open PySem PySem.W PyProof.Rows PySem.Calls PySem.Spec Builtin Builtin.ObjectAttr
set_option maxHeartbeats 1000000
variable {w : World} {mean : ExcName → Option Value} {mg mb : Str → Option Value}
theorem list_set0 {prog : Program} {A : Around} {E : Value → Shared → Prop} {s : Shared} {h₀ : Heap} {L : Addr} {m : Str → Option Value} {rest : Led} {d : Addr} {u v : Value} {n : Nat} {t : Tok} {Q : Unit → Shared → Prop}
    (F : Fr h₀ L s.heap m) (N : News h₀ L s.heap ((d, W.listOf #[u] n) :: rest)) (hO : ∀ q ∈ rest, q.1 ≠ d)
    (hq : ∀ n' h', Fr h₀ L h' m → News h₀ L h' ((d, W.listOf #[v] n') :: rest) → Q () { s with heap := h' }) : wpAny (model prog w) A (setItem (.ref d) (.int 0 t) v) Q E s := by
  have hx := (N _ (.head _)).1
  obtain ⟨hh, g, dd, tk, os⟩ := s
  dsimp only at hx
  have X := inNil hh
  iterate 2 refine x_load X 400 0 (by kernel_rfl) hx ?_
  refine x_call X 400 0 (c' := .call (.builtin "list.__setitem__") ⟨[.ref d, .int 0 t, v], []⟩) (by kernel_rfl) ?_
  refine codeAny_call_builtin (b := Builtin.«list.__setitem__») (by decide +kernel) (entryFor_of_tree (by kernel_rfl)) ?_
  refine x_load X 400 0 (by kernel_rfl) hx ?_
  refine x_pure X 400 0 (v := ()) (by kernel_rfl) ?_
  iterate 2 refine x_load X 400 0 (by kernel_rfl) hx ?_
  obtain ⟨F5, N5⟩ := news_upd (f := Obj.mapSeq fun x => x.setIfInBounds 0 v) (pre := []) (d := d) (o := W.listOf #[u] n) (o' := W.listOf #[v] n) F N (by intro p hp; cases hp) hO rfl rfl
  have hx5 := (N5 _ (.head _)).1
  dsimp only at hx5
  refine x_upd (a := d) (f := Obj.mapSeq fun x => x.setIfInBounds 0 v) X 400 0 (by kernel_rfl) hx ?_
  refine x_pure (v := Fin.done (Flow.ret Value.none)) (inNil _) 400 0 (by kernel_rfl) ?_
  refine x_pure (v := ()) (inNil _) 400 0 (by kernel_rfl) ?_
  exact hq _ _ F5 N5
end

section
open PySem PySem.W PyProof.Rows PySem.Calls Builtin Builtin.ObjectAttr Builtin.Str
theorem runs_toks {M : Model} {Γ : PySem.Ctx} {p : Pos} {t : Sem Fin} {fs : List Frame} {s : Shared} {e : End} {s' : Shared} (h : Runs M Γ p t fs s e s') : s.toks ≤ s'.toks := by
  induction h <;> (try simp only [Shared.setGen] at *) <;> omega
theorem wakes_toks {M : Model} {Γ : PySem.Ctx} {p : Pos} {g : Nat} {r : Resume} {s : Shared} {res : GenResult} {s' : Shared} (h : Wakes M Γ p g r s res s') : s.toks ≤ s'.toks := by
  unfold Wakes at h
  split at h
  · exact h.elim
  · split at h
    · obtain ⟨e₁, s₁, h1, -, -, rfl⟩ := h
      exact (show s.toks ≤ s₁.toks from runs_toks (s := s.setGen g .running) h1)
    · rw [h.2]; exact Nat.le_refl _
    · rw [h.2]; exact Nat.le_refl _
  · obtain ⟨e₁, s₁, h1, -, -, rfl⟩ := h
    exact (show s.toks ≤ s₁.toks from runs_toks (s := s.setGen g .running) h1)
  · rw [h.2]; exact Nat.le_refl _
  · rw [h.2]; exact Nat.le_refl _
theorem wp_toks {α : Type} {M : Model} {Γ : PySem.Ctx} (t : Sem α) : ∀ {Q : α → Pos → Shared → Prop} {E : Value → Pos → Shared → Prop} {p : Pos} {s : Shared} (n : Nat), n ≤ s.toks →
    Sem.wp M Γ t (fun a p' s' => n ≤ s'.toks → Q a p' s') (fun e p' s' => n ≤ s'.toks → E e p' s') p s → Sem.wp M Γ t Q E p s := by
  induction t <;> intro Q E p s n hn h <;> unfold Sem.wp at h ⊢
  all_goals (rename_i ih)
  all_goals (first
    | exact h
    | exact h hn
    | (refine ih _ n ?_ h; first | exact hn | exact Nat.le_succ_of_le hn)
    | (obtain ⟨o, ho, h⟩ := h; refine ⟨o, ho, ih _ n hn h⟩)
    | (obtain ⟨ho, h⟩ := h; refine ⟨ho, ih _ n hn h⟩)
    | (obtain ⟨r, s', hr, h⟩ := h; exact ⟨r, s', hr, ih _ n (Nat.le_trans hn (runs_toks hr)) h⟩)
    | (obtain ⟨r, s', hr, h⟩ := h; exact ⟨r, s', hr, ih _ n (Nat.le_trans hn (wakes_toks hr)) h⟩)
    | skip)
theorem toks_cut {α : Type} {M : Model} {A : Around} {t : Sem α} {Q : α → Shared → Prop} {E : Value → Shared → Prop} {s : Shared}
    (h : wpAny M A t (fun a s' => s.toks ≤ s'.toks → Q a s') E s) : wpAny M A t Q E s := fun Γ p hΓ =>
  wp_toks t s.toks (Nat.le_refl _) (Sem.wp_mono M Γ t (fun _ _ _ h => h) (exc' := fun e _ s' => s.toks ≤ s'.toks → E e s') (fun _ _ _ h _ => h) p s (h Γ p hΓ))
theorem toks_cutC {M : Model} {A : Around} {c : Code} {R : Result → Shared → Prop} {s : Shared}
    (h : codeAny M A c (fun r s' => s.toks ≤ s'.toks → R r s') s) : codeAny M A c R s := fun Γ p hc hΓ => by
  obtain ⟨r, s', h1, h2⟩ := h Γ p hc hΓ
  exact ⟨r, s', h1, h2 (runs_toks h1)⟩
theorem gentoks {α : Type} {M : Model} {A : Around} {t : Sem α} {Q : α → Shared → Prop} {E : Value → Shared → Prop} {s : Shared} {T0 : Nat} (h0 : T0 ≤ s.toks) (h : ∀ tk, T0 ≤ tk → wpAny M A t Q E { s with toks := tk }) : wpAny M A t Q E s := h s.toks h0
theorem gentoksA {α : Type} {M : Model} {A : Around} {t : Sem α} {Q : α → Shared → Prop} {E : Value → Shared → Prop} {T0 tk k : Nat} {hh : Heap} {g : Array GenState} {d : Drawn} {os : OsState} (h0 : T0 ≤ tk) (h : ∀ tk', T0 ≤ tk' → wpAny M A t Q E ⟨hh, g, d, tk', os⟩) : wpAny M A t Q E ⟨hh, g, d, tk + k, os⟩ := h _ (Nat.le_add_right_of_le h0)
/-- as ClaimL, but of the call as a code, and with a bound below the tokens -/
noncomputable abbrev ClaimT (w : World) (mean : ExcName → Option Value) (mg mb : Str → Option Value) (lv : Nat) (f : Value) (vs : List Value) (pre : Led) (Rd : Led → Prop) (Post : Nat → Value → Led → Led → Prop) : Prop :=
  ∀ (dp un : Nat) (gd : Option (List Code)) (cn : Str) (cs : Scope) (a : Addr) (ccd : Value) (cl : List (Str × Addr)) (outer : List Env) (A₀ : Around) (base h₀ : Heap) (L : Addr) (m : Str → Option Value) (rest : Led) (s : Shared) (R : Result → Shared → Prop) (T0 : Nat),
    Below A₀ base outer h₀ → Fr h₀ L s.heap m → (hd.heap_1 w.params).In h₀ → News h₀ L s.heap (pre ++ rest) → Off pre rest → Rd rest → Tp mean mg mb h₀ → cs.kind = .function →
    dp + (lv + 2) * 4 < recursionLimit → un + (lv + 2) * 12 < cLine → T0 ≤ s.toks →
    (∀ (v : Value) (post extra : Led) (h' : Heap) (tk' : Nat), T0 ≤ tk' → Fr h₀ L h' m → News h₀ L h' (post ++ (extra ++ rest)) → Off post (extra ++ rest) → Off extra rest → Post T0 v post extra → R (.ok (.ret v)) { s with heap := h', toks := tk' }) →
      codeAny (model PySem.Challenge.pw_xj0013_01 w) (ktrTop dp un gd cn cs L a ccd cl outer) (.call f ⟨vs, []⟩) R s
/-- as ClaimT, but the tokens' end is not told -/
noncomputable abbrev ClaimT0 (w : World) (mean : ExcName → Option Value) (mg mb : Str → Option Value) (lv : Nat) (f : Value) (vs : List Value) (pre : Led) (Rd : Led → Prop) (Post : Nat → Value → Led → Led → Prop) : Prop :=
  ∀ (dp un : Nat) (gd : Option (List Code)) (cn : Str) (cs : Scope) (a : Addr) (ccd : Value) (cl : List (Str × Addr)) (outer : List Env) (A₀ : Around) (base h₀ : Heap) (L : Addr) (m : Str → Option Value) (rest : Led) (s : Shared) (R : Result → Shared → Prop) (T0 : Nat),
    Below A₀ base outer h₀ → Fr h₀ L s.heap m → (hd.heap_1 w.params).In h₀ → News h₀ L s.heap (pre ++ rest) → Off pre rest → Rd rest → Tp mean mg mb h₀ → cs.kind = .function →
    dp + (lv + 2) * 4 < recursionLimit → un + (lv + 2) * 12 < cLine → T0 ≤ s.toks →
    (∀ (v : Value) (post extra : Led) (h' : Heap) (tk' : Nat), Fr h₀ L h' m → News h₀ L h' (post ++ (extra ++ rest)) → Off post (extra ++ rest) → Off extra rest → Post T0 v post extra → R (.ok (.ret v)) { s with heap := h', toks := tk' }) →
      codeAny (model PySem.Challenge.pw_xj0013_01 w) (ktrTop dp un gd cn cs L a ccd cl outer) (.call f ⟨vs, []⟩) R s
theorem claimT_of {w : World} {mean : ExcName → Option Value} {mg mb : Str → Option Value} {lv : Nat} {f : Value} {vs : List Value} {pre : Led} {Rd : Led → Prop} {Post : Nat → Value → Led → Led → Prop} (h : ClaimT0 w mean mg mb lv f vs pre Rd Post) : ClaimT w mean mg mb lv f vs pre Rd Post := by
  intro dp un gd cn cs b ccd cl outer A₀ base h₀ L m rest s R T0 hB hF hX hN hO hR hT hk hdp hun hTk hret
  exact toks_cutC (h dp un gd cn cs b ccd cl outer A₀ base h₀ L m rest s _ T0 hB hF hX hN hO hR hT hk hdp hun hTk fun v post extra h' tk' a b c d e hle => hret v post extra h' tk' (Nat.le_trans hTk hle) a b c d e)
end

section
open PySem PySem.W PyProof.Rows PySem.Calls PySem.Spec Builtin Builtin.ObjectAttr Builtin.Str
set_option maxHeartbeats 1000000
variable {w : World} {mean : ExcName → Option Value} {mg mb : Str → Option Value}
theorem str_slice {prog : Program} {A : Around} {E : Value → Shared → Prop} {s : Shared} {x : Str} {tx t1 t2 : Tok} {sl : Addr} {i j : Int} {nm : Str} {lo hi : Expr} {p p2 : Pos} {Q : Value → Shared → Prop}
    (hsl : s.heap.get? sl = some { cls := .type "slice", data := .fields #[.int i t1, .int j t2, .none] }) (hx : x.length < 2000) (hne : ((strSliceIndices (some i) (some j) 1 x.length).length == x.length) = false)
    (hq : ∀ t k, s.toks ≤ t → s.toks ≤ k → Q (.str (Txt.slice x (some i) (some j)) t) { s with toks := k }) : wpAny (model prog w) A (subscriptTail (.Name nm p2) (.Slice (some lo) (some hi) none p) (.str x tx) (.ref sl)) Q E s := by
  obtain ⟨hh, g, dd, tk, os⟩ := s
  dsimp only at hsl hq
  have X := inNil hh
  refine x_call X 400 0 (c' := .call (.builtin "str.__getitem__") ⟨[.str x tx, .ref sl], []⟩) (by kernel_rfl) ?_
  refine codeAny_call_builtin (b := Builtin.«str.__getitem__») (by decide +kernel) (entryFor_of_tree (by kernel_rfl)) ?_
  refine x_pure X 400 0 (v := ()) (by kernel_rfl) ?_
  iterate 4 refine x_load X 400 0 (by kernel_rfl) hsl ?_
  repeat (first | with_reducible refine nd_at ?_ | lk)
  have hc : ((none : Option Int).getD 1 == 1 && (strSliceIndices (some i) (some j) ((none : Option Int).getD 1) x.length).length == x.length) = false := by
    show ((1 : Int) == 1 && (strSliceIndices (some i) (some j) 1 x.length).length == x.length) = false
    rw [hne]; rfl
  rw [if_neg (by rw [hc]; decide)]
  have hS : (⟨(List.filterMap (fun k => x.cps[k]?) (strSliceIndices (some i) (some j) ((none : Option Int).getD 1) x.length)).toArray⟩ : Str) = Txt.slice x (some i) (some j) := by
    unfold Txt.slice
    rw [if_neg (by rw [show ((1 : Int) == 1 && (strSliceIndices (some i) (some j) 1 x.length).length == x.length) = false from hc]; decide)]
    rfl
  have hle := Txt.slice_le x (some i) (some j)
  rw [hS]
  unfold retStr mkStr
  rw [if_neg (by rw [sizeLine_eq]; omega)]
  repeat (first | with_reducible refine nd_at ?_ | lk)
  exact hq _ _ (Nat.le_refl _) (Nat.le_succ _)
theorem bndN (k n : Nat) : max (0 : Int) (min (if (k : Int) < 0 then (k : Int) + n else (k : Int)) n) = ((min k n : Nat) : Int) := by
  rw [if_neg (Int.not_lt.mpr (Int.natCast_nonneg k))]
  exact om109
theorem idx_one (p n : Nat) : strSliceIndices (some ((p : Int) + 1 - 1)) (some ((p : Int) + 1)) 1 n = if p < n then [p] else [] := by
  unfold strSliceIndices
  dsimp only
  rw [if_pos (by decide : (1 : Int) > 0), if_pos (by decide : (1 : Int) > 0), Int.add_sub_cancel, show ((p : Int) + 1) = ((p + 1 : Nat) : Int) from rfl, bndN, bndN, sliceRange_one]
  by_cases h : p < n
  · rw [if_pos h, Nat.min_eq_left (Nat.le_of_lt h), Nat.min_eq_left h, show p.succ - p = 1 from Nat.add_sub_cancel_left p 1]
    rfl
  · rw [if_neg h, Nat.min_eq_right (Nat.le_of_not_lt h), Nat.min_eq_right (Nat.le_succ_of_le (Nat.le_of_not_lt h)), Nat.sub_self]
    rfl
theorem iadd_T {prog : Program} {A : Around} {E : Value → Shared → Prop} {s : Shared} {T0 : Nat} {x y : Str} {t u : Tok} {Q : Value → Shared → Prop} (h0 : T0 ≤ s.toks) (ht : T0 ≤ t) (hu : T0 ≤ u) (hl : x.length + y.length < 3000)
    (hq : ∀ v k, T0 ≤ v → T0 ≤ k → Q (.str (x ++ y) v) { s with toks := k }) : wpAny (model prog w) A (inplaceOp .Add (.str x t) (.str y u)) Q E s := by
  obtain ⟨hh, g, dd, tk, os⟩ := s
  dsimp only at hq h0
  have X := inNil hh
  refine x_call X 400 0 (c' := .call (.builtin "str.__add__") ⟨[.str x t, .str y u], []⟩) (by kernel_rfl) ?_
  refine codeAny_call_builtin (b := Builtin.«str.__add__») (by decide +kernel) (entryFor_of_tree (by kernel_rfl)) ?_
  refine x_pure X 400 0 (v := ()) (by kernel_rfl) ?_
  repeat (first | with_reducible refine nd_at ?_ | lk)
  cases hx : x.length == 0
  · cases hy : y.length == 0
    · rw [if_neg (by rw [Bool.and_false]; decide), if_neg (by rw [Bool.and_false]; decide)]
      unfold retStr mkStr
      have hl2 : (x ++ y).length = x.length + y.length := by
        show (x.cps ++ y.cps).size = x.cps.size + y.cps.size
        simp
      rw [if_neg (by rw [sizeLine_eq, hl2]; omega)]
      repeat (first | with_reducible refine nd_at ?_ | lk)
      exact hq _ _ h0 (Nat.le_succ_of_le h0)
    · have e : x ++ y = x := by
        have : y.cps = #[] := by simpa [Str.length] using hy
        show (⟨x.cps ++ y.cps⟩ : Str) = x
        rw [this]; simp
      rw [e] at hq
      rw [if_neg (by rw [Bool.and_false]; decide), if_pos (by rfl)]
      repeat (first | with_reducible refine nd_at ?_ | lk)
      exact hq _ _ ht h0
  · have e : x ++ y = y := by
      have : x.cps = #[] := by simpa [Str.length] using hx
      show (⟨x.cps ++ y.cps⟩ : Str) = y
      rw [this]; simp
    rw [e] at hq
    rw [if_pos (by rfl)]
    repeat (first | with_reducible refine nd_at ?_ | lk)
    exact hq _ _ hu h0
end

section
open PySem PySem.W PyProof.Rows PySem.Calls PySem.Spec Builtin Builtin.ObjectAttr
set_option maxHeartbeats 3000000
variable {w : World} {mean : ExcName → Option Value} {mg mb : Str → Option Value}
theorem read_t (a : Lx) (ok : a.Ok) (ocr : Obj) (hcr : CodeOk ocr) (p : Nat) (tp tc : Tok) (n : Nat) (hz : a.x.length < 2000) (hz2 : 2 ≤ a.x.length) : PySem.Challenge.rw_xj0013_01 = PySem.Challenge.rw_xj0013_01 → hd.heap_1 = hd.heap_1 →
    ClaimT w mean mg mb 0 (.ref a.rd) [.int 1 tc] [(a.pl, W.listOf #[.int p tp] n)] (fun rest => (∀ q ∈ a.imm w, q ∈ rest) ∧ (a.cr, ocr) ∈ rest)
    (fun T0 v' post extra => ∃ t tp' n', T0 ≤ t ∧ v' = .str (Txt.slice a.x (some ((p : Int) + 1 - 1)) (some ((p : Int) + 1))) t ∧ post = [(a.pl, W.listOf #[.int ((p : Int) + 1) tp'] n')] ∧ extra = []) := by
  k_fill; intro _ _ dp un gd cn cs b ccd cl outer A₀ base h₀ L m rest s R T0 hB hF hX hN hO hR hT hk hdp hun hTk hret
  obtain ⟨him, hcm⟩ := hR
  obtain ⟨vs, tq, hd1, hd2⟩ := hcr
  have hpd := ok.d1
  have htd := ok.d2
  have hrd := him _ (.tail _ (.tail _ (.tail _ (.head _))))
  have hcp := him _ (.tail _ (.tail _ (.tail _ (.tail _ (.head _)))))
  have hct := him _ (.tail _ (.tail _ (.tail _ (.tail _ (.tail _ (.head _))))))
  clear him ok
  obtain ⟨ix, dix, sf, dsf, rd, cp, ct, cr, pb, pl, t1, t2, t3, t4, tw, td, tx, fds, dcr, ctr, pmr, o1, o2, x⟩ := a
  dsimp only at *
  have e1 := (rfl : readScope w.params = readScope w.params)
  conv at e1 => rhs; whnf
  have e2 := (rfl : readBody w.params = readBody w.params)
  conv at e2 => rhs; whnf
  have e3 := (rfl : readParams w.params = readParams w.params)
  conv at e3 => rhs; whnf
  dsimp only [readObj] at hrd
  rw [e1, e2, e3] at hrd
  clear e1 e2 e3
  refine' code_nest hB hF hX hN hT ?kA ?kF ?kK (.tail _ hrd) (codeRec_news (hN) (.tail _ hcm) hd1 hd2) ?k8 ?k9 ?kB ?_ ?c2 ?c3 ?c4 ?c5
  (case kA => exact rfl); (case kF => exact rfl); (case kK => exact hk); (case k8 => show dp < recursionLimit; (exact om13 hdp)); (case k9 => exact BindsTo.of_eq rfl); (case kB => exact locs rfl); (case c2 => exact rfl); (case c3 => exact rfl); (case c4 => exact rfl); (case c5 => decide)
  intro g1 L' h1 FG F1 N1 B1 X1 T1
  clear hd1 hd2
  have C1 := codeHd_lex X1
  walk1
  refine toks_cut ?_
  iterate 10 walk1
  have hOr : ∀ q ∈ rest, q.1 ≠ pl := fun q hq => hO _ (.head _) q hq
  refine list_set0 F1 N1 hOr ?_
  intro n' h2 F2 N2
  clear F1 N1
  intro hT1
  dsimp only at hT1 ⊢
  refine gentoks (T0 := T0) (Nat.le_trans hTk (Nat.le_trans (Nat.le_add_right _ _) hT1)) ?_
  intro tkA hTA
  dsimp only
  iterate 3 (walk1; try dsimp only)
  refine nameX_F (x := Str.ofString "text") (cn := readQual) (cs := _) (L := L') (a := rd) (ccd := .ref cr) (cl := [(Str.ofString "text", ct), (Str.ofString "place", cp)]) N2 rfl (.tail _ hct) htd ?_ rfl rfl (by decide) (by decide)
  iterate 4 (walk1; try dsimp only)
  refine nameX_F (x := Str.ofString "place") (cn := readQual) (cs := _) (L := L') (a := rd) (ccd := .ref cr) (cl := [(Str.ofString "text", ct), (Str.ofString "place", cp)]) N2 rfl (.tail _ hcp) hpd ?_ rfl rfl (by decide) (by decide)
  iterate 2 (walk1; try dsimp only)
  refine nameX_L (x := Str.ofString "count") (cn := readQual) (cs := _) (L := L') (a := rd) (ccd := .ref cr) (cl := [(Str.ofString "text", ct), (Str.ofString "place", cp)]) F2 (v := .int 1 tc) rfl ?_ rfl rfl
  iterate 3 (walk1; try dsimp only)
  refine nameX_F (x := Str.ofString "place") (cn := readQual) (cs := _) (L := L') (a := rd) (ccd := .ref cr) (cl := [(Str.ofString "text", ct), (Str.ofString "place", cp)]) N2 rfl (.tail _ hcp) hpd ?_ rfl rfl (by decide) (by decide)
  iterate 3 (walk1; try dsimp only)
  refine str_slice (i := (p : Int) + 1 - 1) (j := (p : Int) + 1) (x := x) (Heap.get?_push_size _ rfl) hz ?_ ?_
  · rw [idx_one]
    have hz3 : 2 ≤ x.length := hz2
    split <;> simp <;> (first | exact om37 hz3 | exact om38 hz3)
  · intro t3 k3 ht3 hk3
    dsimp only at ht3 hk3
    exact leaveK_ (F2.push _) (N2.push F2 _) fun Fo No => hret _ [(pl, _)] [] _ _ (by (exact om36 hTA hk3)) Fo (cb_drop No (fun q hq => .tail _ hq)) (fun p hp q hq => by rw [List.mem_singleton.mp hp]; exact hOr q hq) (fun p hp => nomatch hp) ⟨_, _, _, by (exact om36 hTA ht3), rfl, rfl, rfl⟩
end

section
open PySem PySem.W PyProof.Rows PySem.Calls PySem.Spec Builtin Builtin.ObjectAttr
set_option maxHeartbeats 3000000
variable {w : World} {mean : ExcName → Option Value} {mg mb : Str → Option Value}
theorem fn_getMethod {prog : Program} {A : Around} {E : Value → Shared → Prop} {s : Shared} {sf d rd : Addr} {fd : FuncData} {tk : Tok} {pl : Sem Bool} {Q : Value × List Value → Shared → Prop}
    (hx : s.heap.get? sf = some (fnObj (some d) fd)) (hd : s.heap.get? d = some (fnD w (.ref rd) tk)) 
    (hq : ∀ k, s.toks ≤ k → Q (.ref rd, []) { s with toks := k }) : wpAny (model prog w) A (getMethod (.ref sf) "read" pl) Q E s := by
  obtain ⟨hh, g, dd, t, os⟩ := s
  dsimp only at *
  have X := inNil hh
  iterate 3 refine x_load X 400 0 (by kernel_rfl) hx ?_
  refine x_fresh X 400 0 (by kernel_rfl) ?_
  refine x_load X 400 0 (by kernel_rfl) hx ?_
  refine x_call X 400 0 (c' := .call (.builtin "object.__getattribute__") ⟨[.ref sf, .str (Str.ofString "read") t], []⟩) (by kernel_rfl) ?_
  refine codeAny_call_builtin (b := Builtin.«object.__getattribute__») (by decide +kernel) (entryFor_of_tree (by kernel_rfl)) ?_
  refine x_load X 400 0 (by kernel_rfl) hx ?_
  refine x_pure X 400 0 (v := ()) (by kernel_rfl) ?_
  iterate 3 refine x_load X 400 0 (by kernel_rfl) hx ?_
  refine x_load X 400 0 (by kernel_rfl) hd ?_
  refine x_pure X 400 0 (v := Fin.done (Flow.ret (Value.ref rd))) (by kernel_rfl) ?_
  refine x_pure X 400 0 (v := (Value.ref rd, [])) (by kernel_rfl) ?_
  exact hq _ (Nat.le_succ _)
theorem callWith_fn1 {M : Model} {A : Around} {E : Value → Shared → Prop} {s : Shared} {env : Env} {pos : Pos} {f : Addr} {o : Obj} {fd : FuncData} {first : List Value} {e : Expr} {rest : List Expr} {Q : Value → Shared → Prop} (hdat : o.data = .func fd)
    (h : wpAny M A (spliced (backTo pos (starEach (e :: rest) env))) (fun vs s₁ => s₁.heap.get? f = some o ∧ wpAny M A (call (.ref f) (first ++ vs)) Q E s₁) E s)
    (he : starEach (e :: rest) env = (false, eval e env) :: starEach rest env := by rfl) :
    wpAny M A (callWith pos (.ref f) first (backTo pos (starEach (e :: rest) env)) []) Q E s := by
  rw [he] at h ⊢
  exact Calls.callWith_function (o := o) (fd := fd) (Calls.evalArgs_plain (wpAny_mono h (fun vs s₁ h₁ => ⟨⟨h₁.1, hdat⟩, h₁.2⟩) fun _ _ x => x))
/-- the sign at p, or nothing behind the text's end -/
noncomputable abbrev chAt (x : Str) (p : Nat) : Str := Txt.slice x (some ((p : Int) + 1 - 1)) (some ((p : Int) + 1))
theorem readchar_t0 (a : Lx) (ok : a.Ok) (ocr : Obj) (hcr : CodeOk ocr) (hz : a.x.length < 2000) (hz2 : 2 ≤ a.x.length) (ln : Int) (tl : Tok) (ts : List Value) (n1 : Nat) (p : Nat) (tp : Tok) (n2 : Nat) : PySem.Challenge.rw_xj0013_01 = PySem.Challenge.rw_xj0013_01 → hd.heap_1 = hd.heap_1 →
    ClaimT0 w mean mg mb 1 (.ref 126) [.ref a.ix] (a.mut w ln tl ts n1 p tp n2) (fun rest => (∀ q ∈ a.imm w, q ∈ rest) ∧ (a.cr, ocr) ∈ rest)
    (fun T0 v' post extra => ∃ t tl' tp' n2', T0 ≤ t ∧ v' = .str (chAt a.x p) t ∧ post = a.mut w (if chAt a.x p = Str.ofString "\n" then ln + 1 else ln) tl' ts n1 ((p : Int) + 1) tp' n2' ∧ extra = []) := by
  k_fill; intro _ _ dp un gd cn cs b ccd cl outer A₀ base h₀ L m rest s R T0 hB hF hX hN hO hR hT hk hdp hun hTk hret
  obtain ⟨him, hcm⟩ := hR
  have hsfm := him _ (.tail _ (.head _))
  have hdsm := him _ (.tail _ (.tail _ (.head _)))
  have hixm := him _ (.head _)
  have hlt : ∀ q ∈ rest, q.1 ≠ a.dix := fun q hq => hO _ (.head _) q hq
  have hrw := @read_t w mean mg mb a ok ocr hcr p tp
  obtain ⟨ix, dix, sf, dsf, rd, cp, ct, cr, pb, pl, t1, t2, t3, t4, tw, td, tx, fds, dcr, ctr, pmr, o1, o2, x⟩ := a
  dsimp only at *
  k_dflt cell_enter
  refine gentoks (T0 := T0) (Nat.le_trans hTk (Nat.le_add_right _ _)) ?_
  intro tkA hTA
  dsimp only
  repeat ((fail_if_success (with_reducible show wpAny _ _ (PySem.getMethod _ _ _) _ _ _)); walk1; try dsimp only)
  rename_i g1 L' h1 FG F1 N1 B1 X1 T1
  refine fn_getMethod (N1 _ (.tail _ (.tail _ (.tail _ hsfm)))).1 (N1 _ (.tail _ (.tail _ (.tail _ hdsm)))).1 fun k1 hk1 => ?_
  dsimp only at hk1
  have hrdm := him _ (.tail _ (.tail _ (.tail _ (.head _))))
  refine callWith_fn1 (o := readObj w.params [(Str.ofString "text", ct), (Str.ofString "place", cp)] dcr pmr cr ctr) rfl ?_
  iterate 3 (walk1; try dsimp only)
  refine ⟨(N1 _ (.tail _ (.tail _ (.tail _ hrdm)))).1, ?_⟩
  have N2 := cb_drop N1 (news := [(pl, W.listOf #[.int p tp] n2)] ++ ([(dix, netD w t1 t2 t3 t4 tl tw ln sf pb), (pb, W.listOf ts.toArray n1)] ++ rest)) (by
    intro q hq; simp only [List.mem_cons, List.mem_append, List.cons_append, List.nil_append] at hq ⊢; grind)
  have o7 : @LT.lt Nat _ dix ix := ok.l7
  have o8 : @LT.lt Nat _ ix pb := ok.l8
  have o3 : @LT.lt Nat _ pl rd := ok.l3
  have o4 : @LT.lt Nat _ rd sf := ok.l4
  have o5 : @LT.lt Nat _ sf dsf := ok.l5
  have o6 : @LT.lt Nat _ dsf dix := ok.l6
  have hO' : ∀ {tl' tp' : Tok} {ln' p' : Int} {n2' : Nat}, Off [(dix, netD w t1 t2 t3 t4 tl' tw ln' sf pb), (pb, W.listOf ts.toArray n1), (pl, W.listOf #[.int p' tp'] n2')] ([] ++ rest) := by
    intro tl' tp' ln' p' n2' q hq r hr
    rcases List.mem_cons.mp hq with rfl | hq
    · exact hO _ (.head _) r hr
    · rcases List.mem_cons.mp hq with rfl | hq
      · exact hO _ (.tail _ (.head _)) r hr
      · rw [List.mem_singleton.mp hq]
        exact hO _ (.tail _ (.tail _ (.head _))) r hr
  refine wpAny_call (hrw _ n2 hz hz2 rfl rfl (dp + 1) (un + 3) gd _ _ _ _ _ _ _ _ _ _ _ _ _ _ T0 B1 F1 X1 N2 ?_ ?_ T1 rfl (by (exact om11 hdp)) (by (exact om10 hun)) ?_ ?_)
  · intro p hp q hq
    rw [List.mem_singleton.mp hp]
    rcases List.mem_cons.mp hq with rfl | hq
    · dsimp only; exact Nat.ne_of_gt (by (exact om41 o3 o4 o5 o6))
    · rcases List.mem_cons.mp hq with rfl | hq
      · dsimp only; exact Nat.ne_of_gt (by (exact om40 o7 o8 o3 o4 o5 o6))
      · exact hO _ (.tail _ (.tail _ (.head _))) q hq
  · exact ⟨fun q hq => List.mem_append_right _ (him q hq), List.mem_append_right _ hcm⟩
  · dsimp only
    (exact om39 hTA hk1)
  rintro v2 post extra h2 tk2 htk2 F2 N3 O2 O3 ⟨tv, tp2, n2', htv, rfl, rfl, rfl⟩
  iterate 8 (walk1; try dsimp only)
  cases hb : (Txt.slice x (some ((p : Int) + 1 - 1)) (some ((p : Int) + 1)) == Str.ofString "\n")
  · have hne : chAt x p ≠ Str.ofString "\n" := by simpa [chAt] using hb
    rw [if_neg hne] at hret
    k_steps
    exact hret _ [(dix, netD w t1 t2 t3 t4 tl tw ln sf pb), (pb, W.listOf ts.toArray n1), (pl, W.listOf #[.int ((p : Int) + 1) tp2] n2')] [] _ _ (by assumption) (cb_drop (by assumption) (by ktr_rel)) hO' (fun p hp => nomatch hp) ⟨_, _, _, _, htv, rfl, rfl, rfl⟩
  · have hne : chAt x p = Str.ofString "\n" := by simpa [chAt] using hb
    rw [if_pos hne] at hret
    iterate 11 (walk1; try dsimp only)
    k_steps
    exact hret _ [(dix, netD w t1 t2 t3 t4 _ tw (ln + 1) sf pb), (pb, W.listOf ts.toArray n1), (pl, W.listOf #[.int ((p : Int) + 1) tp2] n2')] [] _ _ (by assumption) (cb_drop (by assumption) (by ktr_rel)) hO' (fun p hp => nomatch hp) ⟨_, _, _, _, htv, rfl, rfl, rfl⟩
end

section
open PySem PySem.W PyProof.Rows PySem.Calls PySem.Spec Builtin Builtin.ObjectAttr Builtin.Str
set_option maxHeartbeats 3000000
variable {w : World} {mean : ExcName → Option Value} {mg mb : Str → Option Value}
noncomputable abbrev mtT : Str := Str.ofString ""
noncomputable abbrev itObj (bm : Addr) (ts : Tok) : Obj := { cls := .type "callable_iterator", data := .fields #[.ref bm, .str mtT ts, .bool false] }
noncomputable abbrev itEnd : Obj := { cls := .type "callable_iterator", data := .fields #[.none, .none, .bool true] }
theorem iter2 {prog : Program} {A : Around} {E : Value → Shared → Prop} {s : Shared} {bm : Addr} {f self : Value} {ts : Tok} {Q : Value → Shared → Prop} (hb : s.heap.get? bm = some (methodObj f self))
    (hq : Q (.ref s.heap.objs.size) { s with heap := s.heap.push (itObj bm ts) }) : wpAny (model prog w) A (call (.builtin "iter") [.ref bm, .str mtT ts]) Q E s := by
  obtain ⟨hh, g, dd, t, os⟩ := s
  dsimp only at hb hq
  have X := inNil hh
  refine wpAny_call (codeAny_call_builtin (b := Builtin.«iter») (by decide +kernel) (entryFor_of_tree (by kernel_rfl)) ?_)
  refine x_pure X 400 0 (v := ()) (by kernel_rfl) ?_
  refine x_load X 400 0 (by kernel_rfl) hb ?_
  refine x_alloc X 400 0 (o := itObj bm ts) (by kernel_rfl) ?_
  exact x_pure (v := Fin.done (.ret (.ref hh.objs.size))) (inNil _) 400 0 (by kernel_rfl) hq
theorem wpAny_callBorrowed {M : Model} {A : Around} {E : Value → Shared → Prop} {s : Shared} {f : Value} {pos : List Value} {Q : Value → Shared → Prop}
    (hc : codeAny M A (.call f ⟨pos, []⟩) (fun r s' => match r with | .ok (.ret v) => Q v s' | .ok _ => False | .error e => E e s') s) : wpAny M A (callBorrowed f pos) Q E s := fun Γ p hΓ => by
  unfold callBorrowed
  rw [Sem.wp_call]
  have h := hc _ p rfl (hΓ.enter (.call f ⟨pos, []⟩) none p (by intro x; cases x))
  refine (congrArg (fun R => wpCode M (Γ.enter (.call f ⟨pos, []⟩) none p) R p s) ?_).mp h
  funext r s'
  rcases r with e | (v | _ | _ | _) <;> rfl
theorem nd_call {α : Type} {M : Model} {A : Around} {E : Value → Shared → Prop} {s : Shared} {c : Code} {g : Bool} {l : List Value} {k : Result → Sem α} {Q : α → Shared → Prop}
    (hc : codeAny M A c (fun r s' => wpAny M A (k r) Q E s') s) : wpAny M A (.call c none g l k) Q E s := fun Γ p hΓ => by
  rw [Sem.wp_call]
  exact codeAny_mono hc (fun r s' h => h Γ p hΓ) _ p rfl (hΓ.enter c none p (by intro x; cases x))
theorem cit_slot : Slot "callable_iterator" "__next__" "callable_iterator.__next__" := .of (owner := "callable_iterator") (n := "__next__") (by rw [typeLookup_type, builtinLookup_eq_fast]; kernel_rfl) (by decide +kernel) (by decide +kernel) (by decide +kernel)
    (by first | exact .inl (by decide +kernel) | exact .inr (by decide +kernel)) (by rw [isSubtype_type]; kernel_rfl)
theorem cit_entry : entryFor table "callable_iterator.__next__" = some Builtin.«callable_iterator.__next__» := entryFor_of_tree (by kernel_rfl)
theorem cit_args (a : Value) : argsOk "callable_iterator.__next__" ⟨[a], []⟩ := by unfold argsOk; kernel_rfl
theorem fn126 : ∃ oc od fd sl, (hd.heap_1 w.params).lookup 126 = some ⟨oc, od, .func fd, sl⟩ := ⟨_, _, _, _, rfl⟩
theorem chAt_eq (x : Str) (p : Nat) : chAt x p = ⟨((x.cps.toList.drop p).take 1).toArray⟩ := by
  unfold chAt Txt.slice
  rw [idx_one]
  have hl : x.length = x.cps.size := rfl
  rw [hl]
  by_cases h : p < x.cps.size
  · rw [if_pos h]
    have e : (x.cps.toList.drop p).take 1 = [x.cps[p]] := by
      rw [List.drop_eq_getElem_cons (by simpa using h)]
      simp
    rw [e]
    split
    · rename_i h1
      simp at h1
      have h0 : p = 0 := by (exact om46 h h1)
      subst h0
      have : x.cps = #[x.cps[0]] := by
        apply Array.ext
        · simp; (exact om45 h1)
        · intro i a b
          have : i = 0 := by simp at b; (exact om44 b)
          subst this
          rfl
      cases x with
      | mk cps => exact congrArg Str.mk this
    · simp [List.filterMap, h]
  · rw [if_neg h]
    have e : (x.cps.toList.drop p).take 1 = [] := by
      rw [List.drop_eq_nil_of_le (by simpa using h)]; rfl
    rw [e]
    split
    · rename_i h1
      simp at h1
      cases x with
      | mk cps => 
        have : cps = #[] := by simpa using h1.symm
        rw [this]
    · rfl
noncomputable abbrev remOf (x : Str) (p : Nat) : List Nat := x.cps.toList.drop p
theorem chAt_nil {x : Str} {p : Nat} (h : remOf x p = []) : chAt x p = mtT := by
  rw [chAt_eq, show x.cps.toList.drop p = _ from h]
  rfl
theorem chAt_cons {x : Str} {p c : Nat} {r : List Nat} (h : remOf x p = c :: r) : chAt x p = ⟨#[c]⟩ := by
  rw [chAt_eq, show x.cps.toList.drop p = _ from h]
  rfl
theorem rem_succ {x : Str} {p c : Nat} {r : List Nat} (h : remOf x p = c :: r) : remOf x (p + 1) = r := by
  have := congrArg List.tail h
  simpa [remOf] using this
theorem rem_nil {x : Str} {p : Nat} (h : remOf x p = []) : remOf x (p + 1) = [] := by
  have := congrArg List.tail h
  simpa [remOf] using this
theorem cit_done {prog : Program} {A : Around} (hh : A.handled = none) {E : Value → Shared → Prop} {s : Shared} {it : Addr} {Q : Option Value → Shared → Prop} (hit : s.heap.get? it = some itEnd)
    (hq : ∀ o1 o2, Q none { s with heap := (s.heap.push o1).push o2 }) : wpAny (model prog w) A (pyNext (.ref it)) Q E s := by
  have hity : s.TypeIs (.ref it) "callable_iterator" := ⟨_, hit, rfl⟩
  unfold pyNext
  refine wpAny_bind (wpAny_attempt (wpAny_callSpecial?_slot (name := Str.ofString "__next__") hity cit_slot
    (wpAny_call_entry cit_slot hity cit_entry ?_ (cit_args _))))
  obtain ⟨hh', g, dd, t, os⟩ := s
  dsimp only at *
  unfold Builtin.«callable_iterator.__next__»
  repeat (first | with_reducible refine nd_at ?_ | lk)
  refine wpAny_handled ?_
  rw [show A.in1.handled = none from hh]
  repeat (first | with_reducible refine nd_at ?_ | lk)
  refine wpAny_throw ?_
  refine wpAny_bind (wpAny_isInstance (T := "StopIteration") (b := true) ⟨_, Heap.get?_push_size _ rfl, rfl⟩ isSubtype_stop ?_)
  exact wpAny_pure (hq _ _)
theorem readchar_t (a : Lx) (ok : a.Ok) (ocr : Obj) (hcr : CodeOk ocr) (hz : a.x.length < 2000) (hz2 : 2 ≤ a.x.length) (ln : Int) (tl : Tok) (ts : List Value) (n1 : Nat) (p : Nat) (tp : Tok) (n2 : Nat) :
    ClaimT w mean mg mb 1 (.ref 126) [.ref a.ix] (a.mut w ln tl ts n1 p tp n2) (fun rest => (∀ q ∈ a.imm w, q ∈ rest) ∧ (a.cr, ocr) ∈ rest)
    (fun T0 v' post extra => ∃ t tl' tp' n2', T0 ≤ t ∧ v' = .str (chAt a.x p) t ∧ post = a.mut w (if chAt a.x p = Str.ofString "\n" then ln + 1 else ln) tl' ts n1 ((p : Int) + 1) tp' n2' ∧ extra = []) := claimT_of (readchar_t0 a ok ocr hcr hz hz2 ln tl ts n1 p tp n2 rfl rfl)
theorem cit_next (a : Lx) (ok : a.Ok) (ocr : Obj) (hcr : CodeOk ocr) (hz : a.x.length < 2000) (hz2 : 2 ≤ a.x.length) {T0 : Nat} {ln : Int} {tl : Tok} {n1 p : Nat} {tp : Tok} {n2 : Nat} {it bm : Addr} {ts : Tok}
    {dp un : Nat} {gd : Option (List Code)} {cn : Str} {cs : Scope} {b : Addr} {ccd : Value} {cl : List (Str × Addr)} {outer : List Env} {A₀ : Around} {base h₀ : Heap} {L : Addr} {m : Str → Option Value} {rest : Led} {s : Shared} {Q : Option Value → Shared → Prop} {E : Value → Shared → Prop}
    (hB : Below A₀ base outer h₀) (hF : Fr h₀ L s.heap m) (hX : (hd.heap_1 w.params).In h₀) (hN : News h₀ L s.heap ((it, itObj bm ts) :: (bm, methodObj (.ref 126) (.ref a.ix)) :: (a.mut w ln tl [] n1 p tp n2 ++ rest)))
    (hO : Off (a.mut w ln tl [] n1 p tp n2) rest) (hO1 : ∀ q ∈ (bm, methodObj (.ref 126) (.ref a.ix)) :: (a.mut w ln tl [] n1 p tp n2 ++ rest), q.1 ≠ it) (hO2 : ∀ q ∈ a.mut w ln tl [] n1 p tp n2, q.1 ≠ bm)
    (him : ∀ q ∈ a.imm w, q ∈ rest) (hcm : (a.cr, ocr) ∈ rest) (hT : Tp mean mg mb h₀) (hk : cs.kind = .function) (hdp : dp + (1 + 2) * 4 < recursionLimit) (hun : un + 1 + (1 + 2) * 12 < cLine) (hTk : T0 ≤ s.toks)
    (h1 : ∀ c r, remOf a.x p = c :: r → ∀ h' tk' t tl' tp' n2', T0 ≤ tk' → T0 ≤ t → Fr h₀ L h' m → News h₀ L h' ((it, itObj bm ts) :: (bm, methodObj (.ref 126) (.ref a.ix)) :: (a.mut w (if c = 10 then ln + 1 else ln) tl' [] n1 ((p : Int) + 1) tp' n2' ++ rest)) → Q (some (.str ⟨#[c]⟩ t)) { s with heap := h', toks := tk' })
    (h2 : remOf a.x p = [] → ∀ h' tk' tl' tp' n2', T0 ≤ tk' → Fr h₀ L h' m → News h₀ L h' ((it, itEnd) :: (bm, methodObj (.ref 126) (.ref a.ix)) :: (a.mut w ln tl' [] n1 ((p : Int) + 1) tp' n2' ++ rest)) → Q none { s with heap := h', toks := tk' }) :
    wpAny (model PySem.Challenge.pw_xj0013_01 w) (ktrTop dp un gd cn cs L b ccd cl outer) (pyNext (.ref it)) Q E s := by
  have hit := (hN _ (.head _)).1
  have hbm := (hN _ (.tail _ (.head _))).1
  have hity : s.TypeIs (.ref it) "callable_iterator" := ⟨_, hit, rfl⟩
  have X := hX.keeps hF.keep
  obtain ⟨oc, od, fd, sl, hf⟩ := fn126 (w := w)
  have hfn := X _ _ hf
  unfold pyNext
  refine wpAny_bind (wpAny_attempt (wpAny_callSpecial?_slot (name := Str.ofString "__next__") hity cit_slot
    (wpAny_call_entry cit_slot hity cit_entry ?_ (cit_args _))))
  obtain ⟨hh, g, dd, t, os⟩ := s
  dsimp only at *
  iterate 2 refine x_load X 400 0 (by kernel_rfl) hit ?_
  refine x_load X 400 0 (by kernel_rfl) hbm ?_
  refine x_call X 400 1 (c' := .call (.ref bm) ⟨[], []⟩) (by kernel_rfl) ?_
  refine codeAny_of_tree ?_
  show wpAny _ _ (callAny (.ref bm) _) _ _ _
  refine x_load X 400 0 (by kernel_rfl) hbm ?_
  refine x_pure (v := Fin.again (.call (.ref 126) ⟨[.ref a.ix], []⟩)) X 400 0 (by kernel_rfl) ?_
  refine ⟨rfl, ?_⟩
  show codeAny _ (ktrTop dp (un + 1) gd cn cs L b ccd cl outer) (.call (.ref 126) ⟨[.ref a.ix], []⟩) _ _
  refine readchar_t a ok ocr hcr hz hz2 ln tl [] n1 p tp n2 dp (un + 1) gd cn cs b ccd cl outer A₀ base h₀ L m ((it, itObj bm ts) :: (bm, methodObj (.ref 126) (.ref a.ix)) :: rest) _ _ T0 hB hF hX (cb_drop hN (by dsimp only [Lx.mut]; ktr_rel)) ?_ ⟨fun q hq => .tail _ (.tail _ (him q hq)), .tail _ (.tail _ hcm)⟩ hT hk (by (exact om43 hdp)) (by (exact om42 hun)) hTk ?_
  · intro q hq r hr
    rcases List.mem_cons.mp hr with rfl | hr
    · exact Ne.symm (hO1 q (.tail _ (List.mem_append_left _ hq)))
    · rcases List.mem_cons.mp hr with rfl | hr
      · exact Ne.symm (hO2 q hq)
      · exact hO q hq r hr
  rintro v post extra h3 tk3 htk3 F3 N3 O3 O4 ⟨tv, tl', tp', n2', htv, rfl, rfl, rfl⟩
  have hit3 := (N3 (it, itObj bm ts) (.tail _ (.tail _ (.tail _ (.head _))))).1
  dsimp only at hit3
  have X3 := hX.keeps F3.keep
  iterate 2 refine x_load X3 400 0 (by kernel_rfl) hit3 ?_
  repeat ((fail_if_success (with_reducible show wpAny _ _ (_ >>= _) _ _ _)); k_node)
  refine wpAny_bind (wpAny_holding (wpAny_eqBool_str ?_))
  cases hr : remOf a.x p with
  | cons c r =>
    have e0 := chAt_cons hr
    have e1 : (chAt a.x p = Str.ofString "\n") ↔ (c = 10) := by
      rw [e0]
      constructor
      · intro h
        have := congrArg Str.cps h
        have h2 : (#[c] : Array Nat) = #[10] := this
        simpa using h2
      · rintro rfl
        rfl
    rw [show decide (mtT = chAt a.x p) = false from decide_eq_false (by rw [e0]; intro h; have := congrArg Str.cps h; have h2 : (#[] : Array Nat) = #[c] := this; simp at h2)]
    rw [if_pos (by decide)]
    refine wpAny_pure ⟨_, rfl, wpAny_pure ?_⟩
    rw [e0]
    refine h1 c r hr _ _ _ tl' tp' n2' htk3 htv F3 (cb_drop N3 ?_)
    rw [show (if c = 10 then ln + 1 else ln) = (if chAt a.x p = Str.ofString "\n" then ln + 1 else ln) from by simp only [e1]]
    dsimp only [Lx.mut]
    ktr_rel
  | nil =>
    have e0 := chAt_nil hr
    rw [show decide (mtT = chAt a.x p) = true from decide_eq_true e0.symm]
    rw [if_neg (by decide)]
    have hbm3 := (N3 (bm, methodObj (.ref 126) (.ref a.ix)) (.tail _ (.tail _ (.tail _ (.tail _ (.head _)))))).1
    have X3 := hX.keeps F3.keep
    have hfn3 := X3 _ _ hf
    dsimp only at hbm3 hfn3
    repeat (first | with_reducible refine nd_at ?_ | lk)
    have N4 := cb_drop N3 (news := (it, itObj bm ts) :: (bm, methodObj (.ref 126) (.ref a.ix)) :: (a.mut w (if chAt a.x p = Str.ofString "\n" then ln + 1 else ln) tl' [] n1 ((p : Int) + 1) tp' n2' ++ rest)) (by dsimp only [Lx.mut]; ktr_rel)
    have hoff : ∀ q ∈ (bm, methodObj (.ref 126) (.ref a.ix)) :: (a.mut w (if chAt a.x p = Str.ofString "\n" then ln + 1 else ln) tl' [] n1 ((p : Int) + 1) tp' n2' ++ rest), q.1 ≠ it := by
      intro q hq
      rcases List.mem_cons.mp hq with rfl | hq
      · exact hO1 _ (.head _)
      rcases List.mem_append.mp hq with hq | hq
      · rcases List.mem_cons.mp hq with rfl | hq
        · exact hO1 (a.dix, netD w a.t1 a.t2 a.t3 a.t4 tl a.tw ln a.sf a.pb) (.tail _ (.head _))
        rcases List.mem_cons.mp hq with rfl | hq
        · exact hO1 (a.pb, _) (.tail _ (.tail _ (.head _)))
        rw [List.mem_singleton.mp hq]
        exact hO1 (a.pl, W.listOf #[.int p tp] n2) (.tail _ (.tail _ (.tail _ (.head _))))
      · exact hO1 q (.tail _ (List.mem_append_right _ hq))
    obtain ⟨U1, V1⟩ := news_upd (f := Obj.mapFields fun x => x.setIfInBounds 0 .none) (pre := []) F3 N4 (by intro p hp; cases hp) hoff (o' := { cls := .type "callable_iterator", data := .fields #[.none, .str mtT ts, .bool false] }) rfl rfl
    have hi1 := (V1 (it, _) (.head _)).1
    obtain ⟨U2, V2⟩ := news_upd (f := Obj.mapFields fun x => x.setIfInBounds 1 .none) (pre := []) U1 V1 (by intro p hp; cases hp) hoff (o' := { cls := .type "callable_iterator", data := .fields #[.none, .none, .bool false] }) rfl rfl
    have hi2 := (V2 (it, _) (.head _)).1
    obtain ⟨U3, V3⟩ := news_upd (f := Obj.mapFields fun x => x.setIfInBounds 2 (.bool true)) (pre := []) U2 V2 (by intro p hp; cases hp) hoff (o' := { cls := .type "callable_iterator", data := .fields #[.none, .none, .bool true] }) rfl rfl
    have hi3 := (V3 (it, _) (.head _)).1
    dsimp only at hi1 hi2 hi3
    refine nd_upd hit3 ?_
    repeat (first | with_reducible refine nd_at ?_ | lk)
    refine nd_upd hi1 ?_
    repeat (first | with_reducible refine nd_at ?_ | lk)
    refine nd_upd hi2 ?_
    repeat (first | with_reducible refine nd_at ?_ | lk)
    refine wpAny_handled ?_
    repeat (first | with_reducible refine nd_at ?_ | lk)
    refine wpAny_throw ?_
    refine wpAny_bind (wpAny_isInstance (T := "StopIteration") (b := true) ⟨_, Heap.get?_push_size _ rfl, rfl⟩ isSubtype_stop ?_)
    have hln : (if chAt a.x p = Str.ofString "\n" then ln + 1 else ln) = ln := by
      rw [e0]
      rw [if_neg (by decide)]
    rw [hln] at V3
    exact wpAny_pure (h2 hr _ _ tl' tp' n2' htk3 ((U3.push _).push _) (fun q hq => ⟨Heap.get?_push_of_some _ (Heap.get?_push_of_some _ (V3 q hq).1), (V3 q hq).2⟩))
theorem rc_call (a : Lx) (ok : a.Ok) (ocr : Obj) (hcr : CodeOk ocr) (hz : a.x.length < 2000) (hz2 : 2 ≤ a.x.length) {T0 : Nat} {ln : Int} {tl : Tok} {n1 p : Nat} {tp : Tok} {n2 : Nat} {it bm : Addr} {ts : Tok}
    {dp un : Nat} {gd : Option (List Code)} {cn : Str} {cs : Scope} {b : Addr} {ccd : Value} {cl : List (Str × Addr)} {outer : List Env} {A₀ : Around} {base h₀ : Heap} {L : Addr} {m : Str → Option Value} {rest : Led} {s : Shared} {Q : Value → Shared → Prop} {E : Value → Shared → Prop}
    (hB : Below A₀ base outer h₀) (hF : Fr h₀ L s.heap m) (hX : (hd.heap_1 w.params).In h₀) (hN : News h₀ L s.heap ((it, itObj bm ts) :: (bm, methodObj (.ref 126) (.ref a.ix)) :: (a.mut w ln tl [] n1 p tp n2 ++ rest)))
    (hO : Off (a.mut w ln tl [] n1 p tp n2) rest) (hO1 : ∀ q ∈ (bm, methodObj (.ref 126) (.ref a.ix)) :: (a.mut w ln tl [] n1 p tp n2 ++ rest), q.1 ≠ it) (hO2 : ∀ q ∈ a.mut w ln tl [] n1 p tp n2, q.1 ≠ bm)
    (him : ∀ q ∈ a.imm w, q ∈ rest) (hcm : (a.cr, ocr) ∈ rest) (hT : Tp mean mg mb h₀) (hk : cs.kind = .function) (hdp : dp + (1 + 2) * 4 < recursionLimit) (hun : un + (1 + 2) * 12 < cLine) (hTk : T0 ≤ s.toks)
    (h1 : ∀ c r, remOf a.x p = c :: r → ∀ h' tk' t tl' tp' n2', T0 ≤ tk' → T0 ≤ t → Fr h₀ L h' m → News h₀ L h' ((it, itObj bm ts) :: (bm, methodObj (.ref 126) (.ref a.ix)) :: (a.mut w (if c = 10 then ln + 1 else ln) tl' [] n1 ((p : Int) + 1) tp' n2' ++ rest)) → Q (.str ⟨#[c]⟩ t) { s with heap := h', toks := tk' })
    (h2 : remOf a.x p = [] → ∀ h' tk' t tl' tp' n2', T0 ≤ tk' → T0 ≤ t → Fr h₀ L h' m → News h₀ L h' ((it, itObj bm ts) :: (bm, methodObj (.ref 126) (.ref a.ix)) :: (a.mut w ln tl' [] n1 ((p : Int) + 1) tp' n2' ++ rest)) → Q (.str ⟨#[]⟩ t) { s with heap := h', toks := tk' }) :
    wpAny (model PySem.Challenge.pw_xj0013_01 w) (ktrTop dp un gd cn cs L b ccd cl outer) (call (.ref 126) [.ref a.ix]) Q E s := by
  refine wpAny_call (readchar_t a ok ocr hcr hz hz2 ln tl [] n1 p tp n2 dp un gd cn cs b ccd cl outer A₀ base h₀ L m ((it, itObj bm ts) :: (bm, methodObj (.ref 126) (.ref a.ix)) :: rest) _ _ T0 hB hF hX (cb_drop hN (by dsimp only [Lx.mut]; ktr_rel)) ?_ ⟨fun q hq => .tail _ (.tail _ (him q hq)), .tail _ (.tail _ hcm)⟩ hT hk hdp hun hTk ?_)
  · intro q hq r hr
    rcases List.mem_cons.mp hr with rfl | hr
    · exact Ne.symm (hO1 q (.tail _ (List.mem_append_left _ hq)))
    · rcases List.mem_cons.mp hr with rfl | hr
      · exact Ne.symm (hO2 q hq)
      · exact hO q hq r hr
  rintro v post extra h3 tk3 htk3 F3 N3 O3 O4 ⟨tv, tl', tp', n2', htv, rfl, rfl, rfl⟩
  cases hr : remOf a.x p with
  | cons c r =>
    have e0 := chAt_cons hr
    have e1 : (chAt a.x p = Str.ofString "\n") ↔ (c = 10) := by
      rw [e0]
      constructor
      · intro h
        have := congrArg Str.cps h
        have h2 : (#[c] : Array Nat) = #[10] := this
        simpa using h2
      · rintro rfl
        rfl
    rw [e0]
    refine h1 c r hr _ _ _ tl' tp' n2' htk3 htv F3 (cb_drop N3 ?_)
    rw [show (if c = 10 then ln + 1 else ln) = (if chAt a.x p = Str.ofString "\n" then ln + 1 else ln) from by simp only [e1]]
    dsimp only [Lx.mut]
    ktr_rel
  | nil =>
    have e0 := chAt_nil hr
    have hln : (if chAt a.x p = Str.ofString "\n" then ln + 1 else ln) = ln := by
      rw [e0]
      rw [if_neg (by decide)]
    rw [e0, show mtT = ⟨#[]⟩ from by decide +kernel]
    refine h2 hr _ _ _ tl' tp' n2' htk3 htv F3 (cb_drop N3 ?_)
    rw [hln]
    dsimp only [Lx.mut]
    ktr_rel
end

section
open PySem PySem.W PyProof.Rows PySem.Calls PySem.Spec Builtin Builtin.ObjectAttr Builtin.Str
noncomputable def isW (c : Nat) : Bool := c == 10 || c == 9 || c == 13 || c == 32
theorem occW (c : Nat) : (occurrences (Str.ofString "\n\t\r ") ⟨#[c]⟩ 0 (Str.ofString "\n\t\r ").length 1).isEmpty = !isW c := by
  have hs : Str.ofString "\n\t\r " = ⟨#[10, 9, 13, 32]⟩ := by decide +kernel
  rw [hs]
  by_cases h1 : c = 10
  · subst h1; decide +kernel
  by_cases h2 : c = 9
  · subst h2; decide +kernel
  by_cases h3 : c = 13
  · subst h3; decide +kernel
  by_cases h4 : c = 32
  · subst h4; decide +kernel
  have e : isW c = false := by simp [isW, h1, h2, h3, h4]
  rw [e]
  simp [occurrences, Str.length, subAt, Ne.symm h1, Ne.symm h2, Ne.symm h3, Ne.symm h4, Id.run, List.range']
  rfl
/-- inside quotation marks -/
noncomputable def tokQ : List Nat → List Nat → List Nat × List Nat
  | acc, [] => (acc, [])
  | acc, c :: r => if c = 34 then (acc, r) else if c = 92 then (match r with | [] => (acc, []) | d :: r' => tokQ (acc ++ [d]) r') else tokQ (acc ++ [c]) r
/-- a bare word -/
noncomputable def tokU : List Nat → List Nat → List Nat × List Nat
  | acc, [] => (acc, [])
  | acc, c :: r => if isW c then (acc, r) else if c = 92 then (match r with | [] => (acc, []) | d :: r' => tokU (acc ++ [d]) r') else tokU (acc ++ [c]) r
/-- a word from its start -/
noncomputable def tokS : List Nat → List Nat × List Nat
  | [] => ([], [])
  | c :: r => if isW c then tokS r else if c = 34 then tokQ [] r else if c = 92 then (match r with | [] => ([], []) | d :: r' => tokU [d] r') else tokU [c] r
noncomputable def nl (l : List Nat) : Int := ((l.filter (· == 10)).length : Nat)
noncomputable def gtM (ix it : Addr) (tok : Value) (ch : Option Value) : Str → Option Value := fun y => if y = Str.ofString "token" then some tok else if y = Str.ofString "ch" then ch else if y = Str.ofString "fiter" then some (.ref it) else if y = Str.ofString "self" then some (.ref ix) else none
inductive GTs (a : Lx) (w : World) (g1 : Heap) (L' it bm : Addr) (rest : Led) (n1 : Nat) (K : Int) (T0 : Nat) (s₀ : Shared) (io : Obj) (tok rem : List Nat) : Shared → Prop
  | mk (h' : Heap) (tk' : Nat) (ch : Option Value) (tt : Tok) (ln' : Int) (tl' : Tok) (p' : Nat) (tp' : Tok) (n2' : Nat) (F : Fr g1 L' h' (gtM a.ix it (.str ⟨tok.toArray⟩ tt) ch))
    (N : News g1 L' h' ((it, io) :: (bm, methodObj (.ref 126) (.ref a.ix)) :: (a.mut w ln' tl' [] n1 (p' : Nat) tp' n2' ++ rest))) (e1 : remOf a.x p' = rem) (e2 : ln' + nl rem = K) (e3 : tok.length + rem.length ≤ a.x.length) (e8 : T0 ≤ tt) (e9 : T0 ≤ tk') : GTs a w g1 L' it bm rest n1 K T0 s₀ io tok rem { s₀ with heap := h', toks := tk' }
theorem GTs.hide (a : Lx) (w : World) (g1 : Heap) (L' it bm : Addr) (rest : Led) (n1 : Nat) (K : Int) (T0 : Nat) (s₀ : Shared) {G : Prop}
    (h : ∀ X : Obj → List Nat → List Nat → Shared → Prop, (∀ {io tok rem h' tk' ch tt ln' tl'} {p' : Nat} {tp' n2'}, Fr g1 L' h' (gtM a.ix it (.str ⟨tok.toArray⟩ tt) ch) → News g1 L' h' ((it, io) :: (bm, methodObj (.ref 126) (.ref a.ix)) :: (a.mut w ln' tl' [] n1 (p' : Nat) tp' n2' ++ rest)) →
      remOf a.x p' = rem → ln' + nl rem = K → tok.length + rem.length ≤ a.x.length → T0 ≤ tt → T0 ≤ tk' → X io tok rem { s₀ with heap := h', toks := tk' }) → (∀ {io tok rem s'}, X io tok rem s' → GTs a w g1 L' it bm rest n1 K T0 s₀ io tok rem s') → G) : G :=
  h _ (.mk _ _ _ _ _ _ _ _ _) id
/-- a bare word's first sign is read -/
inductive GU (a : Lx) (w : World) (g1 : Heap) (L' it bm : Addr) (rest : Led) (n1 : Nat) (K : Int) (T0 : Nat) (s₀ : Shared) (ts : Nat) (tg : List Nat × List Nat) : Flow → Shared → Prop
  | mk (l rem2 : List Nat) (h' : Heap) (tk' : Nat) (tt t8 : Tok) (ln' : Int) (tl' : Tok) (p' : Nat) (tp' : Tok) (n2' : Nat) (F : Fr g1 L' h' (gtM a.ix it (.str ⟨#[]⟩ tt) (some (.str ⟨l.toArray⟩ t8))))
    (N : News g1 L' h' ((it, itObj bm ts) :: (bm, methodObj (.ref 126) (.ref a.ix)) :: (a.mut w ln' tl' [] n1 (p' : Nat) tp' n2' ++ rest))) (e1 : remOf a.x p' = rem2) (e2 : ln' + nl rem2 = K) (e3 : l.length + rem2.length ≤ a.x.length) (e8 : T0 ≤ tt) (e7 : T0 ≤ t8) (e9 : T0 ≤ tk') (e4 : tg = tokU l rem2) : GU a w g1 L' it bm rest n1 K T0 s₀ ts tg .next { s₀ with heap := h', toks := tk' }
section
variable (X : Obj → List Nat → List Nat → Shared → Prop) (T0 : Nat) (ts : Obj)
/-- what a loop over the signs leaves: the word is at its end, or told -/
inductive G2 (tg : List Nat × List Nat) : Result → Shared → Prop
  | nx (tok : List Nat) {s' : Shared} (G : X itEnd tok [] s') (e : tg = (tok, [])) : G2 tg (.ok .next) s'
  | rt (tok rem : List Nat) {t : Tok} {s' : Shared} (ht : T0 ≤ t) (G : X ts tok rem s') (e : tg = (tok, rem)) : G2 tg (.ok (.ret (.str ⟨tok.toArray⟩ t))) s'
/-- its turns -/
inductive G3 (f : List Nat → List Nat → List Nat × List Nat) (tg : List Nat × List Nat) : Nat → Shared → Prop
  | mk (tok rem : List Nat) {s' : Shared} (G : X ts tok rem s') (e : f tok rem = tg) : G3 f tg (rem.length + 2) s'
/-- the whole -/
inductive G1 (tg : List Nat × List Nat) : Result → Shared → Prop
  | nx (io : Obj) (tok rem : List Nat) {s' : Shared} (G : X io tok rem s') (e : tg = (tok, rem)) : G1 tg (.ok .next) s'
  | rt (io : Obj) (tok rem : List Nat) {t : Tok} {s' : Shared} (ht : T0 ≤ t) (G : X io tok rem s') (e : tg = (tok, rem)) : G1 tg (.ok (.ret (.str ⟨tok.toArray⟩ t))) s'
inductive G0 (tg : List Nat × List Nat) : Nat → Shared → Prop
  | go (rem : List Nat) {s' : Shared} (G : X ts [] rem s') (e : tokS rem = tg) : G0 tg (rem.length + 2) s'
  | dn (tok : List Nat) {s' : Shared} (G : X itEnd tok [] s') (e : tg = (tok, [])) : G0 tg 1 s'
end
section
variable {M : Model} {A : Around} {b b' : Bool} {Q : Bool → Shared → Prop} {E : Value → Shared → Prop} {s : Shared}
/-- a test, its answer told by a law: the goal is not written again -/
theorem tCut (e : b' = b) (h0 : b = false → Q false s) (h1 : b = true → Q true s) : wpAny M A (truthy (.bool b')) Q E s := by
  subst e
  cases h : b'
  · exact wpAny_pure (h0 h)
  · exact wpAny_pure (h1 h)
theorem tT (e : b' = true) (h1 : Q true s) : wpAny M A (truthy (.bool b')) Q E s := tCut e (fun h => nomatch h) fun _ => h1
theorem tF (e : b' = false) (h1 : Q false s) : wpAny M A (truthy (.bool b')) Q E s := tCut e (fun _ => h1) (fun h => nomatch h)
end
theorem frCongr {g h : Heap} {L : Addr} {m m' : Str → Option Value} (F : Fr g L h m) (e : ∀ y, m y = m' y) : Fr g L h m' := (funext e : m = m') ▸ F
noncomputable def Hold (P : Prop) : Prop := P
noncomputable def LoopMore (I : Nat → Shared → Prop) (n : Nat) (s : Shared) : Prop := ∃ m, m < n ∧ I m s
theorem forL {prog : Program} {w : World} {A : Around} {s : Shared} {R : Result → Shared → Prop} {target it body orelse env} (I : Nat → Shared → Prop)
    (turn : ∀ n s, I n s → wpAny (model prog w) A (pyNext it) (fun r s₁ => match r with
      | none => wpAny (model prog w) A (execs orelse env) (fun f s₃ => R (.ok f) s₃) (notedBy (model prog w) A env fun e s' => R (.error e) s') s₁
      | some v => wpAny (model prog w) A (letOwnedTupleGo target it v) (fun _ s₁' =>
          wpAny (model prog w) A (assign target env v) (fun _ s₂ => wpAny (model prog w) A (execs body env) (fun f s₃ => match f with
            | .next | .cont => LoopMore I n s₃
            | .brk => R (.ok .next) s₃
            | .ret v => R (.ok (.ret v)) s₃) (notedBy (model prog w) A env fun e s' => R (.error e) s') s₂) (notedBy (model prog w) A env fun e s' => R (.error e) s') s₁') (notedBy (model prog w) A env fun e s' => R (.error e) s') s₁) (notedBy (model prog w) A env fun e s' => R (.error e) s') s)
    (n : Nat) (h : I n s) : codeAny (model prog w) A (.forLoop target it body orelse env) R s := codeAny_forLoop_any I turn n h
/-- a turn of a loop by a measured invariant; what stands behind it is a name -/
noncomputable def TurnL (prog : Program) (w : World) (A : Around) (R : Result → Shared → Prop) (target : Expr) (it : Value) (body orelse : List Stmt) (env : Env) (I : Nat → Shared → Prop) (n : Nat) (s : Shared) : Prop :=
  ∀ (K K0 : Flow → Shared → Prop) (KE : Value → Shared → Prop), (∀ m {f s₃}, f = .next ∨ f = .cont → m < n → I m s₃ → K f s₃) → (∀ {s₃}, R (.ok .next) s₃ → K .brk s₃) → (∀ {v s₃}, R (.ok (.ret v)) s₃ → K (.ret v) s₃) → (∀ {f s₃}, R (.ok f) s₃ → K0 f s₃) →
      wpAny (model prog w) A (pyNext it) (fun r s₁ => match r with
      | none => wpAny (model prog w) A (execs orelse env) K0 KE s₁
      | some v => wpAny (model prog w) A (letOwnedTupleGo target it v) (fun _ s₁' =>
          wpAny (model prog w) A (assign target env v) (fun _ s₂ => wpAny (model prog w) A (execs body env) K KE s₂) KE s₁') KE s₁) KE s
theorem TurnL.of {prog : Program} {w : World} {A : Around} {R : Result → Shared → Prop} {target it body orelse env} {I : Nat → Shared → Prop} {n s} (h : ∀ (K K0 : Flow → Shared → Prop) (KE : Value → Shared → Prop), (∀ m {f s₃}, f = .next ∨ f = .cont → m < n → I m s₃ → K f s₃) → (∀ {s₃}, R (.ok .next) s₃ → K .brk s₃) → (∀ {v s₃}, R (.ok (.ret v)) s₃ → K (.ret v) s₃) → (∀ {f s₃}, R (.ok f) s₃ → K0 f s₃) →
      wpAny (model prog w) A (pyNext it) (fun r s₁ => match r with
      | none => wpAny (model prog w) A (execs orelse env) K0 KE s₁
      | some v => wpAny (model prog w) A (letOwnedTupleGo target it v) (fun _ s₁' =>
          wpAny (model prog w) A (assign target env v) (fun _ s₂ => wpAny (model prog w) A (execs body env) K KE s₂) KE s₁') KE s₁) KE s) : TurnL prog w A R target it body orelse env I n s := h
/-- a loop by a measured invariant -/
theorem forLC {prog : Program} {w : World} {A : Around} {s : Shared} {R : Result → Shared → Prop} {target it body orelse env} (I : Nat → Shared → Prop)
    (turn : ∀ n s, I n s → TurnL prog w A R target it body orelse env I n s)
    (n : Nat) (h : I n s) : codeAny (model prog w) A (.forLoop target it body orelse env) R s :=
  forL (R := R) I (fun n s hI => turn n s hI _ _ _ (by
      rintro m f s₃ (rfl | rfl) h1 h2
      · exact ⟨m, h1, h2⟩
      · exact ⟨m, h1, h2⟩) id id id) n h
theorem tokS_w {c : Nat} {r : List Nat} (h : isW c = true) : tokS (c :: r) = tokS r := by
  conv => lhs; unfold tokS
  rw [if_pos h]
theorem tokS_q {c : Nat} {r : List Nat} (h : isW c = false) (h2 : c = 34) : tokS (c :: r) = tokQ [] r := by
  unfold tokS
  rw [if_neg (by rw [h]; decide), if_pos h2]
theorem tokS_b {c d : Nat} {r : List Nat} (h : isW c = false) (h2 : c ≠ 34) (h3 : c = 92) : tokS (c :: d :: r) = tokU [d] r := by
  unfold tokS
  rw [if_neg (by rw [h]; decide), if_neg h2, if_pos h3]
theorem tokS_b0 {c : Nat} (h : isW c = false) (h2 : c ≠ 34) (h3 : c = 92) : tokS [c] = ([], []) := by
  unfold tokS
  rw [if_neg (by rw [h]; decide), if_neg h2, if_pos h3]
theorem tokS_u {c : Nat} {r : List Nat} (h : isW c = false) (h2 : c ≠ 34) (h3 : c ≠ 92) : tokS (c :: r) = tokU [c] r := by
  unfold tokS
  rw [if_neg (by rw [h]; decide), if_neg h2, if_neg h3]
theorem tokQ_e {acc : List Nat} {c : Nat} {r : List Nat} (h : c = 34) : tokQ acc (c :: r) = (acc, r) := by
  unfold tokQ
  rw [if_pos h]
theorem tokQ_b {acc : List Nat} {c d : Nat} {r : List Nat} (h : c ≠ 34) (h2 : c = 92) : tokQ acc (c :: d :: r) = tokQ (acc ++ [d]) r := by
  conv => lhs; unfold tokQ
  rw [if_neg h, if_pos h2]
theorem tokQ_b0 {acc : List Nat} {c : Nat} (h : c ≠ 34) (h2 : c = 92) : tokQ acc [c] = (acc, []) := by
  unfold tokQ
  rw [if_neg h, if_pos h2]
theorem tokQ_o {acc : List Nat} {c : Nat} {r : List Nat} (h : c ≠ 34) (h2 : c ≠ 92) : tokQ acc (c :: r) = tokQ (acc ++ [c]) r := by
  conv => lhs; unfold tokQ
  rw [if_neg h, if_neg h2]
theorem tokQ_n {acc : List Nat} : tokQ acc [] = (acc, []) := by unfold tokQ; rfl
theorem tokU_e {acc : List Nat} {c : Nat} {r : List Nat} (h : isW c = true) : tokU acc (c :: r) = (acc, r) := by
  unfold tokU
  rw [if_pos h]
theorem tokU_b {acc : List Nat} {c d : Nat} {r : List Nat} (h : isW c = false) (h2 : c = 92) : tokU acc (c :: d :: r) = tokU (acc ++ [d]) r := by
  conv => lhs; unfold tokU
  rw [if_neg (by rw [h]; decide), if_pos h2]
theorem tokU_b0 {acc : List Nat} {c : Nat} (h : isW c = false) (h2 : c = 92) : tokU acc [c] = (acc, []) := by
  unfold tokU
  rw [if_neg (by rw [h]; decide), if_pos h2]
theorem tokU_o {acc : List Nat} {c : Nat} {r : List Nat} (h : isW c = false) (h2 : c ≠ 92) : tokU acc (c :: r) = tokU (acc ++ [c]) r := by
  conv => lhs; unfold tokU
  rw [if_neg (by rw [h]; decide), if_neg h2]
theorem tokU_n {acc : List Nat} : tokU acc [] = (acc, []) := by unfold tokU; rfl
theorem nl_cons (c : Nat) (r : List Nat) : nl (c :: r) = (if c = 10 then 1 else 0) + nl r := by
  unfold nl
  by_cases h : c = 10
  · simp [h]; (exact om47 h)
  · simp [h]
theorem ch34 (c : Nat) : ((⟨#[c]⟩ : Str) == Str.ofString "\"") = (c == 34) := by
  have : Str.ofString "\"" = ⟨#[34]⟩ := by decide +kernel
  rw [this]
  by_cases h : c = 34
  · simp [h]
  · have : (⟨#[c]⟩ : Str) ≠ ⟨#[34]⟩ := by intro e; have e2 := congrArg Str.cps e; simp at e2; exact h e2
    rw [beq_eq_false_iff_ne.mpr this, beq_eq_false_iff_ne.mpr h]
theorem ch92 (c : Nat) : ((⟨#[c]⟩ : Str) == Str.ofString "\\") = (c == 92) := by
  have : Str.ofString "\\" = ⟨#[92]⟩ := by decide +kernel
  rw [this]
  by_cases h : c = 92
  · simp [h]
  · have : (⟨#[c]⟩ : Str) ≠ ⟨#[92]⟩ := by intro e; have e2 := congrArg Str.cps e; simp at e2; exact h e2
    rw [beq_eq_false_iff_ne.mpr this, beq_eq_false_iff_ne.mpr h]
theorem gtM_ch (ix it : Addr) (tok : Value) (ch : Option Value) (v : Value) (y : Str) : (if y = Str.ofString "ch" then some v else gtM ix it tok ch y) = gtM ix it tok (some v) y := by
  unfold gtM
  by_cases h : y = Str.ofString "ch"
  · subst h; rw [if_pos rfl, if_neg (by decide), if_pos rfl]
  · simp only [if_neg h]
theorem gtM_tok (ix it : Addr) (tok : Value) (ch : Option Value) (v : Value) (y : Str) : (if y = Str.ofString "token" then some v else gtM ix it tok ch y) = gtM ix it v ch y := by
  unfold gtM
  by_cases h : y = Str.ofString "token"
  · subst h; rw [if_pos rfl, if_pos rfl]
  · simp only [if_neg h]
theorem gtM_tc (ix it : Addr) (tok v : Value) (ch u : Option Value) {f : Str → Option Value} (h : ∀ y, f y = gtM ix it tok u y) (y : Str) : (if y = Str.ofString "token" then some v else f y) = gtM ix it v u y := by
  rw [h]; exact gtM_tok _ _ _ _ _ _
theorem cpsApp (l : List Nat) (d : Nat) : (⟨l.toArray⟩ ++ ⟨#[d]⟩ : Str) = ⟨(l ++ [d]).toArray⟩ := by
  show (⟨l.toArray ++ #[d]⟩ : Str) = _
  simp
theorem cpsNil2 (l : List Nat) : (Str.ofString "" ++ ⟨l.toArray⟩ : Str) = ⟨l.toArray⟩ := by
  show (⟨#[] ++ l.toArray⟩ : Str) = _
  simp
theorem cpsNil (l : List Nat) : (⟨l.toArray⟩ ++ Str.ofString "" : Str) = ⟨l.toArray⟩ := by
  show (⟨l.toArray ++ #[]⟩ : Str) = _
  simp
section
variable {g h : Heap} {L ix it : Addr} {tok u v : Value} {ch : Option Value} {l : List Nat} {d : Nat} {t : Tok}
theorem gtF_c (F : Fr g L h (fun y => if y = Str.ofString "ch" then some v else gtM ix it tok ch y)) : Fr g L h (gtM ix it tok (some v)) := frCongr F (gtM_ch _ _ _ _ _)
theorem gtF_t (F : Fr g L h (fun y => if y = Str.ofString "token" then some v else gtM ix it tok ch y)) : Fr g L h (gtM ix it v ch) := frCongr F (gtM_tok _ _ _ _ _)
theorem gtF_cc (F : Fr g L h (fun y => if y = Str.ofString "ch" then some v else if y = Str.ofString "ch" then some u else gtM ix it tok ch y)) : Fr g L h (gtM ix it tok (some v)) := frCongr F fun y => by rw [gtM_ch, gtM_ch]
theorem gtF_tc (F : Fr g L h (fun y => if y = Str.ofString "token" then some (.str (⟨l.toArray⟩ ++ ⟨#[d]⟩) t) else if y = Str.ofString "ch" then some v else gtM ix it tok ch y)) : Fr g L h (gtM ix it (.str ⟨(l ++ [d]).toArray⟩ t) (some v)) := frCongr F fun y => by rw [gtM_ch, gtM_tok, cpsApp]
theorem gtF_tcc (F : Fr g L h (fun y => if y = Str.ofString "token" then some (.str (⟨l.toArray⟩ ++ ⟨#[d]⟩) t) else if y = Str.ofString "ch" then some v else if y = Str.ofString "ch" then some u else gtM ix it tok ch y)) : Fr g L h (gtM ix it (.str ⟨(l ++ [d]).toArray⟩ t) (some v)) := frCongr F fun y => by rw [gtM_ch, gtM_ch, gtM_tok, cpsApp]
theorem gtF_tcc0 (F : Fr g L h (fun y => if y = Str.ofString "token" then some (.str (⟨l.toArray⟩ ++ Str.ofString "") t) else if y = Str.ofString "ch" then some v else if y = Str.ofString "ch" then some u else gtM ix it tok ch y)) : Fr g L h (gtM ix it (.str ⟨l.toArray⟩ t) (some v)) := frCongr F fun y => by rw [gtM_ch, gtM_ch, gtM_tok, cpsNil]
theorem gtF_tn (F : Fr g L h (fun y => if y = Str.ofString "token" then some (.str (Str.ofString "" ++ ⟨l.toArray⟩) t) else gtM ix it tok ch y)) : Fr g L h (gtM ix it (.str ⟨l.toArray⟩ t) ch) := frCongr F fun y => by rw [gtM_tok, cpsNil2]
end
theorem gln1 {t : List Nat} {c n N : Nat} (h : t.length + 1 + n ≤ N) : (t ++ [c]).length + n ≤ N := by rw [List.length_append]; exact h
theorem gln2 {t r : List Nat} {c d N : Nat} (h : t.length + 1 + (d :: r).length ≤ N) : (t ++ [c]).length + r.length ≤ N := gln1 (Nat.le_trans (Nat.add_le_add_left (Nat.le_succ _) _) h)
theorem gln3 {t r : List Nat} {d N : Nat} (h : t.length + (d :: r).length ≤ N) : t.length + 1 + r.length ≤ N := by rw [Nat.add_assoc, Nat.add_comm 1]; exact h
theorem gln4 {t r N : Nat} (h : t + 1 + r ≤ N) : t + r ≤ N := Nat.le_trans (Nat.add_le_add_right (Nat.le_succ _) _) h
theorem gln5 {c : Nat} {r : List Nat} {N : Nat} (h : ([] : List Nat).length + (c :: r).length ≤ N) : [c].length + r.length ≤ N := by rw [List.length_singleton, Nat.add_comm]; exact Nat.le_trans (Nat.le_add_left _ _) h
theorem gln6 {c : Nat} {r : List Nat} {N : Nat} (h : ([] : List Nat).length + (c :: r).length ≤ N) : ([] : List Nat).length + r.length ≤ N := Nat.le_trans (Nat.add_le_add_left (Nat.le_succ _) _) h
section
variable {t r : List Nat} {c N : Nat} (hz : N < 2000) (h : t.length + r.length ≤ N)
include hz h
theorem lenB : (⟨t.toArray⟩ : Str).length + (⟨#[c]⟩ : Str).length < 3000 := Nat.lt_of_le_of_lt (Nat.add_le_add_right (Nat.le_trans (Nat.le_add_right _ _) h) 1) (Nat.lt_of_lt_of_le (Nat.succ_lt_succ hz) (by decide))
theorem lenB0 : (⟨t.toArray⟩ : Str).length + (Str.ofString "").length < 3000 := Nat.lt_of_le_of_lt (Nat.add_le_add_left (by decide : (Str.ofString "").length ≤ 1) _) (lenB (c := 0) hz h)
theorem lenB1 : (⟨#[]⟩ : Str).length + (⟨t.toArray⟩ : Str).length < 3000 := by
  show 0 + t.length < 3000
  rw [Nat.zero_add]
  exact Nat.lt_trans (Nat.lt_of_le_of_lt (Nat.le_trans (Nat.le_add_right _ _) h) hz) (by decide)
end
theorem nl2 {c : Nat} {r : List Nat} {n K : Int} (h : n + nl (c :: r) = K) : (if c = 10 then n + 1 else n) + nl r = K := by
  rw [nl_cons] at h
  rw [← h]; split <;> (first | exact om52 | exact om53)
theorem ltA {d : Nat} {r : List Nat} : r.length + 2 < (d :: r).length + 2 := Nat.lt_succ_self _
theorem ltB {c d : Nat} {r : List Nat} : r.length + 2 < (c :: d :: r).length + 2 := Nat.lt_succ_of_lt (Nat.lt_succ_self _)
theorem ltC {r : Nat} : 1 < r + 2 := Nat.le_add_left _ _
theorem Lx.mut_addr {a : Lx} {w : World} {ln ln' p p' : Int} {tl tl' tp tp' : Tok} {ts ts' : List Value} {n1 n1' n2 n2' : Nat} : ∀ q ∈ a.mut w ln tl ts n1 p tp n2, ∃ q' ∈ a.mut w ln' tl' ts' n1' p' tp' n2', q'.1 = q.1 := by
  intro q hq
  rcases List.mem_cons.mp hq with rfl | hq
  · exact ⟨_, .head _, rfl⟩
  rcases List.mem_cons.mp hq with rfl | hq
  · exact ⟨_, .tail _ (.head _), rfl⟩
  · rw [List.mem_singleton.mp hq]
    exact ⟨_, .tail _ (.tail _ (.head _)), rfl⟩
theorem Lx.off_mut {a : Lx} {w : World} {ln ln' p p' : Int} {tl tl' tp tp' : Tok} {ts ts' : List Value} {n1 n1' n2 n2' : Nat} {rest : Led} (h : Off (a.mut w ln tl ts n1 p tp n2) rest) : Off (a.mut w ln' tl' ts' n1' p' tp' n2') rest := by
  intro q hq r hr
  obtain ⟨q', hq', e⟩ := Lx.mut_addr (ln' := ln) (tl' := tl) (ts' := ts) (n1' := n1) (p' := p) (tp' := tp) (n2' := n2) q hq
  rw [← e]
  exact h q' hq' r hr
end

section
open PySem PySem.W PyProof.Rows PySem.Calls PySem.Spec Builtin Builtin.ObjectAttr Builtin.Str
set_option maxHeartbeats 3000000
variable {w : World} {mean : ExcName → Option Value} {mg mb : Str → Option Value}
set_option hygiene false in
local macro_rules | `(tactic| walk_at "execs cons") => `(tactic| (k_here; with_reducible refine gentoksA (T0 := T0) ?_ ?_; (repeat (first | assumption | refine Nat.le_add_right_of_le ?_)); intro tk hTK))
set_option hygiene false in
local macro_rules | `(tactic| walk_at "execs nil") => `(tactic| (k_here; with_reducible refine gentoksA (T0 := T0) ?_ ?_; (repeat (first | assumption | refine Nat.le_add_right_of_le ?_)); intro tk hTK))
set_option hygiene false in
local macro_rules | `(tactic| walk_at "inplaceOp Add str str") => `(tactic| (k_here; refine iadd_T (T0 := T0) (by repeat (first | assumption | refine Nat.le_add_right_of_le ?_)) (by assumption) (by assumption) (by first | exact lenB hz e3 | exact lenB0 hz e3 | exact lenB1 hz e3) ?_; intro tadd tk hTA hTK; dsimp only))
local macro_rules | `(tactic| ktr_unf) => `(tactic| repeat ((fail_if_success (with_reducible show wpAny _ _ (truthy (Value.bool _)) _ _ _)); walk1; try dsimp only))
theorem cit_pyIter {prog : Program} {A : Around} {E : Value → Shared → Prop} {s : Shared} {it : Addr} {o : Obj} {Q : Value → Shared → Prop} (hit : s.heap.get? it = some o) (ho : o.cls = .type "callable_iterator")
    (hq : Q (.ref it) s) : wpAny (model prog w) A (pyIter (.ref it)) Q E s := by
  have hity : s.TypeIs (.ref it) "callable_iterator" := ⟨_, hit, ho⟩
  have sl : Slot "callable_iterator" "__iter__" "callable_iterator.__iter__" := .of (owner := "callable_iterator") (n := "__iter__") (by rw [typeLookup_type, builtinLookup_eq_fast]; kernel_rfl) (by decide +kernel) (by decide +kernel) (by decide +kernel)
    (by first | exact .inl (by decide +kernel) | exact .inr (by decide +kernel)) (by rw [isSubtype_type]; kernel_rfl)
  refine wpAny_pyIter_slot hity sl ?_
  refine wpAny_call_entry sl hity (b := Builtin.«dict_keyiterator.__iter__») (entryFor_alias (id' := "dict_keyiterator.__iter__") (by kernel_rfl) rfl (by decide +kernel) (by kernel_rfl)) ?_ (by unfold argsOk; kernel_rfl)
  exact wpAny_pure ⟨_, rfl, "callable_iterator", _, hity, cit_slot.lookup, hq⟩

theorem get_token_t0 (a : Lx) (ok : a.Ok) (ocr : Obj) (hcr : CodeOk ocr) (hz : a.x.length < 2000) (hz2 : 2 ≤ a.x.length) (ln : Int) (tl : Tok) (n1 : Nat) (p : Nat) (tp : Tok) (n2 : Nat) : PySem.Challenge.rw_xj0013_01 = PySem.Challenge.rw_xj0013_01 → hd.heap_1 = hd.heap_1 →
    ClaimT0 w mean mg mb 2 (.ref 133) [.ref a.ix] (a.mut w ln tl [] n1 p tp n2) (fun rest => (∀ q ∈ a.imm w, q ∈ rest) ∧ (a.cr, ocr) ∈ rest)
    (fun T0 v' post extra => ∃ t tl' p' tp' n2', T0 ≤ t ∧ v' = .str ⟨(tokS (remOf a.x p)).1.toArray⟩ t ∧ remOf a.x p' = (tokS (remOf a.x p)).2 ∧ post = a.mut w (ln + nl (remOf a.x p) - nl (remOf a.x p')) tl' [] n1 (p' : Nat) tp' n2' ∧ extra = []) := by
  k_fill; intro _ _ dp un gd cn cs b ccd cl outer A₀ base h₀ L m rest s R T0 hB hF hX hN hO hR hT hk hdp hun hTk hret
  obtain ⟨him, hcm⟩ := hR
  have hixm := him _ (.head _)
  k_dflt cell_enter
  refine gentoks (T0 := T0) (Nat.le_trans hTk (Nat.le_add_right _ _)) ?_
  intro tkA hTA
  dsimp only
  refine cutQ ?_
  intro KF KEF hKF _hKE
  repeat ((fail_if_success (with_reducible show wpAny _ _ (PySem.call (Value.builtin "iter") _) _ _ _)); walk1; try dsimp only)
  rename_i g1 L' h1 FG B1 X1 T1 tkb hTkb hA bm h2 F2 N2 l2
  refine iter2 (N2 _ (.head _)).1 ?_
  dsimp only
  have hitlt : ∀ q ∈ ((bm, methodObj (.ref 126) (.ref a.ix)) :: (a.mut w ln tl [] n1 (p : Nat) tp n2 ++ rest)), q.1 < h2.objs.size := fun q hq => Heap.lt_size (N2 q hq).1
  have F3 := F2.push (itObj bm (tk + 1))
  have N3 := N2.push F2 (itObj bm (tk + 1))
  obtain ⟨ts, hts⟩ : ∃ ts : Nat, ts = tk + 1 := ⟨_, rfl⟩
  generalize h2.objs.size = it at *
  have hout : ∀ q ∈ ((bm, methodObj (.ref 126) (.ref a.ix)) :: (a.mut w ln tl [] n1 (p : Nat) tp n2 ++ rest)), q.1 ≠ it := fun q hq => Nat.ne_of_lt (hitlt q hq)
  iterate 3 (walk1; try dsimp only)
  rename_i h4 F4 N4
  refine wpAny_For ?_ (by intro _; rfl)
  walk1
  refine cit_pyIter (N4 _ (.head _)).1 rfl ?_
  rw [← hts] at N4
  have hO5 : ∀ {ln tl p tp n2}, Off (a.mut w ln tl [] n1 p tp n2) rest := Lx.off_mut hO
  have hO6 : ∀ {ln tl p tp n2}, ∀ q ∈ (bm, methodObj (.ref 126) (.ref a.ix)) :: (a.mut w ln tl [] n1 p tp n2 ++ rest), q.1 ≠ it := by
    intro ln tl p tp n2 q hq
    rcases List.mem_cons.mp hq with rfl | hq
    · exact hout _ (.head _)
    · rcases List.mem_append.mp hq with hq | hq
      · obtain ⟨q', hq', e⟩ := Lx.mut_addr q hq
        rw [← e]
        exact hout q' (.tail _ (List.mem_append_left _ hq'))
      · exact hout q (.tail _ (List.mem_append_right _ hq))
  have hO7 : ∀ {ln tl p tp n2}, ∀ q ∈ a.mut w ln tl [] n1 p tp n2, q.1 ≠ bm := by
    intro ln tl p tp n2 q hq
    obtain ⟨q', hq', e⟩ := Lx.mut_addr q hq
    rw [← e]
    exact Nat.ne_of_lt (l2 q' (List.mem_append_left _ hq'))
  refine GTs.hide a w g1 L' it bm rest n1 (ln + nl (remOf a.x p)) T0 s ?_
  intro X mk hX
  refine codeCut (G1 X T0 (tokS (remOf a.x p))) ?_ ?_
  · intro R hR
    refine forLC (G0 X (itObj bm ts) (tokS (remOf a.x p))) ?_ _ (.go _ (mk (ch := none) (tt := tkb) (ln' := ln) (tl' := tl) (p' := p) (tp' := tp) (n2' := n2) (frCongr F4 fun y => ?_) N4 rfl rfl ?_ hTkb hTK) rfl)
    rotate_left
    · unfold gtM
      by_cases e1 : y = Str.ofString "token"
      · subst e1; rfl
      by_cases e2 : y = Str.ofString "ch"
      · subst e2; rfl
      by_cases e3 : y = Str.ofString "fiter"
      · subst e3; rfl
      by_cases e4 : y = Str.ofString "self"
      · subst e4; rfl
      rw [if_neg e1, if_neg e2, if_neg e3, if_neg e4, if_neg e3, if_neg e1]
      show List.lookup y [(Str.ofString "self", Value.ref a.ix)] = none
      have : (y == Str.ofString "self") = false := by simpa using e4
      simp [List.lookup, this]
    · simp [remOf, Str.length]
    clear F4 N4
    rintro n s' (⟨rem, G, e4⟩ | ⟨tok, G, e4⟩)
    · obtain ⟨h', tk', ch, tt, ln', tl', p', tp', n2', F5, N5, e1, e2, e3, e8, e9⟩ := hX G
      clear G
      refine TurnL.of ?_
      intro K K0 KE hN _hB hV h0
      refine cit_next a ok ocr hcr hz hz2 (T0 := T0) B1 F5 X1 N5 hO5 hO6 hO7 him hcm T1 rfl (by show dp + 1 + _ < _; (exact om55 hdp)) (by show un + 3 + _ + _ < _; (exact om58 hun)) e9 ?_ ?_
      · intro c r hc h6 tk6 t6 tl6 tp6 n26 htk6 ht6 F6 N6
        dsimp only
        rw [e1] at hc
        subst hc
        have e1' := rem_succ e1
        have e2' := nl2 e2
        refine wpAny_pure ?_
        ktr_unf
        refine tCut (b := isW c) (by rw [occW, Bool.not_not]) (fun hw' => ?_) (fun hw' => ?_)
        · try dsimp only
          ktr_unf
          refine tCut (ch34 c) (fun hq => ?_) (fun hq => ?_)
          · have hq' : c ≠ 34 := beq_eq_false_iff_ne.mp hq
            try dsimp only
            repeat ((fail_if_success (with_reducible show wpAny _ _ (execs (_ :: _ :: _) _) _ _ _)); walk1; try dsimp only)
            (try (refine gentoks (T0 := T0) (by dsimp only; (exact om60 hTK)) ?_; intro tkB hTB; dsimp only))
            refine wpAny_execs_cons ?_
            refine cutP (GU a w g1 L' it bm rest n1 (ln + nl (remOf a.x p)) T0 s ts (tokS (remOf a.x p))) ?_ ?_
            · intro K3 hK3
              ktr_unf
              refine tCut (ch92 c) (fun hb => ?_) (fun hb => ?_)
              · have hb' : c ≠ 92 := beq_eq_false_iff_ne.mp hb
                repeat (walk1; try dsimp only)
                exact hK3 (.mk [c] r _ _ _ t6 _ _ _ _ _ (gtF_c (by assumption)) (by assumption) e1' e2' (gln5 e3) e8 ht6 hTK (e4.symm.trans (tokS_u hw' hq' hb')))
              · have hb' : c = 92 := eq_of_beq hb
                repeat ((fail_if_success (with_reducible show wpAny _ _ (PySem.call (Value.ref 126) _) _ _ _)); walk1; try dsimp only)
                (rename Fr _ _ _ _ => F7); (rename News _ _ _ _ => N7)
                refine rc_call a ok ocr hcr hz hz2 (T0 := T0) B1 F7 X1 (p := p' + 1) N7 hO5 hO6 hO7 him hcm T1 rfl (by show dp + 1 + _ < _; (exact om55 hdp)) (by show un + 3 + _ < _; (exact om54 hun)) hTK ?_ ?_
                · intro d r' hr h8 tk8 t8 tl8 tp8 n28 htk8 ht8 F8 N8
                  rw [e1'] at hr
                  subst hr
                  repeat (walk1; try dsimp only)
                  exact hK3 (.mk [d] r' _ _ _ t8 _ _ _ _ _ (gtF_cc (by assumption)) (by assumption) (rem_succ e1') (nl2 e2') (gln5 (gln6 e3)) e8 ht8 hTK (e4.symm.trans (tokS_b hw' hq' hb')))
                · intro hr h8 tk8 t8 tl8 tp8 n28 htk8 ht8 F8 N8
                  rw [e1'] at hr
                  subst hr
                  repeat (walk1; try dsimp only)
                  exact hK3 (.mk [] [] _ _ _ t8 _ _ _ _ _ (gtF_cc (by assumption)) (by assumption) (rem_nil e1') e2' (Nat.zero_le _) e8 ht8 hTK (e4.symm.trans ((tokS_b0 hw' hq' hb').trans tokU_n.symm)))
            · rintro f s' ⟨l, rem2, h7, tk7, tt7, t7, ln', tl', p', tp', n2', F7, N7, e1, e2, e3, e8, ht7, e9, hS⟩
              dsimp only
              repeat ((fail_if_success (with_reducible show wpAny _ _ (PySem.exec (Stmt.For _ _ _ _ _) _) _ _ _)); walk1; try dsimp only)
              (rename Fr _ _ _ _ => F8); (rename News _ _ _ _ => N8)
              refine wpAny_For ?_ (by intro _; rfl)
              walk1
              refine cit_pyIter (N8 _ (.head _)).1 rfl ?_
              refine codeCut (G2 X T0 (itObj bm ts) (tokU l rem2)) ?_ ?_
              · intro R2 hR2
                refine forLC (G3 X (itObj bm ts) tokU (tokU l rem2)) ?_ _ (.mk l rem2 (mk (gtF_tn F8) N8 e1 e2 e3 hTA hTK) rfl)
                rintro n s' ⟨tok, rem, G, e5⟩
                obtain ⟨h', tk', ch, tt, ln', tl', p', tp', n2', F5, N5, e1, e2, e3, e8, e9⟩ := hX G
                clear G
                refine TurnL.of ?_
                intro K2 K02 KE2 hN2 _hB2 hV2 h02
                refine cit_next a ok ocr hcr hz hz2 (T0 := T0) B1 F5 X1 N5 hO5 hO6 hO7 him hcm T1 rfl (by show dp + 1 + _ < _; (exact om55 hdp)) (by show un + 3 + _ + _ < _; (exact om58 hun)) e9 ?_ ?_
                · intro c r hc h6 tk6 t6 tl6 tp6 n26 htk6 ht6 F6 N6
                  dsimp only
                  rw [e1] at hc
                  subst hc
                  have e1' := rem_succ e1
                  have e2' := nl2 e2
                  have e3' := gln3 e3
                  refine wpAny_pure ?_
                  ktr_unf
                  refine tCut (b := isW c) (by rw [occW, Bool.not_not]) (fun hq' => ?_) (fun hq' => ?_)
                  · try dsimp only
                    ktr_unf
                    refine tCut (ch92 c) (fun hb => ?_) (fun hb => ?_)
                    · have hb' : c ≠ 92 := beq_eq_false_iff_ne.mp hb
                      repeat (walk1; try dsimp only)
                      exact hN2 _ (by first | exact .inl rfl | exact .inr rfl) ltA (.mk (tok ++ [c]) r (mk (gtF_tc (by assumption)) (by assumption) e1' e2' (gln1 e3') hTA hTK) ((tokU_o hq' hb').symm.trans e5))
                    · have hb' : c = 92 := eq_of_beq hb
                      repeat ((fail_if_success (with_reducible show wpAny _ _ (PySem.call (Value.ref 126) _) _ _ _)); walk1; try dsimp only)
                      (rename Fr _ _ _ _ => F7); (rename News _ _ _ _ => N7)
                      refine rc_call a ok ocr hcr hz hz2 (T0 := T0) B1 F7 X1 (p := p' + 1) N7 hO5 hO6 hO7 him hcm T1 rfl (by show dp + 1 + _ < _; (exact om55 hdp)) (by show un + 3 + _ < _; (exact om54 hun)) hTK ?_ ?_
                      · intro d r' hr h8 tk8 t8 tl8 tp8 n28 htk8 ht8 F8 N8
                        rw [e1'] at hr
                        subst hr
                        repeat (walk1; try dsimp only)
                        exact hN2 _ (by first | exact .inl rfl | exact .inr rfl) ltB (.mk (tok ++ [d]) r' (mk (gtF_tcc (by assumption)) (by assumption) (rem_succ e1') (nl2 e2') (gln2 e3') hTA hTK) ((tokU_b hq' hb').symm.trans e5))
                      · intro hr h8 tk8 t8 tl8 tp8 n28 htk8 ht8 F8 N8
                        rw [e1'] at hr
                        subst hr
                        repeat (walk1; try dsimp only)
                        exact hN2 _ (by first | exact .inl rfl | exact .inr rfl) ltA (.mk tok [] (mk (gtF_tcc0 (by assumption)) (by assumption) (rem_nil e1') e2' (gln4 e3') hTA hTK) (tokU_n.trans ((tokU_b0 hq' hb').symm.trans e5)))
                  · repeat (walk1; try dsimp only)
                    exact hV2 (hR2 (.rt tok r e8 (mk (gtF_c (by assumption)) (by assumption) e1' e2' (gln4 e3') e8 hTK) (e5.symm.trans (tokU_e hq'))))
                · intro hc h6 tk6 tl6 tp6 n26 htk6 F6 N6
                  dsimp only
                  rw [e1] at hc
                  subst hc
                  refine wpAny_execs_nil (h02 (hR2 (.nx tok (mk F6 N6 (rem_nil e1) e2 e3 e8 htk6) (e5.symm.trans tokU_n))))
              · rintro r2 s' (⟨tok, G, e5⟩ | ⟨tok, rem, ht, G, e5⟩)
                · obtain ⟨h', tk', ch, tt, ln', tl', p', tp', n2', F5, N5, e1, e2, e3, e8, e9⟩ := hX G
                  dsimp only
                  repeat (walk1; try dsimp only)
                  exact hN _ (by first | exact .inl rfl | exact .inr rfl) ltC (.dn tok G (hS.trans e5))
                · dsimp only
                  exact hV (hR (.rt _ tok rem ht G (hS.trans e5)))
          · have hq' : c = 34 := eq_of_beq hq
            have hS := (tokS_q hw' hq').symm.trans e4
            repeat ((fail_if_success (with_reducible show wpAny _ _ (PySem.exec (Stmt.For _ _ _ _ _) _) _ _ _)); walk1; try dsimp only)
            (rename Fr _ _ _ _ => F7); (rename News _ _ _ _ => N7)
            refine wpAny_For ?_ (by intro _; rfl)
            walk1
            refine cit_pyIter (N7 _ (.head _)).1 rfl ?_
            refine codeCut (G2 X T0 (itObj bm ts) (tokS (remOf a.x p))) ?_ ?_
            · intro R2 hR2
              refine forLC (G3 X (itObj bm ts) tokQ (tokS (remOf a.x p))) ?_ _ (.mk [] r (mk (gtF_c F7) N7 e1' e2' (gln6 e3) e8 hTK) hS)
              rintro n s' ⟨tok, rem, G, e5⟩
              obtain ⟨h', tk', ch, tt, ln', tl', p', tp', n2', F5, N5, e1, e2, e3, e8, e9⟩ := hX G
              clear G
              refine TurnL.of ?_
              intro K2 K02 KE2 hN2 _hB2 hV2 h02
              refine cit_next a ok ocr hcr hz hz2 (T0 := T0) B1 F5 X1 N5 hO5 hO6 hO7 him hcm T1 rfl (by show dp + 1 + _ < _; (exact om55 hdp)) (by show un + 3 + _ + _ < _; (exact om58 hun)) e9 ?_ ?_
              · intro c r hc h6 tk6 t6 tl6 tp6 n26 htk6 ht6 F6 N6
                dsimp only
                rw [e1] at hc
                subst hc
                have e1' := rem_succ e1
                have e2' := nl2 e2
                have e3' := gln3 e3
                refine wpAny_pure ?_
                ktr_unf
                refine tCut (ch34 c) (fun hq => ?_) (fun hq => ?_)
                · have hq' : c ≠ 34 := beq_eq_false_iff_ne.mp hq
                  try dsimp only
                  ktr_unf
                  refine tCut (ch92 c) (fun hb => ?_) (fun hb => ?_)
                  · have hb' : c ≠ 92 := beq_eq_false_iff_ne.mp hb
                    repeat (walk1; try dsimp only)
                    exact hN2 _ (by first | exact .inl rfl | exact .inr rfl) ltA (.mk (tok ++ [c]) r (mk (gtF_tc (by assumption)) (by assumption) e1' e2' (gln1 e3') hTA hTK) ((tokQ_o hq' hb').symm.trans e5))
                  · have hb' : c = 92 := eq_of_beq hb
                    repeat ((fail_if_success (with_reducible show wpAny _ _ (PySem.call (Value.ref 126) _) _ _ _)); walk1; try dsimp only)
                    (rename Fr _ _ _ _ => F7); (rename News _ _ _ _ => N7)
                    refine rc_call a ok ocr hcr hz hz2 (T0 := T0) B1 F7 X1 (p := p' + 1) N7 hO5 hO6 hO7 him hcm T1 rfl (by show dp + 1 + _ < _; (exact om55 hdp)) (by show un + 3 + _ < _; (exact om54 hun)) hTK ?_ ?_
                    · intro d r' hr h8 tk8 t8 tl8 tp8 n28 htk8 ht8 F8 N8
                      rw [e1'] at hr
                      subst hr
                      repeat (walk1; try dsimp only)
                      exact hN2 _ (by first | exact .inl rfl | exact .inr rfl) ltB (.mk (tok ++ [d]) r' (mk (gtF_tcc (by assumption)) (by assumption) (rem_succ e1') (nl2 e2') (gln2 e3') hTA hTK) ((tokQ_b hq' hb').symm.trans e5))
                    · intro hr h8 tk8 t8 tl8 tp8 n28 htk8 ht8 F8 N8
                      rw [e1'] at hr
                      subst hr
                      repeat (walk1; try dsimp only)
                      exact hN2 _ (by first | exact .inl rfl | exact .inr rfl) ltA (.mk tok [] (mk (gtF_tcc0 (by assumption)) (by assumption) (rem_nil e1') e2' (gln4 e3') hTA hTK) (tokQ_n.trans ((tokQ_b0 hq' hb').symm.trans e5)))
                · have hq' : c = 34 := eq_of_beq hq
                  repeat (walk1; try dsimp only)
                  exact hV2 (hR2 (.rt tok r e8 (mk (gtF_c (by assumption)) (by assumption) e1' e2' (gln4 e3') e8 hTK) (e5.symm.trans (tokQ_e hq'))))
              · intro hc h6 tk6 tl6 tp6 n26 htk6 F6 N6
                dsimp only
                rw [e1] at hc
                subst hc
                refine wpAny_execs_nil (h02 (hR2 (.nx tok (mk F6 N6 (rem_nil e1) e2 e3 e8 htk6) (e5.symm.trans tokQ_n))))
            · rintro r2 s' (⟨tok, G, e5⟩ | ⟨tok, rem, ht, G, e5⟩)
              · obtain ⟨h', tk', ch, tt, ln', tl', p', tp', n2', F5, N5, e1, e2, e3, e8, e9⟩ := hX G
                dsimp only
                repeat (walk1; try dsimp only)
                exact hN _ (by first | exact .inl rfl | exact .inr rfl) ltC (.dn tok G e5)
              · dsimp only
                exact hV (hR (.rt _ tok rem ht G e5))
        · repeat (walk1; try dsimp only)
          exact hN _ (by first | exact .inl rfl | exact .inr rfl) ltA (.go r (mk (gtF_c (by assumption)) (by assumption) e1' e2' (gln6 e3) e8 hTK) ((tokS_w hw').symm.trans e4))
      · intro hc h6 tk6 tl6 tp6 n26 htk6 F6 N6
        dsimp only
        rw [e1] at hc
        subst hc
        refine wpAny_execs_nil (h0 (hR (.nx itEnd [] [] (mk F6 N6 (rem_nil e1) e2 e3 e8 htk6) e4.symm)))
    · obtain ⟨h', tk', ch, tt, ln', tl', p', tp', n2', F5, N5, e1, e2, e3, e8, e9⟩ := hX G
      clear G
      refine TurnL.of ?_
      intro K K0 KE hN _hB hV h0
      refine cit_done rfl (N5 _ (.head _)).1 fun o1 o2 => ?_
      dsimp only
      refine wpAny_execs_nil (h0 (hR (.nx itEnd tok [] (mk ((F5.push _).push _) (fun q hq => ⟨Heap.get?_push_of_some _ (Heap.get?_push_of_some _ (N5 q hq).1), (N5 q hq).2⟩) e1 e2 e3 e8 e9) e4)))
  · have hfin : ∀ t, T0 ≤ t → ∀ {io tok rem ln' tl'} {p' : Nat} {tp' n2'}, tokS (remOf a.x p) = (tok, rem) → remOf a.x p' = rem → ln' + nl rem = ln + nl (remOf a.x p) → ∀ hz tz, Fr h₀ L hz m → News h₀ L hz ((it, io) :: (bm, methodObj (.ref 126) (.ref a.ix)) :: (a.mut w ln' tl' [] n1 (p' : Nat) tp' n2' ++ rest)) → R (.ok (.ret (.str ⟨tok.toArray⟩ t))) { s with heap := hz, toks := tz } := fun t ht io tok rem ln' tl' p' tp' n2' e4 e1 e2 hz tz Fo No =>
      hret _ (a.mut w ln' tl' [] n1 (p' : Nat) tp' n2') [] _ _ Fo (cb_drop No (fun q hq => .tail _ (.tail _ (by rw [List.nil_append] at hq; exact hq)))) (by simpa using hO5) (fun p hp => nomatch hp) ⟨t, tl', p', tp', n2', ht, by rw [e4], by rw [e4]; exact e1, by rw [e1, ← e2]; congr 1; (exact om48), rfl⟩
    rintro r s' (⟨io, tok, rem, G, e4⟩ | ⟨io, tok, rem, ht, G, e4⟩)
    · obtain ⟨h', tk', ch, tt, ln', tl', p', tp', n2', F5, N5, e1, e2, e3, e8, e9⟩ := hX G
      dsimp only
      repeat (walk1; try dsimp only)
      refine hKF ?_
      (try dsimp only)
      repeat (walk1; try dsimp only)
      exact hfin _ e8 e4 e1 e2 _ _ (by assumption) (by assumption)
    · obtain ⟨h', tk', ch, tt, ln', tl', p', tp', n2', F5, N5, e1, e2, e3, e8, e9⟩ := hX G
      refine hKF ?_
      exact leaveK_ F5 N5 fun Fo No => hfin _ ht e4 e1 e2 _ _ Fo No
end

section
open PySem PySem.W PyProof.Rows PySem.Calls PySem.Spec Builtin Builtin.ObjectAttr Builtin.Str
set_option maxHeartbeats 3000000
variable {w : World} {mean : ExcName → Option Value} {mg mb : Str → Option Value}
theorem listOf_push (xs : List Value) (n : Nat) (v : Value) : Obj.mapSeq (·.push v) (W.listOf xs.toArray n) = W.listOf (xs ++ [v]).toArray (n + 1) := by
  simp [W.listOf, Obj.mapSeq]
theorem list_app {prog : Program} {A : Around} {E : Value → Shared → Prop} {s : Shared} {h₀ : Heap} {L : Addr} {m : Str → Option Value} {rest : Led} {x : Addr} {xs : List Value} {n : Nat} {v : Value} {Q : Value → Shared → Prop}
    (F : Fr h₀ L s.heap m) (N : News h₀ L s.heap ((x, W.listOf xs.toArray n) :: rest)) (hO : ∀ q ∈ rest, q.1 ≠ x) (hz : xs.length < 1000)
    (hq : ∀ h', Fr h₀ L h' m → News h₀ L h' ((x, W.listOf (xs ++ [v]).toArray (n + 1)) :: rest) → Q .none { s with heap := h' }) : wpAny (model prog w) A (call (.builtin "list.append") [.ref x, v]) Q E s := by
  have hx := (N _ (.head _)).1
  obtain ⟨F5, N5⟩ := news_upd (f := Obj.mapSeq (·.push v)) (pre := []) F N (by intro p hp; cases hp) hO (listOf_push xs n v) rfl
  have hx5 := (N5 _ (.head _)).1
  obtain ⟨hh, g, d, t, os⟩ := s
  refine wpAny_call (codeAny_call_builtin PySem.F.slot_list_append.plain PySem.F.entry_list_append ?_)
  dsimp only at hx hx5
  have X := inNil hh
  refine x_load X 400 0 (by kernel_rfl) hx ?_
  refine x_pure X 400 0 (v := ()) (by kernel_rfl) ?_
  refine x_load X 400 0 (by kernel_rfl) hx ?_
  refine x_upd (a := x) (f := Obj.mapSeq (·.push v)) X 400 0 (by kernel_rfl) hx ?_
  have hp : (Data.seq (xs ++ [v]).toArray (n + 1)).pastItsLine = none := by
    show (if _ > sizeLine + 1 then _ else _) = none
    rw [if_neg (by rw [sizeLine_eq]; simp; (exact om5 hz))]
  repeat (first | simp only [hp] | with_reducible refine nd_at ?_ | lk)
  exact hq _ F5 N5
theorem list_pop0 {prog : Program} {A : Around} {E : Value → Shared → Prop} {s : Shared} {h₀ : Heap} {L : Addr} {m : Str → Option Value} {rest : Led} {x : Addr} {xs : List Value} {n : Nat} {v : Value} {t0 : Tok} {Q : Value → Shared → Prop}
    (F : Fr h₀ L s.heap m) (N : News h₀ L s.heap ((x, W.listOf (v :: xs).toArray n) :: rest)) (hO : ∀ q ∈ rest, q.1 ≠ x) (hz : xs.length < 1000)
    (hq : ∀ h' n', Fr h₀ L h' m → News h₀ L h' ((x, W.listOf xs.toArray n') :: rest) → Q v { s with heap := h' }) : wpAny (model prog w) A (call (.builtin "list.pop") [.ref x, .int 0 t0]) Q E s := by
  have hx := (N _ (.head _)).1
  have hpop : Obj.mapSeq (fun y => y.eraseIdxIfInBounds 0) (W.listOf (v :: xs).toArray n) = W.listOf xs.toArray (n + 1) := by
    simp [W.listOf, Obj.mapSeq, Array.eraseIdxIfInBounds]
  obtain ⟨F5, N5⟩ := news_upd (f := Obj.mapSeq fun y => y.eraseIdxIfInBounds 0) (pre := []) F N (by intro p hp; cases hp) hO hpop rfl
  have hx5 := (N5 _ (.head _)).1
  obtain ⟨hh, g, d, t, os⟩ := s
  refine wpAny_call (codeAny_call_builtin (by decide +kernel) PySem.F.entry_list_pop ?_)
  dsimp only at hx hx5
  have X := inNil hh
  refine x_load X 400 0 (by kernel_rfl) hx ?_
  refine x_pure X 400 0 (v := ()) (by kernel_rfl) ?_
  refine x_load X 400 0 (by kernel_rfl) hx ?_
  have he : (v :: xs).toArray.isEmpty = false := by simp
  have hs : (seqIndex? 0 (v :: xs).toArray.size).bind (fun k => (v :: xs).toArray[k]?.map (k, ·)) = some (0, v) := by
    have e1 : seqIndex? 0 (v :: xs).toArray.size = some 0 := by
      unfold seqIndex?
      simp
    rw [e1]
    simp
  repeat (first | simp only [he, hs] | with_reducible refine nd_at ?_ | lk)
  refine nd_upd hx ?_
  have hp : (Data.seq xs.toArray (n + 1)).pastItsLine = none := by
    show (if _ > sizeLine + 1 then _ else _) = none
    rw [if_neg (by rw [sizeLine_eq]; simp; (exact om6 hz))]
  repeat (first | simp only [hp] | with_reducible refine nd_at ?_ | lk)
  exact hq _ _ F5 N5
theorem push_token_w (a : Lx) (ok : a.Ok) (ln : Int) (tl : Tok) (ts : List Value) (n1 : Nat) (p : Int) (tp : Tok) (n2 : Nat) (v : Value) (hts : ts.length < 100) : PySem.Challenge.rw_xj0013_01 = PySem.Challenge.rw_xj0013_01 → hd.heap_1 = hd.heap_1 →
    ClaimL w mean mg mb 0 (.ref 140) [.ref a.ix, v] (a.mut w ln tl ts n1 p tp n2) (fun rest => (∀ q ∈ a.imm w, q ∈ rest))
    (fun v' post extra => ∃ n1', v' = .none ∧ post = a.mut w ln tl (ts ++ [v]) n1' p tp n2 ∧ extra = []) := by
  k_fill; intro _ _ dp un gd cn cs b ccd cl outer A₀ base h₀ L m rest s Q E hB hF hX hN hO hR hT hk hdp hun hret
  have him := hR
  have hixm := him _ (.head _)
  refine wpAny_call ?_
  k_dflt cell_enter
  repeat (walk1; try dsimp only)
  rename_i g1 L' h1 FG F1 N1 B1 X1 T1
  have o3 : @LT.lt Nat _ a.pl a.rd := ok.l3
  have o4 : @LT.lt Nat _ a.rd a.sf := ok.l4
  have o5 : @LT.lt Nat _ a.sf a.dsf := ok.l5
  have o6 : @LT.lt Nat _ a.dsf a.dix := ok.l6
  have o7 : @LT.lt Nat _ a.dix a.ix := ok.l7
  have o8 : @LT.lt Nat _ a.ix a.pb := ok.l8
  refine list_app (x := a.pb) (xs := ts) (n := n1) (rest := (a.dix, netD w a.t1 a.t2 a.t3 a.t4 tl a.tw ln a.sf a.pb) :: (a.pl, W.listOf #[.int p tp] n2) :: rest) F1 (cb_drop N1 (by dsimp only [Lx.mut]; ktr_rel)) ?_ (by (exact om62 hts)) ?_
  · intro q hq
    rcases List.mem_cons.mp hq with rfl | hq
    · exact Nat.ne_of_lt (Nat.lt_trans o7 o8)
    rcases List.mem_cons.mp hq with rfl | hq
    · exact Nat.ne_of_lt (by show @LT.lt Nat _ a.pl a.pb; (exact om61 o3 o4 o5 o6 o7 o8))
    · exact hO (a.pb, W.listOf ts.toArray n1) (.tail _ (.head _)) q hq
  intro h2 F2 N2
  repeat (walk1; try dsimp only)
  exact hret _ (a.mut w ln tl (ts ++ [v]) (n1 + 1) p tp n2) [] _ _ (by assumption) (cb_drop (by assumption) (by dsimp only [Lx.mut]; ktr_rel)) (by simpa using Lx.off_mut hO) (fun p hp => nomatch hp) ⟨_, rfl, rfl, rfl⟩
theorem get_tokenP_w (a : Lx) (ok : a.Ok) (ln : Int) (tl : Tok) (ts : List Value) (n1 : Nat) (p : Int) (tp : Tok) (n2 : Nat) (v : Value) (hts : ts.length < 100) : PySem.Challenge.rw_xj0013_01 = PySem.Challenge.rw_xj0013_01 → hd.heap_1 = hd.heap_1 →
    ClaimL w mean mg mb 0 (.ref 133) [.ref a.ix] (a.mut w ln tl (v :: ts) n1 p tp n2) (fun rest => (∀ q ∈ a.imm w, q ∈ rest))
    (fun v' post extra => ∃ n1', v' = v ∧ post = a.mut w ln tl ts n1' p tp n2 ∧ extra = []) := by
  k_fill; intro _ _ dp un gd cn cs b ccd cl outer A₀ base h₀ L m rest s Q E hB hF hX hN hO hR hT hk hdp hun hret
  have him := hR
  have hixm := him _ (.head _)
  refine wpAny_call ?_
  k_dflt cell_enter
  repeat (walk1; try dsimp only)
  rename_i g1 L' h1 FG F1 N1 B1 X1 T1
  have o3 : @LT.lt Nat _ a.pl a.rd := ok.l3
  have o4 : @LT.lt Nat _ a.rd a.sf := ok.l4
  have o5 : @LT.lt Nat _ a.sf a.dsf := ok.l5
  have o6 : @LT.lt Nat _ a.dsf a.dix := ok.l6
  have o7 : @LT.lt Nat _ a.dix a.ix := ok.l7
  have o8 : @LT.lt Nat _ a.ix a.pb := ok.l8
  refine wpAny_truthy_list (items := (v :: ts).toArray) ⟨_, (N1 (a.pb, W.listOf (v :: ts).toArray n1) (.tail _ (.head _))).1, rfl, _, rfl⟩ (by simp; (exact om63 hts)) ?_
  have he : (v :: ts).toArray.isEmpty = false := by simp
  rw [he]
  repeat (walk1; try dsimp only)
  refine list_pop0 (x := a.pb) (xs := ts) (n := n1) (rest := (a.dix, netD w a.t1 a.t2 a.t3 a.t4 tl a.tw ln a.sf a.pb) :: (a.pl, W.listOf #[.int p tp] n2) :: rest) F1 (cb_drop N1 (by dsimp only [Lx.mut]; ktr_rel)) ?_ (by (exact om62 hts)) ?_
  · intro q hq
    rcases List.mem_cons.mp hq with rfl | hq
    · exact Nat.ne_of_lt (Nat.lt_trans o7 o8)
    rcases List.mem_cons.mp hq with rfl | hq
    · exact Nat.ne_of_lt (by show @LT.lt Nat _ a.pl a.pb; (exact om61 o3 o4 o5 o6 o7 o8))
    · exact hO (a.pb, W.listOf (v :: ts).toArray n1) (.tail _ (.head _)) q hq
  intro h2 n2' F2 N2
  repeat (walk1; try dsimp only)
  exact hret _ (a.mut w ln tl ts n2' p tp n2) [] _ _ (by assumption) (cb_drop (by assumption) (by dsimp only [Lx.mut]; ktr_rel)) (by simpa using Lx.off_mut hO) (fun p hp => nomatch hp) ⟨_, rfl, rfl, rfl⟩
end

section
local macro_rules | `(tactic| walk_at "eval Name") => `(tactic| (k_here; (with_reducible show wpAny _ _ (PySem.eval (Expr.Name _ _) (envOf _ _ _ _ _)) _ _ _); (rename Fr _ _ _ _ => lF'); (with_unfolding_all refine ld lF' (by assumption) ?_)))

section
open PySem PySem.W PyProof.Rows PySem.Calls PySem.Spec Builtin Builtin.ObjectAttr Builtin.Str
set_option maxHeartbeats 3000000
variable {w : World} {mean : ExcName → Option Value} {mg mb : Str → Option Value}
local macro_rules | `(tactic| ktr_unf) => `(tactic| repeat ((fail_if_success (with_reducible show wpAny _ _ (compareOp CmpOp.Eq _ _) _ _ _)); walk1; try dsimp only))
noncomputable abbrev strVals (ss : List (Str × Tok)) : List Value := ss.map fun p => .str p.1 p.2
theorem is_str_ne {prog : Program} {A : Around} {E : Value → Shared → Prop} {s : Shared} {x y : Str} {t u : Tok} {Q : Value → Shared → Prop} (ht : t ≠ 0) (hu : u ≠ 0) (htu : t ≠ u) (hxy : x ≠ y) (hq : Q (.bool false) s) :
    wpAny (model prog w) A (compareOp .Is (.str x t) (.str y u)) Q E s := by
  have h := isSame_str_other x y t u (by simp [ht, hu]) (by simpa using htu) (by simpa using hxy)
  show wpAny _ _ (isSame _ _ >>= fun r => pure (Value.bool r)) _ _ _
  rw [h]
  exact wpAny_bind (wpAny_pure (wpAny_pure hq))
theorem is_str_eq {prog : Program} {A : Around} {E : Value → Shared → Prop} {s : Shared} {y : Str} {t u : Tok} {Q : Value → Shared → Prop} (X : (hd.heap_1 w.params).In s.heap) (ht : t ≠ 0) (hu : u ≠ 0) (hq : ∀ b, Q (.bool b) s) :
    wpAny (model prog w) A (compareOp .Is (.str y t) (.str y u)) Q E s := by
  have l1 : Looks (model prog w) s.heap (nsGet cStatics sharingNotToldKey) none := Looks.of_peek X (by kernel_rfl)
  have sn : ∀ (t : Tok) {Q : Bool → Shared → Prop}, Q false s → wpAny (model prog w) A (sharingNotTold t) Q E s := fun t Q h => wpAny_bind (l1.at (wpAny_pure h))
  show wpAny _ _ (isSame.created (y == y) t u >>= fun r => pure (Value.bool r)) _ _ _
  refine wpAny_bind ?_
  unfold isSame.created
  refine wpAny_ite ?_
  rw [if_neg (by simp [ht, hu])]
  refine wpAny_ite ?_
  split
  · exact wpAny_pure (wpAny_pure (hq _))
  refine wpAny_ite ?_
  rw [if_neg (by simp)]
  refine wpAny_bind (sn t ?_)
  first | rw [if_neg Bool.false_ne_true] | simp only [Bool.false_eq_true, if_false]
  refine wpAny_bind (sn u ?_)
  first | rw [if_neg Bool.false_ne_true] | simp only [Bool.false_eq_true, if_false]
  exact wpAny_bind (wpAny_rule (wpAny_bind (wpAny_askSetting (wpAny_pure (wpAny_pure (hq _))))))
inductive IxR (g1 : Heap) (L' : Addr) (k : Nat) (rest : Led) (s : Shared) : Result → Shared → Prop
  | mk (t : Tok) (h' : Heap) (tk' : Nat) (m' : Str → Option Value) (F : Fr g1 L' h' m') (N : News g1 L' h' rest) : IxR g1 L' k rest s (.ok (.ret (.int k t))) { s with heap := h', toks := tk' }
inductive IxI (g1 : Heap) (L' I l : Addr) (ss : List (Str × Tok)) (k : Nat) (y : Str) (u : Tok) (rest : Led) (s : Shared) : Nat → Shared → Prop
  | mk (i : Nat) (h' : Heap) (tk' : Nat) (m' : Str → Option Value) (hi : i ≤ k) (st : (∃ old, IsEnum h' (I + 1) I (i : Nat) old) ∧ h'.IsListIter I l i ∧ h'.IsList l (strVals ss).toArray) (F : Fr g1 L' h' m') (hb : m' (Str.ofString "b") = some (.str y u)) (N : News g1 L' h' rest) : IxI g1 L' I l ss k y u rest s (ss.length - i + 1) { s with heap := h', toks := tk' }
theorem indexOf_w (l : Addr) (ss : List (Str × Tok)) (pre post : List (Str × Tok)) (t : Tok) (n : Nat) (y : Str) (u : Tok) (hss : ss = pre ++ (y, t) :: post) (hz : ss.length < 100) (hpre : ∀ p ∈ pre, p.1 ≠ y) (hu : u ≠ 0) (ht0 : ∀ p ∈ ss, p.2 ≠ 0) (htu : ∀ p ∈ pre, p.2 ≠ u) : PySem.Challenge.rw_xj0013_01 = PySem.Challenge.rw_xj0013_01 → hd.heap_1 = hd.heap_1 →
    ClaimL w mean mg mb 0 (.ref 175) [.ref l, .str y u] [] (fun rest => (l, W.listOf (strVals ss).toArray n) ∈ rest)
    (fun v' post extra => ∃ t, v' = .int pre.length t ∧ post = [] ∧ extra = []) := by
  k_fill; intro _ _ dp un gd cn cs b ccd cl outer A₀ base h₀ L m rest s Q E hB hF hX hN hO hR hT hk hdp hun hret
  have hlm := hR
  refine wpAny_call ?_
  k_dflt cell_enter
  refine cutQ ?_
  intro KF KEF hKF _hKE
  repeat (walk1; try dsimp only)
  rename_i g1 L' h1 FG F1 N1 B1 X1 T1
  refine wpAny_For ?_ (by intro _; rfl)
  repeat (walk1; try dsimp only)
  have hll := (N1 _ hlm).1
  have hLl := (N1 _ hlm).2.1
  refine call_enumerate_1 (n := n) (items := (strVals ss).toArray) hll fun h2 hE2 hI2 hsz hk2 => ?_
  refine wpAny_pyIter_enum hE2 ?_
  have hlt : l < h1.objs.size := Heap.lt_size hll
  have F2 := F1.keeps hk2
  have N2 := N1.grown hk2
  have W := fun (A : Around) (hh : A.handled = none) => WalksT.enumerate (prog := PySem.Challenge.pw_xj0013_01) (w := w) (A := A) hh (h1.objs.size + 1) h1.objs.size l (Nat.succ_ne_self _) (Nat.ne_of_lt (Nat.lt_succ_of_lt hlt)) (Nat.ne_of_lt hlt) (strVals ss).toArray
  have hnl : ∀ q ∈ rest, q.1 < h1.objs.size := fun q hq => Heap.lt_size (N1 q hq).1
  have hLlt : L' < h1.objs.size := F1.ns.lt
  have hst0 : (∃ old, IsEnum h2 (h1.objs.size + 1) h1.objs.size (0 : Nat) old) ∧ h2.IsListIter h1.objs.size l 0 ∧ h2.IsList l (strVals ss).toArray := ⟨⟨_, hE2⟩, hI2, ⟨_, (N2 _ hlm).1, rfl, _, rfl⟩⟩
  have hg1lt : ∀ b o, g1.get? b = some o → b < h1.objs.size := fun b o e => Heap.lt_size (F1.keep b o e)
  clear hE2 hI2 F1 N1
  generalize h1.objs.size = I at *
  have hnin : ∀ b : Addr, b < I → b ∉ [I + 1, I] := fun b hb hm => by
    rcases List.mem_cons.mp hm with e | hm
    · exact Nat.ne_of_lt (Nat.lt_succ_of_lt hb) e
    · exact Nat.ne_of_lt hb (List.mem_singleton.mp hm)
  have next : ∀ {h h' : Heap} {m' : Str → Option Value}, Fr g1 L' h m' → News g1 L' h rest → (∀ b o, b ∉ [I + 1, I] → h.get? b = some o → h'.get? b = some o) → Fr g1 L' h' m' ∧ News g1 L' h' rest := fun F N hk =>
    ⟨⟨F.ns.at' fun o e => hk _ o (hnin _ hLlt) e, fun b o e => hk b o (hnin b (hg1lt b o e)) (F.keep b o e), F.above⟩, fun q hq => ⟨hk _ _ (hnin _ (hnl q hq)) (N q hq).1, (N q hq).2⟩⟩
  refine codeCut (IxR g1 L' pre.length rest s) ?_ ?_
  · intro R1 hR1
    refine forLC (IxI g1 L' I l ss pre.length y u rest s) ?_ _ (.mk 0 _ _ _ (Nat.zero_le _) hst0 F2 rfl N2)
    rintro k s' ⟨i, h', tk', m', hi, hst, F3, hb, N3⟩
    refine TurnL.of ?_
    intro K K0 KE hN _hB hV _h0
    have hin : i < (strVals ss).toArray.size := by simp [hss]; (exact om68 hi)
    refine (W _ rfl).item i _ _ _ hin hst fun T vals h4 tk4 hP _ hT hM hk4 => ?_
    dsimp only
    refine (W _ rfl).go _ _ _ i T _ _ _ hM fun h5 hst5 hk5 => ?_
    have hkk : ∀ b o, b ∉ [I + 1, I] → h'.get? b = some o → h5.get? b = some o := fun b o hb e => hk5 b o hb (hk4 b o hb e)
    obtain ⟨F5, N5⟩ := next F3 N3 hkk
    obtain ⟨ti, x, hx, rfl⟩ := hP
    have hT5 : h5.IsTuple T #[.int i ti, x] := hT.at fun o e => hk5 T o ((W (ktrTop dp un gd cn cs L b ccd cl outer) rfl).apart i T _ hM) e
    obtain ⟨oe, hoe⟩ : ∃ oe, h5.get? (I + 1) = some oe := by obtain ⟨⟨old, he⟩, -, -⟩ := hst5; exact ⟨_, he⟩
    obtain ⟨oi, hoi⟩ : ∃ oi, h5.get? I = some oi := by obtain ⟨-, ⟨o, he, -⟩, -⟩ := hst5; exact ⟨_, he⟩
    have hnone : ∀ b, I ≤ b → g1.get? b = none := fun b hb => by
      cases e : g1.get? b with
      | none => rfl
      | some o => exact absurd (hg1lt b o e) (Nat.not_lt.mpr hb)
    have N5 : News g1 L' h5 ((I + 1, oe) :: (I, oi) :: rest) := fun q hq => by
      rcases List.mem_cons.mp hq with rfl | hq
      · exact ⟨hoe, Nat.ne_of_gt (Nat.lt_succ_of_lt hLlt), hnone _ (Nat.le_succ _)⟩
      rcases List.mem_cons.mp hq with rfl | hq
      · exact ⟨hoi, Nat.ne_of_gt hLlt, hnone _ (Nat.le_refl _)⟩
      · exact N5 q hq
    have hll5 := (N5 _ (.tail _ (.tail _ hlm))).1
    clear F3 N3 hT hk4 hk5
    dsimp only
    have hxv : ∃ p, ss[i]? = some p ∧ x = .str p.1 p.2 := by
      simp only [strVals, List.getElem?_toArray, List.getElem?_map, Option.map_eq_some_iff] at hx
      obtain ⟨p, h1, h2⟩ := hx
      exact ⟨p, h1, h2.symm⟩
    obtain ⟨⟨xs, xt⟩, hp1, rfl⟩ := hxv
    dsimp only at hT5 ⊢
    repeat (walk1; try dsimp only)
    have hmem : (xs, xt) ∈ ss := List.mem_of_getElem? hp1
    have hx0 : xt ≠ 0 := ht0 _ hmem
    have hfin : xs = y → i = pre.length := by
      rintro rfl
      rcases Nat.lt_or_ge i pre.length with h | h
      · exfalso
        rw [hss, List.getElem?_append_left h] at hp1
        exact hpre _ (List.mem_of_getElem? hp1) rfl
      · (exact om67 hi h)
    by_cases hxy : xs = y
    · have hie := hfin hxy
      subst hxy
      refine is_str_eq (X1.keeps (by with_reducible exact Fr.keep (by assumption))) hx0 hu fun bb => ?_
      have hend : ∀ (hh : Heap) (tk' : Nat) (m'' : Str → Option Value), Fr g1 L' hh m'' → News g1 L' hh ((I + 1, oe) :: (I, oi) :: rest) → K (.ret (.int (i : Nat) ti)) { s with heap := hh, toks := tk' } := fun hh tk' m'' F N => hV (hR1 (hie ▸ .mk ti hh tk' _ F (cb_drop N fun q hq => .tail _ (.tail _ hq))))
      cases bb
      · ktr_unf
        walk1; (try dsimp only)
        refine tT (beq_self_eq_true xs) ?_
        repeat (walk1; try dsimp only)
        exact hend _ _ _ (by assumption) (by assumption)
      · repeat (walk1; try dsimp only)
        exact hend _ _ _ (by assumption) (by assumption)
    · have hne : i ≠ pre.length := by
        intro e
        subst e
        rw [hss] at hp1
        simp at hp1
        exact hxy hp1.1.symm
      have hip : (xs, xt) ∈ pre := by
        rw [hss, List.getElem?_append_left (by (exact om66 hi hne))] at hp1
        exact List.mem_of_getElem? hp1
      refine is_str_ne hx0 hu (htu _ hip) hxy ?_
      ktr_unf
      walk1; (try dsimp only)
      refine tF (beq_eq_false_iff_ne.mpr hxy) ?_
      repeat (walk1; try dsimp only)
      (rename Fr _ _ _ _ => F9); (rename News _ _ _ _ => N9)
      have hil : i < ss.length := by
        have : i < (strVals ss).toArray.size := hin
        simpa using this
      refine hN (ss.length - (i + 1) + 1) (.inl rfl) (by (exact om65 hil)) (.mk (i + 1) _ _ _ (by (exact om64 hi hne)) ?_ F9 hb (cb_drop N9 fun q hq => .tail _ (.tail _ hq)))
      refine (W (ktrTop dp un gd cn cs L b ccd cl outer) rfl).frame (i + 1) h5 _ hst5 fun bb hbb o e => ?_
      rcases List.mem_cons.mp hbb with rfl | hbb
      · rw [hoe] at e
        cases e
        exact (N9 (I + 1, _) (.head _)).1
      rcases List.mem_cons.mp hbb with rfl | hbb
      · rw [hoi] at e
        cases e
        exact (N9 (bb, _) (.tail _ (.head _))).1
      · rw [List.mem_singleton.mp hbb] at e ⊢
        rw [hll5] at e
        cases e
        exact (N9 (l, _) (.tail _ (.tail _ hlm))).1
  · rintro r s' ⟨t, h', tk', m', F, N⟩
    refine hKF ?_
    exact leaveK_ F N fun Fo No => hret _ [] [] _ _ Fo No (fun p hp => nomatch hp) (fun p hp => nomatch hp) ⟨t, rfl, rfl, rfl⟩
end

section
open PySem PySem.W PyProof.Rows PySem.Calls PySem.Spec Builtin Builtin.ObjectAttr Builtin.Str
set_option maxHeartbeats 3000000
variable {w : World} {mean : ExcName → Option Value} {mg mb : Str → Option Value}
local macro_rules | `(tactic| size_fits) => `(tactic| assumption)
local macro_rules | `(tactic| ktr_unf) => `(tactic| repeat ((fail_if_success (with_reducible show wpAny _ _ (truthy (Value.bool _)) _ _ _)); walk1; try dsimp only))
theorem occW2 (c : Nat) : (occurrences (Str.ofString " \t\r\n") ⟨#[c]⟩ 0 (Str.ofString " \t\r\n").length 1).isEmpty = !isW c := by
  have hs : Str.ofString " \t\r\n" = ⟨#[32, 9, 13, 10]⟩ := by decide +kernel
  rw [hs]
  by_cases h1 : c = 10
  · subst h1; decide +kernel
  by_cases h2 : c = 9
  · subst h2; decide +kernel
  by_cases h3 : c = 13
  · subst h3; decide +kernel
  by_cases h4 : c = 32
  · subst h4; decide +kernel
  have e : isW c = false := by simp [isW, h1, h2, h3, h4]
  rw [e]
  simp [occurrences, Str.length, subAt, Ne.symm h1, Ne.symm h2, Ne.symm h3, Ne.symm h4, Id.run, List.range']
  rfl
local macro_rules | `(tactic| walk_at "loadName") => `(tactic| (k_here; (rename Fr _ _ _ _ => lF'); (with_unfolding_all refine ldn lF' (by assumption) ?_)))
noncomputable def esc (way : Nat) (acc : List Nat) (c : Nat) : Bool := way == 0 || c == 92 || (c == 34 && (way == 1 || acc == [])) || (way == 2 && isW c)
theorem app92 (acc : List Nat) : (⟨acc.toArray⟩ ++ Str.ofString "\\" : Str) = ⟨(acc ++ [92]).toArray⟩ := by
  rw [show Str.ofString "\\" = ⟨#[92]⟩ from by decide +kernel]
  exact cpsApp acc 92
noncomputable def wrL (way : Nat) : List Nat → List Nat → List Nat
  | acc, [] => acc
  | acc, c :: r => wrL way ((if esc way acc c then acc ++ [92] else acc) ++ [c]) r
theorem wrL_len2 (way : Nat) : ∀ (word acc : List Nat), (wrL way acc word).length ≤ acc.length + 2 * word.length
  | [], acc => by simp [wrL]
  | c :: r, acc => by
    rw [wrL]
    have h := wrL_len2 way r ((if esc way acc c = true then acc ++ [92] else acc) ++ [c])
    have h2 : ((if esc way acc c = true then acc ++ [92] else acc) ++ [c]).length ≤ acc.length + 2 := by split <;> simp
    simp only [List.length_cons]
    (exact om76 h h2)
theorem wrL_len (way : Nat) (word : List Nat) (h : word.length < 100) : (wrL way [] word).length ≤ 300 := by
  have := wrL_len2 way word []
  simp only [List.length_nil] at this
  (exact om75 h this)
noncomputable def writtenV (way : Nat) (word : List Nat) : List Nat := if way = 1 then 34 :: (wrL way [] word ++ [34]) else wrL way [] word
inductive WrR (g1 : Heap) (L' : Addr) (word : List Nat) (way : Nat) (ty : Tok) (rest : Led) (s : Shared) : Result → Shared → Prop
  | mk (t : Tok) (h' : Heap) (tk' : Nat) (m' : Str → Option Value) (F : Fr g1 L' h' m') (h1 : m' (Str.ofString "text") = some (.str ⟨(wrL way [] word).toArray⟩ t)) (h2 : m' (Str.ofString "way") = some (.int way ty)) (N : News g1 L' h' rest) : WrR g1 L' word way ty rest s (.ok .next) { s with heap := h', toks := tk' }
inductive WrI (g1 : Heap) (L' I : Addr) (word : List Nat) (tw : Tok) (way : Nat) (ty : Tok) (rest : Led) (s : Shared) : Nat → Shared → Prop
  | mk (i : Nat) (acc : List Nat) (h' : Heap) (tk' : Nat) (m' : Str → Option Value) (ta : Tok) (hi : i ≤ word.length) (st : h'.IsStrIter I "str_ascii_iterator" ⟨word.toArray⟩ tw i) (F : Fr g1 L' h' m') (h1 : m' (Str.ofString "text") = some (.str ⟨acc.toArray⟩ ta)) (h2 : m' (Str.ofString "way") = some (.int way ty)) (N : News g1 L' h' rest) (hl : acc.length ≤ 2 * i) (hw : wrL way acc (word.drop i) = wrL way [] word) : WrI g1 L' I word tw way ty rest s (word.length - i + 1) { s with heap := h', toks := tk' }
inductive WrP (g1 : Heap) (L' I : Addr) (oi : Obj) (way : Nat) (ty : Tok) (rest : Led) (s : Shared) (acc2 : List Nat) (c : Nat) : Flow → Shared → Prop
  | mk (h' : Heap) (tk' : Nat) (m' : Str → Option Value) (ta u : Tok) (F : Fr g1 L' h' m') (h1 : m' (Str.ofString "text") = some (.str ⟨acc2.toArray⟩ ta)) (h3 : m' (Str.ofString "sign") = some (.str ⟨#[c]⟩ u)) (h2 : m' (Str.ofString "way") = some (.int way ty)) (N : News g1 L' h' ((I, oi) :: rest)) : WrP g1 L' I oi way ty rest s acc2 c .next { s with heap := h', toks := tk' }
section
variable {g1 : Heap} {L' I : Addr} {oi : Obj} {way : Nat} {ty : Tok} {rest : Led} {s : Shared} {acc : List Nat} {c : Nat} {h' : Heap} {tk' : Nat} {m' : Str → Option Value} {ta u : Tok}
theorem WrP.t (he : esc way acc c = true) (F : Fr g1 L' h' m') (h1 : m' (Str.ofString "text") = some (.str (⟨acc.toArray⟩ ++ Str.ofString "\\") ta)) (h3 : m' (Str.ofString "sign") = some (.str ⟨#[c]⟩ u)) (h2 : m' (Str.ofString "way") = some (.int way ty)) (N : News g1 L' h' ((I, oi) :: rest)) : WrP g1 L' I oi way ty rest s (if esc way acc c then acc ++ [92] else acc) c .next { s with heap := h', toks := tk' } := by
  rw [app92] at h1
  rw [he]
  exact .mk _ _ _ _ _ F h1 h3 h2 N
theorem WrP.f (he : esc way acc c = false) (F : Fr g1 L' h' m') (h1 : m' (Str.ofString "text") = some (.str ⟨acc.toArray⟩ ta)) (h3 : m' (Str.ofString "sign") = some (.str ⟨#[c]⟩ u)) (h2 : m' (Str.ofString "way") = some (.int way ty)) (N : News g1 L' h' ((I, oi) :: rest)) : WrP g1 L' I oi way ty rest s (if esc way acc c then acc ++ [92] else acc) c .next { s with heap := h', toks := tk' } := by
  rw [he]
  exact .mk _ _ _ _ _ F h1 h3 h2 N
theorem esc_b (h : (c == 92) = true) : esc way acc c = true := by unfold esc; rw [h]; cases (way == 0) <;> rfl
theorem esc_n (h : (c == 92) = false) : esc 1 acc c = (c == 34) := by unfold esc; rw [h]; cases (c == 34) <;> rfl
theorem esc_2 (h : (c == 92) = false) (h2 : (c == 34) = false) : esc 2 acc c = isW c := by unfold esc; rw [h, h2]; rfl
theorem esc_3 (h : (acc == []) = false) (h2 : (c == 92) = false) : esc 2 acc c = isW c := by unfold esc; rw [h, h2]; cases (c == 34) <;> rfl
theorem esc_4 (h : (acc == []) = true) (h2 : (c == 34) = true) : esc 2 acc c = true := by unfold esc; rw [h, h2]; cases (c == 92) <;> rfl
end
theorem sfL {l : List Nat} {n : Nat} {y : Str} (h : l.length ≤ n) (hn : n ≤ 1000) (hy : y.length ≤ 1) : (⟨l.toArray⟩ : Str).length + y.length ≤ sizeLine := by
  rw [sizeLine_eq]
  exact Nat.le_trans (Nat.add_le_add (Nat.le_trans h hn) hy) (by decide)
theorem sfW {l m : List Nat} {n c : Nat} (h : l.length ≤ n) (hn : n ≤ 1000) (hm : m.length ≤ 4) : (⟨l.toArray⟩ : Str).length + (⟨m.toArray⟩ ++ ⟨[c].toArray⟩ : Str).length ≤ sizeLine := by
  rw [cpsApp, sizeLine_eq]
  exact Nat.le_trans (Nat.add_le_add (Nat.le_trans h hn) (Nat.le_trans (Nat.le_of_eq List.length_append) (Nat.succ_le_succ hm))) (by decide)
theorem sfQ {l : List Nat} (h : l.length ≤ 300) : (Str.ofString "\"").length + (⟨l.toArray⟩ : Str).length ≤ sizeLine := Nat.add_comm _ _ ▸ sfL h (by decide) (by decide)
theorem sfR {l : List Nat} (h : l.length ≤ 300) : (Str.ofString "\"" ++ ⟨l.toArray⟩ : Str).length + (Str.ofString "\"").length ≤ sizeLine := by
  have e : (Str.ofString "\"" ++ ⟨l.toArray⟩ : Str) = ⟨(34 :: l).toArray⟩ := by
    rw [show Str.ofString "\"" = ⟨#[34]⟩ from by decide +kernel]
    show (⟨#[34] ++ l.toArray⟩ : Str) = _
    simp
  rw [e]
  exact sfL (n := 301) (Nat.succ_le_succ h) (by decide) (by decide)
theorem written_w (word : List Nat) (tw : Tok) (way : Nat) (hway : way < 3) (ty : Tok) (hz : word.length < 100) (ha : (word.toArray.all (· < 128)) = true) : PySem.Challenge.rw_xj0013_01 = PySem.Challenge.rw_xj0013_01 → hd.heap_1 = hd.heap_1 →
    ClaimL w mean mg mb 0 (.ref 196) [.str ⟨word.toArray⟩ tw, .int way ty] [] (fun _ => True)
    (fun v' post extra => ∃ t, v' = .str ⟨(writtenV way word).toArray⟩ t ∧ post = [] ∧ extra = []) := by
  k_fill; intro _ _ dp un gd cn cs b ccd cl outer A₀ base h₀ L m rest s Q E hB hF hX hN hO hR hT hk hdp hun hret
  refine wpAny_call ?_
  k_dflt cell_enter
  refine cutQ ?_
  intro KF KEF hKF _hKE
  repeat ((fail_if_success (with_reducible show wpAny _ _ (PySem.exec (Stmt.For _ _ _ _ _) _) _ _ _)); walk1; try dsimp only)
  rename_i g1 L' h0 FG B1 X1 T1 tka h1 F1 N1
  refine wpAny_For ?_ (by intro _; rfl)
  walk1; (try dsimp only)
  refine wpAny_pyIter_ascii ha ?_
  have hnl : ∀ q ∈ rest, q.1 < h1.objs.size := fun q hq => Heap.lt_size (N1 q hq).1
  have hLlt : L' < h1.objs.size := F1.ns.lt
  have hg1lt : ∀ b o, g1.get? b = some o → b < h1.objs.size := fun b o e => Heap.lt_size (F1.keep b o e)
  have F2 := F1.push { cls := .type "str_ascii_iterator", data := .fields #[.str ⟨word.toArray⟩ tw, .int 0 0] }
  have N2 := N1.push F1 { cls := .type "str_ascii_iterator", data := .fields #[.str ⟨word.toArray⟩ tw, .int 0 0] }
  have W := fun (A : Around) (hh : A.handled = none) => Walks.strAscii (prog := PySem.Challenge.pw_xj0013_01) (w := w) (A := A) hh h1.objs.size ⟨word.toArray⟩ tw
  have hst0 : (h1.push { cls := .type "str_ascii_iterator", data := .fields #[.str ⟨word.toArray⟩ tw, .int 0 0] }).IsStrIter h1.objs.size "str_ascii_iterator" ⟨word.toArray⟩ tw 0 := ⟨_, Heap.get?_push_size _ rfl, rfl, rfl⟩
  dsimp only
  generalize h1.objs.size = I at *
  have next : ∀ {h h' : Heap} {m' : Str → Option Value}, Fr g1 L' h m' → News g1 L' h rest → (∀ b o, b ∉ [I] → h.get? b = some o → h'.get? b = some o) → Fr g1 L' h' m' ∧ News g1 L' h' rest := fun F N hk =>
    ⟨⟨F.ns.at' fun o e => hk _ o (fun hm => Nat.ne_of_lt hLlt (List.mem_singleton.mp hm)) e, fun b o e => hk b o (fun hm => Nat.ne_of_lt (hg1lt b o e) (List.mem_singleton.mp hm)) (F.keep b o e), F.above⟩, fun q hq => ⟨hk _ _ (fun hm => Nat.ne_of_lt (hnl q hq) (List.mem_singleton.mp hm)) (N q hq).1, (N q hq).2⟩⟩
  clear F1 N1
  refine codeCut (WrR g1 L' word way ty rest s) ?_ ?_
  · intro R1 hR1
    refine forLC (WrI g1 L' I word tw way ty rest s) ?_ _ (.mk 0 [] _ _ _ _ (Nat.zero_le _) hst0 F2 rfl rfl (cb_drop N2 (fun q hq => .tail _ hq)) (Nat.zero_le _) rfl)
    rintro n s' ⟨i, acc, h', tk', m', ta, hi, hst, F3, htx, hwy, N3, hal, hwr⟩
    refine TurnL.of ?_
    intro K K0 KE hN _hB _hV h0
    by_cases hin : i < word.length
    · refine (W _ rfl).item i _ _ _ (by simpa using hin) hst fun v h4 tk4 hP hst4 hk4 => ?_
      dsimp only
      refine wpAny_pure ?_
      obtain ⟨c, u, hc, rfl⟩ := hP
      have hc' : word[i]? = some c := by simpa using hc
      obtain ⟨F4, N4⟩ := next F3 N3 hk4
      obtain ⟨oi, hoi⟩ : ∃ oi, h4.get? I = some oi := by obtain ⟨o, he, -⟩ := hst4; exact ⟨_, he⟩
      have hIn : g1.get? I = none := by
        cases e : g1.get? I with
        | none => rfl
        | some o => exact absurd (hg1lt I o e) (Nat.lt_irrefl _)
      have N5 : News g1 L' h4 ((I, oi) :: rest) := fun q hq => by
        rcases List.mem_cons.mp hq with rfl | hq
        · exact ⟨hoi, Nat.ne_of_gt hLlt, hIn⟩
        · exact N4 q hq
      clear F3 N3 N4 hk4
      have hdr : word.drop i = c :: word.drop (i + 1) := by
        rw [List.drop_eq_getElem_cons hin]
        congr 1
        exact Option.some.inj ((List.getElem?_eq_getElem hin).symm.trans hc')
      rw [hdr, wrL] at hwr
      iterate 2 (walk1; try dsimp only)
      refine wpAny_execs_cons ?_
      refine cutP (WrP g1 L' I oi way ty rest s (if esc way acc c then acc ++ [92] else acc) c) ?_ ?_
      · intro K3 hK3
        have hA : (⟨acc.toArray⟩ : Str).length + (Str.ofString "\\").length ≤ sizeLine := sfL hal (Nat.le_trans (Nat.mul_le_mul_left 2 (Nat.le_of_lt (Nat.lt_trans hin hz))) (by decide)) (by decide)
        ktr_unf
        rcases (show way = 0 ∨ way = 1 ∨ way = 2 by (exact om69 hway)) with rfl | rfl | rfl
        · refine tT rfl ?_
          repeat (walk1; try dsimp only)
          (rename Fr _ _ _ _ => FF)
          exact hK3 (WrP.t rfl FF rfl rfl hwy (by assumption))
        · refine tF rfl ?_
          ktr_unf
          refine tCut (ch92 c) (fun hb => ?_) (fun hb => ?_)
          · try dsimp only
            ktr_unf
            refine tCut (ch34 c) (fun hq => ?_) (fun hq => ?_)
            · try dsimp only
              ktr_unf
              refine tF rfl ?_
              repeat (walk1; try dsimp only)
              (rename Fr _ _ _ _ => FF)
              exact hK3 (WrP.f ((esc_n hb).trans hq) FF htx rfl hwy (by assumption))
            · try dsimp only
              ktr_unf
              refine tT rfl ?_
              repeat (walk1; try dsimp only)
              (rename Fr _ _ _ _ => FF)
              exact hK3 (WrP.t ((esc_n hb).trans hq) FF rfl rfl hwy (by assumption))
          · repeat (walk1; try dsimp only)
            (rename Fr _ _ _ _ => FF)
            exact hK3 (WrP.t (esc_b hb) FF rfl rfl hwy (by assumption))
        · refine tF rfl ?_
          ktr_unf
          refine tCut (ch92 c) (fun hb => ?_) (fun hb => ?_)
          · try dsimp only
            ktr_unf
            refine tCut (ch34 c) (fun hq => ?_) (fun hq => ?_)
            · try dsimp only
              ktr_unf
              refine tT rfl ?_
              ktr_unf
              refine tCut (b := isW c) (by rw [occW2, Bool.not_not]) (fun hw => ?_) (fun hw => ?_)
              · repeat (walk1; try dsimp only)
                (rename Fr _ _ _ _ => FF)
                exact hK3 (WrP.f ((esc_2 hb hq).trans hw) FF htx rfl hwy (by assumption))
              · repeat (walk1; try dsimp only)
                (rename Fr _ _ _ _ => FF)
                exact hK3 (WrP.t ((esc_2 hb hq).trans hw) FF rfl rfl hwy (by assumption))
            · try dsimp only
              ktr_unf
              refine tF rfl ?_
              ktr_unf
              refine tCut (b := acc == []) (by cases acc <;> rfl) (fun hac => ?_) (fun hac => ?_)
              · try dsimp only
                ktr_unf
                refine tT rfl ?_
                ktr_unf
                refine tCut (b := isW c) (by rw [occW2, Bool.not_not]) (fun hw => ?_) (fun hw => ?_)
                · repeat (walk1; try dsimp only)
                  (rename Fr _ _ _ _ => FF)
                  exact hK3 (WrP.f ((esc_3 hac hb).trans hw) FF htx rfl hwy (by assumption))
                · repeat (walk1; try dsimp only)
                  (rename Fr _ _ _ _ => FF)
                  exact hK3 (WrP.t ((esc_3 hac hb).trans hw) FF rfl rfl hwy (by assumption))
              · repeat (walk1; try dsimp only)
                (rename Fr _ _ _ _ => FF)
                exact hK3 (WrP.t (esc_4 hac hq) FF rfl rfl hwy (by assumption))
          · repeat (walk1; try dsimp only)
            (rename Fr _ _ _ _ => FF)
            exact hK3 (WrP.t (esc_b hb) FF rfl rfl hwy (by assumption))
      · rintro f s' ⟨h5, tk5, m5, ta5, u5, F5, ht5, hs5, hw5, N5⟩
        dsimp only
        have hl2 : (if esc way acc c = true then acc ++ [92] else acc).length ≤ 2 * i + 1 := by split <;> (try simp) <;> (first | exact om73 hal | exact om74 hal)
        generalize (if esc way acc c = true then acc ++ [92] else acc) = acc2 at *
        have hA : (⟨acc2.toArray⟩ : Str).length + (⟨#[c]⟩ : Str).length ≤ sizeLine := sfL hl2 (Nat.le_trans (Nat.succ_le_succ (Nat.mul_le_mul_left 2 (Nat.le_of_lt (Nat.lt_trans hin hz)))) (by decide)) (Nat.le_refl _)
        repeat (walk1; try dsimp only)
        (rename Fr _ _ _ _ => FF); (rename News _ _ _ _ => NN)
        have hst5 : ∃ o, h4.get? I = some o ∧ o.cls = .type "str_ascii_iterator" ∧ o.data = .fields #[.str ⟨word.toArray⟩ tw, .int (i + 1 : Nat) 0] := hst4
        obtain ⟨o, ho, hc1, hc2⟩ := hst5
        rw [hoi] at ho
        cases ho
        exact hN (word.length - (i + 1) + 1) (.inl rfl) (by (exact om65 hin)) (.mk (i + 1) (acc2 ++ [c]) _ _ _ _ (by (exact om72 hin)) ⟨oi, (NN (I, oi) (.head _)).1, hc1, hc2⟩ FF (congrArg (fun z => some (Value.str z _)) (cpsApp acc2 c)) hw5 (cb_drop NN (fun q hq => .tail _ hq)) (by rw [List.length_append]; (exact om71 hl2)) hwr)
    · have hie : i = word.length := by (exact om70 hi hin)
      subst hie
      refine (W _ rfl).done _ _ _ (by simpa using hst) fun h4 tk4 hk4 => ?_
      obtain ⟨F4, N4⟩ := next F3 N3 hk4
      refine wpAny_execs_nil ?_
      simp only [List.drop_length, wrL] at hwr
      exact h0 (hR1 (.mk ta _ _ _ F4 (by rw [← hwr]; exact htx) hwy N4))
  · rintro r s' ⟨t, h', tk', m', F, ht, hw, N⟩
    dsimp only
    have hle : (wrL way [] word).length ≤ 300 := wrL_len way word hz
    generalize hg : wrL way [] word = tx at *
    have hA := sfQ hle
    have hA2 := sfR hle
    clear F2 N2
    rcases (show way = 0 ∨ way = 1 ∨ way = 2 by (exact om69 hway)) with rfl | rfl | rfl
    · repeat (walk1; try dsimp only)
      refine hKF ?_
      repeat (walk1; try dsimp only)
      rw [show writtenV 0 word = tx from hg] at hret
      exact hret _ [] [] _ _ (by assumption) (by assumption) (fun p hp => nomatch hp) (fun p hp => nomatch hp) ⟨_, rfl, rfl, rfl⟩
    · repeat (walk1; try dsimp only)
      refine hKF ?_
      repeat (walk1; try dsimp only)
      rw [show writtenV 1 word = 34 :: (tx ++ [34]) from by rw [← hg]; rfl] at hret
      rw [show (Str.ofString "\"" ++ ⟨tx.toArray⟩ ++ Str.ofString "\"" : Str) = ⟨(34 :: (tx ++ [34])).toArray⟩ from by
        rw [show Str.ofString "\"" = ⟨#[34]⟩ from by decide +kernel]
        show (⟨(#[34] ++ tx.toArray) ++ #[34]⟩ : Str) = _
        simp]
      exact hret _ [] [] _ _ (by assumption) (by assumption) (fun p hp => nomatch hp) (fun p hp => nomatch hp) ⟨_, rfl, rfl, rfl⟩
    · repeat (walk1; try dsimp only)
      refine hKF ?_
      repeat (walk1; try dsimp only)
      rw [show writtenV 2 word = tx from hg] at hret
      exact hret _ [] [] _ _ (by assumption) (by assumption) (fun p hp => nomatch hp) (fun p hp => nomatch hp) ⟨_, rfl, rfl, rfl⟩
end

section
open PySem PySem.W PyProof.Rows PySem.Calls PySem.Spec Builtin Builtin.ObjectAttr Builtin.Str
set_option maxHeartbeats 3000000
inductive JI (GP : Array GenState → Prop) (h₀ : Heap) (L : Addr) (s : Shared) (St : Nat → Heap → Prop) (I : Addr) (J : Nat → (Str → Option Value) → Led → Prop) (n k : Nat) (s' : Shared) : Prop
  | mk (i : Nat) (h' : Heap) (tk' : Nat) (gs : Array GenState) (m' : Str → Option Value) (news' : Led) (en : k = n - i + 1) (hi : i ≤ n) (e : s' = { s with heap := h', toks := tk', gens := gs }) (hG : GP gs) (st : St i h') (F : Fr h₀ L h' m') (N : News h₀ L h' news') (hI : ∀ p ∈ news', p.1 ≠ I) (hJ : J i m' news')
section
variable {prog : Program} {w : World} {A : Around} {s : Shared} {env : Env} {h₀ : Heap} {target : Expr} {body : List Stmt} {R : Result → Shared → Prop}
/-- a loop by an invariant of its frame and its ledger; K, KE stand for what is behind the turn -/
theorem forX {I : Addr} {keep : Led} {n : Nat} {P : Nat → Value → Prop} {St : Nat → Heap → Prop} {m : Str → Option Value} {news : Led} (GP : Array GenState → Prop)
    (W : Walks prog w A I (I :: keep.map (·.1)) [I] n P St)
    (hgo : ∀ i v (s : Shared) (Q : Unit → Shared → Prop) (E : Value → Shared → Prop), St i s.heap → Q () s → wpAny (model prog w) A (letOwnedTupleGo target (.ref I) v) Q E s)
    (hobj : ∀ i h, St i h → ∃ o, h.get? I = some o) (hst : St 0 s.heap) (F : Fr h₀ env.locals s.heap m) (N : News h₀ env.locals s.heap news) (hI : ∀ p ∈ news, p.1 ≠ I) (hIL : env.locals ≠ I) (hIn : h₀.get? I = none)
    (J : Nat → (Str → Option Value) → Led → Prop) (h0 : J 0 m news) (hkeep : ∀ i m' news', J i m' news' → ∀ q ∈ keep, q ∈ news') (hG : GP s.gens)
    (step : ∀ i v m₁ news₁ h₁ tk₁ gs₁ it, i < n → P i v → J i m₁ news₁ → GP gs₁ → Fr h₀ env.locals h₁ m₁ → News h₀ env.locals h₁ ((I, it) :: news₁) → (∀ p ∈ news₁, p.1 ≠ I) → ∀ (K : Flow → Shared → Prop) (KE : Value → Shared → Prop),
      (∀ {f h' tk gs m' news'}, f = .next ∨ f = .cont → GP gs → Fr h₀ env.locals h' m' → News h₀ env.locals h' ((I, it) :: news') → (∀ p ∈ news', p.1 ≠ I) → J (i + 1) m' news' → K f { s with heap := h', toks := tk, gens := gs }) → (∀ {v s₃}, R (.ok (.ret v)) s₃ → K (.ret v) s₃) →
      wpAny (model prog w) A (assign target env v) (fun _ s₂ => wpAny (model prog w) A (execs body env) K KE s₂) KE { s with heap := h₁, toks := tk₁, gens := gs₁ })
    (fin : ∀ h' tk' gs' m' news', GP gs' → Fr h₀ env.locals h' m' → News h₀ env.locals h' news' → J n m' news' → R (.ok .next) { s with heap := h', toks := tk', gens := gs' }) :
    codeAny (model prog w) A (.forLoop target (.ref I) body [] env) R s := by
  have nin : ∀ {b : Addr}, b ≠ I → b ∉ [I] := fun hb hm => hb (List.mem_singleton.mp hm)
  refine forLC (JI GP h₀ env.locals s St I J n) ?_ _ ⟨0, _, _, _, _, _, rfl, Nat.zero_le _, rfl, hG, hst, F, N, hI, h0⟩
  rintro k s' ⟨i, h', tk', gs0, m', news', rfl, hi, rfl, hG0, hst, F, N, hI, hJ⟩ K K0 KE hN _ hV hK0
  have next : ∀ h₁ : Heap, (∀ b o, b ∉ [I] → h'.get? b = some o → h₁.get? b = some o) → Fr h₀ env.locals h₁ m' ∧ News h₀ env.locals h₁ news' := fun h₁ hk =>
    ⟨⟨F.ns.at' fun o e => hk _ o (nin hIL) e, fun b o e => hk b o (nin fun hb => by rw [hb, hIn] at e; cases e) (F.keep b o e), F.above⟩, fun q hq => ⟨hk _ _ (nin (hI q hq)) (N q hq).1, (N q hq).2⟩⟩
  by_cases hin : i < n
  · refine W.item i _ _ _ hin hst fun v h₁ tk₁ hP hst₁ hk => ?_
    obtain ⟨F₁, N₁⟩ := next h₁ hk
    obtain ⟨it, hit⟩ := hobj _ _ hst₁
    refine hgo (i + 1) v _ _ _ hst₁ ?_
    have N₂ : News h₀ env.locals h₁ ((I, it) :: news') := fun q hq => by
      rcases List.mem_cons.mp hq with rfl | hq
      · exact ⟨hit, Ne.symm hIL, hIn⟩
      · exact N₁ q hq
    refine step i v m' news' h₁ tk₁ gs0 it hin hP hJ hG0 F₁ N₂ hI K KE ?_ hV
    intro f h₂ tk₂ gs₂ m₂ news₂ hf hG₂ F₂ N₃ hI₂ hJ₂
    refine hN (n - (i + 1) + 1) hf (Nat.succ_lt_succ (Nat.sub_lt_sub_left hin (Nat.lt_succ_self i))) ⟨i + 1, h₂, tk₂, gs₂, m₂, news₂, rfl, hin, rfl, hG₂, ?_, F₂, fun q hq => N₃ q (.tail _ hq), hI₂, hJ₂⟩
    refine W.frame _ _ _ hst₁ fun b hb o e => ?_
    rcases List.mem_cons.mp hb with rfl | hb
    · rw [hit] at e
      cases e
      exact (N₃ (b, it) (.head _)).1
    · obtain ⟨q, hq, rfl⟩ := List.mem_map.mp hb
      have e1 := (N₁ q (hkeep _ _ _ hJ q hq)).1
      rw [e1] at e
      cases e
      exact (N₃ q (.tail _ (hkeep _ _ _ hJ₂ q hq))).1
  · have hie : i = n := Nat.le_antisymm hi (Nat.le_of_not_lt hin)
    subst hie
    refine W.done _ _ _ hst fun h₁ tk₁ hk => ?_
    obtain ⟨F₁, N₁⟩ := next h₁ hk
    exact wpAny_execs_nil (hK0 (fin _ _ _ _ _ hG0 F₁ N₁ hJ))
theorem pyIter_rangeJ {E : Value → Shared → Prop} {x : Str} {px : Pos} {r : Addr} {n : Nat} {t u v : Tok} {m : Str → Option Value} {news : Led} (hh : A.handled = none) (hr : IsRange s.heap r 0 n 1 t u v) (hn : n < 2 ^ 60)
    (F : Fr h₀ env.locals s.heap m) (N : News h₀ env.locals s.heap news) (J : Nat → (Str → Option Value) → Led → Prop) (h0 : J 0 m news)
    (step : ∀ i t m₁ news₁ h₁ tk₁ I it, i < n → J i m₁ news₁ → Fr h₀ env.locals h₁ m₁ → News h₀ env.locals h₁ ((I, it) :: news₁) → (∀ p ∈ news₁, p.1 ≠ I) →
      ∀ (K : Flow → Shared → Prop) (KE : Value → Shared → Prop),
      (∀ {f h' tk m' news'}, f = .next ∨ f = .cont → Fr h₀ env.locals h' m' → News h₀ env.locals h' ((I, it) :: news') → (∀ p ∈ news', p.1 ≠ I) → J (i + 1) m' news' → K f { s with heap := h', toks := tk }) → (∀ {v s₃}, R (.ok (.ret v)) s₃ → K (.ret v) s₃) →
      wpAny (model prog w) A (assign (.Name x px) env (.int (i : Nat) t)) (fun _ s₂ => wpAny (model prog w) A (execs body env) K KE s₂) KE { s with heap := h₁, toks := tk₁ })
    (fin : ∀ h' tk' m' news', Fr h₀ env.locals h' m' → News h₀ env.locals h' news' → J n m' news' → R (.ok .next) { s with heap := h', toks := tk' }) :
    wpAny (model prog w) A (pyIter (.ref r)) (fun it s₂ => codeAny (model prog w) A (.forLoop (.Name x px) it body [] env) R s₂) E s := by
  have hsz : Builtin.Range.rangeSize 0 n 1 = (n : Int) := by
    unfold Builtin.Range.rangeSize
    rw [if_pos (by decide)]
    split <;> (first | exact om93 | exact om94 (by assumption))
  refine wpAny_pyIter_range hr (by
    have hf : Builtin.Range.rangeFitsLong (n : Int) = true := by simp [Builtin.Range.rangeFitsLong]; (exact om354 hn)
    unfold Builtin.Range.small
    rw [if_pos (by decide), show (n : Int) + (1 - 1) = n from by (exact om91), hsz, hf]
    simp [show Builtin.Range.rangeFitsLong 0 = true from by decide, show Builtin.Range.rangeFitsLong 1 = true from by decide]) ?_
  have hlt : ∀ p ∈ news, p.1 ≠ s.heap.objs.size := fun p hp => Nat.ne_of_lt (Heap.lt_size (N p hp).1)
  have hW := fun (A : Around) (hh : A.handled = none) => Walks.range (prog := prog) (w := w) (A := A) hh s.heap.objs.size 0 1 n
  refine forX (keep := []) (· = s.gens) (hW A hh) (fun _ _ _ _ _ _ q => wpAny_pure q) (fun i h st => ⟨_, st⟩) (by show IsRangeIter _ _ _ _ _; rw [hsz]; simpa using Heap.get?_push_size _ rfl) (F.push _) (fun p hp => ⟨Heap.get?_push_of_some _ (N p hp).1, (N p hp).2⟩) hlt (Nat.ne_of_lt F.ns.lt) (next_is_new F) J h0 (fun _ _ _ _ _ hq => nomatch hq) rfl ?_ ?_
  · rintro i v m₁ news₁ h₁ tk₁ gs₁ it hi hP hJ rfl F₁ N₁ hI K KE hK hV
    obtain ⟨t, rfl⟩ := hP
    have e : (0 : Int) + (i : Int) * 1 = (i : Nat) := by rw [Int.zero_add, Int.mul_one]
    rw [e]
    exact step i t m₁ news₁ h₁ tk₁ _ it hi hJ F₁ N₁ hI K KE (fun hf F' N' hI' hJ' => hK hf rfl F' N' hI' hJ') hV
  · rintro h' tk' gs' m' news' rfl F' N' hJ
    exact fin h' tk' m' news' F' N' hJ
theorem pyIter_listJ {E : Value → Shared → Prop} {l : Addr} {vs : List Value} {nl : Nat} {m : Str → Option Value} {news : Led} (hh : A.handled = none) (hl : (l, W.listOf vs.toArray nl) ∈ news)
    (F : Fr h₀ env.locals s.heap m) (N : News h₀ env.locals s.heap news) (J : Nat → (Str → Option Value) → Led → Prop) (h0 : J 0 m news) (hkeep : ∀ i m' news', J i m' news' → (l, W.listOf vs.toArray nl) ∈ news')
    (step : ∀ i v m₁ news₁ h₁ tk₁ I it, vs[i]? = some v → J i m₁ news₁ → Fr h₀ env.locals h₁ m₁ → News h₀ env.locals h₁ ((I, it) :: news₁) → (∀ p ∈ news₁, p.1 ≠ I) →
      ∀ (K : Flow → Shared → Prop) (KE : Value → Shared → Prop),
      (∀ {f h' tk m' news'}, f = .next ∨ f = .cont → Fr h₀ env.locals h' m' → News h₀ env.locals h' ((I, it) :: news') → (∀ p ∈ news', p.1 ≠ I) → J (i + 1) m' news' → K f { s with heap := h', toks := tk }) → (∀ {v s₃}, R (.ok (.ret v)) s₃ → K (.ret v) s₃) →
      wpAny (model prog w) A (assign target env v) (fun _ s₂ => wpAny (model prog w) A (execs body env) K KE s₂) KE { s with heap := h₁, toks := tk₁ })
    (fin : ∀ h' tk' m' news', Fr h₀ env.locals h' m' → News h₀ env.locals h' news' → J vs.length m' news' → R (.ok .next) { s with heap := h', toks := tk' }) :
    wpAny (model prog w) A (pyIter (.ref l)) (fun it s₂ => codeAny (model prog w) A (.forLoop target it body [] env) R s₂) E s := by
  have hll := (N _ hl).1
  have hlt : ∀ p ∈ news, p.1 ≠ s.heap.objs.size := fun p hp => Nat.ne_of_lt (Heap.lt_size (N p hp).1)
  have hL : s.heap.IsList l vs.toArray := ⟨_, hll, rfl, _, rfl⟩
  refine wpAny_pyIter_list hL ?_
  refine forX (keep := [(l, W.listOf vs.toArray nl)]) (· = s.gens) (Walks.list hh s.heap.objs.size l (Nat.ne_of_lt (Heap.lt_size hll)) vs.toArray) (fun i v s Q E st q => letGo_listiter st.1 q) (fun i h st => ?_) ?_ (F.push _) (fun p hp => ⟨Heap.get?_push_of_some _ (N p hp).1, (N p hp).2⟩) hlt (Nat.ne_of_lt F.ns.lt) (next_is_new F) J h0 (fun i m' n' hJ q hq => by rw [List.mem_singleton.mp hq]; exact hkeep i m' n' hJ) rfl ?_ ?_
  · obtain ⟨⟨o, ho, -⟩, -⟩ := st
    exact ⟨o, ho⟩
  · exact ⟨⟨_, Heap.get?_push_size _ rfl, rfl, rfl⟩, hL.at fun o e => Heap.get?_push_of_some _ e⟩
  · rintro i v m₁ news₁ h₁ tk₁ gs₁ it hi hP hJ rfl F₁ N₁ hI K KE hK hV
    exact step i v m₁ news₁ h₁ tk₁ _ it (by simpa using hP) hJ F₁ N₁ hI K KE (fun hf F' N' hI' hJ' => hK hf rfl F' N' hI' hJ') hV
  · rintro h' tk' gs' m' news' rfl F' N' hJ
    exact fin h' tk' m' news' F' N' (by simpa using hJ)
end
end

end

section
open PySem PySem.W PyProof.Rows PySem.Calls PySem.Spec Builtin Builtin.ObjectAttr Builtin.Str
set_option maxHeartbeats 3000000
variable {w : World} {mean : ExcName → Option Value} {mg mb : Str → Option Value}
local macro_rules | `(tactic| size_fits) => `(tactic| assumption)
local macro_rules | `(tactic| walk_at "eval Name") => `(tactic| (k_here; (with_reducible show wpAny _ _ (PySem.eval (Expr.Name _ _) (envOf _ _ _ _ _)) _ _ _); (rename Fr _ _ _ _ => lF'); (with_unfolding_all refine ld lF' (by assumption) ?_)))
local macro_rules | `(tactic| walk_at "loadName") => `(tactic| (k_here; (rename Fr _ _ _ _ => lF'); (with_unfolding_all refine ldn lF' (by assumption) ?_)))
local macro_rules | `(tactic| ktr_unf) => `(tactic| repeat ((fail_if_success (with_reducible show wpAny _ _ (PySem.exec (Stmt.For _ _ _ _ _) _) _ _ _)); walk1; try dsimp only))
noncomputable abbrev intVals (os : List (Nat × Tok)) : List Value := os.map fun p => .int p.1 p.2
noncomputable def sg (o : Nat) : Nat := [34, 92, 32, 35].getD o 0
noncomputable def wh (o : Nat) : Nat := [10, 9, 13, 32].getD o 0
noncomputable def fileL (way : Nat) : Nat → List Nat → List Nat
  | _, [] => []
  | k, o :: r => writtenV ((way + k) % 3) [sg o] ++ wh ((way / 3 + k) % 4) :: fileL way (k + 1) r
theorem writtenV_len (way c : Nat) : (writtenV way [c]).length ≤ 4 := by
  have := wrL_len2 way [c] []
  unfold writtenV
  simp only [List.length_nil, List.length_cons] at this
  split
  · simp; (exact om87 this)
  · (exact om86 this)
theorem cpsApp2 (l m : List Nat) : (⟨l.toArray⟩ ++ ⟨m.toArray⟩ : Str) = ⟨(l ++ m).toArray⟩ := by
  show (⟨l.toArray ++ m.toArray⟩ : Str) = _
  simp
theorem list_item {prog : Program} {w : World} {A : Around} {E : Value → Shared → Prop} {s : Shared} {value slice : PySem.Expr} {l : Addr} {vs : List Value} {k : Int} {u : Tok} {v : Value} {Q : Value → Shared → Prop}
    (hl : s.heap.IsList l vs.toArray) (h0 : 0 ≤ k) (hhi : k < 2 ^ 63) (hx : vs[k.toNat]? = some v) (h : Q v s)
    (hs : subscripted slice false (.ref l) (.int k u) = operate [.ref l, .int k u] (getItem (.ref l) (.int k u)) := by with_unfolding_all rfl) (hg : ∀ r, letTemporaryGo value (.ref l) r = pure () := by intro _; with_unfolding_all rfl) :
    wpAny (model prog w) A (subscriptTail value slice (.ref l) (.int k u)) Q E s := by
  first
  | exact tail_any hl.typeIs slot_list_getitem.lookup (wpAny_getItem_list hl h0 hhi (by simpa using hx) h) hs
  | exact tail_any hl.typeIs slot_list_getitem.lookup (wpAny_getItem_list hl h0 hhi (by simpa using hx) h) hs hg
theorem isListOf {h₀ h : Heap} {L l : Addr} {vs : List Value} {n : Nat} {news : Led} (N : News h₀ L h news) (hm : (l, W.listOf vs.toArray n) ∈ news) : h.IsList l vs.toArray := ⟨_, (N _ hm).1, rfl, _, rfl⟩
inductive FileJ (os : List (Nat × Tok)) (lo lsg lwh : Addr) (way : Nat) (ty : Tok) (rest : Led) (i : Nat) (m' : Str → Option Value) (news' : Led) : Prop
  | mk (acc : List Nat) (ta t0 t1 t2 t3 u0 u1 u2 u3 : Tok) (sn wn : Nat) (h1 : m' (Str.ofString "text") = some (.str ⟨acc.toArray⟩ ta)) (h2 : m' (Str.ofString "signs") = some (.ref lsg)) (h3 : m' (Str.ofString "whites") = some (.ref lwh)) (h4 : m' (Str.ofString "orders") = some (.ref lo)) (h5 : m' (Str.ofString "way") = some (.int way ty))
    (h6 : (lwh, W.listOf [.str (Str.ofString "\n") t0, .str (Str.ofString "\t") t1, .str (Str.ofString "\r") t2, .str (Str.ofString " ") t3].toArray wn) ∈ news') (h7 : (lsg, W.listOf [.str (Str.ofString "\"") u0, .str (Str.ofString "\\") u1, .str (Str.ofString " ") u2, .str (Str.ofString "#") u3].toArray sn) ∈ news') (h8 : ∀ q ∈ rest, q ∈ news') (h9 : acc.length ≤ 5 * i) (ha : acc ++ fileL way i ((os.map (·.1)).drop i) = fileL way 0 (os.map (·.1)))
theorem file_w (os : List (Nat × Tok)) (lo : Addr) (nl : Nat) (way : Nat) (ty : Tok) (hlen : os.length < 10) (hos : ∀ p ∈ os, p.1 < 4) (hway : way < 1000000) : PySem.Challenge.rw_xj0013_01 = PySem.Challenge.rw_xj0013_01 → hd.heap_1 = hd.heap_1 →
    ClaimL w mean mg mb 1 (.ref 203) [.ref lo, .int way ty] [] (fun rest => (lo, W.listOf (intVals os).toArray nl) ∈ rest)
    (fun v' post extra => ∃ t, v' = .str ⟨(fileL way 0 (os.map (·.1))).toArray⟩ t ∧ post = [] ∧ extra = []) := by
  k_fill; intro _ _ dp un gd cn cs b ccd cl outer A₀ base h₀ L m rest s Q E hB hF hX hN hO hR hT hk hdp hun hret
  have hlo := hR
  refine wpAny_call ?_
  k_dflt cell_enter
  refine cutQ ?_
  intro KF KEF hKF _hKE
  ktr_unf
  refine wpAny_For ?_ (by intro _; rfl)
  repeat ((fail_if_success (with_reducible show wpAny _ _ (PySem.call (Value.builtin "len") _) _ _ _)); walk1; try dsimp only)
  rename_i g1 L' h1 FG B1 X1 T1 _ lsg hA _ hB _ lwh hC _ hD _ h2 F2 N2
  refine Calls.call_len_list (items := (intVals os).toArray) (isListOf N2 (.tail _ (.tail _ hlo))) (by simp; (exact om85 hlen)) ?_
  repeat (walk1; try dsimp only)
  (rename IsRange _ _ _ _ _ _ _ _ => hR3); (rename Fr _ _ _ _ => F3); (rename News _ _ _ _ => N3)
  skip
  have hsz : ((intVals os).toArray.size : Int) = (os.length : Nat) := by simp
  rw [hsz] at hR3
  refine pyIter_rangeJ rfl hR3 (by (exact om351 hlen)) F3 N3 (FileJ os lo lsg lwh way ty rest)
    ⟨[], _, _, _, _, _, _, _, _, _, _, _, rfl, rfl, rfl, rfl, rfl, .head _, .tail _ (.head _), fun q hq => .tail _ (.tail _ hq), by simp, rfl⟩ ?_ ?_
  · rintro i t m₁ news₁ h₁ tk₁ I it hi ⟨acc, ta, t0, t1, t2, t3, u0, u1, u2, u3, sn, wn, htx, hsn, hwn, hon, hwy, hwm, hsm, hrm, hal, hac⟩ F₁ N₁ hI K KE hK _hV
    obtain ⟨⟨oi, ot⟩, hoi⟩ : ∃ p, os[i]? = some p := ⟨_, List.getElem?_eq_getElem hi⟩
    have hoi4 : oi < 4 := hos _ (List.mem_of_getElem? hoi)
    repeat ((fail_if_success (with_reducible show wpAny _ _ (subscriptTail _ _ _ _) _ _ _)); walk1; try dsimp only)
    refine list_item (vs := intVals os) (v := .int oi ot) (isListOf (by assumption) (.tail _ (hrm _ hlo))) (by (exact om79)) (by (exact om350 hlen hi)) (by simp [hoi]) ?_
    repeat (walk1; try dsimp only)
    obtain ⟨tq, htq⟩ : ∃ tq, [Value.str (Str.ofString "\"") u0, .str (Str.ofString "\\") u1, .str (Str.ofString " ") u2, .str (Str.ofString "#") u3][(oi : Int).toNat]? = some (.str ⟨[sg oi].toArray⟩ tq) := by
      rcases (show oi = 0 ∨ oi = 1 ∨ oi = 2 ∨ oi = 3 by (exact om80 hoi4)) with rfl | rfl | rfl | rfl
      · exact ⟨u0, rfl⟩
      · exact ⟨u1, rfl⟩
      · exact ⟨u2, rfl⟩
      · exact ⟨u3, rfl⟩
    refine list_item (isListOf (by assumption) (.tail _ hsm)) (by (exact om79)) (by (exact om349 hoi4)) htq ?_
    repeat ((fail_if_success (with_reducible show wpAny _ _ (PySem.call (Value.ref 196) _) _ _ _)); walk1; try dsimp only)
    rw [show ((way : Int) + (i : Int)).fmod 3 = (((way + i) % 3 : Nat) : Int) from by rw [Int.fmod_eq_emod_of_nonneg _ (by decide)]; (exact om82)]
    (rename Fr _ _ _ _ => F5); (rename News _ _ _ _ => N5)
    refine written_w [sg oi] tq ((way + i) % 3) (Nat.mod_lt _ (by decide)) _ (by simp) (by rcases (show oi = 0 ∨ oi = 1 ∨ oi = 2 ∨ oi = 3 by (exact om80 hoi4)) with rfl | rfl | rfl | rfl <;> decide +kernel) rfl rfl (dp + 1) (un + 3) gd _ _ _ _ _ _ _ _ _ _ _ ((I, it) :: news₁) _ _ _ B1 F5 X1 N5 (fun p hp => nomatch hp) trivial T1 rfl (by (exact om11 hdp)) (by (exact om10 hun)) ?_
    rintro v2 post extra h6 tk6 F6 N6 - - ⟨tv, rfl, rfl, rfl⟩
    repeat ((fail_if_success (with_reducible show wpAny _ _ (subscriptTail _ _ _ _) _ _ _)); walk1; try dsimp only)
    have hwi : (((way : Int).fdiv 3 + (i : Int)).fmod 4) = (((way / 3 + i) % 4 : Nat) : Int) := by
      rw [Int.fmod_eq_emod_of_nonneg _ (by decide), Int.fdiv_eq_ediv_of_nonneg _ (by decide)]; (exact om81)
    rw [hwi]
    have hw4 : (way / 3 + i) % 4 < 4 := Nat.mod_lt _ (by decide)
    generalize hwk : (way / 3 + i) % 4 = wk at *
    obtain ⟨tq2, htq2⟩ : ∃ tq, [Value.str (Str.ofString "\n") t0, .str (Str.ofString "\t") t1, .str (Str.ofString "\r") t2, .str (Str.ofString " ") t3][(wk : Int).toNat]? = some (.str ⟨[wh wk].toArray⟩ tq) := by
      rcases (show wk = 0 ∨ wk = 1 ∨ wk = 2 ∨ wk = 3 by (exact om80 hw4)) with rfl | rfl | rfl | rfl
      · exact ⟨t0, rfl⟩
      · exact ⟨t1, rfl⟩
      · exact ⟨t2, rfl⟩
      · exact ⟨t3, rfl⟩
    refine list_item (isListOf N6 (.tail _ hwm)) (by (exact om79)) (by (exact om349 hw4)) htq2 ?_
    have hwl : (writtenV ((way + i) % 3) [sg oi]).length ≤ 4 := writtenV_len _ _
    generalize hwv : writtenV ((way + i) % 3) [sg oi] = wv at *
    have hA1 : (⟨wv.toArray⟩ : Str).length + (⟨[wh wk].toArray⟩ : Str).length ≤ sizeLine := sfL hwl (by decide) (Nat.le_refl _)
    have hA2 : (⟨acc.toArray⟩ : Str).length + (⟨wv.toArray⟩ ++ ⟨[wh wk].toArray⟩ : Str).length ≤ sizeLine := sfW hal (Nat.le_trans (Nat.mul_le_mul_left 5 (Nat.le_of_lt (Nat.lt_trans hi hlen))) (by decide)) hwl
    repeat (walk1; try dsimp only)
    (rename Fr _ _ _ _ => F9); (rename News _ _ _ _ => N9)
    have hdr : (os.map (·.1)).drop i = oi :: (os.map (·.1)).drop (i + 1) := by
      rw [List.drop_eq_getElem_cons (by simpa using hi)]
      congr 1
      have := (List.getElem?_eq_getElem hi).symm.trans hoi
      simpa using congrArg Prod.fst (Option.some.inj this)
    rw [hdr, fileL, hwv, hwk] at hac
    exact hK (.inl rfl) F9 (cb_drop (news := (I, it) :: news₁) N9 (by intro q hq; simpa using hq)) hI ⟨acc ++ (wv ++ [wh wk]), _, t0, t1, t2, t3, u0, u1, u2, u3, sn, wn, congrArg (fun z => some (Value.str z _)) ((congrArg (fun z => (⟨acc.toArray⟩ : Str) ++ z) (cpsApp2 wv [wh wk])).trans (cpsApp2 acc (wv ++ [wh wk]))), hsn, hwn, hon, hwy, hwm, hsm, hrm, by simp; (exact om77 hal hwl), by rw [← hac]; simp⟩
  · rintro h' tk' m' news' F' N' ⟨acc, ta, t0, t1, t2, t3, u0, u1, u2, u3, sn, wn, htx, hsn, hwn, hon, hwy, hwm, hsm, hrm, hal, hac⟩
    rw [List.drop_eq_nil_of_le (by simp), fileL, List.append_nil] at hac
    dsimp only
    repeat (walk1; try dsimp only)
    refine hKF ?_
    repeat (walk1; try dsimp only)
    rw [hac]
    exact hret _ [] [] _ _ (by assumption) (cb_drop (by assumption) hrm) (fun p hp => nomatch hp) (fun p hp => nomatch hp) ⟨_, rfl, rfl, rfl⟩
end

section
open PySem PySem.W PyProof.Rows PySem.Calls PySem.Spec Builtin Builtin.ObjectAttr Builtin.Str
set_option maxHeartbeats 3000000
variable {w : World} {mean : ExcName → Option Value} {mg mb : Str → Option Value}
local macro_rules | `(tactic| walk_at "eval Name") => `(tactic| (k_here; (with_reducible show wpAny _ _ (PySem.eval (Expr.Name _ _) (envOf _ _ _ _ _)) _ _ _); (rename Fr _ _ _ _ => lF'); (with_unfolding_all refine ld lF' (by assumption) ?_)))
local macro_rules | `(tactic| walk_at "loadName") => `(tactic| (k_here; (rename Fr _ _ _ _ => lF'); (with_unfolding_all refine ldn lF' (by assumption) ?_)))
local macro_rules | `(tactic| ktr_unf) => `(tactic| repeat ((fail_if_success (with_reducible show wpAny _ _ (PySem.exec (Stmt.For _ _ _ _ _) _) _ _ _)); walk1; try dsimp only))
inductive NumJ (ln la : Addr) (rest : Led) (i : Nat) (m' : Str → Option Value) (news' : Led) : Prop
  | mk (vs : List Value) (ns : List Int) (nn : Nat) (e : news' = (ln, W.listOf vs.toArray nn) :: rest) (h1 : IntsAre vs ns) (h2 : ns.length = 4) (h3 : ∀ x ∈ ns, 0 ≤ x ∧ x < 1000000) (h4 : m' (Str.ofString "numbers") = some (.ref ln)) (h5 : m' (Str.ofString "script") = some (.ref la))
theorem numbers_w (la : Addr) (sv : List Value) (sn : List Int) (hsv : IntsAre sv sn) (hlen : sn.length < 1000) : PySem.Challenge.rw_xj0013_01 = PySem.Challenge.rw_xj0013_01 → hd.heap_1 = hd.heap_1 →
  ∀ (dp un : Nat) (gd : Option (List Code)) (cn : Str) (cs : Scope) (a : Addr) (ccd : Value) (cl : List (Str × Addr)) (outer : List Env) (A₀ : Around) (base h₀ : Heap) (L : Addr) (m : Str → Option Value) (rest : Led) (s : Shared) (Q E : Value → Shared → Prop),
    Below A₀ base outer h₀ → Fr h₀ L s.heap m → (hd.heap_1 w.params).In h₀ → News h₀ L s.heap rest → h₀.IsList la sv.toArray → Tp mean mg mb h₀ → cs.kind = .function →
    dp + (0 + 2) * 4 < recursionLimit → un + (0 + 2) * 12 < cLine →
    (∀ (ln : Addr) (vs : List Value) (ns : List Int) (nn : Nat) (h' : Heap) (tk' : Nat), Fr h₀ L h' m → News h₀ L h' ((ln, W.listOf vs.toArray nn) :: rest) → (∀ q ∈ rest, q.1 < ln) → IntsAre vs ns → ns.length = 4 → (∀ x ∈ ns, 0 ≤ x ∧ x < 1000000) → Q (.ref ln) { s with heap := h', toks := tk' }) →
      wpAny (model PySem.Challenge.pw_xj0013_01 w) (ktrTop dp un gd cn cs L a ccd cl outer) (call (.ref 182) [.ref la]) Q E s := by
  k_fill; intro _ _ dp un gd cn cs b ccd cl outer A₀ base h₀ L m rest s Q E hB hF hX hN hS hT hk hdp hun hret
  refine wpAny_call ?_
  k_dflt cell_enter
  refine cutQ ?_
  intro KF KEF hKF _hKE
  ktr_unf
  rename_i g1 L' h1 FG B1 X1 T1 tk0 ln hA l1 h2 F2 N2
  have hS1 : g1.IsList la sv.toArray := hS.at fun o e => FG.keep la o e
  refine wpAny_For ?_ (by intro _; rfl)
  repeat (walk1; try dsimp only)
  have hsl := hsv.length
  (rename IsRange _ _ _ _ _ _ _ _ => hR3); (rename Fr _ _ _ _ => F3); (rename News _ _ _ _ => N3)
  have hsz : (sv.toArray.size : Int) = (sn.length : Nat) := by simp [hsl]
  try rw [hsz] at hR3
  refine pyIter_rangeJ rfl hR3 (by (exact om353 hlen)) F3 N3 (NumJ ln la rest)
    ⟨[.int 93 _, .int 370 _, .int 759 _, .int 43 _], [93, 370, 759, 43], _, rfl, .cons _ _ (.cons _ _ (.cons _ _ (.cons _ _ .nil))), rfl, by decide, rfl, rfl⟩ ?_ ?_
  · rintro i t m₁ news₁ h₁ tk₁ I it hi ⟨vs, ns, nn, rfl, hvn, hnl, hnb, hnm, hsc⟩ F₁ N₁ hI K KE hK _hV
    have hvl := hvn.length
    have hSh := hS1.at (h' := h₁) fun o e => F₁.keep la o e
    repeat (walk1; try dsimp only)
    (rename Fr _ _ _ _ => F5); (rename News _ _ _ _ => N5)
    have hm0 : (0 : Int) ≤ (i : Int).fmod 4 := Int.fmod_nonneg_of_pos _ (by decide)
    have hm4 : (i : Int).fmod 4 < 4 := Int.fmod_lt_of_pos _ (by decide)
    refine ksa_set F5 N5 (.tail (Ne.symm (hI _ (.head _))) (.head fun p hp => Nat.ne_of_lt (l1 p hp))) hvn hm0 (by (exact om89 hnl hm4)) (by (exact om352 hm4)) ?_
    intro h7 F7 N7 hvn7 hl7 _
    repeat (walk1; try dsimp only)
    (rename Fr _ _ _ _ => F9); (rename News _ _ _ _ => N9)
    refine hK (.inl rfl) F9 N9 ?_ ⟨_, _, nn, rfl, hvn7, by rw [hl7]; exact hnl, ?_, hnm, hsc⟩
    · intro p hp
      rcases List.mem_cons.mp hp with rfl | hp
      · exact hI (ln, W.listOf vs.toArray nn) (.head _)
      · exact hI p (.tail _ hp)
    · intro x hx
      rcases List.mem_or_eq_of_mem_set hx with hx | rfl
      · exact hnb x hx
      · have e : (10 : Int) ^ Int.toNat 6 = 1000000 := by decide
        rw [e]
        exact ⟨Int.fmod_nonneg_of_pos _ (by decide), Int.fmod_lt_of_pos _ (by decide)⟩
  · rintro h' tk' m' news' F' N' ⟨vs, ns, nn, rfl, hvn, hnl, hnb, hnm, hsc⟩
    dsimp only
    repeat (walk1; try dsimp only)
    refine hKF ?_
    repeat (walk1; try dsimp only)
    exact hret ln vs ns nn _ _ (by assumption) (by assumption) l1 hvn hnl hnb
end

section
open PySem PySem.W PyProof.Rows PySem.Calls PySem.Spec Builtin Builtin.ObjectAttr
set_option maxHeartbeats 8000000
variable {w : World} {mean : ExcName → Option Value} {mg mb : Str → Option Value}
local macro_rules | `(tactic| k_room) => `(tactic| exact Nat.lt_of_le_of_lt (Nat.le_add_right _ _) (by assumption))
theorem acc_new_w : PySem.Challenge.rw_xj0013_01 = PySem.Challenge.rw_xj0013_01 → hd.heap_1 = hd.heap_1 → ClaimL w mean mg mb 0 (.ref 101) [] [] (fun _ => True)
    (fun v post extra => ∃ x dx n tk, v = .ref x ∧ post = [(x, accObj dx [] n)] ∧ extra = [(dx, accD w tk)]) := by
  k_fill; intro _ _ dp un gd cn cs a ccd cl outer A₀ base h₀ L m rest s Q E hB hF hX hN hO hR hT hk hdp hun hret
  obtain ⟨hh, g, d, t, os⟩ := s
  have X := hX.keeps hF.keep
  refine wpAny_call (acc_make X ?_)
  have F1 := (hF.push emptyDict).push (accObj hh.objs.size [] 0)
  have N1 := (hN.push hF emptyDict).push (hF.push _) (accObj hh.objs.size [] 0)
  rw [Heap.size_push] at N1
  have hne : hh.objs.size + 1 ≠ hh.objs.size := by (exact om4)
  have hoff : ∀ q ∈ rest, q.1 < hh.objs.size := fun q hq => Heap.lt_size (hN q hq).1
  generalize hh.objs.size = dx at *
  have hdx1 : ∀ q ∈ rest, q.1 < dx + 1 := fun q hq => Nat.lt_succ_of_lt (hoff q hq)
  generalize dx + 1 = x at *
  refine' ks_code_super (h₀ := h₀) (m := m) ?k1 F1 ?k3 N1 ?k5 ?kA ?kF ?kK ?k6 ?k7 ?k8 ?k9 ?kB ?_ ?c1 ?c2 ?c3 ?c4
  (case kA => exact rfl); (case kF => exact rfl); (case kK => exact hk); (case k1 => exact hB); (case k3 => exact hX); (case k5 => exact hT); (case k6 => k_is); (case k7 => k_is); (case k8 => show dp + 1 < recursionLimit; (exact om3 hdp))
  (case k9 => exact binds_K (hX.keeps F1.keep) rfl (by k_is) rfl rfl rfl)
  (case kB => exact locs rfl); (case c1 => decide); (case c2 => exact rfl); (case c3 => exact rfl); (case c4 => exact rfl)
  intro g1 L' h1 FG F' N' B' X' T' l1
  have hx1 : x ≠ 101 := by
    intro e
    obtain ⟨oc, od, cd, sl, hC0, -⟩ := acc_cls (w := w)
    have q := (N' (x, _) (.head _)).2.2
    rw [e, X' _ _ hC0] at q; cases q
  refine ks_wpAt_execs_cons ?_
  refine ks_wpAt_Assign_Attr ?_
  refine wpAt_of_wpAny ?_
  walk1
  walk1
  have I1 := N' (x, accObj dx [] 0) (.head _)
  have I2 := N' (dx, emptyDict) (.tail _ (.head _))
  refine set_plain (K := hd.heap_1 w.params) (C := 101) (ox := accObj dx [] 0) (od := some emptyDict) (X'.keeps F'.keep) ⟨I1.1, rfl, rfl, I2.1⟩ (by k_is) ?_
  refine acc_setinit (rest := rest) F' N' hne (fun q hq => Nat.ne_of_lt (hoff q hq)) (X'.keeps F'.keep) ?_
  intro h2 F2 N2
  obtain ⟨tkd, N2⟩ : ∃ tkd, News g1 L' h2 ([(x, accObj dx [] 0), (dx, accD w tkd)] ++ rest) := ⟨_, N2⟩
  show PySem.wpAt _ _ _ _ _ _ _
  refine ks_wpAt_execs_cons ?_
  refine ks_wpAt_Expr_any ?_
  refine ks_wpAt_MethodCall ?_
  refine ks_node F2 X' N2 T' (by k_is) (by rfl) (by rfl) (C := 101) (odx := some (accD w _)) ⟨(N2 (x, accObj dx [] 0) (.head _)).1, rfl, rfl, (N2 (dx, _) (.tail _ (.head _))).1⟩ (by k_is) (by rfl) (by first | rfl | decide +kernel) (by k_is) (by k_is) (by k_is) (by k_is) (by decide) (by rfl) (by rfl) (by rfl) (by rfl) (by decide +kernel) (by first | boot_by_name | rfl | kernel_rfl) ?_
  intro so h3 F3 N3 l3
  have Ix := N3 (x, accObj dx [] 0) (.tail _ (.head _))
  refine super_method (X'.keeps F3.keep) init_bnd (N3 (so, _) (.head _)).1 Ix.1 rfl hx1 (by kernel_rfl) (by decide) ?_
  have F4 := F3.push { cls := .type "method-wrapper", data := .fields #[.builtin "list.__init__", .ref x] }
  have N4 := N3.push F3 { cls := .type "method-wrapper", data := .fields #[.builtin "list.__init__", .ref x] }
  have hb := (N4 (h3.objs.size, _) (.head _)).1
  have X9 := X'.keeps F4.keep
  have hx4 := (N4 (x, accObj dx [] 0) (.tail _ (.tail _ (.head _)))).1
  refine x_load X9 400 0 (by kernel_rfl) hb ?_
  refine x_call X9 400 0 (c' := .call (.ref h3.objs.size) ⟨[], []⟩) (by kernel_rfl) ?_
  refine codeAny_of_tree ?_
  show wpAny _ _ (callAny (.ref _) _) _ _ _
  refine x_load X9 400 0 (by kernel_rfl) hb ?_
  refine x_pure X9 400 0 (v := Fin.again (Code.builtin "list.__init__" ⟨[.ref x], []⟩)) (by kernel_rfl) ?_
  refine ⟨plainId_quiet F.slot_list_init.plain _, ?_⟩
  show codeAny _ _ (.builtin "list.__init__" ⟨[.ref x], []⟩) _ _
  refine codeAny_builtin F.entry_list_init ?_
  iterate 2 refine x_load X9 400 0 (by kernel_rfl) hx4 ?_
  have hsx : x < so := l3 (x, _) (.head _)
  have hbx : x < h3.objs.size := Heap.lt_size Ix.1
  obtain ⟨F5, N5⟩ := news_upd (f := Obj.mapSeq fun _ => (#[] : Array Value)) (pre := [(h3.objs.size, _), (so, _)]) (d := x) (o := accObj dx [] 0) (o' := accObj dx [] 0) F4 N4
    (by intro p hp; rcases List.mem_cons.mp hp with rfl | hp; exact Nat.ne_of_gt hbx; rw [List.mem_singleton.mp hp]; exact Nat.ne_of_gt hsx)
    (by intro q hq; rcases List.mem_cons.mp hq with rfl | hq; exact Ne.symm hne; exact Nat.ne_of_lt (hdx1 q hq)) rfl rfl
  refine x_upd (a := x) (f := Obj.mapSeq fun _ => (#[] : Array Value)) X9 400 0 (by kernel_rfl) hx4 ?_
  have hx5 := (N5 (x, accObj dx [] 0) (.tail _ (.tail _ (.head _)))).1
  dsimp only at hx5
  repeat (first | with_reducible refine wpAny_call ?_ | with_reducible refine nd_at ?_ | lk)
  refine PySem.wpAt_of_wpAny (wpAny_pure ?_)
  refine ⟨L', _, _, F5, N5, fun Fo No => ⟨rfl, ?_⟩⟩
  refine hret (.ref x) [(x, accObj dx [] 0)] [(dx, accD w tkd)] _ _ Fo (cb_drop No ?_) ?_ ?_ ⟨x, dx, 0, tkd, rfl, rfl, rfl⟩
  · intro p hp
    rcases List.mem_cons.mp hp with rfl | hp
    · exact .tail _ (.tail _ (.head _))
    · rcases List.mem_cons.mp hp with rfl | hp
      · exact .tail _ (.tail _ (.tail _ (.head _)))
      · exact .tail _ (.tail _ (.tail _ (.tail _ hp)))
  · intro p hp q hq
    rw [List.mem_singleton.mp hp]
    rcases List.mem_cons.mp hq with rfl | hq
    · exact Ne.symm hne
    · exact Nat.ne_of_lt (hdx1 q hq)
  · intro p hp q hq
    rw [List.mem_singleton.mp hp]
    exact Nat.ne_of_lt (hoff q hq)
end

section
open PySem PySem.W PyProof.Rows PySem.Calls PySem.Spec Builtin Builtin.ObjectAttr
set_option maxHeartbeats 8000000
variable {w : World} {mean : ExcName → Option Value} {mg mb : Str → Option Value}
section
variable {prog : Program} {A : Around} {E : Value → Shared → Prop} {s : Shared}
/-- a method of list's own, found on an accumulator -/
theorem acc_getMethod_b {x dx : Addr} {xs : List Value} {n : Nat} {tk : Tok} {name : Str} {id : String} {pl : Sem Bool} {Q : Value × List Value → Shared → Prop} (X : (hd.heap_1 w.params).In s.heap)
    (hx : s.heap.get? x = some (accObj dx xs n)) (hdx : s.heap.get? dx = some (accD w tk))
    (hf : findIn (hd.heap_1 w.params) (.ref 101) name = some (some (.builtin id))) (ht : typeOf (.builtin id) = pure (.type "method_descriptor")) (hn : lookIn name (accD w tk) = some none)
    (hq : Q (.builtin id, [.ref x]) s) : wpAny (model prog w) A (getMethod (.ref x) name pl) Q E s := by
  have t1 : Looks (model prog w) s.heap (typeOf (.ref x)) (.ref 101) := (Looks.ld hx).andThen .now
  have l1 : Looks (model prog w) s.heap (specialOf (.ref x) "__getattribute__") (some (.builtin "list.__getattribute__")) := t1.andThen (Looks.of_peek X (by kernel_rfl))
  have l2 : Looks (model prog w) s.heap (specialOf (.ref x) "__getattr__") none := t1.andThen (Looks.of_peek X (by kernel_rfl))
  have l3 : Looks (model prog w) s.heap (specialOf (.ref x) name) (some (.builtin id)) := t1.andThen (looks_findIn X hf)
  have l4 : Looks (model prog w) s.heap (typeOf (.builtin id)) (.type "method_descriptor") := Looks.of_pure ht
  have l5 : Looks (model prog w) s.heap (nsGet dx name) none := by
    intro A Q E s' k q
    refine wpAny_bind (wpAny_loadPart (k _ _ hdx) ?_)
    rw [nsLook_of hn]
    exact wpAny_pure q
  obtain ⟨hh, g, d, t, os⟩ := s
  dsimp only at *
  have hcan : Manifest.canonical "list.__getattribute__" = "object.__getattribute__" := by decide +kernel
  unfold getMethod
  refine wpAny_bind (l1.at ?_)
  dsimp only
  rw [hcan, if_neg (by decide)]
  repeat (first | with_reducible refine nd_at ?_ | lk)
  exact hq
theorem accObj_push (dx : Addr) (xs : List Value) (n : Nat) (v : Value) : Obj.mapSeq (·.push v) (accObj dx xs n) = accObj dx (xs ++ [v]) (n + 1) := by
  simp [accObj, Obj.mapSeq]
theorem acc_append {h₀ : Heap} {L : Addr} {m : Str → Option Value} {rest : Led} {x dx : Addr} {xs : List Value} {n : Nat} {v : Value} {Q : Value → Shared → Prop} (X : (hd.heap_1 w.params).In s.heap)
    (F : Fr h₀ L s.heap m) (N : News h₀ L s.heap ((x, accObj dx xs n) :: rest)) (hO : ∀ q ∈ rest, q.1 ≠ x) (hz : xs.length < 1000)
    (hq : ∀ h', Fr h₀ L h' m → News h₀ L h' ((x, accObj dx (xs ++ [v]) (n + 1)) :: rest) → Q .none { s with heap := h' }) : wpAny (model prog w) A (call (.builtin "list.append") [.ref x, v]) Q E s := by
  have hx := (N _ (.head _)).1
  obtain ⟨F5, N5⟩ := news_upd (f := Obj.mapSeq (·.push v)) (pre := []) F N (by intro p hp; cases hp) hO (accObj_push dx xs n v) rfl
  have hx5 := (N5 _ (.head _)).1
  obtain ⟨hh, g, d, t, os⟩ := s
  refine wpAny_call (codeAny_call_builtin PySem.F.slot_list_append.plain PySem.F.entry_list_append ?_)
  dsimp only at hx hx5 X
  refine x_load X 400 0 (by kernel_rfl) hx ?_
  refine x_pure X 400 1 (v := ()) (by kernel_rfl) ?_
  refine x_load X 400 0 (by kernel_rfl) hx ?_
  refine x_upd (a := x) (f := Obj.mapSeq (·.push v)) X 400 0 (by kernel_rfl) hx ?_
  have hp : (Data.seq (xs ++ [v]).toArray (n + 1)).pastItsLine = none := by
    show (if _ > sizeLine + 1 then _ else _) = none
    rw [if_neg (by rw [sizeLine_eq]; simp; (exact om5 hz))]
  repeat (first | simp only [hp] | with_reducible refine nd_at ?_ | lk)
  exact hq _ F5 N5
end
end

section
open PySem PySem.W PyProof.Rows PySem.Calls PySem.Spec Builtin Builtin.ObjectAttr
set_option maxHeartbeats 8000000
variable {w : World} {mean : ExcName → Option Value} {mg mb : Str → Option Value}
noncomputable abbrev tupObj (vs : List Value) : Obj := { cls := .type "tuple", data := .seq vs.toArray }
theorem push_w (x dx : Addr) (xs : List Value) (n : Nat) (v1 v2 : Value) (hz : xs.length < 1000) : PySem.Challenge.rw_xj0013_01 = PySem.Challenge.rw_xj0013_01 → hd.heap_1 = hd.heap_1 →
    ClaimL w mean mg mb 0 (.ref 45) [.ref x, v1, v2] [(x, accObj dx xs n)] (fun rest => ∃ tk, (dx, accD w tk) ∈ rest)
    (fun v post extra => v = .none ∧ ∃ t, post = [(x, accObj dx (xs ++ [.ref t]) (n + 1))] ∧ extra = [(t, tupObj [v1, v2])]) := by
  k_fill; intro _ _ dp un gd cn cs a ccd cl outer A₀ base h₀ L m rest s Q E hB hF hX hN hO hR hT hk hdp hun hret
  obtain ⟨tkd, hR⟩ := hR
  refine wpAny_call ?_
  k_dflt cell_enter
  iterate 5 walk1
  rename_i g1 L' h1 FG F1 N1 B1 X1 T1
  refine acc_getMethod_b (dx := dx) (tk := tkd) (X1.keeps (by with_reducible exact Fr.keep (by assumption))) (N1 _ (.head _)).1 (N1 _ (.tail _ hR)).1 (by k_is) PySem.F.type_list_append (by kernel_rfl) ?_
  iterate 8 (walk1; try dsimp only)
  walk1; try dsimp only
  walk1; try dsimp only
  rename_i D h2 F2 N2 l2
  have hoff : ∀ q ∈ rest, q.1 ≠ x := fun q hq => hO _ (.head _) q hq
  have hxD : x < D := l2 (x, _) (.head _)
  refine acc_append (xs := xs) (n := n) (dx := dx) (rest := (D, tupObj [v1, v2]) :: rest) (X1.keeps (by with_reducible exact Fr.keep (by assumption))) F2 (cb_drop N2 ?_) ?_ hz ?_
  · intro p hp
    rcases List.mem_cons.mp hp with rfl | hp
    · exact .tail _ (.head _)
    · rcases List.mem_cons.mp hp with rfl | hp
      · exact .head _
      · exact .tail _ (.tail _ hp)
  · intro q hq
    rcases List.mem_cons.mp hq with rfl | hq
    · exact Nat.ne_of_gt hxD
    · exact hoff q hq
  intro h3 F3 N3
  k_steps
  refine hret .none [(x, accObj dx (xs ++ [.ref D]) (n + 1))] [(D, tupObj [v1, v2])] _ _ (by assumption) (by assumption) ?_ ?_ ⟨rfl, D, rfl, rfl⟩
  · intro p hp q hq
    rw [List.mem_singleton.mp hp]
    rcases List.mem_cons.mp hq with rfl | hq
    · exact Nat.ne_of_gt hxD
    · exact hoff q hq
  · intro p hp q hq
    rw [List.mem_singleton.mp hp]
    exact Nat.ne_of_lt (l2 q (.tail _ hq))
end

section
open PySem PySem.W PyProof.Rows PySem.Calls PySem.Spec Builtin Builtin.ObjectAttr
set_option maxHeartbeats 8000000
variable {w : World} {mean : ExcName → Option Value} {mg mb : Str → Option Value}
theorem acc_cls5 : ∃ od cd sl, (hd.heap_1 w.params).lookup 101 = some ⟨.type "type", od, .cls cd, sl⟩ ∧ cd.mro = [.ref 101, .type "list", .type "object"] ∧ cd.qualname = Str.ofString "_Accumulator" := ⟨_, _, _, rfl, rfl, rfl⟩
theorem ne101 {h₀ h : Heap} {L x : Addr} {o : Obj} {l : Led} (X : (hd.heap_1 w.params).In h₀) (N : News h₀ L h l) (hm : (x, o) ∈ l) : x ≠ 101 := by
  intro e
  obtain ⟨oc, od, cd, sl, hC0, -⟩ := acc_cls (w := w)
  have q := (N (x, o) hm).2.2
  rw [e, X _ _ hC0] at q; cases q
/-- a method of the class's own, found on an accumulator -/
theorem acc_getMethod_f {prog : Program} {A : Around} {E : Value → Shared → Prop} {s : Shared} {x dx f : Addr} {xs : List Value} {n : Nat} {tk : Tok} {name : Str} {pl : Sem Bool} {Q : Value × List Value → Shared → Prop} (X : (hd.heap_1 w.params).In s.heap)
    (hx : s.heap.get? x = some (accObj dx xs n)) (hdx : s.heap.get? dx = some (accD w tk))
    (hf : findIn (hd.heap_1 w.params) (.ref 101) name = some (some (.ref f))) (ht : typeIn (hd.heap_1 w.params) (.ref f) = some (.type "function")) (hn : lookIn name (accD w tk) = some none)
    (hq : Q (.ref f, [.ref x]) s) : wpAny (model prog w) A (getMethod (.ref x) name pl) Q E s := by
  have t1 : Looks (model prog w) s.heap (typeOf (.ref x)) (.ref 101) := (Looks.ld hx).andThen .now
  have l1 : Looks (model prog w) s.heap (specialOf (.ref x) "__getattribute__") (some (.builtin "list.__getattribute__")) := t1.andThen (Looks.of_peek X (by kernel_rfl))
  have l2 : Looks (model prog w) s.heap (specialOf (.ref x) "__getattr__") none := t1.andThen (Looks.of_peek X (by kernel_rfl))
  have l3 : Looks (model prog w) s.heap (specialOf (.ref x) name) (some (.ref f)) := t1.andThen (looks_findIn X hf)
  have l4 : Looks (model prog w) s.heap (typeOf (.ref f)) (.type "function") := looks_typeIn X ht
  have l5 : Looks (model prog w) s.heap (nsGet dx name) none := by
    intro A Q E s' k q
    refine wpAny_bind (wpAny_loadPart (k _ _ hdx) ?_)
    rw [nsLook_of hn]
    exact wpAny_pure q
  obtain ⟨hh, g, d, t, os⟩ := s
  dsimp only at *
  have hcan : Manifest.canonical "list.__getattribute__" = "object.__getattribute__" := by decide +kernel
  unfold getMethod
  refine wpAny_bind (l1.at ?_)
  dsimp only
  rw [hcan, if_neg (by decide)]
  repeat (first | with_reducible refine nd_at ?_ | lk)
  exact hq
theorem part_count_w (x dx : Addr) (xs : List Value) (n : Nat) : PySem.Challenge.rw_xj0013_01 = PySem.Challenge.rw_xj0013_01 → hd.heap_1 = hd.heap_1 →
    ClaimL w mean mg mb 0 (.ref 98) [.ref x] [(x, accObj dx xs n)] (fun rest => ∃ tk, (dx, accD w tk) ∈ rest)
    (fun v post extra => (∃ t, v = .int xs.length t) ∧ post = [(x, accObj dx xs n)] ∧ extra = []) := by
  k_fill; intro _ _ dp un gd cn cs a ccd cl outer A₀ base h₀ L m rest s Q E hB hF hX hN hO hR hT hk hdp hun hret
  obtain ⟨tkd, hR⟩ := hR
  refine wpAny_call ?_
  refine' ks_code_super (h₀ := h₀) (m := m) ?k1 hF ?k3 hN ?k5 ?kA ?kF ?kK ?k6 ?k7 ?k8 ?k9 ?kB ?_ ?c1 ?c2 ?c3 ?c4
  (case kA => exact rfl); (case kF => exact rfl); (case kK => exact hk); (case k1 => exact hB); (case k3 => exact hX); (case k5 => exact hT); (case k6 => k_is); (case k7 => k_is); (case k8 => show dp < recursionLimit; (exact om13 hdp))
  (case k9 => exact BindsTo.of_eq rfl)
  (case kB => exact locs rfl); (case c1 => decide); (case c2 => exact rfl); (case c3 => exact rfl); (case c4 => exact rfl)
  intro g1 L' h1 FG F1 N1 B1 X1 T1 l1
  have hx1 := ne101 X1 N1 (.head _)
  refine ks_wpAt_execs_cons ?_
  refine ks_wpAt_Return_some ?_
  refine ks_wpAt_MethodCall ?_
  refine ks_node F1 X1 N1 T1 (by k_is) (by rfl) (by rfl) (C := 101) (odx := some (accD w tkd)) ⟨(N1 (x, accObj dx xs n) (.head _)).1, rfl, rfl, (N1 (dx, _) (.tail _ hR)).1⟩ (by k_is) (by rfl) (by first | rfl | decide +kernel) (by k_is) (by k_is) (by k_is) (by k_is) (by decide) (by rfl) (by rfl) (by rfl) (by rfl) (by decide +kernel) (by first | boot_by_name | rfl | kernel_rfl) ?_
  intro so h3 F3 N3 l3
  have Ix := N3 (x, accObj dx xs n) (.tail _ (.head _))
  refine super_method (X1.keeps F3.keep) len_bnd (N3 (so, _) (.head _)).1 Ix.1 rfl hx1 (by kernel_rfl) (by decide) ?_
  have F4 := F3.push { cls := .type "method-wrapper", data := .fields #[.builtin "list.__len__", .ref x] }
  have N4 := N3.push F3 { cls := .type "method-wrapper", data := .fields #[.builtin "list.__len__", .ref x] }
  have hb := (N4 (h3.objs.size, _) (.head _)).1
  have hx4 := (N4 (x, accObj dx xs n) (.tail _ (.tail _ (.head _)))).1
  dsimp only at hb hx4
  have X := X1.keeps F4.keep
  refine x_load X 400 0 (by kernel_rfl) hb ?_
  refine x_call X 400 0 (c' := .call (.ref h3.objs.size) ⟨[], []⟩) (by kernel_rfl) ?_
  refine codeAny_of_tree ?_
  show wpAny _ _ (callAny (.ref _) _) _ _ _
  refine x_load X 400 0 (by kernel_rfl) hb ?_
  refine x_pure X 400 0 (v := Fin.again (Code.builtin "list.__len__" ⟨[.ref x], []⟩)) (by kernel_rfl) ?_
  refine ⟨plainId_quiet (id := "list.__len__") (by decide +kernel) _, ?_⟩
  show codeAny _ _ (.builtin "list.__len__" ⟨[.ref x], []⟩) _ _
  refine codeAny_builtin PySem.F.entry_list_len ?_
  refine x_load X 400 0 (by kernel_rfl) hx4 ?_
  repeat (first | with_reducible refine nd_at ?_ | lk)
  refine ⟨L', _, _, F4, N4, fun Fo No => ?_⟩
  exact hret _ [(x, accObj dx xs n)] [] _ _ Fo (cb_drop No fun p hp => .tail _ (.tail _ hp)) hO (fun p hp => nomatch hp) ⟨⟨_, rfl⟩, rfl, rfl⟩
theorem pop_w (x dx : Addr) (xs : List Value) (v : Value) (n : Nat) (hz : xs.length < 1000) : PySem.Challenge.rw_xj0013_01 = PySem.Challenge.rw_xj0013_01 → hd.heap_1 = hd.heap_1 →
    ClaimL w mean mg mb 1 (.ref 61) [.ref x] [(x, accObj dx (xs ++ [v]) n)] (fun rest => ∃ tk, (dx, accD w tk) ∈ rest)
    (fun v' post extra => v' = v ∧ post = [(x, accObj dx xs (n + 1))] ∧ extra = []) := by
  k_fill; intro _ _ dp un gd cn cs a ccd cl outer A₀ base h₀ L m rest s Q E hB hF hX hN hO hR hT hk hdp hun hret
  obtain ⟨tkd, hR⟩ := hR
  refine wpAny_call ?_
  refine' ks_code_super (h₀ := h₀) (m := m) ?k1 hF ?k3 hN ?k5 ?kA ?kF ?kK ?k6 ?k7 ?k8 ?k9 ?kB ?_ ?c1 ?c2 ?c3 ?c4
  (case kA => exact rfl); (case kF => exact rfl); (case kK => exact hk); (case k1 => exact hB); (case k3 => exact hX); (case k5 => exact hT); (case k6 => k_is); (case k7 => k_is); (case k8 => show dp < recursionLimit; (exact om12 hdp))
  (case k9 => exact BindsTo.of_eq rfl)
  (case kB => exact locs rfl); (case c1 => decide); (case c2 => exact rfl); (case c3 => exact rfl); (case c4 => exact rfl)
  intro g1 L' h1 FG F1 N1 B1 X1 T1 l1
  have hx1 := ne101 X1 N1 (.head _)
  refine ks_wpAt_execs_cons (PySem.wpAt_of_wpAny ?_)
  iterate 4 walk1
  refine acc_getMethod_f (dx := dx) (tk := tkd) (X1.keeps F1.keep) (N1 _ (.head _)).1 (N1 _ (.tail _ hR)).1 (by k_is) (by k_is) (by kernel_rfl) ?_
  walk1
  refine part_count_w x dx (xs ++ [v]) n rfl rfl (dp + 1) (un + 3) gd _ _ _ _ _ _ _ _ _ _ _ rest _ _ _ B1 F1 X1 N1 hO ⟨tkd, hR⟩ T1 rfl (by (exact om11 hdp)) (by (exact om10 hun)) ?_
  rintro v2 post extra h2 tk2 F2 N2 O2 O3 ⟨⟨t2, rfl⟩, rfl, rfl⟩
  iterate 3 walk1
  dsimp only
  rw [if_neg (by simp; (exact om9))]
  refine wpAny_pure ?_
  show PySem.wpAt _ _ _ _ _ _ _
  refine ks_wpAt_execs_cons ?_
  refine ks_wpAt_Return_some ?_
  refine ks_wpAt_MethodCall ?_
  refine ks_node F2 X1 N2 T1 (by k_is) (by rfl) (by rfl) (C := 101) (odx := some (accD w tkd)) ⟨(N2 (x, accObj dx _ n) (.head _)).1, rfl, rfl, (N2 (dx, _) (.tail _ hR)).1⟩ (by k_is) (by rfl) (by first | rfl | decide +kernel) (by k_is) (by k_is) (by k_is) (by k_is) (by decide) (by rfl) (by rfl) (by rfl) (by rfl) (by decide +kernel) (by first | boot_by_name | rfl | kernel_rfl) ?_
  intro so h3 F3 N3 l3
  have Ix := N3 (x, accObj dx (xs ++ [v]) n) (.tail _ (.head _))
  refine super_method (X1.keeps F3.keep) pop_bnd (N3 (so, _) (.head _)).1 Ix.1 rfl hx1 (by kernel_rfl) (by decide) ?_
  have F4 := F3.push { cls := .type "builtin_function_or_method", data := .fields #[.builtin "list.pop", .ref x] }
  have N4 := N3.push F3 { cls := .type "builtin_function_or_method", data := .fields #[.builtin "list.pop", .ref x] }
  have hb := (N4 (h3.objs.size, _) (.head _)).1
  have hx4 := (N4 (x, accObj dx (xs ++ [v]) n) (.tail _ (.tail _ (.head _)))).1
  dsimp only at hb hx4
  have X := X1.keeps F4.keep
  refine x_load X 400 0 (by kernel_rfl) hb ?_
  refine x_call X 400 0 (c' := .call (.ref h3.objs.size) ⟨[], []⟩) (by kernel_rfl) ?_
  refine codeAny_of_tree ?_
  show wpAny _ _ (callAny (.ref _) _) _ _ _
  refine x_load X 400 0 (by kernel_rfl) hb ?_
  refine x_load X 400 0 (by kernel_rfl) hx4 ?_
  refine x_load X 400 1 (by kernel_rfl) hx4 ?_
  refine x_load X 400 0 (by kernel_rfl) hx4 ?_
  refine x_pure X 400 2 (v := Fin.again (Code.builtin "list.pop" ⟨[.ref x], []⟩)) (by kernel_rfl) ?_
  refine ⟨plainId_quiet (id := "list.pop") (by decide +kernel) _, ?_⟩
  show codeAny _ _ (.builtin "list.pop" ⟨[.ref x], []⟩) _ _
  refine codeAny_builtin PySem.F.entry_list_pop ?_
  have he : (xs ++ [v]).toArray.isEmpty = false := by simp
  have hs : (seqIndex? (-1) (xs ++ [v]).toArray.size).bind (fun k => (xs ++ [v]).toArray[k]?.map (k, ·)) = some (xs.length, v) := by
    have e1 : seqIndex? (-1) (xs ++ [v]).toArray.size = some xs.length := by
      unfold seqIndex?
      have e2 : (xs ++ [v]).toArray.size = xs.length + 1 := by simp
      rw [e2]
      simp only [show ((-1 : Int) < 0) = True from by simp, if_true]
      rw [if_pos (by simp; (exact om8))]
      congr 1
      (exact om7)
    rw [e1]
    simp
  refine x_load X 400 0 (by kernel_rfl) hx4 ?_
  repeat (first | simp only [he, hs] | with_reducible refine nd_at ?_ | lk)
  have hsx : x < so := l3 (x, _) (.head _)
  have hbx : x < h3.objs.size := Heap.lt_size Ix.1
  have hoff : ∀ q ∈ rest, q.1 ≠ x := fun q hq => hO _ (.head _) q hq
  have hpop : Obj.mapSeq (fun y => y.eraseIdxIfInBounds xs.length) (accObj dx (xs ++ [v]) n) = accObj dx xs (n + 1) := by
    have e3 : (xs ++ [v]).eraseIdx xs.length = xs := by
      rw [List.eraseIdx_append_of_length_le (Nat.le_refl _)]; simp
    simp [accObj, Obj.mapSeq, Array.eraseIdxIfInBounds, e3]
  obtain ⟨F5, N5⟩ := news_upd (f := Obj.mapSeq fun y => y.eraseIdxIfInBounds xs.length) (pre := [(h3.objs.size, _), (so, _)]) (d := x) F4 N4
    (by intro p hp; rcases List.mem_cons.mp hp with rfl | hp; exact Nat.ne_of_gt hbx; rw [List.mem_singleton.mp hp]; exact Nat.ne_of_gt hsx) hoff hpop rfl
  refine nd_upd hx4 ?_
  have hx5 := (N5 (x, accObj dx xs (n + 1)) (.tail _ (.tail _ (.head _)))).1
  have hp : (Data.seq xs.toArray (n + 1)).pastItsLine = none := by
    show (if _ > sizeLine + 1 then _ else _) = none
    rw [if_neg (by rw [sizeLine_eq]; simp; (exact om6 hz))]
  dsimp only at hx5
  repeat (first | simp only [hp] | with_reducible refine wpAny_call ?_ | with_reducible refine nd_at ?_ | lk)
  refine ⟨L', _, _, F5, N5, fun Fo No => ?_⟩
  exact hret _ [(x, accObj dx xs (n + 1))] [] _ _ Fo (cb_drop No fun p hp => .tail _ (.tail _ hp)) (fun p hp q hq => by rw [List.mem_singleton.mp hp]; exact hoff q hq) (fun p hp => nomatch hp) ⟨rfl, rfl, rfl⟩
end

section
open PySem PySem.W PyProof.Rows PySem.Calls PySem.Spec Builtin Builtin.ObjectAttr
set_option maxHeartbeats 8000000
variable {w : World} {mean : ExcName → Option Value} {mg mb : Str → Option Value}
theorem range_items (xs : List Value) : (List.range xs.length).filterMap (fun k => xs[k]?) = xs := by
  induction xs with
  | nil => rfl
  | cons x xs ih =>
    rw [List.length_cons, List.range_succ_eq_map, List.filterMap_cons, List.filterMap_map]
    simp only [List.getElem?_cons_zero]
    congr 1
theorem slice_from (xs : List Value) (i : Nat) (hi : i ≤ xs.length) :
    List.filterMap (fun x => xs.toArray[x]?) (sliceRange (max 0 (min (if (i : Int) < 0 then (i : Int) + xs.toArray.size else i) xs.toArray.size)) (if (1 : Int) > 0 then (xs.toArray.size : Int) else -1) 1) = xs.drop i := by
  have e1 : max 0 (min (if (i : Int) < 0 then (i : Int) + xs.toArray.size else i) (xs.toArray.size : Int)) = (i : Nat) := by
    rw [if_neg (by (exact om18 hi))]; simp; (exact om17 hi)
  rw [e1, if_pos (by decide), sliceRange_one, List.filterMap_map]
  have h := range_items (xs.drop i)
  rw [List.length_drop] at h
  conv => rhs; rw [← h]
  simp only [List.size_toArray]
  congr 1
  funext k
  simp [List.getElem?_drop]
theorem slice_at (xs : List Value) (i : Nat) (hi : i ≤ xs.length) : max 0 (min (if (i : Int) < 0 then (i : Int) + xs.toArray.size else i) (xs.toArray.size : Int)) = (i : Nat) := by
  rw [if_neg (by (exact om18 hi))]; simp; (exact om17 hi)
theorem accObj_cut (dx : Addr) (xs : List Value) (n i : Nat) (hi : i ≤ xs.length) : ∃ n', Obj.mapSeq (fun ys => ys.extract 0 ((i : Nat) : Int).toNat ++ #[] ++ ys.extract (max ((i : Nat) : Int) (xs.toArray.size : Int)).toNat) (accObj dx xs n) = accObj dx (xs.take i) n' := by
  have e2 : (max ((i : Nat) : Int) (xs.toArray.size : Int)).toNat = xs.length := by simp; (exact om16 hi)
  rw [e2]
  have e3 : xs.toArray.extract 0 ((i : Nat) : Int).toNat ++ #[] ++ xs.toArray.extract xs.length = (xs.take i).toArray := by simp
  refine ⟨if (xs.take i).toArray.size == xs.toArray.size then n else n + 1, ?_⟩
  simp only [accObj, Obj.mapSeq, e3]
theorem pop_none_w (x dx : Addr) (n : Nat) : PySem.Challenge.rw_xj0013_01 = PySem.Challenge.rw_xj0013_01 → hd.heap_1 = hd.heap_1 →
    ClaimL w mean mg mb 1 (.ref 61) [.ref x] [(x, accObj dx [] n)] (fun rest => ∃ tk, (dx, accD w tk) ∈ rest)
    (fun v' post extra => ∃ t t1 t2, v' = .ref t ∧ post = [(x, accObj dx [] n)] ∧ extra = [(t, tupObj [.str (Str.ofString "") t1, .str (Str.ofString "") t2])]) := by
  k_fill; intro _ _ dp un gd cn cs a ccd cl outer A₀ base h₀ L m rest s Q E hB hF hX hN hO hR hT hk hdp hun hret
  obtain ⟨tkd, hR⟩ := hR
  refine wpAny_call ?_
  refine' ks_code_super (h₀ := h₀) (m := m) ?k1 hF ?k3 hN ?k5 ?kA ?kF ?kK ?k6 ?k7 ?k8 ?k9 ?kB ?_ ?c1 ?c2 ?c3 ?c4
  (case kA => exact rfl); (case kF => exact rfl); (case kK => exact hk); (case k1 => exact hB); (case k3 => exact hX); (case k5 => exact hT); (case k6 => k_is); (case k7 => k_is); (case k8 => show dp < recursionLimit; (exact om12 hdp))
  (case k9 => exact BindsTo.of_eq rfl)
  (case kB => exact locs rfl); (case c1 => decide); (case c2 => exact rfl); (case c3 => exact rfl); (case c4 => exact rfl)
  intro g1 L' h1 FG F1 N1 B1 X1 T1 l1
  refine ks_wpAt_execs_cons (PySem.wpAt_of_wpAny ?_)
  iterate 4 walk1
  refine acc_getMethod_f (dx := dx) (tk := tkd) (X1.keeps F1.keep) (N1 _ (.head _)).1 (N1 _ (.tail _ hR)).1 (by k_is) (by k_is) (by kernel_rfl) ?_
  walk1
  refine part_count_w x dx [] n rfl rfl (dp + 1) (un + 3) gd _ _ _ _ _ _ _ _ _ _ _ rest _ _ _ B1 F1 X1 N1 hO ⟨tkd, hR⟩ T1 rfl (by (exact om11 hdp)) (by (exact om10 hun)) ?_
  rintro v2 post extra h2 tk2 F2 N2 O2 O3 ⟨⟨t2, rfl⟩, rfl, rfl⟩
  iterate 3 walk1
  dsimp only
  rw [if_pos (by rfl)]
  iterate 10 (walk1; try dsimp only)
  rename_i D h3 F3 N3 l3
  exact leaveK_ F3 N3 fun Fo No => hret _ [(x, accObj dx [] n)] [(D, _)] _ _ Fo (cb_drop No (by
      intro p hp
      rcases List.mem_cons.mp hp with rfl | hp
      · exact .tail _ (.head _)
      · rcases List.mem_cons.mp hp with rfl | hp
        · exact .head _
        · exact .tail _ (.tail _ hp)))
    (by
      intro p hp q hq
      rw [List.mem_singleton.mp hp]
      rcases List.mem_cons.mp hq with rfl | hq
      · exact Nat.ne_of_gt (l3 (x, _) (.head _))
      · exact hO _ (.head _) q hq)
    (by
      intro p hp q hq
      rw [List.mem_singleton.mp hp]
      exact Nat.ne_of_lt (l3 q (.tail _ hq))) ⟨D, _, _, rfl, rfl, rfl⟩
theorem acc_slice {h₀ : Heap} {L : Addr} {m : Str → Option Value} {prog : Program} {A : Around} {E : Value → Shared → Prop} {s : Shared} {nm : Str} {lo : Expr} {p p2 : Pos} {x dx sl i : Addr} {xs : List Value} {n : Nat} {ti : Tok} {l : Led} {Q : Value → Shared → Prop} (X0 : (hd.heap_1 w.params).In h₀)
    (F : Fr h₀ L s.heap m) (N : News h₀ L s.heap l) (hmx : (x, accObj dx xs n) ∈ l) (hsl : s.heap.get? sl = some { cls := .type "slice", data := .fields #[.int i ti, .none, .none] }) (hi : i ≤ xs.length) (hz : xs.length < 1000)
    (hq : ∀ d h', Fr h₀ L h' m → News h₀ L h' ((d, { cls := .type "list", data := .seq (xs.drop i).toArray }) :: l) → (∀ p ∈ l, p.1 < d) → Q (.ref d) { s with heap := h' }) :
    wpAny (model prog w) A (subscriptTail (.Name nm p2) (.Slice (some lo) none none p) (.ref x) (.ref sl)) Q E s := by
  have X := X0.keeps F.keep
  have hx := (N _ hmx).1
  have F2 := F.push { cls := .type "list", data := .seq (xs.drop i).toArray }
  have N2 := N.push F { cls := .type "list", data := .seq (xs.drop i).toArray }
  have l2 : ∀ p ∈ l, p.1 < s.heap.objs.size := fun p hp => Heap.lt_size (N p hp).1
  obtain ⟨hh, g, d, t, os⟩ := s
  dsimp only at hsl hx X
  refine x_load X 400 0 (by kernel_rfl) hx ?_
  refine x_load X 400 3 (by kernel_rfl) hx ?_
  refine x_load X 400 1 (by kernel_rfl) hx ?_
  refine x_call X 400 3 (c' := .call (.builtin "list.__getitem__") ⟨[.ref x, .ref sl], []⟩) (by kernel_rfl) ?_
  refine codeAny_call_builtin (b := Builtin.«list.__getitem__») (by decide +kernel) (entryFor_of_tree (by kernel_rfl)) ?_
  refine x_load X 400 0 (by kernel_rfl) hx ?_
  refine x_pure X 400 1 (v := ()) (by kernel_rfl) ?_
  iterate 5 refine x_load X 400 0 (by kernel_rfl) hsl ?_
  refine x_load X 400 0 (by kernel_rfl) hx ?_
  repeat (first | with_reducible refine nd_at ?_ | lk)
  rw [slice_from xs i hi]
  rw [if_neg (by rw [sizeLine_eq]; simp; (exact om15 hz))]
  repeat (first | with_reducible refine nd_at ?_ | lk)
  exact hq _ _ F2 N2 l2
theorem acc_setslice {h₀ : Heap} {L : Addr} {m : Str → Option Value} {prog : Program} {A : Around} {E : Value → Shared → Prop} {s : Shared} {x dx sl e i : Addr} {xs : List Value} {n : Nat} {ti : Tok} {rest : Led} {Q : Unit → Shared → Prop} (X0 : (hd.heap_1 w.params).In h₀)
    (F : Fr h₀ L s.heap m) (N : News h₀ L s.heap ((x, accObj dx xs n) :: rest)) (hO : ∀ q ∈ rest, q.1 ≠ x) (hsl : s.heap.get? sl = some { cls := .type "slice", data := .fields #[.int i ti, .none, .none] })
    (he : (e, { cls := .type "list", data := .seq #[] }) ∈ rest) (hi : i ≤ xs.length) (hz : xs.length < 1000)
    (hq : ∀ n' h', Fr h₀ L h' m → News h₀ L h' ((x, accObj dx (xs.take i) n') :: rest) → Q () { s with heap := h' }) :
    wpAny (model prog w) A (setItem (.ref x) (.ref sl) (.ref e)) Q E s := by
  have X := X0.keeps F.keep
  have hx := (N _ (.head _)).1
  have hee := (N _ (.tail _ he)).1
  have hne : Builtin.List.listSameRef (.ref x) (.ref e) = false := by
    have := hO _ he
    simp only [Builtin.List.listSameRef]
    simpa using Ne.symm this
  obtain ⟨hh, g, d, t, os⟩ := s
  dsimp only at hsl hx X hee
  refine x_load X 400 0 (by kernel_rfl) hx ?_
  refine x_load X 400 1 (by kernel_rfl) hx ?_
  refine x_call X 400 3 (c' := .call (.builtin "list.__setitem__") ⟨[.ref x, .ref sl, .ref e], []⟩) (by kernel_rfl) ?_
  refine codeAny_call_builtin (b := Builtin.«list.__setitem__») (by decide +kernel) (entryFor_of_tree (by kernel_rfl)) ?_
  refine x_load X 400 0 (by kernel_rfl) hx ?_
  refine x_pure X 400 1 (v := ()) (by kernel_rfl) ?_
  iterate 5 refine x_load X 400 0 (by kernel_rfl) hsl ?_
  repeat (first | simp only [hne] | with_reducible refine nd_at ?_ | lk)
  have hl : Builtin.List.listTooLong (xs.toArray.size + (#[] : Array Value).size) = false := by
    unfold Builtin.List.listTooLong
    exact decide_eq_false (by rw [sizeLine_eq]; simp; (exact om5 hz))
  rw [hl, if_neg (by decide)]
  simp only [slice_at xs i hi, show ((1 : Int) > 0) = True from by simp, if_true]
  obtain ⟨n', hcut⟩ := accObj_cut dx xs n i hi
  obtain ⟨F5, N5⟩ := news_upd (d := x) (pre := []) F N (by intro p hp; cases hp) hO hcut rfl
  have hx5 := (N5 _ (.head _)).1
  have hp : (Data.seq (xs.take i).toArray n').pastItsLine = none := by
    show (if _ > sizeLine + 1 then _ else _) = none
    rw [if_neg (by rw [sizeLine_eq]; simp; (exact om14 hz))]
  dsimp only at hx5
  repeat (first | simp only [hp] | with_reducible refine nd_upd hx ?_ | with_reducible refine wpAny_letGo ?_ | with_reducible refine wpAny_call ?_ | with_reducible refine nd_at ?_ | lk)
  exact hq _ _ F5 N5
theorem pop_from_w (x dx : Addr) (xs : List Value) (n i : Nat) (ti : Tok) (hz : xs.length < 1000) (hi : i ≤ xs.length) : PySem.Challenge.rw_xj0013_01 = PySem.Challenge.rw_xj0013_01 → hd.heap_1 = hd.heap_1 →
    ClaimL w mean mg mb 0 (.ref 53) [.ref x, .int i ti] [(x, accObj dx xs n)] (fun rest => ∃ tk, (dx, accD w tk) ∈ rest)
    (fun v post extra => ∃ l n', v = .ref l ∧ post = [(x, accObj dx (xs.take i) n')] ∧ extra = [(l, { cls := .type "list", data := .seq (xs.drop i).toArray })]) := by
  k_fill; intro _ _ dp un gd cn cs a ccd cl outer A₀ base h₀ L m rest s Q E hB hF hX hN hO hR hT hk hdp hun hret
  obtain ⟨tkd, hR⟩ := hR
  refine wpAny_call ?_
  refine' code_def hB hF hX hN hT ?kA ?kF ?kK ?k6 ?k7 ?k8 ?k9 ?kB ?_ ?c2 ?c3 ?c4 ?c5
  (case kA => exact rfl); (case kF => exact rfl); (case kK => exact hk); (case k6 => k_is); (case k7 => k_is); (case k8 => show dp < recursionLimit; (exact om13 hdp)); (case k9 => exact binds_K (hX.keeps hF.keep) rfl (by k_is) rfl rfl rfl); (case kB => exact locs rfl); (case c2 => exact rfl); (case c3 => exact rfl); (case c4 => exact rfl); (case c5 => decide)
  intro g1 L' h1 FG F1 N1 B1 X1 T1
  iterate 10 (walk1; try dsimp only)
  have hx1 : x < h1.objs.size := Heap.lt_size (N1 (x, accObj dx xs n) (.head _)).1
  have F2 := F1.push { cls := .type "slice", data := .fields #[.int i ti, .none, .none] }
  have N2 := N1.push F1 { cls := .type "slice", data := .fields #[.int i ti, .none, .none] }
  refine acc_slice X1 F2 N2 (.tail _ (.head _)) (N2 _ (.head _)).1 hi hz ?_
  intro d h2 F3 N3 l3
  iterate 13 (walk1; try dsimp only)
  rename_i e h3 F4 N4 l4
  have F5 := F4.push { cls := .type "slice", data := .fields #[.int i ti, .none, .none] }
  have N5 := N4.push F4 { cls := .type "slice", data := .fields #[.int i ti, .none, .none] }
  have hxh : x < h3.objs.size := Heap.lt_size (N4 (x, accObj dx xs n) (by simp)).1
  have hxd : x < d := l3 (x, accObj dx xs n) (by simp)
  have hxe : x < e := l4.2.2.1
  have h1d : h1.objs.size < d := l3 (h1.objs.size, _) (.head _)
  have hxr : ∀ q ∈ rest, q.1 ≠ x := fun q hq => hO _ (.head _) q hq
  refine acc_setslice (x := x) (dx := dx) (xs := xs) (n := n) (rest := (h3.objs.size, { cls := .type "slice", data := .fields #[.int i ti, .none, .none] }) :: (e, W.listOf #[] 0) :: (d, { cls := Value.type "list", data := Data.seq (List.drop i xs).toArray }) :: (h1.objs.size, { cls := Value.type "slice", data := Data.fields #[Value.int i ti, Value.none, Value.none] }) :: rest) X1 F5 (cb_drop N5 (by
    intro p hp; simp only [List.mem_cons, List.mem_append, List.cons_append, List.nil_append] at hp ⊢; grind)) ?_ (N5 _ (.head _)).1 (.tail _ (.head _)) hi hz ?_
  · intro q hq
    simp only [List.mem_cons] at hq
    rcases hq with rfl | rfl | rfl | rfl | hq
    · exact Nat.ne_of_gt hxh
    · exact Nat.ne_of_gt hxe
    · exact Nat.ne_of_gt hxd
    · exact Nat.ne_of_gt hx1
    · exact hxr _ hq
  intro n' h5 F6 N6
  iterate 4 (walk1; try dsimp only)
  exact leaveK_ F6 N6 fun Fo No => hret _ [(x, accObj dx (xs.take i) n')] [(d, { cls := .type "list", data := .seq (xs.drop i).toArray })] _ _ Fo (cb_drop No (by
      intro p hp; simp only [List.mem_cons, List.cons_append, List.nil_append] at hp ⊢; grind))
    (by
      intro p hp q hq
      rw [List.mem_singleton.mp hp]
      rcases List.mem_cons.mp hq with rfl | hq
      · exact Nat.ne_of_gt hxd
      · exact hO _ (.head _) q hq)
    (by
      intro p hp q hq
      rw [List.mem_singleton.mp hp]
      exact Nat.ne_of_lt (l3 q (by simp [hq]))) ⟨d, _, rfl, rfl, rfl⟩
end

section
open PySem PySem.W PyProof.Rows PySem.Calls PySem.Spec Builtin Builtin.ObjectAttr
set_option maxHeartbeats 8000000
variable {w : World} {mean : ExcName → Option Value} {mg mb : Str → Option Value}
theorem pop_from0_w (x dx : Addr) (xs : List Value) (n : Nat) (hz : xs.length < 1000) : PySem.Challenge.rw_xj0013_01 = PySem.Challenge.rw_xj0013_01 → hd.heap_1 = hd.heap_1 →
    ClaimL w mean mg mb 0 (.ref 53) [.ref x] [(x, accObj dx xs n)] (fun rest => ∃ tk, (dx, accD w tk) ∈ rest)
    (fun v post extra => ∃ l n', v = .ref l ∧ post = [(x, accObj dx (xs.take 0) n')] ∧ extra = [(l, { cls := .type "list", data := .seq (xs.drop 0).toArray })]) := by
  k_fill; intro _ _ dp un gd cn cs a ccd cl outer A₀ base h₀ L m rest s Q E hB hF hX hN hO hR hT hk hdp hun hret
  obtain ⟨tkd, hR⟩ := hR
  refine wpAny_call ?_
  refine' code_def hB hF hX hN hT ?kA ?kF ?kK ?k6 ?k7 ?k8 ?k9 ?kB ?_ ?c2 ?c3 ?c4 ?c5
  (case kA => exact rfl); (case kF => exact rfl); (case kK => exact hk); (case k6 => k_is); (case k7 => k_is); (case k8 => show dp < recursionLimit; (exact om13 hdp)); (case k9 => exact binds_K (hX.keeps hF.keep) rfl (by k_is) rfl rfl rfl); (case kB => exact locs rfl); (case c2 => exact rfl); (case c3 => exact rfl); (case c4 => exact rfl); (case c5 => decide)
  intro g1 L' h1 FG F1 N1 B1 X1 T1
  iterate 10 (walk1; try dsimp only)
  have hx1 : x < h1.objs.size := Heap.lt_size (N1 (x, accObj dx xs n) (.head _)).1
  have F2 := F1.push { cls := .type "slice", data := .fields #[.int (0 : Nat) 229, .none, .none] }
  have N2 := N1.push F1 { cls := .type "slice", data := .fields #[.int (0 : Nat) 229, .none, .none] }
  refine acc_slice X1 F2 N2 (.tail _ (.head _)) (N2 _ (.head _)).1 (Nat.zero_le _) hz ?_
  intro d h2 F3 N3 l3
  iterate 13 (walk1; try dsimp only)
  rename_i e h3 F4 N4 l4
  have F5 := F4.push { cls := .type "slice", data := .fields #[.int (0 : Nat) 229, .none, .none] }
  have N5 := N4.push F4 { cls := .type "slice", data := .fields #[.int (0 : Nat) 229, .none, .none] }
  have hxh : x < h3.objs.size := Heap.lt_size (N4 (x, accObj dx xs n) (by simp)).1
  have hxd : x < d := l3 (x, accObj dx xs n) (by simp)
  have hxe : x < e := l4.2.2.1
  have h1d : h1.objs.size < d := l3 (h1.objs.size, _) (.head _)
  have hxr : ∀ q ∈ rest, q.1 ≠ x := fun q hq => hO _ (.head _) q hq
  refine acc_setslice (x := x) (dx := dx) (xs := xs) (n := n) (rest := (h3.objs.size, { cls := .type "slice", data := .fields #[.int (0 : Nat) 229, .none, .none] }) :: (e, W.listOf #[] 0) :: (d, { cls := Value.type "list", data := Data.seq (List.drop 0 xs).toArray }) :: (h1.objs.size, { cls := Value.type "slice", data := Data.fields #[Value.int (0 : Nat) 229, Value.none, Value.none] }) :: rest) X1 F5 (cb_drop N5 (by
    intro p hp; simp only [List.mem_cons, List.mem_append, List.cons_append, List.nil_append] at hp ⊢; grind)) ?_ (N5 _ (.head _)).1 (.tail _ (.head _)) (Nat.zero_le _) hz ?_
  · intro q hq
    simp only [List.mem_cons] at hq
    rcases hq with rfl | rfl | rfl | rfl | hq
    · exact Nat.ne_of_gt hxh
    · exact Nat.ne_of_gt hxe
    · exact Nat.ne_of_gt hxd
    · exact Nat.ne_of_gt hx1
    · exact hxr _ hq
  intro n' h5 F6 N6
  iterate 4 (walk1; try dsimp only)
  exact leaveK_ F6 N6 fun Fo No => hret _ [(x, accObj dx (xs.take 0) n')] [(d, { cls := .type "list", data := .seq (xs.drop 0).toArray })] _ _ Fo (cb_drop No (by
      intro p hp; simp only [List.mem_cons, List.cons_append, List.nil_append] at hp ⊢; grind))
    (by
      intro p hp q hq
      rw [List.mem_singleton.mp hp]
      rcases List.mem_cons.mp hq with rfl | hq
      · exact Nat.ne_of_gt hxd
      · exact hO _ (.head _) q hq)
    (by
      intro p hp q hq
      rw [List.mem_singleton.mp hp]
      exact Nat.ne_of_lt (l3 q (by simp [hq]))) ⟨d, _, rfl, rfl, rfl⟩
end

section
open PySem PySem.W PyProof.Rows PySem.Calls PySem.Spec Builtin Builtin.ObjectAttr
set_option maxHeartbeats 8000000
variable {w : World} {mean : ExcName → Option Value} {mg mb : Str → Option Value}
section
variable {prog : Program} {A : Around} {E : Value → Shared → Prop} {s : Shared}
/-- an object whose data is a line of values stands at a -/
noncomputable def SeqAt (h : Heap) (a : Addr) (items : Array Value) : Prop := ∃ o n, h.get? a = some o ∧ o.data = .seq items n
theorem acc_pyIter {x dx : Addr} {xs : List Value} {n : Nat} {Q : Value → Shared → Prop} (X : (hd.heap_1 w.params).In s.heap) (hx : s.heap.get? x = some (accObj dx xs n))
    (hq : Q (.ref s.heap.objs.size) { s with heap := s.heap.push { cls := .type "list_iterator", data := .fields #[.ref x, .int 0 0] } }) : wpAny (model prog w) A (pyIter (.ref x)) Q E s := by
  obtain ⟨od, cd, sl', hC0, hmro, hqu⟩ := acc_cls5 (w := w)
  have hC := X _ _ hC0
  obtain ⟨hh, g, d, t, os⟩ := s
  dsimp only at hx hC X hq
  have t1 : Looks (model prog w) hh (typeOf (.ref x)) (.ref 101) := (Looks.ld hx).andThen .now
  have l0 : Looks (model prog w) hh (typeLookup (.ref 101) "__iter__") (some (.builtin "list.__iter__")) := Looks.of_peek X (by kernel_rfl)
  unfold pyIter
  repeat (first | simp only [hmro] | with_reducible refine wpAny_call ?_ | with_reducible refine nd_at ?_ | lk)
  split
  all_goals
    repeat (first | simp only [hmro] | with_reducible refine wpAny_call ?_ | with_reducible refine nd_at ?_ | with_reducible refine wpAny_tryCatch ?_ | lk)
    refine codeAny_call_builtin (b := Builtin.«list.__iter__») (by decide +kernel) (entryFor_of_tree (by kernel_rfl)) ?_
    have hit : (hh.push { cls := .type "list_iterator", data := .fields #[.ref x, .int 0 0] }).get? hh.objs.size = some { cls := .type "list_iterator", data := .fields #[.ref x, .int 0 0] } := Heap.get?_push_size _ rfl
    have t2 : Looks (model prog w) (hh.push { cls := .type "list_iterator", data := .fields #[.ref x, .int 0 0] }) (specialOf (.ref hh.objs.size) "__next__") (some (.builtin "list_iterator.__next__")) := (Looks.ld hit).andThen (Looks.of_pure slot_listiter_next.lookup)
    repeat (first | simp only [hmro] | with_reducible refine nd_at ?_ | lk)
    exact hq
theorem acc_next {it x : Addr} {i : Nat} {items : Array Value} {v : Value} {Q : Option Value → Shared → Prop} (hit : s.heap.IsListIter it x i) (hl : SeqAt s.heap x items) (hx : items[i]? = some v)
    (hq : ∀ h', h'.IsListIter it x (i + 1) → Heap.SameBut it s.heap h' → Q (some v) { s with heap := h' }) : wpAny (model prog w) A (pyNext (.ref it)) Q E s := by
  obtain ⟨o, ho, hc, hd⟩ := id hit
  obtain ⟨ol, nl, hol, hdl⟩ := hl
  have hq' := hq _ ⟨_, Heap.get?_update_self (Obj.mapFields fun vs => vs.set! 1 (.int ((i : Int) + 1) 0)) ho (Obj.isFreed_of_fields (Obj.data_mapFields hd _)), (Obj.cls_mapFields ..).trans hc, by
    rw [Obj.data_mapFields hd]; simp⟩ (Heap.SameBut.update ..)
  unfold pyNext
  refine wpAny_bind (wpAny_attempt (wpAny_callSpecial?_slot (name := Str.ofString "__next__") hit.typeIs slot_listiter_next
    (wpAny_call_entry slot_listiter_next hit.typeIs entry_listiter_next ?_ (args_listiter_next _))))
  show wpAny _ _ (field (.ref it) 0 >>= _) _ _ s
  refine wpAny_bind (wpAny_field ho hd (x := .ref x) rfl ?_)
  show wpAny _ _ (if (Value.ref x == Value.none) = true then _ else _) _ _ s
  rw [if_neg (show ¬ ((Value.ref x == Value.none) = true) from Bool.false_ne_true)]
  show wpAny _ _ (field (.ref it) 1 >>= _) _ _ s
  refine wpAny_bind (wpAny_field ho hd (x := .int i 0) rfl ?_)
  show wpAny _ _ (seqItems? (.ref x) >>= _) _ _ s
  refine wpAny_bind (wpAny_seqItems hol hdl ?_)
  simp only [Int.toNat_natCast, hx]
  exact wpAny_bind (wpAny_setField ho hd (by simp) (wpAny_pure ⟨v, rfl, wpAny_pure hq'⟩))
theorem acc_done {it x : Addr} {i : Nat} {items : Array Value} {Q : Option Value → Shared → Prop} (hh : A.handled = none) (hit : s.heap.IsListIter it x i) (hl : SeqAt s.heap x items) (hx : items[i]? = none)
    (hq : ∀ h', Heap.ExtBut it s.heap h' → Q none { s with heap := h' }) : wpAny (model prog w) A (pyNext (.ref it)) Q E s := by
  obtain ⟨o, ho, hc, hd⟩ := id hit
  obtain ⟨ol, nl, hol, hdl⟩ := hl
  unfold pyNext
  refine wpAny_bind (wpAny_attempt (wpAny_callSpecial?_slot (name := Str.ofString "__next__") hit.typeIs slot_listiter_next
    (wpAny_call_entry slot_listiter_next hit.typeIs entry_listiter_next ?_ (args_listiter_next _))))
  show wpAny _ _ (field (.ref it) 0 >>= _) _ _ s
  refine wpAny_bind (wpAny_field ho hd (x := .ref x) rfl ?_)
  show wpAny _ _ (if (Value.ref x == Value.none) = true then _ else _) _ _ s
  rw [if_neg (show ¬ ((Value.ref x == Value.none) = true) from Bool.false_ne_true)]
  show wpAny _ _ (field (.ref it) 1 >>= _) _ _ s
  refine wpAny_bind (wpAny_field ho hd (x := .int i 0) rfl ?_)
  show wpAny _ _ (seqItems? (.ref x) >>= _) _ _ s
  refine wpAny_bind (wpAny_seqItems hol hdl ?_)
  simp only [Int.toNat_natCast, hx]
  refine wpAny_bind (wpAny_rule (wpAny_bind (wpAny_setField ho hd (by simp) ?_)))
  show wpAny _ _ (newExc (.type "StopIteration") [] >>= _) _ _ _
  refine wpAny_bind ?_
  simp only [newExc, newTuple]
  refine wpAny_bind ((wpAny_newObj_type ?_ (by size_fits)))
  refine wpAny_bind (m := firstArgMember _ _) (wpAny_of_eq (a := Value.none) (by first | rfl | (simp only [firstArgMember]; rfl)) ?_)
  refine wpAny_newObj_type ?_ (by size_fits)
  simp only [raiseNew]
  refine wpAny_bind (wpAny_handled ?_)
  rw [show A.in1.handled = none from hh]
  refine wpAny_bind (wpAny_pure (wpAny_throw ?_))
  refine wpAny_bind (wpAny_isInstance (T := "StopIteration") (b := true) ⟨_, Heap.get?_push_size _ rfl, rfl⟩ isSubtype_stop ?_)
  exact wpAny_pure (hq _ (((Heap.SameBut.update ..).extBut.push _).push _))
theorem SeqAt.at {h h' : Heap} {a : Addr} {items : Array Value} (x : SeqAt h a items) (e : ∀ o, h.get? a = some o → h'.get? a = some o) : SeqAt h' a items := let ⟨o, n, ho, r⟩ := x; ⟨o, n, e o ho, r⟩
end
theorem walksU_acc {prog : Program} {A : Around} (hh : A.handled = none) (I x : Addr) (hne : x ≠ I) (items : Array Value) (Ts : Nat → Addr) (vals : Nat → Array Value)
    (hit : ∀ j, j < items.size → items[j]? = some (.ref (Ts j))) (hTI : ∀ j, j < items.size → Ts j ≠ I) :
    WalksU prog w A I (I :: x :: (List.range items.size).map Ts) [I] items.size (fun j v => j < items.size ∧ v = vals j)
      (fun j h => h.IsListIter I x j ∧ SeqAt h x items ∧ ∀ k, k < items.size → h.IsTuple (Ts k) (vals k))
      (fun j T h => (j < items.size ∧ T = Ts j) ∧ h.IsListIter I x (j + 1) ∧ SeqAt h x items ∧ ∀ k, k < items.size → h.IsTuple (Ts k) (vals k)) where
  sub := fun b hb => by simp at hb; simp [hb]
  frame := fun _ _ _ st hk => ⟨st.1.at fun o e => hk I (by simp) o e, st.2.1.at fun o e => hk x (by simp) o e,
    fun k hk' => (st.2.2 k hk').at fun o e => hk (Ts k) (List.mem_cons_of_mem _ (List.mem_cons_of_mem _ (List.mem_map.mpr ⟨k, List.mem_range.mpr hk', rfl⟩))) o e⟩
  item := fun i s Q E hi st hQ => by
    refine acc_next st.1 st.2.1 (v := .ref (Ts i)) (hit i hi) fun h' hit' hs' => ?_
    have tup : ∀ k, k < items.size → h'.IsTuple (Ts k) (vals k) := fun k hk' => (st.2.2 k hk').extBut hs'.extBut (hTI k hk')
    exact hQ (Ts i) (vals i) h' s.toks ⟨hi, rfl⟩ (tup i hi) ⟨⟨hi, rfl⟩, hit', st.2.1.at fun o e => hs'.extBut x o hne e, tup⟩ fun b o hb e => hs'.extBut b o (fun h => hb (by simp [h])) e
  go := fun _ _ _ _ _ s Q _ hm hQ => wpAny_letOwnedTupleGo_listiter hm.2.1 (hQ s.heap hm.2 fun _ _ _ e => e)
  apart := fun j T _ hm hmem => by
    rcases List.mem_cons.mp hmem with e | e
    · exact hTI j hm.1.1 (hm.1.2 ▸ e)
    · cases e
  done := fun s Q E st hQ => acc_done hh st.1 st.2.1 (by simp) fun h' he' => hQ h' s.toks fun b o hb e => he' b o (fun h => hb (by simp [h])) e
  self := fun _ _ _ _ st hQ => wpAny_pyIter_listiter st.1 hQ
end

section
open PySem PySem.W PyProof.Rows PySem.Calls PySem.Spec Builtin Builtin.ObjectAttr
set_option maxHeartbeats 8000000
variable {w : World} {mean : ExcName → Option Value} {mg mb : Str → Option Value}
/-- the values xs are tuples of two strings, those of cs, that stand in the ledger -/
inductive Cards (l : Led) : List Value → List (Str × Str) → Prop
  | nil : Cards l [] []
  | cons {vs : List Value} {cs : List (Str × Str)} {c : Str × Str} {T : Addr} {ta tb : Tok} (m : (T, tupObj [.str c.1 ta, .str c.2 tb]) ∈ l) (r : Cards l vs cs) : Cards l (.ref T :: vs) (c :: cs)
section
variable {l l' : Led} {xs ys : List Value} {cs ds : List (Str × Str)}
theorem Cards.mono (h : ∀ p ∈ l, p ∈ l') (x : Cards l xs cs) : Cards l' xs cs := by
  induction x with
  | nil => exact .nil
  | cons m _ ih => exact .cons (h _ m) ih
theorem Cards.length (x : Cards l xs cs) : xs.length = cs.length := by
  induction x with
  | nil => rfl
  | cons _ _ ih => exact congrArg (· + 1) ih
theorem Cards.append (x : Cards l xs cs) (y : Cards l ys ds) : Cards l (xs ++ ys) (cs ++ ds) := by
  induction x with
  | nil => exact y
  | cons m _ ih => exact .cons m ih
theorem Cards.take (i : Nat) (x : Cards l xs cs) : Cards l (xs.take i) (cs.take i) := by
  induction x generalizing i with
  | nil => cases i <;> exact .nil
  | cons m _ ih => cases i with
    | zero => exact .nil
    | succ i => exact .cons m (ih i)
theorem Cards.drop (i : Nat) (x : Cards l xs cs) : Cards l (xs.drop i) (cs.drop i) := by
  induction x generalizing i with
  | nil => cases i <;> exact .nil
  | cons m r ih => cases i with
    | zero => exact .cons m r
    | succ i => exact ih i
theorem Cards.get {j : Nat} (x : Cards l xs cs) (hj : j < xs.length) : ∃ T ta tb c, xs[j]? = some (.ref T) ∧ cs[j]? = some c ∧ (T, tupObj [.str c.1 ta, .str c.2 tb]) ∈ l := by
  induction x generalizing j with
  | nil => exact absurd hj (Nat.not_lt_zero _)
  | cons m _ ih => cases j with
    | zero => exact ⟨_, _, _, _, rfl, rfl, m⟩
    | succ j => exact ih (Nat.lt_of_succ_lt_succ hj)
theorem Cards.one {c : Str × Str} {T : Addr} {ta tb : Tok} (m : (T, tupObj [.str c.1 ta, .str c.2 tb]) ∈ l) : Cards l [.ref T] [c] := .cons m .nil
end
theorem Cards.funs {l : Led} {xs : List Value} {cs : List (Str × Str)} (h : Cards l xs cs) : ∃ (Ts : Nat → Addr) (vals : Nat → Array Value), (∀ j, ∃ va vb, vals j = #[va, vb]) ∧ ∀ j, j < xs.length → xs.toArray[j]? = some (.ref (Ts j)) ∧ (Ts j, tupObj (vals j).toList) ∈ l ∧
    ∃ c ta tb, cs[j]? = some c ∧ vals j = #[.str c.1 ta, .str c.2 tb] := by
  have q : ∀ j, ∃ (p : Addr × Array Value), (∃ va vb, p.2 = #[va, vb]) ∧ (j < xs.length → xs.toArray[j]? = some (.ref p.1) ∧ (p.1, tupObj p.2.toList) ∈ l ∧ ∃ c ta tb, cs[j]? = some c ∧ p.2 = #[.str c.1 ta, .str c.2 tb]) := fun j => by
    by_cases hj : j < xs.length
    · obtain ⟨T, ta, tb, c, h1, h2, h3⟩ := h.get hj
      exact ⟨(T, #[.str c.1 ta, .str c.2 tb]), ⟨_, _, rfl⟩, fun _ => ⟨by simpa using h1, h3, c, ta, tb, h2, rfl⟩⟩
    · exact ⟨(0, #[.none, .none]), ⟨_, _, rfl⟩, fun h => absurd h hj⟩
  exact ⟨fun j => (Classical.choose (q j)).1, fun j => (Classical.choose (q j)).2, fun j => (Classical.choose_spec (q j)).1, fun j => (Classical.choose_spec (q j)).2⟩
/-- an object that can stand as a code's table -/
noncomputable def TabOk (o : Obj) : Prop := ∃ ps, o = tabObj ps ∧ TriplesOk ps.toList
theorem triples_of {h : Heap} {c P : Addr} {ps : Array Value} (x : h.IsCode c P ps) : TriplesOk ps.toList := by
  obtain ⟨_, _, _, _, _, _, _, _, _, _, h⟩ := x
  exact h.2.2.2.2.2.2.2.2.2.1
theorem genexpr_code {M : Model} {A : Around} {E : Value → Shared → Prop} {s : Shared} {env : Env} {c P : Addr} {tb : Obj} {pos : Pos} {qual : Str} {scope : Scope} {Q : Value → Shared → Prop} (hc : env.code = .ref c) (C : CodeHd s.heap c P) (hP : s.heap.get? P = some tb) (ht : TabOk tb)
    (hQ : ∀ code h' tk tb', Heap.ExtBut P s.heap h' → h'.get? P = some tb' → TabOk tb' → Q code { s with heap := h', toks := tk }) : wpAny M A (genexprCode env pos qual scope) Q E s := by
  obtain ⟨ps, rfl, ht⟩ := ht
  cases hf : codeAmong pos ps.toList with
  | some cv => exact wpAny_genexprCode_hit hc (C.code hP ht) hf (hQ cv s.heap s.toks (tabObj ps) (Heap.ExtBut.refl _ _) hP ⟨ps, rfl, ht⟩)
  | none => exact wpAny_genexprCodeX hc (C.code hP ht) (C.tab hP) hf fun c' h' tk hx _ _ hcd _ htb _ => hQ _ h' tk _ hx htb.2 ⟨_, rfl, triples_of hcd⟩
theorem passing_all (n : Nat) : passing (fun _ => true) n 0 = List.range n := by
  unfold passing
  simp
theorem acc_genexp {prog : Program} {A : Around} {E : Value → Shared → Prop} {s : Shared} {env : Env} {elt iter : Expr} {xa xb : Str} {pa pb pt pos : Pos} {kt : Nat} {scope : Scope} {cl : List (Str × Addr)} {c P x dx L : Addr} {tb : Obj}
    {xs : List Value} {n : Nat} {cs : List (Str × Str)} {h₀ : Heap} {m : Str → Option Value} {rest : Led} {F : Nat → Value → Prop} {Q : Value → Shared → Prop}
    (hh : A.handled = none) (hco : scope.isCoroutine = false) (hclos : closureFor scope env = pure cl) (hcell : ∀ y ∈ scope.names, y.2 ≠ .cell) (h0 : scope.names.lookup (".0" : Str) = some NameKind.local)
    (hxa : scope.names.lookup xa = some .local) (hxb : scope.names.lookup xb = some .local) (hab : xa ≠ xb) (hkind : scope.kind = .function) (hroom : A.depth < recursionLimit)
    (hg : env.globals = mainGlobals) (hcode : env.code = .ref c) (hs : ∀ x, genFold iter env x = pure x)
    (F₀ : Fr h₀ L s.heap m) (N : News h₀ L s.heap ((P, tb) :: rest)) (hO : ∀ q ∈ rest, q.1 ≠ P) (X : (hd.heap_1 w.params).In h₀) (T : Tp mean mg mb h₀) (hC : CodeHd h₀ c P) (htr : TabOk tb)
    (hx : (x, accObj dx xs n) ∈ rest) (hcs : Cards rest xs cs) (hG : AllBare s.gens)
    (hself : ∀ Q', Q' (.ref x) s → wpAny (model prog w) A (eval iter env) Q' E s)
    (hq : ∀ (C : Addr) (code : Value) (i : Nat) (a b : Str) (ta tb : Tok) (t : Shared) (A' : Around) (E' : Value → Shared → Prop) m₂, L < C → A'.handled = none → cs[i]? = some (a, b) → (∀ b o, h₀.get? b = some o → t.heap.get? b = some o) → t.heap.Ns C m₂ →
      m₂ xa = some (.str a ta) → m₂ xb = some (.str b tb) → wpAny (model prog w) A' (eval elt (genEnv scope cl C code builtinsNs env)) (fun y s₃ => F i y ∧ Keeps t s₃) E' t)
    (hQ : ∀ (a : Addr) (fp wr : List Addr) (G : Array GenState → Array GenState → Prop) (Pz : Nat → Value → Prop) (St : Nat → Shared → Prop) (h₅ : Heap) (tk : Nat) (gens' : Array GenState) (tb' : Obj),
      AllBare gens' → (∀ g, G gens' g → AllBare g) → Fr h₀ L h₅ m → News h₀ L h₅ ((P, tb') :: rest) → TabOk tb' → (∀ b ∈ wr, s.heap.objs.size ≤ b) → (∀ b ∈ fp, b < h₅.objs.size) → a ∈ fp →
      WalksS prog w A.in4 a fp wr G xs.length Pz St → (∀ j y, Pz j y → F j y) → (∀ i s, St i s → s.TypeIs (.ref a) "generator") → St 0 { s with gens := gens', toks := tk, heap := h₅ } → Q (.ref a) { s with gens := gens', toks := tk, heap := h₅ }) :
    wpAny (model prog w) A (eval (.GeneratorExp elt [⟨.Tuple [.Name xa pa, .Name xb pb] kt pt, iter, [], 0⟩] scope pos) env) Q E s := by
  have X1 := X.keeps F₀.keep
  have hP := (N _ (.head _)).1
  have hPL : P ≠ L := (N _ (.head _)).2.1
  have hP0 : h₀.get? P = none := (N _ (.head _)).2.2
  obtain ⟨bm, ob, b1, b2, b3, b4, b5, b6⟩ := T.bmain
  obtain ⟨Ts, vals, hvs, hTs⟩ := hcs.funs
  have hxs := (N _ (.tail _ hx)).1
  refine wpAny_GeneratorExp_walksQT hh hco hclos hcell h0 hxa hxb hab hkind hroom ?_ hs
  refine hself _ (acc_pyIter X1 hxs ?_)
  have hlim := (T.nolimit.keeps F₀.keep).push { cls := .type "list_iterator", data := .fields #[.ref x, .int 0 0] }
  refine ⟨hlim, ?_⟩
  refine genexpr_code hcode ((hC.keeps F₀.keep).keeps fun _ _ e => Heap.get?_push_of_some _ e) (Heap.get?_push_of_some _ hP) htr fun code h' tk op hext hop hopt => ?_
  have k1 : ∀ b o, b ≠ P → s.heap.get? b = some o → h'.get? b = some o := fun b o hb e => hext b o hb (Heap.get?_push_of_some _ e)
  have k0 : ∀ b o, h₀.get? b = some o → h'.get? b = some o := fun b o e => k1 b o (fun h => by rw [h, hP0] at e; cases e) (F₀.keep b o e)
  rw [hg]
  refine wpAny_builtinsFor (T.g.keeps k0) b1 b2 (k0 _ _ b3) b4 b5 b6 ?_
  have hI : h'.get? s.heap.objs.size = some { cls := .type "list_iterator", data := .fields #[.ref x, .int 0 0] } := hext _ _ (Nat.ne_of_gt (Heap.lt_size hP)) (Heap.get?_push_size _ rfl)
  have hIlt := Heap.lt_size hI
  have hxlt := Heap.lt_size hxs
  have hxP : x ≠ P := hO _ hx
  have tl : ∀ j, j < xs.toArray.size → Ts j < s.heap.objs.size := fun j hj => Heap.lt_size (N _ (.tail _ (hTs j (by simpa using hj)).2.1)).1
  have N' : News h₀ L h' ((P, op) :: rest) := fun p hp => by
    rcases List.mem_cons.mp hp with rfl | hp
    · exact ⟨hop, hPL, hP0⟩
    · exact ⟨k1 _ _ (hO p hp) (N p (.tail _ hp)).1, (N p (.tail _ hp)).2⟩
  have F' : Fr h₀ L h' m := ⟨F₀.ns.at' fun o e => k1 L o (Ne.symm hPL) e, k0, F₀.above⟩
  have hlim' := T.nolimit.keeps k0
  have hst0 : h'.IsListIter s.heap.objs.size x 0 ∧ SeqAt h' x xs.toArray ∧ ∀ k, k < xs.toArray.size → h'.IsTuple (Ts k) (vals k) :=
    ⟨⟨_, hI, rfl, rfl⟩, ⟨_, n, k1 _ _ hxP hxs, rfl⟩, fun k hk => ⟨_, (N' _ (.tail _ (hTs k (by simpa using hk)).2.1)).1, rfl, 0, by simp⟩⟩
  refine ⟨s.heap.objs.size, _, _, xs.toArray.size, _, _, _, fun _ => true, F, rfl, fun A' hA' => walksU_acc hA' s.heap.objs.size x (Nat.ne_of_lt hxlt) xs.toArray Ts vals (fun j hj => (hTs j (by simpa using hj)).1) (fun j hj => Nat.ne_of_lt (tl j hj)), ?_, hst0, ?_, hlim', ?_, ?_, ?_⟩
  · rintro i v ⟨_, rfl⟩
    exact hvs i
  · intro b hb
    rcases List.mem_cons.mp hb with rfl | hb
    · exact hIlt
    · rcases List.mem_cons.mp hb with rfl | hb
      · exact Nat.lt_trans hxlt hIlt
      · obtain ⟨j, hj, rfl⟩ := List.mem_map.mp hb
        exact Nat.lt_trans (tl j (List.mem_range.mp hj)) hIlt
  · intro hm
    obtain ⟨mc, ⟨o, _, _, ho, _⟩, _⟩ := T.nolimit.keeps F₀.keep
    exact absurd (Heap.lt_size ho) ((List.mem_singleton.mp hm) ▸ Nat.lt_irrefl _)
  · intro href hk
    refine ⟨fun A' E' i va vb s₂ m₂ hA hP hn ha hb hkp => ?_, fun A' E' i va vb s₂ m₂ hA hP _ hn ha hb hkp => ?_⟩
    · rw [List.forIn_nil]
      exact wpAny_pure ⟨rfl, s₂.heap, s₂.toks, rfl, fun _ _ e => e⟩
    · obtain ⟨c₀, ta, tb, hc, hv⟩ := (hTs i (by simpa using hP.1)).2.2
      have hv' : #[va, vb] = #[Value.str c₀.1 ta, .str c₀.2 tb] := hP.2.trans hv
      cases hv'
      exact hq _ _ i _ _ _ _ s₂ A' E' m₂ F'.ns.lt hA hc (fun b o e => hkp b (List.mem_range.mpr (Heap.lt_size (k0 b o e))) (fun hm => by
        have := Heap.lt_size (F₀.keep b o e)
        exact absurd this ((List.mem_singleton.mp hm) ▸ Nat.lt_irrefl _)) o (hk b o (k0 b o e))) hn ha hb
  · intro a h₅ tk₅ gs hbare ha hsz hk5 W hst
    have hlen : (passing (fun _ => true) xs.toArray.size 0).length = xs.length := by rw [passing_all]; simp
    rw [hlen] at W
    have hsl : s.heap.objs.size < h'.objs.size := hIlt
    replace ha : h'.objs.size < a := ha
    replace hsz : h₅.objs.size = a + 1 := hsz
    refine hQ a _ _ _ _ _ h₅ tk₅ _ op (hG.push hbare) (fun g hg' => (hG.push hbare).moved hg') ⟨F'.ns.at' fun o e => hk5 _ o e, fun b o e => hk5 b o (k0 b o e), F₀.above⟩ (fun p hp => ⟨hk5 _ _ (N' p hp).1, (N' p hp).2⟩) hopt ?_ ?_ (.head _) W ?_ ?_ hst
    · intro b hb
      rcases List.mem_cons.mp hb with rfl | hb
      · exact Nat.le_of_lt hsl
      · exact Nat.le_of_eq (List.mem_singleton.mp hb).symm
    · intro b hb
      rcases List.mem_cons.mp hb with rfl | hb
      · exact Nat.lt_of_lt_of_eq (Nat.lt_succ_self _) hsz.symm
      · rcases List.mem_cons.mp hb with rfl | hb
        · exact Nat.lt_of_lt_of_eq (Nat.lt_succ_of_lt ha) hsz.symm
        · exact Nat.lt_of_lt_of_eq (Nat.lt_succ_of_lt (Nat.lt_trans (List.mem_range.mp hb) ha)) hsz.symm
    · rintro j y ⟨i, hi, hF⟩
      rw [passing_all] at hi
      have : j = i := by
        obtain ⟨h1, h2⟩ := List.getElem?_eq_some_iff.mp hi
        simpa using h2
      exact this ▸ hF
    · intro j t st
      exact st.1.typeIs
end

section
open PySem PySem.W PyProof.Rows PySem.Calls PySem.Spec Builtin Builtin.ObjectAttr
set_option maxHeartbeats 8000000
variable {w : World} {mean : ExcName → Option Value} {mg mb : Str → Option Value}
theorem args_sum2 (a b : Value) : argsOk "sum" ⟨[a, b], []⟩ := by unfold argsOk; kernel_rfl
theorem sum_from {prog : Program} {A : Around} {E : Value → Shared → Prop} {s : Shared} {a : Addr} {fp wr : List Addr} {G : Array GenState → Array GenState → Prop} {n : Nat} {P : Nat → Value → Prop} {St : Nat → Shared → Prop} {t0 : Tok} {val : Nat → Int} {Q : Value → Shared → Prop}
    (W : WalksS prog w A.in1 a fp wr G n P St) (hst : St 0 s) (hfp : ∀ b ∈ fp, b < s.heap.objs.size) (hval : ∀ i v, P i v → ∃ t, v = .int (val i) t)
    (hQ : ∀ s' t', Moved wr G s s' → Q (.int (preSum val n) t') s') : wpAny (model prog w) A (call (.builtin "sum") [.ref a, .int 0 t0]) Q E s := by
  have hstart : Builtin.Builtins.bindParams "sum" ["start"] 0 { pos := [.int 0 t0] } = pure [some (.int 0 t0)] := by first | rfl | (unfold Builtin.Builtins.bindParams; rfl)
  refine call_function_tree F.kind_sum F.plain_sum F.entry_sum (args_sum2 _ _) ?_
  unfold Builtin.«sum»
  simp only [List.length_cons, List.length_nil]
  rw [if_neg (by decide)]
  refine wpAny_bind (wpAny_of_eq hstart ?_)
  refine wpAny_bind (W.self 0 s _ _ hst ?_)
  refine wpAny_bind (wpAny_rule ?_)
  refine wpAny_bind (wpAny_mkInt ?_)
  refine wpAny_bind (wpAny_pure ?_)
  simp only [List.forIn_cons, List.forIn_nil]
  refine wpAny_bind (wpAny_bind (wpAny_bind (wpAny_isInstance (T := "int") (b := false) (typeIs_int _ _ _) PySem.sub_int_str ?_)))
  simp only [Bool.false_eq_true, if_false]
  refine wpAny_pure (wpAny_bind (wpAny_bind (wpAny_isInstance (T := "int") (b := false) (typeIs_int _ _ _) PySem.sub_int_bytes ?_)))
  simp only [Bool.false_eq_true, if_false]
  refine wpAny_pure (wpAny_bind (wpAny_bind (wpAny_isInstance (T := "int") (b := false) (typeIs_int _ _ _) PySem.sub_int_bytearray ?_)))
  simp only [Bool.false_eq_true, if_false]
  refine wpAny_pure (wpAny_pure ?_)
  refine wpAny_bind (wpAny_newObj_type ?_)
  have hSf : s.heap.objs.size ∉ fp := fun hm => Nat.lt_irrefl _ (hfp _ hm)
  refine wpAny_pure ⟨plainId_quiet F.plain_sum_loop _, codeAny_sum_loopAnyS W val hval s.heap.objs.size hSf n 0 _ s.toks 0 0 (.inl rfl) rfl (Nat.zero_le _)
    (W.frame 0 s _ _ hst (by first | exact Nat.le_refl _ | exact Nat.le_succ _ | omega) fun b _ o e => Heap.get?_push_of_some _ e) (Heap.get?_push_size _ rfl) fun s' t' hm => ?_⟩
  exact hQ s' t' (hm.drop_new (by first | exact Nat.le_refl _ | exact Nat.le_succ _ | omega))
theorem entry_lga : entryFor table "list.__getattribute__" = some Builtin.«object.__getattribute__» := entryFor_alias (id' := "object.__getattribute__") (by rw [fastTable_eq_tree]; kernel_rfl) (by first | rfl | decide +kernel) (by decide +kernel) (by rw [fastTable_eq_tree]; kernel_rfl)
theorem acc_cls6 : ∃ od cd sl, (hd.heap_1 w.params).lookup 101 = some ⟨.type "type", od, .cls cd, sl⟩ ∧ cd.mro = [.ref 101, .type "list", .type "object"] ∧ cd.qualname = Str.ofString "_Accumulator" ∧ cd.hasDict = true := ⟨_, _, _, rfl, rfl, rfl, rfl⟩
theorem acc_getattr {prog : Program} {A : Around} {E : Value → Shared → Prop} {s : Shared} {x dx : Addr} {xs : List Value} {n : Nat} {tk : Tok} {Q : Value → Shared → Prop} (X : (hd.heap_1 w.params).In s.heap)
    (hx : s.heap.get? x = some (accObj dx xs n)) (hdx : s.heap.get? dx = some (accD w tk)) (hq : ∀ k, s.toks ≤ k → Q (.int 0 210) { s with toks := k }) : wpAny (model prog w) A (getAttr (.ref x) "_initial_size" true) Q E s := by
  obtain ⟨hh, g, d, t, os⟩ := s
  dsimp only at hx X hdx hq
  refine x_fresh X 400 0 (by kernel_rfl) ?_
  refine x_load X 400 0 (by kernel_rfl) hx ?_
  refine x_call X 400 6 (c' := .call (.builtin "list.__getattribute__") ⟨[.ref x, .str (Str.ofString "_initial_size") t], []⟩) (by kernel_rfl) ?_
  refine codeAny_call_builtin (b := Builtin.«object.__getattribute__») (by decide +kernel) entry_lga ?_
  refine x_load X 400 0 (by kernel_rfl) hx ?_
  refine x_pure X 400 1 (v := ()) (by kernel_rfl) ?_
  refine x_load X 400 0 (by kernel_rfl) hx ?_
  refine x_load X 400 3 (by kernel_rfl) hx ?_
  refine x_load X 400 0 (by kernel_rfl) hx ?_
  refine x_load X 400 1 (by kernel_rfl) hdx ?_
  refine x_pure X 400 0 (v := Fin.done (Flow.ret (Value.int 0 210))) (by kernel_rfl) ?_
  refine x_pure X 400 0 (v := Value.int 0 210) (by kernel_rfl) ?_
  exact hq _ (Nat.le_succ _)
theorem genBuiltin {M : Model} {A : Around} {E : Value → Shared → Prop} {s : Shared} {sc : Scope} {cl : List (Str × Addr)} {env : Env} {C : Addr} {code v : Value} {x : Str} {p : Pos} {Q : Value → Shared → Prop} (T : Tp mean mg mb s.heap) (hg : env.globals = mainGlobals) (hk : sc.kind = .function)
    (hx : (genEnv sc cl C code builtinsNs env).kindOf x = some .globalImplicit) (h1 : x ∉ startupNames) (h2 : x ∉ LL) (h3 : x ≠ "__name__") (hv : bootBuiltins x = some v) (h : Q v s) (hd : (x == ("__debug__" : Str)) = false := by decide) : wpAny M A (eval (.Name x p) (genEnv sc cl C code builtinsNs env)) Q E s :=
  Name_function_global hk hx (loadGlobal_builtin (env := genEnv sc cl C code builtinsNs env) (show s.heap.Ns env.globals mg from hg ▸ T.g) (T.free x h1 h2 (fun h => nomatch h) (fun h => nomatch h) (fun h => nomatch h)) T.b ((T.builtins x h3).trans hv) h) hd
theorem genLocal {M : Model} {A : Around} {E : Value → Shared → Prop} {s : Shared} {sc : Scope} {cl : List (Str × Addr)} {env : Env} {C : Addr} {code v : Value} {x : Str} {p : Pos} {Q : Value → Shared → Prop} {m : Str → Option Value} (hn : s.heap.Ns C m) (hv : m x = some v) (hk : sc.kind = .function)
    (hx : (genEnv sc cl C code builtinsNs env).kindOf x = some .local) (h : Q v s) (hd : (x == ("__debug__" : Str)) = false := by decide) : wpAny M A (eval (.Name x p) (genEnv sc cl C code builtinsNs env)) Q E s :=
  wpAny_Name (wpAny_loadName_local hk hx hn hv h) hd
/-- as ClaimL, but the call may bear generators -/
noncomputable abbrev ClaimG (w : World) (mean : ExcName → Option Value) (mg mb : Str → Option Value) (lv : Nat) (f : Value) (vs : List Value) (pre : Led) (Rd : Led → Prop) (Post : Value → Led → Led → Prop) : Prop :=
  ∀ (dp un : Nat) (gd : Option (List Code)) (cn : Str) (cs : Scope) (a : Addr) (ccd : Value) (cl : List (Str × Addr)) (outer : List Env) (A₀ : Around) (base h₀ : Heap) (L : Addr) (m : Str → Option Value) (rest : Led) (s : Shared) (Q E : Value → Shared → Prop),
    Below A₀ base outer h₀ → Fr h₀ L s.heap m → (hd.heap_1 w.params).In h₀ → News h₀ L s.heap (pre ++ rest) → Off pre rest → Rd rest → Tp mean mg mb h₀ → cs.kind = .function → AllBare s.gens →
    dp + (lv + 2) * 4 < recursionLimit → un + (lv + 2) * 12 < cLine →
    (∀ (v : Value) (post extra : Led) (h' : Heap) (tk' : Nat) (gs' : Array GenState), AllBare gs' → Fr h₀ L h' m → News h₀ L h' (post ++ (extra ++ rest)) → Off post (extra ++ rest) → Off extra rest → Post v post extra → Q v { s with heap := h', toks := tk', gens := gs' }) →
      wpAny (model PySem.Challenge.pw_xj0013_01 w) (ktrTop dp un gd cn cs L a ccd cl outer) (call f vs) Q E s
noncomputable def sumLen (cs : List (Str × Str)) : Nat := (cs.map fun c => c.1.length + c.2.length).sum
theorem preSum_cards : ∀ cs : List (Str × Str), preSum (fun i => (((cs.getD i default).1.length + (cs.getD i default).2.length : Nat) : Int)) cs.length = sumLen cs := by
  intro cs
  have q : ∀ j, j ≤ cs.length → preSum (fun i => (((cs.getD i default).1.length + (cs.getD i default).2.length : Nat) : Int)) j = sumLen (cs.take j) := by
    intro j
    induction j with
    | zero => intro _; rfl
    | succ j ih =>
      intro h
      rw [preSum, ih (by (exact om22 h)), List.take_succ, List.getElem?_eq_getElem (by (exact om21 h))]
      simp only [List.getD_eq_getElem?_getD, List.getElem?_eq_getElem (show j < cs.length by (exact om21 h)), Option.getD_some, sumLen, List.map_append, List.sum_append, Option.toList, List.map_cons, List.map_nil, List.sum_cons, List.sum_nil]
      (exact om20)
  rw [q _ (Nat.le_refl _), List.take_length]
theorem codeHd_len {h : Heap} (X : (hd.heap_1 w.params).In h) : CodeHd h 67 63 := ⟨_, _, _, _, _, _, _, _, _, X 67 _ rfl, rfl, rfl, rfl, rfl, rfl, rfl, rfl, rfl, by decide⟩
theorem codeHd_str {h : Heap} (X : (hd.heap_1 w.params).In h) : CodeHd h 74 70 := ⟨_, _, _, _, _, _, _, _, _, X 74 _ rfl, rfl, rfl, rfl, rfl, rfl, rfl, rfl, rfl, by decide⟩
theorem len_w (x dx : Addr) (xs : List Value) (n : Nat) (cs' : List (Str × Str)) (tb : Obj) (htb : TabOk tb) (hbd : ∀ c ∈ cs', c.1.length ≤ 1000 ∧ c.2.length ≤ 1000) : PySem.Challenge.rw_xj0013_01 = PySem.Challenge.rw_xj0013_01 → hd.heap_1 = hd.heap_1 →
    ClaimG w mean mg mb 0 (.ref 68) [.ref x] [(63, tb)] (fun rest => (x, accObj dx xs n) ∈ rest ∧ (∃ tk, (dx, accD w tk) ∈ rest) ∧ Cards rest xs cs')
    (fun v' post extra => ∃ t tb', v' = .int (sumLen cs') t ∧ post = [(63, tb')] ∧ TabOk tb' ∧ extra = []) := by
  k_fill; intro _ _ dp un gd cn cs a ccd cl outer A₀ base h₀ L m rest s Q E hB hF hX hN hO hR hT hk hG hdp hun hret
  obtain ⟨hxm, ⟨tkd, hdx⟩, hcs⟩ := hR
  refine wpAny_call ?_
  k_dflt cell_enter
  iterate 7 (walk1; try dsimp only)
  rename_i g1 L' h1 FG F1 N1 B1 X1 T1
  refine acc_genexp (P := 63) (tb := tb) (rest := rest) (F := fun i y => ∃ c t, cs'[i]? = some c ∧ y = .int (c.1.length + c.2.length : Nat) t) rfl rfl rfl (by decide) rfl rfl rfl (by decide) rfl ?_ rfl rfl (fun _ => rfl) F1 N1 (fun q hq => hO _ (.head _) q hq) X1 T1 (codeHd_len X1) htb hxm hcs hG ?_ ?_ ?_
  · ktr_room
  · intro Q' hQ'
    walk1
    exact hQ'
  · intro C code i a b ta tb t A' E' m₂ hC hA hc hk hn ha hb
    have F2 : Fr g1 C t.heap m₂ := ⟨hn, hk, Nat.le_of_lt (Nat.lt_of_le_of_lt F1.above hC)⟩
    clear F1 FG N1
    obtain ⟨hh, gg, dd, tt, os⟩ := t
    dsimp only at F2 hn hk
    have T2 := T1.keeps hk
    iterate 2 walk1
    refine genBuiltin T2 rfl rfl rfl (by decide) (by decide) (by decide) (by boot_fast) ?_
    iterate 2 walk1
    refine genLocal hn ha rfl rfl ?_
    walk1
    have hb1 := hbd _ (List.mem_of_getElem? hc)
    refine P.len_str (by have := hb1.1; dsimp only at this; omega) ?_
    walk1
    refine genBuiltin T2 rfl rfl rfl (by decide) (by decide) (by decide) (by boot_fast) ?_
    iterate 2 walk1
    refine genLocal hn hb rfl rfl ?_
    iterate 1 walk1
    refine P.len_str (by have := hb1.2; dsimp only at this; omega) ?_
    walk1
    exact ⟨⟨(a, b), tt + 1 + 1 + 1 + 1, hc, congrArg (fun z => Value.int z _) (Int.natCast_add _ _).symm⟩, hh, _, rfl, fun _ _ e => e⟩
  · intro a fp wr G Pz St h₅ tk gens' tb' hG' hGG F5 N5 htb' hwr hfp hafp W hPz hty hst
    have hlt : ∀ p ∈ ((63, tb) :: rest), p.1 < h1.objs.size := fun p hp => Heap.lt_size (N1 p hp).1
    have hLlt := F1.ns.lt
    clear F1 N1
    iterate 3 (walk1; try dsimp only)
    refine acc_getattr (dx := dx) (tk := tkd) (X1.keeps F5.keep) (N5 _ (.tail _ hxm)).1 (N5 _ (.tail _ hdx)).1 (fun k hk => ?_)
    iterate 1 (walk1; try dsimp only)
    refine sum_from W.in4_1 (W.frame 0 _ h₅ _ hst ?_ fun _ _ _ e => e) hfp (val := fun i => (((cs'.getD i default).1.length + (cs'.getD i default).2.length : Nat) : Int)) ?_ ?_
    · exact hk
    · intro i v hv
      obtain ⟨c, t, hc, rfl⟩ := hPz i v hv
      exact ⟨t, by simp only [List.getD_eq_getElem?_getD, hc, Option.getD_some]⟩
    intro s' t' hm
    obtain ⟨h6, g6, d6, t6, o6⟩ := s'
    obtain ⟨hm1, hm2, hm3, hm4, hm5⟩ := hm
    dsimp only at hm1 hm2 hm3 hm4 hm5
    subst hm3 hm4
    rw [hcs.length, preSum_cards] 
    have hL : ∀ b, b < h1.objs.size → b ∉ wr := fun b hb hm => absurd (hwr b hm) (Nat.not_le.mpr hb)
    have F6 : Fr g1 L' h6 _ := ⟨F5.ns.at' fun o e => hm1 _ o (hL _ hLlt) e, fun b o e => hm1 b o (hL _ (Nat.lt_trans (Nat.lt_of_lt_of_le (Heap.lt_size e) F5.above) hLlt)) (F5.keep b o e), F5.above⟩
    have N6 : News g1 L' h6 ((63, tb') :: rest) := fun p hp => ⟨hm1 _ _ (hL _ (by
      rcases List.mem_cons.mp hp with rfl | hp
      · exact hlt (63, tb) (.head _)
      · exact hlt _ (.tail _ hp))) (N5 p hp).1, (N5 p hp).2⟩
    exact leaveK_ F6 N6 fun Fo No => hret _ [(63, tb')] [] _ _ _ (hGG _ hm2) Fo No (fun p hp q hq => by rw [List.mem_singleton.mp hp]; exact hO _ (.head _) q hq) (fun p hp => nomatch hp) ⟨_, _, rfl, rfl, htb', rfl⟩
end

section
open PySem PySem.W PyProof.Rows PySem.Calls PySem.Spec Builtin Builtin.ObjectAttr
set_option maxHeartbeats 8000000
variable {w : World} {mean : ExcName → Option Value} {mg mb : Str → Option Value}
noncomputable abbrev mt : Str := Str.ofString ""
noncomputable def catOf (cs : List (Str × Str)) : List Str := cs.map fun c => Txt.join mt [c.1, c.2]
theorem join2 (a b : Str) : Txt.join mt [a, b] = a ++ b := by
  show Builtin.Str.glued mt [a, b] = _
  rw [StrLaws.glued_eq_join]
  show a ++ mt ++ b = a ++ b
  show (⟨a.cps ++ #[] ++ b.cps⟩ : Str) = ⟨a.cps ++ b.cps⟩
  simp
theorem join2_length (a b : Str) : (Txt.join mt [a, b]).length = a.length + b.length := by
  rw [join2]
  show (a.cps ++ b.cps).size = a.cps.size + b.cps.size
  simp
theorem catOf_weight : ∀ (cs : List (Str × Str)), (∀ c ∈ cs, c.1.length ≤ 1000 ∧ c.2.length ≤ 1000) → ((catOf cs).map (·.length)).sum ≤ cs.length * 2000
  | [], _ => by simp [catOf]
  | c :: cs, h => by
    have h1 := h c (.head _)
    have h2 := catOf_weight cs fun c hc => h c (.tail _ hc)
    simp only [catOf, List.map_cons, List.sum_cons, List.length_cons, join2_length] at h2 ⊢
    (exact om26 h1 h2)
theorem genGlobal {M : Model} {A : Around} {E : Value → Shared → Prop} {s : Shared} {sc : Scope} {cl : List (Str × Addr)} {env : Env} {C : Addr} {code v : Value} {x : Str} {p : Pos} {Q : Value → Shared → Prop} (T : Tp mean mg mb s.heap) (hg : env.globals = mainGlobals) (hk : sc.kind = .function)
    (hx : (genEnv sc cl C code builtinsNs env).kindOf x = some .globalImplicit) (hv : mg x = some v) (h : Q v s) (hd : (x == ("__debug__" : Str)) = false := by decide) : wpAny M A (eval (.Name x p) (genEnv sc cl C code builtinsNs env)) Q E s :=
  Name_function_global hk hx (loadGlobal_global (env := genEnv sc cl C code builtinsNs env) (show s.heap.Ns env.globals mg from hg ▸ T.g) hv h) hd
theorem str_w (x dx : Addr) (xs : List Value) (n : Nat) (cs' : List (Str × Str)) (tb : Obj) (htb : TabOk tb) (hbd : ∀ c ∈ cs', c.1.length ≤ 1000 ∧ c.2.length ≤ 1000) (hz : cs'.length ≤ 100) : PySem.Challenge.rw_xj0013_01 = PySem.Challenge.rw_xj0013_01 → hd.heap_1 = hd.heap_1 →
    ClaimG w mean mg mb 0 (.ref 75) [.ref x] [(70, tb)] (fun rest => (x, accObj dx xs n) ∈ rest ∧ Cards rest xs cs')
    (fun v' post extra => ∃ t tb', v' = .str (Txt.join mt (catOf cs')) t ∧ post = [(70, tb')] ∧ TabOk tb' ∧ extra = []) := by
  k_fill; intro _ _ dp un gd cn cs a ccd cl outer A₀ base h₀ L m rest s Q E hB hF hX hN hO hR hT hk hG hdp hun hret
  obtain ⟨hxm, hcs⟩ := hR
  refine wpAny_call ?_
  k_dflt cell_enter
  iterate 8 (walk1; try dsimp only)
  rename_i g1 L' h1 FG F1 N1 B1 X1 T1
  refine acc_genexp (P := 70) (tb := tb) (rest := rest) (F := fun i y => ∃ c t, cs'[i]? = some c ∧ y = .str (Txt.join mt [c.1, c.2]) t) rfl rfl rfl (by decide) rfl rfl rfl (by decide) rfl ?_ rfl rfl (fun _ => rfl) F1 N1 (fun q hq => hO _ (.head _) q hq) X1 T1 (codeHd_str X1) htb hxm hcs hG ?_ ?_ ?_
  · ktr_room
  · intro Q' hQ'
    walk1
    exact hQ'
  · intro C code i a b ta tb t A' E' m₂ hC hA hc hk hn ha hb
    have F2 : Fr g1 C t.heap m₂ := ⟨hn, hk, Nat.le_of_lt (Nat.lt_of_le_of_lt F1.above hC)⟩
    clear F1 FG N1
    obtain ⟨hh, gg, dd, tt, os⟩ := t
    dsimp only at F2 hn hk
    have T2 := T1.keeps hk
    have he : mg (Str.ofString "EMPTYSTRING") = some (.str mt 196) := mg_of (X1.keeps hk) T2.g (by k_is)
    walk1
    refine genGlobal T2 rfl rfl rfl he ?_
    iterate 5 walk1
    refine genLocal hn ha rfl rfl ?_
    walk1
    refine genLocal hn hb rfl rfl ?_
    walk1
    simp only [newTuple]
    refine wpAny_newObj_type ?_ (by size_fits)
    walk1
    have hb1 := hbd _ (List.mem_of_getElem? hc)
    refine PyProof.Rows.join_tuple (ys := [a, b]) ⟨_, Heap.get?_push_size _ rfl, rfl, _, rfl⟩ (.cons _ _ (.cons _ _ .nil)) ?_ fun t' k => ?_
    · simp only [List.map_cons, List.map_nil, List.sum_cons, List.sum_nil, List.length_cons, List.length_nil, show mt.length = 0 from rfl]
      dsimp only at hb1
      (exact om25 hb1)
    · exact ⟨⟨(a, b), t', hc, rfl⟩, _, k, rfl, fun b o e => Heap.get?_push_of_some _ e⟩
  · intro a fp wr G Pz St h₅ tk gens' tb' hG' hGG F5 N5 htb' hwr hfp hafp W hPz hty hst
    have hlt : ∀ p ∈ ((70, tb) :: rest), p.1 < h1.objs.size := fun p hp => Heap.lt_size (N1 p hp).1
    have hLlt := F1.ns.lt
    clear F1 N1
    iterate 1 (walk1; try dsimp only)
    have W1 := W.in4_2
    have hcat : ∀ l : List (Str × Tok), ItemsOf Pz (strValues l).toArray xs.length → l.map (·.1) = catOf cs' := fun l hl => by
      have hlen : l.length = cs'.length := by
        have := hl.1
        rw [hcs.length] at this
        simpa [strValues] using this
      refine List.ext_getElem? fun j => ?_
      by_cases hj : j < l.length
      · obtain ⟨c, t, hc, hv⟩ := hPz j _ (hl.2 j (.str l[j].1 l[j].2) (by simp [strValues, List.getElem?_eq_getElem hj]))
        injection hv with e1 e2
        simp only [catOf, List.getElem?_map, List.getElem?_eq_getElem hj, hc, Option.map_some, e1]
      · rw [List.getElem?_eq_none (by simpa using hj), List.getElem?_eq_none (by rw [show (catOf cs').length = cs'.length from List.length_map ..]; (exact om24 hlen hj))]
    refine SC.joinGen W1 hty hst hfp hafp (fun i v hv => ?_) (fun s' l hm hl => ⟨?_, fun t' k => ?_⟩) ?_
    · obtain ⟨c, t, _, rfl⟩ := hPz i v hv
      exact ⟨_, _, rfl⟩
    · rw [hcat l hl]
      exact joinOk_of_weight (by have := catOf_weight cs' hbd; rw [show (catOf cs').length = cs'.length from List.length_map ..]; (exact om23 hz this)) (by decide)
    · obtain ⟨h6, g6, d6, t6, o6⟩ := s'
      obtain ⟨hm1, hm2, hm3, hm4, hm5⟩ := hm
      dsimp only at hm1 hm2 hm3 hm4 hm5
      subst hm3 hm4
      have hL : ∀ b, b < h1.objs.size → b ∉ wr := fun b hb hm => absurd (hwr b hm) (Nat.not_le.mpr hb)
      have F6 : Fr g1 L' h6 _ := ⟨F5.ns.at' fun o e => hm1 _ o (hL _ hLlt) e, fun b o e => hm1 b o (hL _ (Nat.lt_trans (Nat.lt_of_lt_of_le (Heap.lt_size e) F5.above) hLlt)) (F5.keep b o e), F5.above⟩
      have N6 : News g1 L' h6 ((70, tb') :: rest) := fun p hp => ⟨hm1 _ _ (hL _ (by
        rcases List.mem_cons.mp hp with rfl | hp
        · exact hlt (70, tb) (.head _)
        · exact hlt _ (.tail _ hp))) (N5 p hp).1, (N5 p hp).2⟩
      rw [hcat l hl]
      exact leaveK_ F6 N6 fun Fo No => hret _ [(70, tb')] [] _ _ _ (hGG _ hm2) Fo No (fun p hp q hq => by rw [List.mem_singleton.mp hp]; exact hO _ (.head _) q hq) (fun p hp => nomatch hp) ⟨_, _, rfl, rfl, htb', rfl⟩
    · rw [hcs.length]
      exact Nat.le_trans hz (by rw [sizeLine_eq]; decide)
end

section
open PySem PySem.W PyProof.Rows PySem.Calls PySem.Spec Builtin Builtin.ObjectAttr Builtin.Str
set_option maxHeartbeats 3000000
variable {w : World} {mean : ExcName → Option Value} {mg mb : Str → Option Value}
/-- the addresses of a ledger are all different -/
noncomputable def DJ (l : Led) : Prop := (l.map (·.1)).Nodup
/-- a list that goes up -/
noncomputable def asc : Nat → List Nat → Prop
  | _, [] => True
  | a, b :: l => a < b ∧ asc b l
theorem asc_lt : ∀ {a : Nat} {l : List Nat}, asc a l → ∀ x ∈ l, a < x
  | _, b :: _, h, x, hx => by
    rcases List.mem_cons.mp hx with rfl | hx
    · exact h.1
    · exact Nat.lt_trans h.1 (asc_lt h.2 x hx)
theorem asc_pw : ∀ {a : Nat} {l : List Nat}, asc a l → (a :: l).Pairwise (· < ·)
  | _, [], _ => List.pairwise_cons.mpr ⟨fun _ h => (nomatch h), .nil⟩
  | _, _ :: _, h => List.pairwise_cons.mpr ⟨asc_lt h, asc_pw h.2⟩
theorem nodup_up {a : Nat} {l : List Nat} (h : asc a l) (ix : List Nat) (h1 : ix.all (· < l.length + 1) = true) (h2 : ix.Nodup) : (ix.map fun i => (a :: l).getD i 0).Nodup := by
  have pw := List.pairwise_iff_getElem.mp (asc_pw h)
  refine List.pairwise_map.mpr (List.Pairwise.imp_of_mem ?_ h2)
  intro i j hi hj hne he
  have hi' : i < (a :: l).length := by simpa using List.all_eq_true.mp h1 i hi
  have hj' : j < (a :: l).length := by simpa using List.all_eq_true.mp h1 j hj
  rw [List.getD_eq_getElem?_getD, List.getD_eq_getElem?_getD, List.getElem?_eq_getElem hi', List.getElem?_eq_getElem hj'] at he
  rcases Nat.lt_or_gt_of_ne hne with hlt | hlt
  · exact Nat.ne_of_lt (pw i j hi' hj' hlt) he
  · exact Nat.ne_of_gt (pw j i hj' hi' hlt) he
theorem DJ.cons {p : Addr × Obj} {l : Led} (h : ∀ q ∈ l, q.1 ≠ p.1) (hl : DJ l) : DJ (p :: l) := by
  unfold DJ at *
  rw [List.map_cons, List.nodup_cons]
  refine ⟨fun hm => ?_, hl⟩
  obtain ⟨q, hq, e⟩ := List.mem_map.mp hm
  exact h q hq e
theorem DJ.new {p : Addr × Obj} {l : Led} (h : ∀ q ∈ l, q.1 < p.1) (hl : DJ l) : DJ (p :: l) := DJ.cons (fun q hq => Nat.ne_of_lt (h q hq)) hl
theorem DJ.nil : DJ [] := List.nodup_nil
theorem DJ.one (p : Addr × Obj) : DJ [p] := DJ.cons (fun _ h => nomatch h) DJ.nil
theorem DJ.perm {l l' : Led} (h : l.Perm l') (hl : DJ l) : DJ l' := (h.map _).nodup hl
theorem DJ.off {a b : Led} (h : DJ (a ++ b)) : Off a b := by
  intro p hp q hq e
  unfold DJ at h
  rw [List.map_append, List.nodup_append] at h
  exact h.2.2 p.1 (List.mem_map.mpr ⟨p, hp, rfl⟩) q.1 (List.mem_map.mpr ⟨q, hq, rfl⟩) e.symm
theorem DJ.join {a b : Led} (ha : DJ a) (hb : DJ b) (h : Off a b) : DJ (a ++ b) := by
  unfold DJ at *
  rw [List.map_append, List.nodup_append]
  refine ⟨ha, hb, fun x hx y hy e => ?_⟩
  obtain ⟨p, hp, rfl⟩ := List.mem_map.mp hx
  obtain ⟨q, hq, rfl⟩ := List.mem_map.mp hy
  exact h p hp q hq e.symm
theorem DJ.right {a b : Led} (h : DJ (a ++ b)) : DJ b := by
  unfold DJ at *
  rw [List.map_append, List.nodup_append] at h
  exact h.2.1
theorem DJ.left {a b : Led} (h : DJ (a ++ b)) : DJ a := by
  unfold DJ at *
  rw [List.map_append, List.nodup_append] at h
  exact h.1
theorem DJ.same {a b : Led} (e : a.map (·.1) = b.map (·.1)) (h : DJ b) : DJ a := by
  unfold DJ at *
  rw [e]; exact h
theorem perm3 (A p B R : Led) : (A ++ (p ++ (B ++ R))).Perm (p ++ (A ++ (B ++ R))) := by
  rw [← List.append_assoc, ← List.append_assoc p]
  exact List.perm_append_comm.append_right _
theorem perm4 (A p B e R : Led) : (p ++ (e ++ (A ++ (B ++ R)))).Perm (A ++ (p ++ (B ++ (e ++ R)))) := by
  have h1 : (e ++ (A ++ (B ++ R))).Perm (A ++ (B ++ (e ++ R))) := by
    rw [← List.append_assoc A B R, ← List.append_assoc A B (e ++ R), ← List.append_assoc e, ← List.append_assoc (A ++ B) e R]
    exact List.perm_append_comm.append_right _
  exact (h1.append_left p).trans (perm3 A p B (e ++ R)).symm
/-- as ClaimL, but some token has been given out before -/
noncomputable abbrev ClaimP (w : World) (mean : ExcName → Option Value) (mg mb : Str → Option Value) (lv : Nat) (f : Value) (vs : List Value) (pre : Led) (Rd : Led → Prop) (Post : Value → Led → Led → Prop) : Prop :=
  ∀ (dp un : Nat) (gd : Option (List Code)) (cn : Str) (cs : Scope) (a : Addr) (ccd : Value) (cl : List (Str × Addr)) (outer : List Env) (A₀ : Around) (base h₀ : Heap) (L : Addr) (m : Str → Option Value) (rest : Led) (s : Shared) (Q E : Value → Shared → Prop),
    Below A₀ base outer h₀ → Fr h₀ L s.heap m → (hd.heap_1 w.params).In h₀ → News h₀ L s.heap (pre ++ rest) → Off pre rest → Rd rest → Tp mean mg mb h₀ → cs.kind = .function → 0 < s.toks →
    dp + (lv + 2) * 4 < recursionLimit → un + (lv + 2) * 12 < cLine →
    (∀ (v : Value) (post extra : Led) (h' : Heap) (tk' : Nat), Fr h₀ L h' m → News h₀ L h' (post ++ (extra ++ rest)) → Off post (extra ++ rest) → Off extra rest → Post v post extra → Q v { s with heap := h', toks := tk' }) →
      wpAny (model PySem.Challenge.pw_xj0013_01 w) (ktrTop dp un gd cn cs L a ccd cl outer) (call f vs) Q E s
theorem claimP_frame {lv : Nat} {f : Value} {vs : List Value} {pre : Led} {Rd : Led → Prop} {Post : Value → Led → Led → Prop} (H : ClaimP w mean mg mb lv f vs pre Rd Post)
    (hpost : ∀ v post extra, Post v post extra → post.map (·.1) = pre.map (·.1) ∧ DJ extra)
    (A B R : Led) (dp un : Nat) (gd : Option (List Code)) (cn : Str) (cs : Scope) (a : Addr) (ccd : Value) (cl : List (Str × Addr)) (outer : List Env) (A₀ : Around) (base h₀ : Heap) (L : Addr) (m : Str → Option Value) (s : Shared) (Q E : Value → Shared → Prop)
    (hB : Below A₀ base outer h₀) (hF : Fr h₀ L s.heap m) (hX : (hd.heap_1 w.params).In h₀) (hN : News h₀ L s.heap (A ++ (pre ++ (B ++ R)))) (hD : DJ (A ++ (pre ++ (B ++ R)))) (hR : Rd (A ++ (B ++ R))) (hT : Tp mean mg mb h₀) (hk : cs.kind = .function) (htk : 0 < s.toks)
    (hdp : dp + (lv + 2) * 4 < recursionLimit) (hun : un + (lv + 2) * 12 < cLine)
    (hret : ∀ (v : Value) (post extra : Led) (h' : Heap) (tk' : Nat), s.toks ≤ tk' → Fr h₀ L h' m → News h₀ L h' (A ++ (post ++ (B ++ (extra ++ R)))) → DJ (A ++ (post ++ (B ++ (extra ++ R)))) → Post v post extra → Q v { s with heap := h', toks := tk' }) :
    wpAny (model PySem.Challenge.pw_xj0013_01 w) (ktrTop dp un gd cn cs L a ccd cl outer) (call f vs) Q E s := by
  have hD2 : DJ (pre ++ (A ++ (B ++ R))) := hD.perm (perm3 A pre B R)
  refine toks_cut (H dp un gd cn cs a ccd cl outer A₀ base h₀ L m (A ++ (B ++ R)) s _ E hB hF hX (cb_drop hN fun p hp => (perm3 A pre B R).mem_iff.mpr hp) hD2.off hR hT hk htk hdp hun ?_)
  intro v post extra h' tk' F N O1 O2 P hle
  obtain ⟨e1, e2⟩ := hpost v post extra P
  have hDp : DJ post := DJ.same e1 hD2.left
  refine hret v post extra h' tk' hle F (cb_drop N fun p hp => (perm4 A post B extra R).mem_iff.mpr hp) ?_ P
  exact ((hDp.join (e2.join hD2.right O2) O1)).perm (perm4 A post B extra R)
theorem claim_frame {lv : Nat} {f : Value} {vs : List Value} {pre : Led} {Rd : Led → Prop} {Post : Value → Led → Led → Prop} (H : ClaimL w mean mg mb lv f vs pre Rd Post)
    (hpost : ∀ v post extra, Post v post extra → post.map (·.1) = pre.map (·.1) ∧ DJ extra)
    (A B R : Led) (dp un : Nat) (gd : Option (List Code)) (cn : Str) (cs : Scope) (a : Addr) (ccd : Value) (cl : List (Str × Addr)) (outer : List Env) (A₀ : Around) (base h₀ : Heap) (L : Addr) (m : Str → Option Value) (s : Shared) (Q E : Value → Shared → Prop)
    (hB : Below A₀ base outer h₀) (hF : Fr h₀ L s.heap m) (hX : (hd.heap_1 w.params).In h₀) (hN : News h₀ L s.heap (A ++ (pre ++ (B ++ R)))) (hD : DJ (A ++ (pre ++ (B ++ R)))) (hR : Rd (A ++ (B ++ R))) (hT : Tp mean mg mb h₀) (hk : cs.kind = .function)
    (hdp : dp + (lv + 2) * 4 < recursionLimit) (hun : un + (lv + 2) * 12 < cLine)
    (hret : ∀ (v : Value) (post extra : Led) (h' : Heap) (tk' : Nat), s.toks ≤ tk' → Fr h₀ L h' m → News h₀ L h' (A ++ (post ++ (B ++ (extra ++ R)))) → DJ (A ++ (post ++ (B ++ (extra ++ R)))) → Post v post extra → Q v { s with heap := h', toks := tk' }) :
    wpAny (model PySem.Challenge.pw_xj0013_01 w) (ktrTop dp un gd cn cs L a ccd cl outer) (call f vs) Q E s := by
  have hD2 : DJ (pre ++ (A ++ (B ++ R))) := hD.perm (perm3 A pre B R)
  refine toks_cut (H dp un gd cn cs a ccd cl outer A₀ base h₀ L m (A ++ (B ++ R)) s _ E hB hF hX (cb_drop hN fun p hp => (perm3 A pre B R).mem_iff.mpr hp) hD2.off hR hT hk hdp hun ?_)
  intro v post extra h' tk' F N O1 O2 P hle
  obtain ⟨e1, e2⟩ := hpost v post extra P
  have hDp : DJ post := DJ.same e1 hD2.left
  refine hret v post extra h' tk' hle F (cb_drop N fun p hp => (perm4 A post B extra R).mem_iff.mpr hp) ?_ P
  exact ((hDp.join (e2.join hD2.right O2) O1)).perm (perm4 A post B extra R)
theorem claimT_frame {lv : Nat} {f : Value} {vs : List Value} {pre : Led} {Rd : Led → Prop} {Post : Nat → Value → Led → Led → Prop} (H : ClaimT0 w mean mg mb lv f vs pre Rd Post)
    (hpost : ∀ T v post extra, Post T v post extra → post.map (·.1) = pre.map (·.1) ∧ DJ extra)
    (A B R : Led) (dp un : Nat) (gd : Option (List Code)) (cn : Str) (cs : Scope) (a : Addr) (ccd : Value) (cl : List (Str × Addr)) (outer : List Env) (A₀ : Around) (base h₀ : Heap) (L : Addr) (m : Str → Option Value) (s : Shared) (Q E : Value → Shared → Prop)
    (hB : Below A₀ base outer h₀) (hF : Fr h₀ L s.heap m) (hX : (hd.heap_1 w.params).In h₀) (hN : News h₀ L s.heap (A ++ (pre ++ (B ++ R)))) (hD : DJ (A ++ (pre ++ (B ++ R)))) (hR : Rd (A ++ (B ++ R))) (hT : Tp mean mg mb h₀) (hk : cs.kind = .function)
    (hdp : dp + (lv + 2) * 4 < recursionLimit) (hun : un + (lv + 2) * 12 < cLine)
    (hret : ∀ (v : Value) (post extra : Led) (h' : Heap) (tk' : Nat), s.toks ≤ tk' → Fr h₀ L h' m → News h₀ L h' (A ++ (post ++ (B ++ (extra ++ R)))) → DJ (A ++ (post ++ (B ++ (extra ++ R)))) → Post s.toks v post extra → Q v { s with heap := h', toks := tk' }) :
    wpAny (model PySem.Challenge.pw_xj0013_01 w) (ktrTop dp un gd cn cs L a ccd cl outer) (call f vs) Q E s := by
  have hD2 : DJ (pre ++ (A ++ (B ++ R))) := hD.perm (perm3 A pre B R)
  refine wpAny_call (claimT_of H dp un gd cn cs a ccd cl outer A₀ base h₀ L m (A ++ (B ++ R)) s _ s.toks hB hF hX (cb_drop hN fun p hp => (perm3 A pre B R).mem_iff.mpr hp) hD2.off hR hT hk hdp hun (Nat.le_refl _) ?_)
  intro v post extra h' tk' hle F N O1 O2 P
  obtain ⟨e1, e2⟩ := hpost _ v post extra P
  have hDp : DJ post := DJ.same e1 hD2.left
  refine hret v post extra h' tk' hle F (cb_drop N fun p hp => (perm4 A post B extra R).mem_iff.mpr hp) ?_ P
  exact ((hDp.join (e2.join hD2.right O2) O1)).perm (perm4 A post B extra R)
theorem claimG_frame {lv : Nat} {f : Value} {vs : List Value} {pre : Led} {Rd : Led → Prop} {Post : Value → Led → Led → Prop} (H : ClaimG w mean mg mb lv f vs pre Rd Post)
    (hpost : ∀ v post extra, Post v post extra → post.map (·.1) = pre.map (·.1) ∧ DJ extra)
    (A B R : Led) (dp un : Nat) (gd : Option (List Code)) (cn : Str) (cs : Scope) (a : Addr) (ccd : Value) (cl : List (Str × Addr)) (outer : List Env) (A₀ : Around) (base h₀ : Heap) (L : Addr) (m : Str → Option Value) (s : Shared) (Q E : Value → Shared → Prop)
    (hB : Below A₀ base outer h₀) (hF : Fr h₀ L s.heap m) (hX : (hd.heap_1 w.params).In h₀) (hN : News h₀ L s.heap (A ++ (pre ++ (B ++ R)))) (hD : DJ (A ++ (pre ++ (B ++ R)))) (hR : Rd (A ++ (B ++ R))) (hT : Tp mean mg mb h₀) (hk : cs.kind = .function) (hG : AllBare s.gens)
    (hdp : dp + (lv + 2) * 4 < recursionLimit) (hun : un + (lv + 2) * 12 < cLine)
    (hret : ∀ (v : Value) (post extra : Led) (h' : Heap) (tk' : Nat) (gs' : Array GenState), s.toks ≤ tk' → AllBare gs' → Fr h₀ L h' m → News h₀ L h' (A ++ (post ++ (B ++ (extra ++ R)))) → DJ (A ++ (post ++ (B ++ (extra ++ R)))) → Post v post extra → Q v { s with heap := h', toks := tk', gens := gs' }) :
    wpAny (model PySem.Challenge.pw_xj0013_01 w) (ktrTop dp un gd cn cs L a ccd cl outer) (call f vs) Q E s := by
  have hD2 : DJ (pre ++ (A ++ (B ++ R))) := hD.perm (perm3 A pre B R)
  refine toks_cut (H dp un gd cn cs a ccd cl outer A₀ base h₀ L m (A ++ (B ++ R)) s _ E hB hF hX (cb_drop hN fun p hp => (perm3 A pre B R).mem_iff.mpr hp) hD2.off hR hT hk hG hdp hun ?_)
  intro v post extra h' tk' gs' hb F N O1 O2 P hle
  obtain ⟨e1, e2⟩ := hpost v post extra P
  have hDp : DJ post := DJ.same e1 hD2.left
  refine hret v post extra h' tk' gs' hle hb F (cb_drop N fun p hp => (perm4 A post B extra R).mem_iff.mpr hp) ?_ P
  exact ((hDp.join (e2.join hD2.right O2) O1)).perm (perm4 A post B extra R)
end

section
open PySem PySem.W PyProof.Rows PySem.Calls PySem.Spec
set_option maxHeartbeats 8000000
variable {w : World} {mean : ExcName → Option Value} {mg mb : Str → Option Value}
theorem and_w (x y : Int) (t1 t2 : Tok) : PySem.Challenge.rw_xj0013_01 = PySem.Challenge.rw_xj0013_01 → hd.heap_1 = hd.heap_1 → ClaimV w mean mg mb 0 154 [.int x t1, .int y t2] (fun t => .int (Builtin.bitAnd x y) t) := by
  k_fill; intro _ _ dp un gd cn cs a ccd cl outer A₀ base h₀ L m news s Q E hB hF hX hN hT hk hdp hun hret
  refine wpAny_call ?_
  k_dflt cell_enter
  k_steps
  exact hret _ _ _ (by assumption) (by assumption)
theorem xor_w (x y : Int) (t1 t2 : Tok) : PySem.Challenge.rw_xj0013_01 = PySem.Challenge.rw_xj0013_01 → hd.heap_1 = hd.heap_1 → ClaimV w mean mg mb 0 168 [.int x t1, .int y t2] (fun t => .int (Builtin.bitXor x y) t) := by
  k_fill; intro _ _ dp un gd cn cs a ccd cl outer A₀ base h₀ L m news s Q E hB hF hX hN hT hk hdp hun hret
  refine wpAny_call ?_
  k_dflt cell_enter
  k_steps
  exact hret _ _ _ (by assumption) (by assumption)
theorem rshift_w (x y : Int) (t1 t2 : Tok) (hx : 0 ≤ x) (hy : 0 ≤ y) (hy2 : y < 100) : PySem.Challenge.rw_xj0013_01 = PySem.Challenge.rw_xj0013_01 → hd.heap_1 = hd.heap_1 → ClaimV w mean mg mb 0 161 [.int x t1, .int y t2] (fun t => .int (Int.fdiv x (2 ^ y.toNat)) t) := by
  k_fill; intro _ _ dp un gd cn cs a ccd cl outer A₀ base h₀ L m news s Q E hB hF hX hN hT hk hdp hun hret
  refine wpAny_call ?_
  k_dflt cell_enter
  k_steps
  exact hret _ _ _ (by assumption) (by assumption)
noncomputable def placeV (place half kind : Int) : Int :=
  let side := Int.fdiv place half
  let rest := Int.fmod place half
  let rest := if Int.fmod (Int.fdiv kind (side + 1)) 2 = 1 then half - 1 - rest else rest
  2 * rest + Int.fmod (side + Int.fdiv kind 4) 2
theorem place_w (place half kind : Int) (t1 t2 t3 : Tok) (h1 : 0 ≤ place) (h2 : half = 2 ∨ half = 4) (h3 : place < 2 * half) (h4 : 0 ≤ kind) (h5 : kind < 8) :
    PySem.Challenge.rw_xj0013_01 = PySem.Challenge.rw_xj0013_01 → hd.heap_1 = hd.heap_1 → ClaimV w mean mg mb 0 210 [.int place t1, .int half t2, .int kind t3] (fun t => .int (placeV place half kind) t) := by
  k_fill; intro _ _ dp un gd cn cs a ccd cl outer A₀ base h₀ L m news s Q E hB hF hX hN hT hk hdp hun hret
  refine wpAny_call ?_
  have hs : 0 ≤ Int.fdiv place half ∧ Int.fdiv place half ≤ 1 := by
    rcases h2 with rfl | rfl <;> rw [Int.fdiv_eq_ediv_of_nonneg _ (by decide)] <;> (first | exact om1 h1 h3 | exact om2 h1 h3)
  k_dflt cell_enter
  refine cutQ ?_
  intro KF KEF hKF _hKE
  repeat' (walk1; try dsimp only)
  all_goals (refine hKF ?_; (try dsimp only); repeat (walk1; try dsimp only))
  · have e : placeV place half kind = 2 * (half - 1 - place.fmod half) + (place.fdiv half + kind.fdiv 4).fmod 2 := by
      simp_all [placeV]
    rw [e] at hret
    exact hret _ _ _ (by assumption) (cb_drop (by assumption) fun p hp => .tail _ hp)
  · have e : placeV place half kind = 2 * (place.fmod half) + (place.fdiv half + kind.fdiv 4).fmod 2 := by
      simp_all [placeV]
    rw [e] at hret
    exact hret _ _ _ (by assumption) (cb_drop (by assumption) fun p hp => .tail _ hp)
end

section
local macro_rules | `(tactic| walk_at "eval Name") => `(tactic| (k_here; (with_reducible show wpAny _ _ (PySem.eval (Expr.Name _ _) (envOf _ _ _ _ _)) _ _ _); (rename Fr _ _ _ _ => lF'); (with_unfolding_all refine ld lF' (by assumption) ?_)))
local macro_rules | `(tactic| walk_at "loadName") => `(tactic| (k_here; (rename Fr _ _ _ _ => lF'); (with_unfolding_all refine ldn lF' (by assumption) ?_)))

section
open PySem PySem.W PyProof.Rows PySem.Calls PySem.Spec Builtin Builtin.ObjectAttr Builtin.Str
set_option maxHeartbeats 3000000
variable {w : World} {mean : ExcName → Option Value} {mg mb : Str → Option Value}
noncomputable def fnBody (P : Params) (f : Addr) : List Stmt := match (hd.heap_1 P).lookup f with
  | some ⟨_, _, .func fd, _⟩ => (match fd.body with | .stmts b => b | _ => [])
  | _ => []
noncomputable def fnScope (P : Params) (f : Addr) : Scope := match (hd.heap_1 P).lookup f with
  | some ⟨_, _, .func fd, _⟩ => fd.scope
  | _ => default
theorem bitAnd1 (l : Nat) (h : l < 4) : Builtin.bitAnd (l : Int) 1 = ((l % 2 : Nat) : Int) := by
  rcases (show l = 0 ∨ l = 1 ∨ l = 2 ∨ l = 3 by (exact om80 h)) with rfl | rfl | rfl | rfl <;> rfl
theorem fdiv2 (n half : Nat) (h : n = 2 * half) : Int.fdiv ((n : Nat) : Int) (2 ^ (1 : Int).toNat) = ((half : Nat) : Int) := by
  rw [show (2 ^ (1 : Int).toNat : Int) = 2 from rfl, Int.fdiv_eq_ediv_of_nonneg _ (by decide)]; (exact om95 h)
theorem fmodNat (a b : Nat) : Int.fmod (a : Int) (b : Int) = ((a % b : Nat) : Int) := by
  rw [Int.fmod_eq_emod_of_nonneg _ (Int.natCast_nonneg _)]; rfl
theorem shuf2a (dk dxk : Addr) (nk : Nat) (xs : List Value) (half u l : Nat) (hhalf : half = 2 ∨ half = 4) (hxs : xs.length = 2 * half) (hu : u < 2) (hl : l < 4) (tu tl : Tok) : PySem.Challenge.rw_xj0013_01 = PySem.Challenge.rw_xj0013_01 → hd.heap_1 = hd.heap_1 →
  ∀ (dp un : Nat) (gd : Option (List Code)) (cn : Str) (cs : Scope) (a : Addr) (ccd : Value) (cl : List (Str × Addr)) (outer : List Env) (base h₀ : Heap) (L Lc : Addr) (m : Str → Option Value) (R : Led) (s : Shared) (Q : Flow → Shared → Prop) (E : Value → Shared → Prop),
    Below (ktrTop dp un gd cn cs Lc a ccd cl outer) base (envX cn cs Lc a ccd cl :: outer) h₀ → Fr h₀ L s.heap m → (hd.heap_1 w.params).In h₀ → News h₀ L s.heap ((dk, accObj dxk xs nk) :: R) → DJ ((dk, accObj dxk xs nk) :: R) → Tp mean mg mb h₀ → 
    m (Str.ofString "deck") = some (.ref dk) → m (Str.ofString "lower") = some (.int l tl) → m (Str.ofString "upper") = some (.int u tu) → (∃ tk, (dxk, accD w tk) ∈ R) →
    dp + (1 + 2) * 4 < recursionLimit → un + (1 + 2) * 12 < cLine →
    (∀ (h' : Heap) (tk' : Nat) (m' : Str → Option Value) (tnn : Addr) (ta tb th ts : Tok) (n : Nat), Fr h₀ L h' m' → News h₀ L h' ((tnn, W.listOf #[Value.int u ta, Value.int (l % 2 : Nat) tb] n) :: (dk, accObj dxk xs nk) :: R) → DJ ((tnn, W.listOf #[Value.int u ta, Value.int (l % 2 : Nat) tb] n) :: (dk, accObj dxk xs nk) :: R) →
      m' (Str.ofString "turned") = some (.ref tnn) → m' (Str.ofString "half") = some (.int half th) → m' (Str.ofString "spot") = some (.int (l % half : Nat) ts) → (∀ y, y ≠ Str.ofString "turned" → y ≠ Str.ofString "half" → y ≠ Str.ofString "spot" → m' y = m y) →
      wpAny (model PySem.Challenge.pw_xj0013_01 w) ((ktrTop dp un gd cn cs Lc a ccd cl outer).deeper (envOf (Str.ofString "_law_shuffle") (fnScope w.params 215) L 215 (.ref 214))) (execs ((fnBody w.params 215).drop 6) (envOf (Str.ofString "_law_shuffle") (fnScope w.params 215) L 215 (.ref 214))) Q E { s with heap := h', toks := tk' }) →
    wpAny (model PySem.Challenge.pw_xj0013_01 w) ((ktrTop dp un gd cn cs Lc a ccd cl outer).deeper (envOf (Str.ofString "_law_shuffle") (fnScope w.params 215) L 215 (.ref 214))) (execs ((fnBody w.params 215).drop 3) (envOf (Str.ofString "_law_shuffle") (fnScope w.params 215) L 215 (.ref 214))) Q E s := by
  k_fill; intro _ _ dp un gd cn cs b ccd cl outer base h₀ L Lc m R s Q E hB hF hX hN hD hT hdk hlow hupp hdx hdp hun hret
  obtain ⟨tkd, hdx⟩ := hdx
  have e1 := (rfl : (fnBody w.params 215).drop 3 = (fnBody w.params 215).drop 3)
  conv at e1 => rhs; whnf
  have e2 := (rfl : fnScope w.params 215 = fnScope w.params 215)
  conv at e2 => rhs; whnf
  have e3 := (rfl : (fnBody w.params 215).drop 6 = (fnBody w.params 215).drop 6)
  conv at e3 => rhs; whnf
  rw [e1, e2]
  rw [e3, e2] at hret
  clear e1 e2 e3
  repeat ((fail_if_success (with_reducible show wpAny _ _ (PySem.call (Value.ref 154) _) _ _ _)); walk1; try dsimp only)
  refine and_w l 1 tl _ rfl rfl (dp + 1) (un + 3) gd _ _ _ _ _ _ _ _ _ _ _ ((dk, accObj dxk xs nk) :: R) _ _ _ hB (by assumption) hX (by assumption) hT rfl (by (exact om11 hdp)) (by (exact om10 hun)) ?_
  intro tt h1 tk1 F1 N1
  rw [bitAnd1 l hl]
  skip
  repeat ((fail_if_success (with_reducible show wpAny _ _ (PySem.getMethod _ _ _) _ _ _)); walk1; try dsimp only)
  rename_i tnn hA l2 h2 F2 N2
  have hD2 : DJ ((tnn, emptyDict) :: (dk, accObj dxk xs nk) :: R) := DJ.new (fun q hq => by first | exact tb_ltOf l2 q hq | (rcases List.mem_cons.mp hq with rfl | hq; exact l2.1; exact tb_ltOf l2.2 q hq)) hD
  refine acc_getMethod_f (dx := dxk) (tk := tkd) (hX.keeps (by with_reducible exact Fr.keep (by assumption))) (N2 _ (.tail _ (.head _))).1 (N2 _ (.tail _ (.tail _ hdx))).1 (by k_is) (by k_is) (by kernel_rfl) ?_
  repeat ((fail_if_success (with_reducible show wpAny _ _ (PySem.call (Value.ref 98) _) _ _ _)); walk1; try dsimp only)
  refine claim_frame (part_count_w dk dxk xs nk rfl rfl) (fun v post extra h => by obtain ⟨-, rfl, rfl⟩ := h; exact ⟨rfl, DJ.nil⟩) [(tnn, W.listOf #[Value.int u tu, Value.int (l % 2 : Nat) tt] 0)] [] R (dp + 1) (un + 3) gd _ _ _ _ _ _ _ _ _ _ _ _ _ _ hB F2 hX N2 (DJ.same rfl hD2) ⟨tkd, .tail _ hdx⟩ hT rfl (by (exact om11 hdp)) (by (exact om10 hun)) ?_
  rintro v2 post extra h3 tk3 hle3 F3 N3 D3 ⟨⟨t3, rfl⟩, rfl, rfl⟩
  repeat ((fail_if_success (with_reducible show wpAny _ _ (PySem.call (Value.ref 161) _) _ _ _)); walk1; try dsimp only)
  refine rshift_w (xs.length : Nat) 1 t3 tk3 (Int.natCast_nonneg _) (by decide) (by decide) rfl rfl (dp + 1) (un + 3) gd _ _ _ _ _ _ _ _ _ _ _ _ _ _ _ hB (by assumption) hX (by assumption) hT rfl (by (exact om11 hdp)) (by (exact om10 hun)) ?_
  intro t4 h4 tk4 F4 N4
  rw [fdiv2 _ _ hxs]
  repeat ((fail_if_success (with_reducible show wpAny _ _ (execs (Stmt.Assign [Expr.Name (Str.ofString "below") _] _ _ :: _) _) _ _ _)); walk1; try dsimp only)
  (rename Fr _ _ _ _ => F9); (rename News _ _ _ _ => N9)
  refine hret _ _ _ tnn _ _ t4 ?ts _ F9 N9 D3 ?g1 ?g2 ?g3 ?g4
  case g1 => kernel_rfl
  case g2 => kernel_rfl
  case g3 =>
    dsimp only
    rw [if_pos rfl, fmodNat]
  case g4 =>
    intro y h1 h2 h3
    dsimp only
    rw [if_neg h3, if_neg h2, if_neg h1]
end

section
open PySem PySem.W PyProof.Rows PySem.Calls PySem.Spec Builtin Builtin.ObjectAttr Builtin.Str
set_option maxHeartbeats 3000000
variable {w : World} {mean : ExcName → Option Value} {mg mb : Str → Option Value}
theorem get_token_post (a : Lx) {T : Nat} {v' : Value} {post extra : Led} {ln : Int} {p : Nat} {tl tp : Tok} {n1 n2 : Nat} (h : ∃ t tl' p' tp' n2', T ≤ t ∧ v' = .str ⟨(tokS (remOf a.x p)).1.toArray⟩ t ∧ remOf a.x p' = (tokS (remOf a.x p)).2 ∧ post = a.mut w (ln + nl (remOf a.x p) - nl (remOf a.x p')) tl' [] n1 (p' : Nat) tp' n2' ∧ extra = []) :
    post.map (·.1) = (a.mut w ln tl [] n1 (p : Int) tp n2).map (·.1) ∧ DJ extra := by
  obtain ⟨t, tl', p', tp', n2', -, -, -, rfl, rfl⟩ := h
  exact ⟨rfl, DJ.nil⟩
theorem sgs_split (a b c d : Tok) (u : Nat) (hu : u < 4) : ∃ pre t post, [(Str.ofString "\"", a), (Str.ofString "\\", b), (Str.ofString " ", c), (Str.ofString "#", d)] = pre ++ ((⟨[sg u].toArray⟩ : Str), t) :: post ∧ pre.length = u ∧ (∀ p ∈ pre, p.1 ≠ ⟨[sg u].toArray⟩) ∧ ∀ p ∈ pre, p ∈ [(Str.ofString "\"", a), (Str.ofString "\\", b), (Str.ofString " ", c), (Str.ofString "#", d)] := by
  have e0 : Str.ofString "\"" = ⟨[sg 0].toArray⟩ := by decide +kernel
  have e1 : Str.ofString "\\" = ⟨[sg 1].toArray⟩ := by decide +kernel
  have e2 : Str.ofString " " = ⟨[sg 2].toArray⟩ := by decide +kernel
  have e3 : Str.ofString "#" = ⟨[sg 3].toArray⟩ := by decide +kernel
  have n01 : (⟨[sg 0].toArray⟩ : Str) ≠ ⟨[sg 1].toArray⟩ := by decide +kernel
  have n02 : (⟨[sg 0].toArray⟩ : Str) ≠ ⟨[sg 2].toArray⟩ := by decide +kernel
  have n03 : (⟨[sg 0].toArray⟩ : Str) ≠ ⟨[sg 3].toArray⟩ := by decide +kernel
  have n12 : (⟨[sg 1].toArray⟩ : Str) ≠ ⟨[sg 2].toArray⟩ := by decide +kernel
  have n13 : (⟨[sg 1].toArray⟩ : Str) ≠ ⟨[sg 3].toArray⟩ := by decide +kernel
  have n23 : (⟨[sg 2].toArray⟩ : Str) ≠ ⟨[sg 3].toArray⟩ := by decide +kernel
  rw [e0, e1, e2, e3]
  rcases (show u = 0 ∨ u = 1 ∨ u = 2 ∨ u = 3 by (exact om80 hu)) with rfl | rfl | rfl | rfl
  · exact ⟨[], a, _, rfl, rfl, fun _ h => (nomatch h), fun _ h => nomatch h⟩
  · exact ⟨[_], b, _, rfl, rfl, by intro p hp; rw [List.mem_singleton.mp hp]; exact n01, by intro p hp; rw [List.mem_singleton.mp hp]; exact .head _⟩
  · exact ⟨[_, _], c, _, rfl, rfl, by intro p hp; rcases List.mem_cons.mp hp with rfl | hp; exact n02; rw [List.mem_singleton.mp hp]; exact n12, by intro p hp; rcases List.mem_cons.mp hp with rfl | hp; exact .head _; rw [List.mem_singleton.mp hp]; exact .tail _ (.head _)⟩
  · exact ⟨[_, _, _], d, _, rfl, rfl, by intro p hp; rcases List.mem_cons.mp hp with rfl | hp; exact n03; rcases List.mem_cons.mp hp with rfl | hp; exact n13; rw [List.mem_singleton.mp hp]; exact n23, by intro p hp; rcases List.mem_cons.mp hp with rfl | hp; exact .head _; rcases List.mem_cons.mp hp with rfl | hp; exact .tail _ (.head _); rw [List.mem_singleton.mp hp]; exact .tail _ (.tail _ (.head _))⟩
theorem shuf20 (a0 a1 : Lx) (ok0 : a0.Ok) (ok1 : a1.Ok) (ocr0 ocr1 : Obj) (hcr0 : CodeOk ocr0) (hcr1 : CodeOk ocr1) (hz0 : a0.x.length < 2000) (hz1 : a1.x.length < 2000) (hy0 : 2 ≤ a0.x.length) (hy1 : 2 ≤ a1.x.length)
    (ln0 ln1 : Int) (tl0 tl1 tp0 tp1 : Tok) (n10 n20 n11 n21 p0 p1 : Nat) (ll : Addr) (nl' u l : Nat) (hu : u < 4) (hl : l < 4) (r0 r1 : List Nat) (hr0 : tokS (remOf a0.x p0) = ([sg u], r0)) (hr1 : tokS (remOf a1.x p1) = ([sg l], r1)) : PySem.Challenge.rw_xj0013_01 = PySem.Challenge.rw_xj0013_01 → hd.heap_1 = hd.heap_1 →
  ∀ (dp un : Nat) (gd : Option (List Code)) (cn : Str) (cs : Scope) (a : Addr) (ccd : Value) (cl : List (Str × Addr)) (outer : List Env) (base h₀ : Heap) (L Lc : Addr) (m : Str → Option Value) (R : Led) (s : Shared) (Q : Flow → Shared → Prop) (E : Value → Shared → Prop),
    Below (ktrTop dp un gd cn cs Lc a ccd cl outer) base (envX cn cs Lc a ccd cl :: outer) h₀ → Fr h₀ L s.heap m → (hd.heap_1 w.params).In h₀ → News h₀ L s.heap (a0.mut w ln0 tl0 [] n10 p0 tp0 n20 ++ (a1.mut w ln1 tl1 [] n11 p1 tp1 n21 ++ R)) → DJ (a0.mut w ln0 tl0 [] n10 p0 tp0 n20 ++ (a1.mut w ln1 tl1 [] n11 p1 tp1 n21 ++ R)) → Tp mean mg mb h₀ → 0 < s.toks →
    m (Str.ofString "lexers") = some (.ref ll) → (ll, W.listOf [.ref a0.ix, .ref a1.ix].toArray nl') ∈ R → (∀ q ∈ a0.imm w, q ∈ R) → (a0.cr, ocr0) ∈ R → (∀ q ∈ a1.imm w, q ∈ R) → (a1.cr, ocr1) ∈ R →
    dp + (3 + 2) * 4 < recursionLimit → un + (3 + 2) * 12 < cLine →
    (∀ (h' : Heap) (tk' : Nat) (m' : Str → Option Value) (sl : Addr) (SG : Obj) (tl0' tp0' tl1' tp1' tu tl : Tok) (n20' n21' p0' p1' : Nat), remOf a0.x p0' = r0 → remOf a1.x p1' = r1 →
      Fr h₀ L h' m' → News h₀ L h' ((sl, SG) :: (a0.mut w (ln0 + nl (remOf a0.x p0) - nl r0) tl0' [] n10 p0' tp0' n20' ++ (a1.mut w (ln1 + nl (remOf a1.x p1) - nl r1) tl1' [] n11 p1' tp1' n21' ++ R))) → DJ ((sl, SG) :: (a0.mut w (ln0 + nl (remOf a0.x p0) - nl r0) tl0' [] n10 p0' tp0' n20' ++ (a1.mut w (ln1 + nl (remOf a1.x p1) - nl r1) tl1' [] n11 p1' tp1' n21' ++ R))) →
      m' (Str.ofString "upper") = some (.int u tu) → m' (Str.ofString "lower") = some (.int l tl) → (∀ y, y ≠ Str.ofString "signs" → y ≠ Str.ofString "upper" → y ≠ Str.ofString "lower" → m' y = m y) →
      wpAny (model PySem.Challenge.pw_xj0013_01 w) ((ktrTop dp un gd cn cs Lc a ccd cl outer).deeper (envOf (Str.ofString "_law_shuffle") (fnScope w.params 215) L 215 (.ref 214))) (execs ((fnBody w.params 215).drop 3) (envOf (Str.ofString "_law_shuffle") (fnScope w.params 215) L 215 (.ref 214))) Q E { s with heap := h', toks := tk' }) →
    wpAny (model PySem.Challenge.pw_xj0013_01 w) ((ktrTop dp un gd cn cs Lc a ccd cl outer).deeper (envOf (Str.ofString "_law_shuffle") (fnScope w.params 215) L 215 (.ref 214))) (execs (fnBody w.params 215) (envOf (Str.ofString "_law_shuffle") (fnScope w.params 215) L 215 (.ref 214))) Q E s := by
  k_fill; intro _ _ dp un gd cn cs b ccd cl outer base h₀ L Lc m R s Q E hB hF hX hN hD hT hTk hlx mll him0 hcm0 him1 hcm1 hdp hun hret
  have e1 := (rfl : fnBody w.params 215 = fnBody w.params 215)
  conv at e1 => rhs; whnf
  have e2 := (rfl : fnScope w.params 215 = fnScope w.params 215)
  conv at e2 => rhs; whnf
  have e3 := (rfl : (fnBody w.params 215).drop 3 = (fnBody w.params 215).drop 3)
  conv at e3 => rhs; whnf
  rw [e1, e2]
  rw [e3, e2] at hret
  clear e1 e2 e3
  have hix0 := him0 _ (.head _)
  have hix1 := him1 _ (.head _)
  have mR : ∀ {A B : Led} {q : Addr × Obj}, q ∈ R → q ∈ A ++ (B ++ R) := fun h => List.mem_append_right _ (List.mem_append_right _ h)
  refine gentoks (T0 := 1) hTk ?_
  intro tkA hTA
  (try dsimp only)
  repeat ((fail_if_success (with_reducible show wpAny _ _ (execs (Stmt.Assign [Expr.Name (Str.ofString "upper") _] _ _ :: _) _) _ _ _)); walk1; try dsimp only)
  rename_i sl hA l1 h2 F2 N2
  refine gentoks (T0 := tkA + 4) (by dsimp only; (exact om169)) ?_
  intro tkB hTB
  (try dsimp only)
  have hD2 := DJ.new (p := (sl, W.listOf #[Value.str (Str.ofString "\"") tkA, Value.str (Str.ofString "\\") (tkA + 1), Value.str (Str.ofString " ") (tkA + 1 + 1), Value.str (Str.ofString "#") (tkA + 1 + 1 + 1)] 0)) l1 hD
  repeat ((fail_if_success (with_reducible show wpAny _ _ (subscriptTail _ _ _ _) _ _ _)); walk1; try dsimp only)
  refine list_item (vs := [.ref a0.ix, .ref a1.ix]) (k := 0) (v := .ref a0.ix) (isListOf N2 (.tail _ (mR mll))) (by decide) (by decide) rfl ?_
  repeat ((fail_if_success (with_reducible show wpAny _ _ (PySem.call (Value.ref 133) _) _ _ _)); walk1; try dsimp only)
  let SG : Obj := W.listOf #[Value.str (Str.ofString "\"") tkA, Value.str (Str.ofString "\\") (tkA + 1), Value.str (Str.ofString " ") (tkA + 1 + 1), Value.str (Str.ofString "#") (tkA + 1 + 1 + 1)] 0
  let sgs : List (Str × Tok) := [(Str.ofString "\"", tkA), (Str.ofString "\\", tkA + 1), (Str.ofString " ", tkA + 1 + 1), (Str.ofString "#", tkA + 1 + 1 + 1)]
  have hsg1 : ∀ p ∈ sgs, p.2 ≠ 0 ∧ p.2 < tkA + 4 := by
    intro p hp
    have ht : ∀ t : Tok, @LE.le Nat _ tkA t → @LT.lt Nat _ t (tkA + 4) → t ≠ 0 ∧ t < tkA + 4 := fun t h1 h2 => ⟨fun e => by rw [e] at h1; (exact om168 hTA h1), h2⟩
    rcases List.mem_cons.mp hp with rfl | hp
    · exact ht _ (Nat.le_refl _) (by (exact om167))
    rcases List.mem_cons.mp hp with rfl | hp
    · exact ht _ (by dsimp only; (exact om166)) (by dsimp only; (exact om165))
    rcases List.mem_cons.mp hp with rfl | hp
    · exact ht _ (by dsimp only; (exact om164)) (by dsimp only; (exact om163))
    · rw [List.mem_singleton.mp hp]
      exact ht _ (by dsimp only; (exact om162)) (by dsimp only; (exact om161))
  (rename Fr _ _ _ _ => F3); (rename News _ _ _ _ => N3)
  refine claimT_frame (get_token_t0 a0 ok0 ocr0 hcr0 hz0 hy0 ln0 tl0 n10 p0 tp0 n20 rfl rfl) (fun T v post extra h => get_token_post a0 h) [(sl, SG)] (a1.mut w ln1 tl1 [] n11 p1 tp1 n21) R (dp + 1) (un + 3) gd _ _ _ _ _ _ _ _ _ _ _ _ _ _ hB F3 hX N3 hD2 ⟨fun q hq => mR (A := [_]) (him0 q hq), mR (A := [_]) hcm0⟩ hT rfl (by (exact om160 hdp)) (by (exact om159 hun)) ?_
  rintro v post extra h4 tk4 hle4 F4 N4 D4 ⟨t0, tl0', p0', tp0', n20', ht0, rfl, hp0, rfl, rfl⟩
  rw [hr0] at hp0 ⊢
  dsimp only at hp0 hle4 ht0 ⊢
  clear N3 F3
  repeat ((fail_if_success (with_reducible show wpAny _ _ (PySem.call (Value.ref 175) _) _ _ _)); walk1; try dsimp only)
  obtain ⟨pr0, tt0, po0, es0, hlen0, hne0, hin0⟩ := sgs_split tkA (tkA + 1) (tkA + 1 + 1) (tkA + 1 + 1 + 1) u hu
  have htu0 : ∀ p ∈ pr0, p.2 ≠ t0 := fun p hp e => by
    have h1 := (hsg1 p (hin0 p hp)).2
    rw [e] at h1
    exact absurd (Nat.le_trans (Nat.le_trans hTB (Nat.le_succ _)) ht0) (Nat.not_le.mpr h1)
  have hz0' : t0 ≠ 0 := fun e => by rw [e] at ht0; exact absurd ht0 (Nat.not_succ_le_zero _)
  refine toks_cut (indexOf_w sl sgs pr0 po0 tt0 0 ⟨[sg u].toArray⟩ t0 es0 (by show 4 < 100; decide) hne0 hz0' (fun p hp => (hsg1 p hp).1) htu0 rfl rfl (dp + 1) (un + 3) gd _ _ _ _ _ _ _ _ _ _ _ _ _ _ _ hB F4 hX N4 (fun p hp => nomatch hp) (.head _) hT rfl (by (exact om158 hdp)) (by (exact om157 hun)) ?_)
  rintro v2 post2 extra2 h6 tk6 F6 N6 - - ⟨tv, rfl, rfl, rfl⟩ hle6
  rw [hlen0]
  dsimp only at hle6 ⊢
  clear N4 F4
  repeat ((fail_if_success (with_reducible show wpAny _ _ (execs (Stmt.Assign [Expr.Name (Str.ofString "lower") _] _ _ :: _) _) _ _ _)); walk1; try dsimp only)
  refine gentoks (T0 := tkA + 4) (Nat.le_trans hTB (Nat.le_trans (Nat.le_trans (Nat.le_succ _) hle4) (Nat.le_trans hle6 (Nat.le_succ _)))) ?_
  intro tkC hTC
  (try dsimp only)
  repeat ((fail_if_success (with_reducible show wpAny _ _ (subscriptTail _ _ _ _) _ _ _)); walk1; try dsimp only)
  (rename News _ _ _ _ => N7)
  refine list_item (vs := [.ref a0.ix, .ref a1.ix]) (k := 1) (v := .ref a1.ix) (isListOf N7 (.tail _ (mR (A := [_, _, _]) (B := [_, _, _]) mll))) (by decide) (by decide) rfl ?_
  repeat ((fail_if_success (with_reducible show wpAny _ _ (PySem.call (Value.ref 133) _) _ _ _)); walk1; try dsimp only)
  (rename Fr _ _ _ _ => F8)
  refine claimT_frame (get_token_t0 a1 ok1 ocr1 hcr1 hz1 hy1 ln1 tl1 n11 p1 tp1 n21 rfl rfl) (fun T v post extra h => get_token_post a1 h) ((sl, SG) :: a0.mut w (ln0 + nl (remOf a0.x p0) - nl (remOf a0.x p0')) tl0' [] n10 p0' tp0' n20') [] R (dp + 1) (un + 3) gd _ _ _ _ _ _ _ _ _ _ _ _ _ _ hB F8 hX N7 D4 ⟨fun q hq => List.mem_append_right _ (him1 q hq), List.mem_append_right _ hcm1⟩ hT rfl (by (exact om160 hdp)) (by (exact om159 hun)) ?_
  rintro v3 post3 extra3 h9 tk9 hle9 F9 N9 D9 ⟨t1, tl1', p1', tp1', n21', ht1, rfl, hp1, rfl, rfl⟩
  rw [hr1] at hp1 ⊢
  dsimp only at hp1 hle9 ht1 ⊢
  clear N7 F8
  repeat ((fail_if_success (with_reducible show wpAny _ _ (PySem.call (Value.ref 175) _) _ _ _)); walk1; try dsimp only)
  obtain ⟨pr1, tt1, po1, es1, hlen1, hne1, hin1⟩ := sgs_split tkA (tkA + 1) (tkA + 1 + 1) (tkA + 1 + 1 + 1) l hl
  have hlow : tkA + 4 ≤ t1 := Nat.le_trans hTC (Nat.le_trans (Nat.le_succ _) ht1)
  have htu1 : ∀ p ∈ pr1, p.2 ≠ t1 := fun p hp e => by
    have h1 := (hsg1 p (hin1 p hp)).2
    rw [e] at h1
    exact absurd hlow (Nat.not_le.mpr h1)
  have hz1' : t1 ≠ 0 := fun e => by rw [e] at hlow; exact absurd hlow (Nat.not_succ_le_zero _)
  refine indexOf_w sl sgs pr1 po1 tt1 0 ⟨[sg l].toArray⟩ t1 es1 (by show 4 < 100; decide) hne1 hz1' (fun p hp => (hsg1 p hp).1) htu1 rfl rfl (dp + 1) (un + 3) gd _ _ _ _ _ _ _ _ _ _ _ _ _ _ _ hB F9 hX N9 (fun p hp => nomatch hp) (.head _) hT rfl (by (exact om158 hdp)) (by (exact om157 hun)) ?_
  rintro v5 post5 extra5 hA5 tkA5 FA5 NA5 - - ⟨tv5, rfl, rfl, rfl⟩
  rw [hlen1]
  clear N9 F9
  repeat ((fail_if_success (with_reducible show wpAny _ _ (execs (Stmt.Assign [Expr.Name (Str.ofString "turned") _] _ _ :: _) _) _ _ _)); walk1; try dsimp only)
  (rename Fr _ _ _ _ => FF); (rename News _ _ _ _ => NN)
  rw [hp0, hp1] at NN
  rw [hp0, hp1] at D9
  refine hret _ _ _ sl SG tl0' tp0' tl1' tp1' tv tv5 n20' n21' p0' p1' hp0 hp1 FF NN D9 ?g1 ?g2 ?g3
  case g1 => kernel_rfl
  case g2 => kernel_rfl
  case g3 =>
    intro y h1 h2 h3
    rw [if_neg h3, if_neg h2, if_neg h1]
end

section
open PySem PySem.W PyProof.Rows PySem.Calls PySem.Spec Builtin Builtin.ObjectAttr Builtin.Str
set_option maxHeartbeats 3000000
variable {w : World} {mean : ExcName → Option Value} {mg mb : Str → Option Value}
theorem shuf2b (dk dxk : Addr) (nk : Nat) (xs : List Value) (half sp : Nat) (hxs : xs.length = 2 * half) (hsp : sp < half) (hh : half < 5) (th ts : Tok) (P : Led) : PySem.Challenge.rw_xj0013_01 = PySem.Challenge.rw_xj0013_01 → hd.heap_1 = hd.heap_1 →
  ∀ (dp un : Nat) (gd : Option (List Code)) (cn : Str) (cs : Scope) (a : Addr) (ccd : Value) (cl : List (Str × Addr)) (outer : List Env) (base h₀ : Heap) (L Lc : Addr) (m : Str → Option Value) (R : Led) (s : Shared) (Q : Flow → Shared → Prop) (E : Value → Shared → Prop),
    Below (ktrTop dp un gd cn cs Lc a ccd cl outer) base (envX cn cs Lc a ccd cl :: outer) h₀ → Fr h₀ L s.heap m → (hd.heap_1 w.params).In h₀ → News h₀ L s.heap (P ++ ([(dk, accObj dxk xs nk)] ++ ([] ++ R))) → DJ (P ++ ([(dk, accObj dxk xs nk)] ++ ([] ++ R))) → Tp mean mg mb h₀ → 
    m (Str.ofString "deck") = some (.ref dk) → m (Str.ofString "half") = some (.int half th) → m (Str.ofString "spot") = some (.int sp ts) → (∃ tk, (dxk, accD w tk) ∈ P ++ R) →
    dp + (1 + 2) * 4 < recursionLimit → un + (1 + 2) * 12 < cLine →
    (∀ (h' : Heap) (tk' : Nat) (m' : Str → Option Value) (b1 b2 b3 : Addr) (n1 n2 n3 nk' : Nat) (x1 x2 : List Value), Fr h₀ L h' m' → News h₀ L h' (((b3, W.listOf (xs.drop half).toArray n3) :: P) ++ ([(dk, accObj dxk (xs.take half) nk')] ++ ([] ++ ([(b2, W.listOf x2.toArray n2), (b1, W.listOf x1.toArray n1)] ++ R)))) → DJ (((b3, W.listOf (xs.drop half).toArray n3) :: P) ++ ([(dk, accObj dxk (xs.take half) nk')] ++ ([] ++ ([(b2, W.listOf x2.toArray n2), (b1, W.listOf x1.toArray n1)] ++ R)))) →
      m' (Str.ofString "below") = some (.ref b3) → (∀ y, y ≠ Str.ofString "below" → m' y = m y) →
      wpAny (model PySem.Challenge.pw_xj0013_01 w) ((ktrTop dp un gd cn cs Lc a ccd cl outer).deeper (envOf (Str.ofString "_law_shuffle") (fnScope w.params 215) L 215 (.ref 214))) (execs ((fnBody w.params 215).drop 8) (envOf (Str.ofString "_law_shuffle") (fnScope w.params 215) L 215 (.ref 214))) Q E { s with heap := h', toks := tk' }) →
    wpAny (model PySem.Challenge.pw_xj0013_01 w) ((ktrTop dp un gd cn cs Lc a ccd cl outer).deeper (envOf (Str.ofString "_law_shuffle") (fnScope w.params 215) L 215 (.ref 214))) (execs ((fnBody w.params 215).drop 6) (envOf (Str.ofString "_law_shuffle") (fnScope w.params 215) L 215 (.ref 214))) Q E s := by
  k_fill; intro _ _ dp un gd cn cs b ccd cl outer base h₀ L Lc m R s Q E hB hF hX hN hD hT hdk hhf hspt hdx hdp hun hret
  obtain ⟨tkd, hdx⟩ := hdx
  have e1 := (rfl : (fnBody w.params 215).drop 6 = (fnBody w.params 215).drop 6)
  conv at e1 => rhs; whnf
  have e2 := (rfl : fnScope w.params 215 = fnScope w.params 215)
  conv at e2 => rhs; whnf
  have e3 := (rfl : (fnBody w.params 215).drop 8 = (fnBody w.params 215).drop 8)
  conv at e3 => rhs; whnf
  rw [e1, e2]
  rw [e3, e2] at hret
  clear e1 e2 e3
  repeat ((fail_if_success (with_reducible show wpAny _ _ (PySem.getMethod _ _ _) _ _ _)); walk1; try dsimp only)
  have md : (dk, accObj dxk xs nk) ∈ P ++ ([(dk, accObj dxk xs nk)] ++ ([] ++ R)) := List.mem_append_right _ (.head _)
  have mx : (dxk, accD w tkd) ∈ P ++ ([(dk, accObj dxk xs nk)] ++ ([] ++ R)) := (List.mem_append.mp hdx).elim (List.mem_append_left _) (fun h => List.mem_append_right _ (.tail _ h))
  refine acc_getMethod_f (dx := dxk) (tk := tkd) (hX.keeps (by with_reducible exact Fr.keep (by assumption))) (hN _ md).1 (hN _ mx).1 (by k_is) (by k_is) (by kernel_rfl) ?_
  repeat ((fail_if_success (with_reducible show wpAny _ _ (PySem.call (Value.ref 53) _) _ _ _)); walk1; try dsimp only)
  rw [← Int.natCast_add half sp]
  refine claim_frame (pop_from_w dk dxk xs nk (half + sp) _ (by (exact om100 hxs hh)) (by (exact om99 hxs hsp)) rfl rfl) (fun v post extra h => by obtain ⟨_, _, -, rfl, rfl⟩ := h; exact ⟨rfl, DJ.one _⟩) P [] R (dp + 1) (un + 3) gd _ _ _ _ _ _ _ _ _ _ _ _ _ _ hB (by assumption) hX hN hD ⟨tkd, by simpa using hdx⟩ hT rfl (by (exact om11 hdp)) (by (exact om10 hun)) ?_
  rintro v1 post1 extra1 h1 tk1 - F1 N1 D1 ⟨b1, nk1, rfl, rfl, rfl⟩
  repeat ((fail_if_success (with_reducible show wpAny _ _ (PySem.getMethod _ _ _) _ _ _)); walk1; try dsimp only)
  (rename News _ _ _ _ => N1)
  have mx1 : ∀ (A B : Led), (dxk, accD w tkd) ∈ A ++ (P ++ (B ++ R)) := fun A B => (List.mem_append.mp hdx).elim (fun h => List.mem_append_right _ (List.mem_append_left _ h)) (fun h => List.mem_append_right _ (List.mem_append_right _ (List.mem_append_right _ h)))
  refine acc_getMethod_f (dx := dxk) (tk := tkd) (hX.keeps (by with_reducible exact Fr.keep (by assumption))) (N1 _ (List.mem_append_right _ (.head _))).1 (N1 (dxk, accD w tkd) (mx1 [] [(dk, _), (b1, _)])).1 (by k_is) (by k_is) (by kernel_rfl) ?_
  repeat ((fail_if_success (with_reducible show wpAny _ _ (PySem.call (Value.ref 53) _) _ _ _)); walk1; try dsimp only)
  refine claim_frame (pop_from_w dk dxk (xs.take (half + sp)) nk1 half _ (by rw [List.length_take]; (exact om98 hsp hh)) (by rw [List.length_take]; (exact om97 hxs)) rfl rfl) (fun v post extra h => by obtain ⟨_, _, -, rfl, rfl⟩ := h; exact ⟨rfl, DJ.one _⟩) P [] _ (dp + 1) (un + 3) gd _ _ _ _ _ _ _ _ _ _ _ _ _ _ hB (by assumption) hX N1 D1 ⟨tkd, mx1 [] [_]⟩ hT rfl (by (exact om11 hdp)) (by (exact om10 hun)) ?_
  rintro v2 post2 extra2 h2 tk2 - F2 N2 D2 ⟨b2, nk2, rfl, rfl, rfl⟩
  repeat (walk1; try dsimp only)
  (rename News _ _ _ _ => N2)
  refine kmk_add_lit (by assumption) N2 (isListOf (vs := List.drop half (List.take (half + sp) xs)) (n := 0) N2 (List.mem_append_right _ (.tail _ (.head _)))) (isListOf (vs := List.drop (half + sp) xs) (n := 0) N2 (List.mem_append_right _ (.tail _ (.tail _ (.head _))))) (zs := xs.drop half) ?e ?_ ?z
  case e =>
    dsimp only
    rw [List.drop_take, Nat.add_sub_cancel_left, ← List.drop_drop]
    exact List.take_append_drop _ _
  case z =>
    dsimp only
    have := sizeLine_eq
    simp only [List.length_drop, List.length_take]
    (exact om96 hxs hh this)
  intro b3 h3 F3 N3 l3
  have D3 := DJ.new (p := (b3, W.listOf (xs.drop half).toArray 0)) l3 D2
  repeat ((fail_if_success (with_reducible show wpAny _ _ (execs (Stmt.Assign [Expr.Name (Str.ofString "above") _] _ _ :: _) _) _ _ _)); walk1; try dsimp only)
  (rename Fr _ _ _ _ => F9); (rename News _ _ _ _ => N9)
  rw [show List.take half (List.take (half + sp) xs) = List.take half xs by rw [List.take_take, Nat.min_eq_left (Nat.le_add_right _ _)]] at N9 D3
  refine hret _ _ _ b1 b2 b3 _ _ _ _ _ _ F9 N9 D3 ?g1 ?g2
  case g1 => kernel_rfl
  case g2 =>
    intro y h1
    repeat rw [if_neg h1]
end

section
open PySem PySem.W PyProof.Rows PySem.Calls PySem.Spec Builtin Builtin.ObjectAttr Builtin.Str
set_option maxHeartbeats 3000000
variable {w : World} {mean : ExcName → Option Value} {mg mb : Str → Option Value}
theorem shuf2c (dk dxk : Addr) (nk : Nat) (xs yl : List Value) (b3 : Addr) (half sp n3 : Nat) (hxs : xs.length = half) (hsp : sp < half) (hh : half < 5) (ts : Tok) (P : Led) : PySem.Challenge.rw_xj0013_01 = PySem.Challenge.rw_xj0013_01 → hd.heap_1 = hd.heap_1 →
  ∀ (dp un : Nat) (gd : Option (List Code)) (cn : Str) (cs : Scope) (a : Addr) (ccd : Value) (cl : List (Str × Addr)) (outer : List Env) (base h₀ : Heap) (L Lc : Addr) (m : Str → Option Value) (R : Led) (s : Shared) (Q : Flow → Shared → Prop) (E : Value → Shared → Prop),
    Below (ktrTop dp un gd cn cs Lc a ccd cl outer) base (envX cn cs Lc a ccd cl :: outer) h₀ → Fr h₀ L s.heap m → (hd.heap_1 w.params).In h₀ → News h₀ L s.heap (P ++ ([(dk, accObj dxk xs nk)] ++ ([] ++ R))) → DJ (P ++ ([(dk, accObj dxk xs nk)] ++ ([] ++ R))) → Tp mean mg mb h₀ → 
    m (Str.ofString "deck") = some (.ref dk) → m (Str.ofString "below") = some (.ref b3) → (b3, W.listOf yl.toArray n3) ∈ R → m (Str.ofString "spot") = some (.int sp ts) → (∃ tk, (dxk, accD w tk) ∈ P ++ R) →
    dp + (1 + 2) * 4 < recursionLimit → un + (1 + 2) * 12 < cLine →
    (∀ (h' : Heap) (tk' : Nat) (m' : Str → Option Value) (hv l0 b1 b2 : Addr) (n n0 n1 n2 nk' : Nat) (x1 x2 : List Value), Fr h₀ L h' m' → News h₀ L h' ((hv, W.listOf [Value.ref l0, .ref b3].toArray n) :: (l0, W.listOf xs.toArray n0) :: (P ++ ([(dk, accObj dxk [] nk')] ++ ([] ++ ([(b2, W.listOf x2.toArray n2), (b1, W.listOf x1.toArray n1)] ++ R))))) → DJ ((hv, W.listOf [Value.ref l0, .ref b3].toArray n) :: (l0, W.listOf xs.toArray n0) :: (P ++ ([(dk, accObj dxk [] nk')] ++ ([] ++ ([(b2, W.listOf x2.toArray n2), (b1, W.listOf x1.toArray n1)] ++ R))))) →
      m' (Str.ofString "halves") = some (.ref hv) → (∀ y, y ≠ Str.ofString "above" → y ≠ Str.ofString "halves" → m' y = m y) →
      wpAny (model PySem.Challenge.pw_xj0013_01 w) ((ktrTop dp un gd cn cs Lc a ccd cl outer).deeper (envOf (Str.ofString "_law_shuffle") (fnScope w.params 215) L 215 (.ref 214))) (execs ((fnBody w.params 215).drop 10) (envOf (Str.ofString "_law_shuffle") (fnScope w.params 215) L 215 (.ref 214))) Q E { s with heap := h', toks := tk' }) →
    wpAny (model PySem.Challenge.pw_xj0013_01 w) ((ktrTop dp un gd cn cs Lc a ccd cl outer).deeper (envOf (Str.ofString "_law_shuffle") (fnScope w.params 215) L 215 (.ref 214))) (execs ((fnBody w.params 215).drop 8) (envOf (Str.ofString "_law_shuffle") (fnScope w.params 215) L 215 (.ref 214))) Q E s := by
  k_fill; intro _ _ dp un gd cn cs b ccd cl outer base h₀ L Lc m R s Q E hB hF hX hN hD hT hdk hbl hb3 hspt hdx hdp hun hret
  obtain ⟨tkd, hdx⟩ := hdx
  have e1 := (rfl : (fnBody w.params 215).drop 8 = (fnBody w.params 215).drop 8)
  conv at e1 => rhs; whnf
  have e2 := (rfl : fnScope w.params 215 = fnScope w.params 215)
  conv at e2 => rhs; whnf
  have e3 := (rfl : (fnBody w.params 215).drop 10 = (fnBody w.params 215).drop 10)
  conv at e3 => rhs; whnf
  rw [e1, e2]
  rw [e3, e2] at hret
  clear e1 e2 e3
  repeat ((fail_if_success (with_reducible show wpAny _ _ (PySem.getMethod _ _ _) _ _ _)); walk1; try dsimp only)
  (rename Fr _ _ _ _ => F0)
  have md : (dk, accObj dxk xs nk) ∈ P ++ ([(dk, accObj dxk xs nk)] ++ ([] ++ R)) := List.mem_append_right _ (.head _)
  have mx : (dxk, accD w tkd) ∈ P ++ ([(dk, accObj dxk xs nk)] ++ ([] ++ R)) := (List.mem_append.mp hdx).elim (List.mem_append_left _) (fun h => List.mem_append_right _ (.tail _ h))
  refine acc_getMethod_f (dx := dxk) (tk := tkd) (hX.keeps F0.keep) (hN _ md).1 (hN _ mx).1 (by k_is) (by k_is) (by kernel_rfl) ?_
  repeat ((fail_if_success (with_reducible show wpAny _ _ (PySem.call (Value.ref 53) _) _ _ _)); walk1; try dsimp only)
  refine claim_frame (pop_from_w dk dxk xs nk sp _ (by (exact om104 hxs hh)) (by (exact om103 hxs hsp)) rfl rfl) (fun v post extra h => by obtain ⟨_, _, -, rfl, rfl⟩ := h; exact ⟨rfl, DJ.one _⟩) P [] R (dp + 1) (un + 3) gd _ _ _ _ _ _ _ _ _ _ _ _ _ _ hB (by assumption) hX hN hD ⟨tkd, by simpa using hdx⟩ hT rfl (by (exact om11 hdp)) (by (exact om10 hun)) ?_
  rintro v1 post1 extra1 h1 tk1 - F1 N1 D1 ⟨b1, nk1, rfl, rfl, rfl⟩
  repeat ((fail_if_success (with_reducible show wpAny _ _ (PySem.getMethod _ _ _) _ _ _)); walk1; try dsimp only)
  (rename News _ _ _ _ => N1)
  have mx1 : ∀ (A B : Led), (dxk, accD w tkd) ∈ A ++ (P ++ (B ++ R)) := fun A B => (List.mem_append.mp hdx).elim (fun h => List.mem_append_right _ (List.mem_append_left _ h)) (fun h => List.mem_append_right _ (List.mem_append_right _ (List.mem_append_right _ h)))
  refine acc_getMethod_f (dx := dxk) (tk := tkd) (hX.keeps (by with_reducible exact Fr.keep (by assumption))) (N1 _ (List.mem_append_right _ (.head _))).1 (N1 (dxk, accD w tkd) (mx1 [] [(dk, _), (b1, _)])).1 (by k_is) (by k_is) (by kernel_rfl) ?_
  repeat ((fail_if_success (with_reducible show wpAny _ _ (PySem.call (Value.ref 53) _) _ _ _)); walk1; try dsimp only)
  refine claim_frame (pop_from0_w dk dxk (xs.take sp) nk1 (by rw [List.length_take]; (exact om102 hsp hh)) rfl rfl) (fun v post extra h => by obtain ⟨_, _, -, rfl, rfl⟩ := h; exact ⟨rfl, DJ.one _⟩) P [] _ (dp + 1) (un + 3) gd _ _ _ _ _ _ _ _ _ _ _ _ _ _ hB (by assumption) hX N1 D1 ⟨tkd, mx1 [] [_]⟩ hT rfl (by (exact om11 hdp)) (by (exact om10 hun)) ?_
  rintro v2 post2 extra2 h2 tk2 - F2 N2 D2 ⟨b2, nk2, rfl, rfl, rfl⟩
  repeat (walk1; try dsimp only)
  (rename News _ _ _ _ => N2)
  refine kmk_add_lit (by assumption) N2 (isListOf (vs := List.drop 0 (List.take sp xs)) (n := 0) N2 (List.mem_append_right _ (.tail _ (.head _)))) (isListOf (vs := List.drop sp xs) (n := 0) N2 (List.mem_append_right _ (.tail _ (.tail _ (.head _))))) (zs := xs) ?e ?_ ?z
  case e => exact List.take_append_drop _ _
  case z =>
    dsimp only
    have := sizeLine_eq
    simp only [List.length_drop, List.length_take]
    (exact om101 hxs hh this)
  intro b4 h3 F3 N3 l3
  have D3 := DJ.new (p := (b4, W.listOf xs.toArray 0)) l3 D2
  repeat ((fail_if_success (with_reducible show wpAny _ _ (execs (Stmt.If _ _ _ _ :: _) _) _ _ _)); walk1; try dsimp only)
  (rename Fr _ _ _ _ => F9); (rename News _ _ _ _ => N9); (rename (_ < _ ∧ AllLt _ _) => l9)
  have D9 := DJ.new (p := (_, W.listOf #[Value.ref b4, Value.ref b3] 0)) (fun q hq => by rcases List.mem_cons.mp hq with rfl | hq; exact l9.1; exact tb_ltOf l9.2 q hq) D3
  rw [show List.take 0 (List.take sp xs) = [] from rfl] at N9 D9
  refine hret _ _ _ _ b4 b1 b2 _ _ _ _ _ _ _ F9 N9 D9 ?g1 ?g2
  case g1 => kernel_rfl
  case g2 =>
    intro y h1 h2
    rw [if_neg h2, if_neg h1]
end

section
open PySem PySem.W PyProof.Rows PySem.Calls PySem.Spec Builtin Builtin.ObjectAttr Builtin.Str
set_option maxHeartbeats 3000000
variable {w : World} {mean : ExcName → Option Value} {mg mb : Str → Option Value}
theorem pick_take (vs : List Value) (k : Nat) : slicePick vs.toArray none (some (k : Int)) none = (vs.take k).toArray := by
  have e : sliceBounds none (some (k : Int)) none vs.toArray.size = (((0 : Nat) : Int), ((min k vs.toArray.size : Nat) : Int), 1) := by
    simp only [sliceBounds, Option.getD_none, show (1 : Int) > 0 by decide, if_true, if_neg (show ¬ ((k : Int) < 0) by (exact om110))]
    congr 1
    congr 1
    (exact om109)
  rw [kmk_pick_nat _ e]
  show ((vs.drop 0).take (min k vs.toArray.size - 0)).toArray = _
  rw [List.drop_zero, Nat.sub_zero, List.size_toArray, kmk_take_min]
theorem pick_drop (vs : List Value) (k : Nat) : slicePick vs.toArray (some (k : Int)) none none = (vs.drop k).toArray := by
  have e : sliceBounds (some (k : Int)) none none vs.toArray.size = (((min k vs.toArray.size : Nat) : Int), ((vs.toArray.size : Nat) : Int), 1) := by
    simp only [sliceBounds, Option.getD_none, show (1 : Int) > 0 by decide, if_true, if_neg (show ¬ ((k : Int) < 0) by (exact om110))]
    congr 1
    (exact om109)
  rw [kmk_pick_nat _ e]
  show ((vs.drop (min k vs.toArray.size)).take (vs.toArray.size - min k vs.toArray.size)).toArray = _
  rw [List.size_toArray, kmk_drop_min, List.take_of_length_le (by rw [List.length_drop]; (exact om108))]
noncomputable def cardD (c : Str × Str) : PyData := .tuple [.str c.1, .str c.2]
theorem cards_reads {h₀ h : Heap} {L : Addr} {R : Led} (N : News h₀ L h R) {vs : List Value} {cds : List (Str × Str)} (x : Cards R vs cds) : ∃ as, ReadsAll h vs (cds.map cardD) as := by
  induction x with
  | nil => exact ⟨[], .nil⟩
  | cons hm _ ih =>
    obtain ⟨as, ih⟩ := ih
    exact ⟨_, .cons (.tuple (N _ hm).1 rfl rfl (.cons (.str _ _) (.cons (.str _ _) .nil))) ih⟩
theorem cards_lay : ∀ (cds : List (Str × Str)), (∀ c ∈ cds, PyData.strOk c.1 = true ∧ PyData.strOk c.2 = true) → PyData.canLayAll0 (cds.map cardD) = true
  | [], _ => rfl
  | c :: cs, h => by
    have h1 := h c (.head _)
    have h2 := cards_lay cs fun x hx => h x (.tail _ hx)
    simp [cardD, PyData.canLayAll0, PyData.canLay0, h1.1, h1.2, h2]
theorem cards_depth : ∀ (cds : List (Str × Str)), PyData.depthAll (cds.map cardD) ≤ 1
  | [] => by simp [PyData.depthAll]
  | c :: cs => by
    have := cards_depth cs
    simp only [List.map_cons, PyData.depthAll, cardD, PyData.depth]
    exact Nat.max_le.mpr ⟨by decide, this⟩
theorem shuf2d (hv l0 l1 lo : Addr) (nv n0 n1 no : Nat) (xs os : List Value) (cds : List (Str × Str)) (half : Nat) (hcs : cds.length = 2 * half) (hh : half < 5) (hok : ∀ c ∈ cds, PyData.strOk c.1 = true ∧ PyData.strOk c.2 = true) (th : Tok) : PySem.Challenge.rw_xj0013_01 = PySem.Challenge.rw_xj0013_01 → hd.heap_1 = hd.heap_1 →
  ∀ (dp un : Nat) (gd : Option (List Code)) (cn : Str) (cs : Scope) (a : Addr) (ccd : Value) (cl : List (Str × Addr)) (outer : List Env) (base h₀ : Heap) (L Lc : Addr) (m : Str → Option Value) (R : Led) (s : Shared) (Q : Flow → Shared → Prop) (E : Value → Shared → Prop),
    Below (ktrTop dp un gd cn cs Lc a ccd cl outer) base (envX cn cs Lc a ccd cl :: outer) h₀ → Fr h₀ L s.heap m → (hd.heap_1 w.params).In h₀ → News h₀ L s.heap R → Tp mean mg mb h₀ → 
    m (Str.ofString "half") = some (.int half th) → m (Str.ofString "order") = some (.ref lo) → m (Str.ofString "halves") = some (.ref hv) → (hv, W.listOf [Value.ref l0, .ref l1].toArray nv) ∈ R → (l0, W.listOf (xs.take half).toArray n0) ∈ R → (l1, W.listOf (xs.drop half).toArray n1) ∈ R → (lo, W.listOf os.toArray no) ∈ R → Cards R xs cds → Cards R os cds →
    dp + (1 + 2) * 4 < recursionLimit → un + (1 + 2) * 12 < cLine →
    (∀ (h' : Heap) (tk' : Nat), Fr h₀ L h' m → News h₀ L h' R → 
      wpAny (model PySem.Challenge.pw_xj0013_01 w) ((ktrTop dp un gd cn cs Lc a ccd cl outer).deeper (envOf (Str.ofString "_law_shuffle") (fnScope w.params 215) L 215 (.ref 214))) (execs ((fnBody w.params 215).drop 11) (envOf (Str.ofString "_law_shuffle") (fnScope w.params 215) L 215 (.ref 214))) Q E { s with heap := h', toks := tk' }) →
    wpAny (model PySem.Challenge.pw_xj0013_01 w) ((ktrTop dp un gd cn cs Lc a ccd cl outer).deeper (envOf (Str.ofString "_law_shuffle") (fnScope w.params 215) L 215 (.ref 214))) (execs ((fnBody w.params 215).drop 10) (envOf (Str.ofString "_law_shuffle") (fnScope w.params 215) L 215 (.ref 214))) Q E s := by
  k_fill; intro _ _ dp un gd cn cs b ccd cl outer base h₀ L Lc m R s Q E hB hF hX hN hT hhf hor hhv mhv ml0 ml1 mlo hcx hco hdp hun hret
  have e1 := (rfl : (fnBody w.params 215).drop 10 = (fnBody w.params 215).drop 10)
  conv at e1 => rhs; whnf
  have e2 := (rfl : fnScope w.params 215 = fnScope w.params 215)
  conv at e2 => rhs; whnf
  have e3 := (rfl : (fnBody w.params 215).drop 11 = (fnBody w.params 215).drop 11)
  conv at e3 => rhs; whnf
  rw [e1, e2]
  rw [e3, e2] at hret
  clear e1 e2 e3
  repeat ((fail_if_success (with_reducible show wpAny _ _ (subscriptTail _ _ _ _) _ _ _)); walk1; try dsimp only)
  have hol : os.length = 2 * half := by rw [hco.length, hcs]
  have hxl : xs.length = 2 * half := by rw [hcx.length, hcs]
  (rename Fr _ _ _ _ => F1)
  refine kmk_slice (lo := none) (hi := some (half : Int)) (by assumption) hN (isListOf (vs := os) (n := no) hN mlo) .none (.int _ _) ?_ (by with_unfolding_all rfl) (by kmk_pure) (by rw [List.size_toArray]; have := sizeLine_eq; (exact om107 hh hol this))
  intro s1 h1 F1 N1 l1
  rw [pick_take] at N1
  repeat ((fail_if_success (with_reducible show wpAny _ _ (subscriptTail _ _ _ _) _ _ _)); walk1; try dsimp only)
  refine kmk_slice (s := { heap := h1, gens := s.gens, drawn := s.drawn, toks := _, os := s.os }) (lo := some (half : Int)) (hi := none) (by assumption) N1 (isListOf (vs := os) (n := no) N1 (.tail _ mlo)) (.int _ _) .none ?_ (by with_unfolding_all rfl) (by kmk_pure) (by rw [List.size_toArray]; have := sizeLine_eq; (exact om107 hh hol this))
  intro s2 h2 F2 N2 l2
  rw [pick_drop] at N2
  repeat ((fail_if_success (with_reducible show wpAny _ _ (compareOp _ _ _) _ _ _)); walk1; try dsimp only)
  (rename Fr _ _ _ _ => F9); (rename News _ _ _ _ => N9)
  have NR := cb_drop (news := R) N9 fun p hp => .tail _ (.tail _ (.tail _ hp))
  obtain ⟨a1, r1⟩ := cards_reads NR (hcx.take half)
  obtain ⟨a2, r2⟩ := cards_reads NR (hcx.drop half)
  obtain ⟨a3, r3⟩ := cards_reads NR (hco.take half)
  obtain ⟨a4, r4⟩ := cards_reads NR (hco.drop half)
  have hlay : PyData.canLay0 (.list [.list ((cds.take half).map cardD), .list ((cds.drop half).map cardD)]) = true := by
    simp only [PyData.canLay0, PyData.canLayAll0, Bool.and_true, Bool.and_eq_true, cards_lay (cds.take half) (fun c hc => hok c (List.mem_of_mem_take hc)), cards_lay (cds.drop half) (fun c hc => hok c (List.mem_of_mem_drop hc)), and_self]
  have hdep : PyData.depth (.list [.list ((cds.take half).map cardD), .list ((cds.drop half).map cardD)]) ≤ 3 := by
    have d1 := cards_depth (cds.take half)
    have d2 := cards_depth (cds.drop half)
    simp only [PyData.depth, PyData.depthAll]
    (exact om106 d1 d2)
  refine SeqAt.compareNe_reads (da := .list [.list ((cds.take half).map cardD), .list ((cds.drop half).map cardD)]) (db := .list [.list ((cds.take half).map cardD), .list ((cds.drop half).map cardD)]) (.list (NR _ mhv).1 rfl rfl (.cons (.list (NR _ ml0).1 rfl rfl r1) (.cons (.list (NR _ ml1).1 rfl rfl r2) .nil))) (.list (N9 _ (.head _)).1 rfl rfl (.cons (.list (N9 _ (.tail _ (.tail _ (.head _)))).1 rfl rfl r3) (.cons (.list (N9 _ (.tail _ (.head _))).1 rfl rfl r4) .nil))) hlay hlay ?hu ?_
  case hu =>
    rw [Nat.min_self]
    have e : ∀ e : Env, ((ktrTop dp un gd cn cs Lc b ccd cl outer).deeper e).units = un + 3 := fun _ => rfl
    rw [e]
    (exact om105 hun hdep)
  rw [SeqAt.eqv_refl _ hlay]
  repeat ((fail_if_success (with_reducible show wpAny _ _ (execs (Stmt.Assign [Expr.Name (Str.ofString "piles") _] _ _ :: _) _) _ _ _)); walk1; try dsimp only)
  (rename Fr _ _ _ _ => F9)
  exact hret _ _ F9 NR
end

section
open PySem PySem.W PyProof.Rows PySem.Calls PySem.Spec Builtin Builtin.ObjectAttr Builtin.Str
set_option maxHeartbeats 3000000
variable {w : World} {mean : ExcName → Option Value} {mg mb : Str → Option Value}
theorem claim_frameN {lv : Nat} {f : Value} {vs : List Value} {pre : Led} {Rd : Led → Prop} {Post : Value → Led → Led → Prop} (H : ClaimL w mean mg mb lv f vs pre Rd Post)
    (hpost : ∀ v post extra, Post v post extra → DJ post ∧ DJ extra)
    (A B R : Led) (dp un : Nat) (gd : Option (List Code)) (cn : Str) (cs : Scope) (a : Addr) (ccd : Value) (cl : List (Str × Addr)) (outer : List Env) (A₀ : Around) (base h₀ : Heap) (L : Addr) (m : Str → Option Value) (s : Shared) (Q E : Value → Shared → Prop)
    (hB : Below A₀ base outer h₀) (hF : Fr h₀ L s.heap m) (hX : (hd.heap_1 w.params).In h₀) (hN : News h₀ L s.heap (A ++ (pre ++ (B ++ R)))) (hD : DJ (A ++ (pre ++ (B ++ R)))) (hR : Rd (A ++ (B ++ R))) (hT : Tp mean mg mb h₀) (hk : cs.kind = .function)
    (hdp : dp + (lv + 2) * 4 < recursionLimit) (hun : un + (lv + 2) * 12 < cLine)
    (hret : ∀ (v : Value) (post extra : Led) (h' : Heap) (tk' : Nat), s.toks ≤ tk' → Fr h₀ L h' m → News h₀ L h' (A ++ (post ++ (B ++ (extra ++ R)))) → DJ (A ++ (post ++ (B ++ (extra ++ R)))) → Post v post extra → Q v { s with heap := h', toks := tk' }) :
    wpAny (model PySem.Challenge.pw_xj0013_01 w) (ktrTop dp un gd cn cs L a ccd cl outer) (call f vs) Q E s := by
  have hD2 : DJ (pre ++ (A ++ (B ++ R))) := hD.perm (perm3 A pre B R)
  refine toks_cut (H dp un gd cn cs a ccd cl outer A₀ base h₀ L m (A ++ (B ++ R)) s _ E hB hF hX (cb_drop hN fun p hp => (perm3 A pre B R).mem_iff.mpr hp) hD2.off hR hT hk hdp hun ?_)
  intro v post extra h' tk' F N O1 O2 P hle
  obtain ⟨e1, e2⟩ := hpost v post extra P
  have hDp : DJ post := e1
  refine hret v post extra h' tk' hle F (cb_drop N fun p hp => (perm4 A post B extra R).mem_iff.mpr hp) ?_ P
  exact ((hDp.join (e2.join hD2.right O2) O1)).perm (perm4 A post B extra R)
theorem shuf2e : PySem.Challenge.rw_xj0013_01 = PySem.Challenge.rw_xj0013_01 → hd.heap_1 = hd.heap_1 →
  ∀ (dp un : Nat) (gd : Option (List Code)) (cn : Str) (cs : Scope) (a : Addr) (ccd : Value) (cl : List (Str × Addr)) (outer : List Env) (base h₀ : Heap) (L Lc : Addr) (m : Str → Option Value) (R : Led) (s : Shared) (Q : Flow → Shared → Prop) (E : Value → Shared → Prop),
    Below (ktrTop dp un gd cn cs Lc a ccd cl outer) base (envX cn cs Lc a ccd cl :: outer) h₀ → Fr h₀ L s.heap m → (hd.heap_1 w.params).In h₀ → News h₀ L s.heap R → DJ R → Tp mean mg mb h₀ → 
    dp + (1 + 2) * 4 < recursionLimit → un + (1 + 2) * 12 < cLine →
    (∀ (h' : Heap) (tk' : Nat) (m' : Str → Option Value) (pv q0 q1 d0 d1 : Addr) (np n0 n1 : Nat) (t0 t1 : Tok), Fr h₀ L h' m' → News h₀ L h' ((pv, W.listOf [Value.ref q0, .ref q1].toArray np) :: (q1, accObj d1 [] n1) :: (q0, accObj d0 [] n0) :: (d1, accD w t1) :: (d0, accD w t0) :: R) → DJ ((pv, W.listOf [Value.ref q0, .ref q1].toArray np) :: (q1, accObj d1 [] n1) :: (q0, accObj d0 [] n0) :: (d1, accD w t1) :: (d0, accD w t0) :: R) →
      m' (Str.ofString "piles") = some (.ref pv) → (∀ y, y ≠ Str.ofString "piles" → m' y = m y) →
      wpAny (model PySem.Challenge.pw_xj0013_01 w) ((ktrTop dp un gd cn cs Lc a ccd cl outer).deeper (envOf (Str.ofString "_law_shuffle") (fnScope w.params 215) L 215 (.ref 214))) (execs ((fnBody w.params 215).drop 12) (envOf (Str.ofString "_law_shuffle") (fnScope w.params 215) L 215 (.ref 214))) Q E { s with heap := h', toks := tk' }) →
    wpAny (model PySem.Challenge.pw_xj0013_01 w) ((ktrTop dp un gd cn cs Lc a ccd cl outer).deeper (envOf (Str.ofString "_law_shuffle") (fnScope w.params 215) L 215 (.ref 214))) (execs ((fnBody w.params 215).drop 11) (envOf (Str.ofString "_law_shuffle") (fnScope w.params 215) L 215 (.ref 214))) Q E s := by
  k_fill; intro _ _ dp un gd cn cs b ccd cl outer base h₀ L Lc m R s Q E hB hF hX hN hD hT hdp hun hret
  have e1 := (rfl : (fnBody w.params 215).drop 11 = (fnBody w.params 215).drop 11)
  conv at e1 => rhs; whnf
  have e2 := (rfl : fnScope w.params 215 = fnScope w.params 215)
  conv at e2 => rhs; whnf
  have e3 := (rfl : (fnBody w.params 215).drop 12 = (fnBody w.params 215).drop 12)
  conv at e3 => rhs; whnf
  rw [e1, e2]
  rw [e3, e2] at hret
  clear e1 e2 e3
  repeat ((fail_if_success (with_reducible show wpAny _ _ (PySem.call (Value.ref 101) _) _ _ _)); walk1; try dsimp only)
  refine claim_frameN (acc_new_w rfl rfl) (fun v post extra h => by obtain ⟨_, _, _, _, -, rfl, rfl⟩ := h; exact ⟨DJ.one _, DJ.one _⟩) [] [] R (dp + 1) (un + 3) gd _ _ _ _ _ _ _ _ _ _ _ _ _ _ hB (by assumption) hX hN hD trivial hT rfl (by (exact om11 hdp)) (by (exact om10 hun)) ?_
  rintro v1 post1 extra1 h1 tk1 - F1 N1 D1 ⟨q0, d0, n0, t0, rfl, rfl, rfl⟩
  repeat ((fail_if_success (with_reducible show wpAny _ _ (PySem.call (Value.ref 101) _) _ _ _)); walk1; try dsimp only)
  refine claim_frameN (acc_new_w rfl rfl) (fun v post extra h => by obtain ⟨_, _, _, _, -, rfl, rfl⟩ := h; exact ⟨DJ.one _, DJ.one _⟩) [] [(q0, accObj d0 [] n0)] ((d0, accD w t0) :: R) (dp + 1) (un + 3) gd _ _ _ _ _ _ _ _ _ _ _ _ _ _ hB (by assumption) hX (by assumption) D1 trivial hT rfl (by (exact om11 hdp)) (by (exact om10 hun)) ?_
  rintro v2 post2 extra2 h2 tk2 - F2 N2 D2 ⟨q1, d1, n1, t1, rfl, rfl, rfl⟩
  repeat ((fail_if_success (with_reducible show wpAny _ _ (execs (Stmt.For _ _ _ _ _ :: _) _) _ _ _)); walk1; try dsimp only)
  (rename Fr _ _ _ _ => F9); (rename News _ _ _ _ => N9); (rename (∀ p ∈ _ ++ _, _ < _) => l9)
  have D9 := DJ.new (p := (_, W.listOf #[Value.ref q0, Value.ref q1] 0)) l9 D2
  refine hret _ _ _ _ q0 q1 d0 d1 _ _ _ t0 t1 F9 N9 D9 ?g1 ?g2
  case g1 => kernel_rfl
  case g2 =>
    intro y h1
    rw [if_neg h1]
end

section
open PySem PySem.W PyProof.Rows PySem.Calls PySem.Spec Builtin Builtin.ObjectAttr Builtin.Str
set_option maxHeartbeats 3000000
variable {w : World} {mean : ExcName → Option Value} {mg mb : Str → Option Value}
noncomputable def forBody (P : Params) (k : Nat) : List Stmt := match (fnBody P 215).drop k with
  | (.For _ _ b _ _) :: _ => b
  | _ => []
noncomputable def StrsAre : List Value → List (Str × Str) → Prop
  | [], [] => True
  | v :: vs, c :: cs => (∃ t, v = .str c.2 t) ∧ StrsAre vs cs
  | _, _ => False
theorem StrsAre.length : ∀ {xs : List Value} {cs : List (Str × Str)}, StrsAre xs cs → xs.length = cs.length
  | [], [], _ => rfl
  | _ :: _, _ :: _, ⟨_, r⟩ => congrArg (· + 1) (StrsAre.length r)
theorem StrsAre.append : ∀ {xs ys : List Value} {cs ds : List (Str × Str)}, StrsAre xs cs → StrsAre ys ds → StrsAre (xs ++ ys) (cs ++ ds)
  | [], _, [], _, _, y => y
  | _ :: _, _, _ :: _, _, ⟨a, r⟩, y => ⟨a, StrsAre.append r y⟩
inductive F1J (q dq : Addr) (cds : List (Str × Str)) (O : Led) (m : Str → Option Value) (i : Nat) (m' : Str → Option Value) (news' : Led) : Prop
  | mk (X : List Value) (n' : Nat) (O' : Led) (e : news' = (q, accObj dq X n') :: (O' ++ O)) (hD : DJ news') (hX : Cards O' X (cds.take i)) (hm : ∀ y, y ≠ Str.ofString "blank" → y ≠ Str.ofString "card" → m' y = m y)
theorem shuf2f1 (q dq pv hv tnn lh : Addr) (np nv nt nh sd nq : Nat) (ps hs ts vs : List Value) (cds : List (Str × Str)) (tsd tt td : Tok) (hsd : sd < 2) (hps : ps[sd]? = some (.ref q)) (hhs : hs[sd]? = some (.ref lh)) (hts : ts[sd]? = some (.int 1 tt)) (hlen : cds.length < 5) (O : Led) : PySem.Challenge.rw_xj0013_01 = PySem.Challenge.rw_xj0013_01 → hd.heap_1 = hd.heap_1 →
  ∀ (dp un : Nat) (gd : Option (List Code)) (cn : Str) (cs : Scope) (a : Addr) (ccd : Value) (cl : List (Str × Addr)) (outer : List Env) (base h₀ : Heap) (L Lc : Addr) (m : Str → Option Value) (s : Shared) (Q : Flow → Shared → Prop) (E : Value → Shared → Prop),
    Below (ktrTop dp un gd cn cs Lc a ccd cl outer) base (envX cn cs Lc a ccd cl :: outer) h₀ → Fr h₀ L s.heap m → (hd.heap_1 w.params).In h₀ → News h₀ L s.heap ((q, accObj dq [] nq) :: O) → DJ ((q, accObj dq [] nq) :: O) → Tp mean mg mb h₀ → 
    m (Str.ofString "halves") = some (.ref hv) → m (Str.ofString "turned") = some (.ref tnn) → m (Str.ofString "piles") = some (.ref pv) → m (Str.ofString "side") = some (.int sd tsd) → 
    (hv, W.listOf hs.toArray nv) ∈ O → (tnn, W.listOf ts.toArray nt) ∈ O → (pv, W.listOf ps.toArray np) ∈ O → (lh, W.listOf vs.toArray nh) ∈ O → (dq, accD w td) ∈ O → Cards O vs cds →
    dp + (1 + 2) * 4 < recursionLimit → un + (1 + 2) * 12 < cLine →
    (∀ (h' : Heap) (tk' : Nat) (m' : Str → Option Value) (X : List Value) (n' : Nat) (O' : Led), Fr h₀ L h' m' → News h₀ L h' ((q, accObj dq X n') :: (O' ++ O)) → DJ ((q, accObj dq X n') :: (O' ++ O)) → Cards O' X cds →
      (∀ y, y ≠ Str.ofString "blank" → y ≠ Str.ofString "card" → m' y = m y) → Q .next { s with heap := h', toks := tk' }) →
    wpAny (model PySem.Challenge.pw_xj0013_01 w) ((ktrTop dp un gd cn cs Lc a ccd cl outer).deeper (envOf (Str.ofString "_law_shuffle") (fnScope w.params 215) L 215 (.ref 214))) (execs (forBody w.params 12) (envOf (Str.ofString "_law_shuffle") (fnScope w.params 215) L 215 (.ref 214))) Q E s := by
  k_fill; intro _ _ dp un gd cn cs b ccd cl outer base h₀ L Lc m s Q E hB hF hX hN hD hT hhv htn hpl hsde mhv mtn mpv mlh mdq hcx hdp hun hret
  have e1 := (rfl : forBody w.params 12 = forBody w.params 12)
  conv at e1 => rhs; whnf
  have e2 := (rfl : fnScope w.params 215 = fnScope w.params 215)
  conv at e2 => rhs; whnf
  rw [e1, e2]
  clear e1 e2
  repeat ((fail_if_success (with_reducible show wpAny _ _ (PySem.exec (Stmt.For _ _ _ _ _) _) _ _ _)); walk1; try dsimp only)
  refine wpAny_For ?_ (by intro _; rfl)
  repeat ((fail_if_success (with_reducible show wpAny _ _ (subscriptTail _ _ _ _) _ _ _)); walk1; try dsimp only)
  refine list_item (isListOf hN (.tail _ mhv)) (by (exact om79)) (by (exact om355 hsd)) (by simpa using hhs) ?_
  repeat (walk1; try dsimp only)
  have hvl : vs.length = cds.length := hcx.length
  refine pyIter_listJ rfl (.tail _ mlh) (by assumption) hN (F1J q dq cds O m)
    ⟨[], nq, [], rfl, hD, .nil, fun _ _ _ => rfl⟩ ?_ ?_ ?_
  · rintro i m' news' ⟨X, n', O', rfl, -, -, -⟩
    exact .tail _ (List.mem_append_right _ mlh)
  · rintro i v m₁ news₁ h₁ tk₁ I it hv ⟨X, n', O', rfl, hDJ, hXC, hm⟩ F₁ N₁ hI K KE hK _hV
    obtain ⟨T, ta, tb, c, hvT, hci, mT⟩ := hcx.get (j := i) (List.getElem?_eq_some_iff.mp hv).1
    rw [hv] at hvT
    cases hvT
    have k1 := (hm (Str.ofString "turned") (by decide +kernel) (by decide +kernel)).trans htn
    have k2 := (hm (Str.ofString "piles") (by decide +kernel) (by decide +kernel)).trans hpl
    have k3 := (hm (Str.ofString "side") (by decide +kernel) (by decide +kernel)).trans hsde
    have mo : ∀ {p : Addr × Obj}, p ∈ O → p ∈ (I, it) :: (q, accObj dq X n') :: (O' ++ O) := fun h => .tail _ (.tail _ (List.mem_append_right _ h))
    have mT' := mo mT
    repeat ((fail_if_success (with_reducible show wpAny _ _ (subscriptTail _ _ _ _) _ _ _)); walk1; try dsimp only)
    refine list_item (isListOf (by assumption) (mo mtn)) (by (exact om79)) (by (exact om355 hsd)) (by simpa using hts) ?_
    repeat ((fail_if_success (with_reducible show wpAny _ _ (subscriptTail _ _ _ _) _ _ _)); walk1; try dsimp only)
    refine list_item (isListOf (by assumption) (mo mpv)) (by (exact om79)) (by (exact om355 hsd)) (by simpa using hps) ?_
    repeat (walk1; try dsimp only)
    (rename News _ _ _ _ => N4)
    refine acc_getMethod_f (dx := dq) (tk := td) (hX.keeps (by with_reducible exact Fr.keep (by assumption))) (N4 _ (.tail _ (.head _))).1 (N4 _ (mo mdq)).1 (by k_is) (by k_is) (by kernel_rfl) ?_
    repeat ((fail_if_success (with_reducible show wpAny _ _ (PySem.call (Value.ref 45) _) _ _ _)); walk1; try dsimp only)
    (rename Fr _ _ _ _ => F5); (rename News _ _ _ _ => N5)
    have hXl : X.length ≤ i := by rw [hXC.length, List.length_take]; (exact om112)
    have hil := (List.getElem?_eq_some_iff.mp hv).1
    refine claim_frame (push_w q dq X n' (.str c.1 ta) (.str c.2 tb) (by (exact om111 hlen hvl hXl hil)) rfl rfl) (fun v post extra h => by obtain ⟨-, _, rfl, rfl⟩ := h; exact ⟨rfl, DJ.one _⟩) [(I, it)] [] (O' ++ O) (dp + 1) (un + 3) gd _ _ _ _ _ _ _ _ _ _ _ _ _ _ hB F5 hX N5 (DJ.cons hI hDJ) ⟨td, .tail _ (List.mem_append_right O' mdq)⟩ hT rfl (by (exact om11 hdp)) (by (exact om10 hun)) ?_
    rintro v6 post6 extra6 h6 tk6 - F6 N6 D6 ⟨rfl, T6, rfl, rfl⟩
    repeat (walk1; try dsimp only)
    refine hK (.inl rfl) F6 N6 (DJ.off (a := [(I, it)]) D6 _ (.head _)) ⟨X ++ [Value.ref T6], n' + 1, (T6, tupObj [Value.str c.1 ta, Value.str c.2 tb]) :: O', rfl, DJ.right (a := [(I, it)]) D6, ?_, ?_⟩
    · rw [List.take_add_one, hci]
      exact Cards.append (Cards.mono (fun p hp => .tail _ hp) hXC) (.one (.head _))
    · intro y h1 h2
      show (if _ then _ else if _ then _ else _) = _
      rw [if_neg h2, if_neg h1]
      exact hm y h1 h2
  · rintro h' tk' m' news' F' N' ⟨X, n', O', rfl, hDJ, hXC, hm⟩
    rw [hvl, List.take_length] at hXC
    dsimp only
    repeat (walk1; try dsimp only)
    exact hret _ _ m' X n' O' F' N' hDJ hXC hm
end

section
open PySem PySem.W PyProof.Rows PySem.Calls PySem.Spec Builtin Builtin.ObjectAttr Builtin.Str
set_option maxHeartbeats 3000000
variable {w : World} {mean : ExcName → Option Value} {mg mb : Str → Option Value}
inductive F2J (w : World) (a : Lx) (ln : Int) (tl tp : Tok) (n2 p : Nat) (cds : List (Str × Str)) (O : Led) (m : Str → Option Value) (i : Nat) (m' : Str → Option Value) (news' : Led) : Prop
  | mk (T : List Value) (n' : Nat) (e : news' = a.mut w ln tl T n' p tp n2 ++ O) (hD : DJ news') (hT : StrsAre T (cds.take i)) (hm : ∀ y, y ≠ Str.ofString "blank" → y ≠ Str.ofString "card" → m' y = m y)
theorem shuf2f2 (a : Lx) (ok : a.Ok) (ln : Int) (tl tp : Tok) (n1 n2 p : Nat) (hv tnn lh ll : Addr) (nv nt nh sd nll : Nat) (hs ts vs ls : List Value) (cds : List (Str × Str)) (tsd tt : Tok) (hsd : sd < 2) (hls : ls[sd]? = some (.ref a.ix)) (hhs : hs[sd]? = some (.ref lh)) (hts : ts[sd]? = some (.int 0 tt)) (hlen : cds.length < 5) (O : Led) : PySem.Challenge.rw_xj0013_01 = PySem.Challenge.rw_xj0013_01 → hd.heap_1 = hd.heap_1 →
  ∀ (dp un : Nat) (gd : Option (List Code)) (cn : Str) (cs : Scope) (b : Addr) (ccd : Value) (cl : List (Str × Addr)) (outer : List Env) (base h₀ : Heap) (L Lc : Addr) (m : Str → Option Value) (s : Shared) (Q : Flow → Shared → Prop) (E : Value → Shared → Prop),
    Below (ktrTop dp un gd cn cs Lc b ccd cl outer) base (envX cn cs Lc b ccd cl :: outer) h₀ → Fr h₀ L s.heap m → (hd.heap_1 w.params).In h₀ → News h₀ L s.heap (a.mut w ln tl [] n1 p tp n2 ++ O) → DJ (a.mut w ln tl [] n1 p tp n2 ++ O) → Tp mean mg mb h₀ → 
    m (Str.ofString "halves") = some (.ref hv) → m (Str.ofString "turned") = some (.ref tnn) → m (Str.ofString "lexers") = some (.ref ll) → m (Str.ofString "side") = some (.int sd tsd) → 
    (hv, W.listOf hs.toArray nv) ∈ O → (tnn, W.listOf ts.toArray nt) ∈ O → (ll, W.listOf ls.toArray nll) ∈ O → (lh, W.listOf vs.toArray nh) ∈ O → (∀ q ∈ a.imm w, q ∈ O) → Cards O vs cds →
    dp + (1 + 2) * 4 < recursionLimit → un + (1 + 2) * 12 < cLine →
    (∀ (h' : Heap) (tk' : Nat) (m' : Str → Option Value) (T : List Value) (n' : Nat), Fr h₀ L h' m' → News h₀ L h' (a.mut w ln tl T n' p tp n2 ++ O) → DJ (a.mut w ln tl T n' p tp n2 ++ O) → StrsAre T cds →
      (∀ y, y ≠ Str.ofString "blank" → y ≠ Str.ofString "card" → m' y = m y) → Q .next { s with heap := h', toks := tk' }) →
    wpAny (model PySem.Challenge.pw_xj0013_01 w) ((ktrTop dp un gd cn cs Lc b ccd cl outer).deeper (envOf (Str.ofString "_law_shuffle") (fnScope w.params 215) L 215 (.ref 214))) (execs (forBody w.params 12) (envOf (Str.ofString "_law_shuffle") (fnScope w.params 215) L 215 (.ref 214))) Q E s := by
  k_fill; intro _ _ dp un gd cn cs b ccd cl outer base h₀ L Lc m s Q E hB hF hX hN hD hT hhv htn hlx hsde mhv mtn mll mlh him hcx hdp hun hret
  have hix := him _ (.head _)
  have e1 := (rfl : forBody w.params 12 = forBody w.params 12)
  conv at e1 => rhs; whnf
  have e2 := (rfl : fnScope w.params 215 = fnScope w.params 215)
  conv at e2 => rhs; whnf
  rw [e1, e2]
  clear e1 e2
  repeat ((fail_if_success (with_reducible show wpAny _ _ (PySem.exec (Stmt.For _ _ _ _ _) _) _ _ _)); walk1; try dsimp only)
  refine wpAny_For ?_ (by intro _; rfl)
  repeat ((fail_if_success (with_reducible show wpAny _ _ (subscriptTail _ _ _ _) _ _ _)); walk1; try dsimp only)
  refine list_item (isListOf hN (.tail _ (.tail _ (.tail _ mhv)))) (by (exact om79)) (by (exact om355 hsd)) (by simpa using hhs) ?_
  repeat (walk1; try dsimp only)
  have hvl : vs.length = cds.length := hcx.length
  refine pyIter_listJ rfl (.tail _ (.tail _ (.tail _ mlh))) (by assumption) hN (F2J w a ln tl tp n2 p cds O m)
    ⟨[], n1, rfl, hD, trivial, fun _ _ _ => rfl⟩ ?_ ?_ ?_
  · rintro i m' news' ⟨T, n', rfl, -, -, -⟩
    exact List.mem_append_right _ mlh
  · rintro i v m₁ news₁ h₁ tk₁ I it hv ⟨T, n', rfl, hDJ, hTC, hm⟩ F₁ N₁ hI K KE hK _hV
    obtain ⟨T0, ta, tb, c, hvT, hci, mT⟩ := hcx.get (j := i) (List.getElem?_eq_some_iff.mp hv).1
    rw [hv] at hvT
    cases hvT
    have k1 := (hm (Str.ofString "turned") (by decide +kernel) (by decide +kernel)).trans htn
    have k2 := (hm (Str.ofString "lexers") (by decide +kernel) (by decide +kernel)).trans hlx
    have k3 := (hm (Str.ofString "side") (by decide +kernel) (by decide +kernel)).trans hsde
    have mo : ∀ {p' : Addr × Obj}, p' ∈ O → p' ∈ (I, it) :: (a.mut w ln tl T n' p tp n2 ++ O) := fun h => .tail _ (List.mem_append_right _ h)
    have mT' := mo mT
    repeat ((fail_if_success (with_reducible show wpAny _ _ (subscriptTail _ _ _ _) _ _ _)); walk1; try dsimp only)
    refine list_item (isListOf (by assumption) (mo mtn)) (by (exact om79)) (by (exact om355 hsd)) (by simpa using hts) ?_
    repeat ((fail_if_success (with_reducible show wpAny _ _ (subscriptTail _ _ _ _) _ _ _)); walk1; try dsimp only)
    refine list_item (isListOf (by assumption) (mo mll)) (by (exact om79)) (by (exact om355 hsd)) (by simpa using hls) ?_
    repeat ((fail_if_success (with_reducible show wpAny _ _ (PySem.call (Value.ref 140) _) _ _ _)); walk1; try dsimp only)
    (rename Fr _ _ _ _ => F5); (rename News _ _ _ _ => N5)
    have hXl : T.length ≤ i := by rw [hTC.length, List.length_take]; (exact om112)
    have hil := (List.getElem?_eq_some_iff.mp hv).1
    refine claim_frame (push_token_w a ok ln tl T n' p tp n2 (.str c.2 tb) (by (exact om114 hlen hvl hXl hil)) rfl rfl) (fun v post extra h => by obtain ⟨_, -, rfl, rfl⟩ := h; exact ⟨rfl, DJ.nil⟩) [(I, it)] [] O (dp + 1) (un + 3) gd _ _ _ _ _ _ _ _ _ _ _ _ _ _ hB F5 hX N5 (DJ.cons hI hDJ) (fun q hq => .tail _ (him q hq)) hT rfl (by (exact om11 hdp)) (by (exact om10 hun)) ?_
    rintro v6 post6 extra6 h6 tk6 - F6 N6 D6 ⟨n1', rfl, rfl, rfl⟩
    repeat (walk1; try dsimp only)
    refine hK (.inl rfl) F6 N6 (DJ.off (a := [(I, it)]) D6 _ (.head _)) ⟨T ++ [Value.str c.2 tb], n1', rfl, DJ.right (a := [(I, it)]) D6, ?_, ?_⟩
    · rw [List.take_add_one, hci]
      exact StrsAre.append hTC ⟨⟨tb, rfl⟩, trivial⟩
    · intro y h1 h2
      show (if _ then _ else if _ then _ else _) = _
      rw [if_neg h2, if_neg h1]
      exact hm y h1 h2
  · rintro h' tk' m' news' F' N' ⟨T, n', rfl, hDJ, hTC, hm⟩
    rw [hvl, List.take_length] at hTC
    dsimp only
    repeat (walk1; try dsimp only)
    exact hret _ _ m' T n' F' N' hDJ hTC hm
end

section
open PySem PySem.W PyProof.Rows PySem.Calls PySem.Spec Builtin Builtin.ObjectAttr Builtin.Str
set_option maxHeartbeats 3000000
variable {w : World} {mean : ExcName → Option Value} {mg mb : Str → Option Value}
/-- how a side stands: turned, its cards lie on its pile; not turned, they wait on its lexer's line -/
noncomputable def SideS (O : Led) (t : Nat) (pc : List (Str × Str)) (X T : List Value) : Prop := (t = 1 ∧ Cards O X pc ∧ T = []) ∨ (t = 0 ∧ X = [] ∧ StrsAre T pc)
theorem SideS.mono {O O' : Led} (h : ∀ p ∈ O, p ∈ O') {t : Nat} {pc : List (Str × Str)} {X T : List Value} : SideS O t pc X T → SideS O' t pc X T
  | .inl ⟨e, c, d⟩ => .inl ⟨e, c.mono h, d⟩
  | .inr h => .inr h
theorem SideS.empty {O : Led} {t : Nat} {X T : List Value} : SideS O t [] X T → X = [] ∧ T = []
  | .inl ⟨_, c, d⟩ => ⟨List.eq_nil_of_length_eq_zero c.length, d⟩
  | .inr ⟨_, c, d⟩ => ⟨c, List.eq_nil_of_length_eq_zero d.length⟩
theorem SideS.start (O : Led) {t : Nat} (h : t < 2) : SideS O t [] [] [] := by
  rcases (show t = 0 ∨ t = 1 by (exact om115 h)) with rfl | rfl
  · exact .inr ⟨rfl, rfl, trivial⟩
  · exact .inl ⟨rfl, .nil, rfl⟩
theorem perm5 (q : Addr × Obj) (A B C : Led) : (q :: (B ++ (A ++ C))).Perm (q :: (A ++ (B ++ C))) := by
  refine List.Perm.cons _ ?_
  rw [← List.append_assoc, ← List.append_assoc]
  exact List.Perm.append_right _ List.perm_append_comm
theorem perm6 (q : Addr × Obj) (A C : Led) : (A ++ (q :: C)).Perm (q :: (A ++ C)) := List.perm_middle
theorem shuf2g (q dq : Addr) (np nq : Nat) (ps : List Value) (pv : Addr) (td : Tok) (a : Lx) (ok : a.Ok) (ln : Int) (tl tp : Tok) (n1 n2 p : Nat) (hv tnn lh ll : Addr) (nv nt nh sd nll t : Nat) (ht : t < 2) (hs ts vs ls : List Value) (cds : List (Str × Str)) (tsd tt : Tok) (hsd : sd < 2) (hps : ps[sd]? = some (.ref q)) (hls : ls[sd]? = some (.ref a.ix)) (hhs : hs[sd]? = some (.ref lh)) (hts : ts[sd]? = some (.int t tt)) (hlen : cds.length < 5) (O : Led) : PySem.Challenge.rw_xj0013_01 = PySem.Challenge.rw_xj0013_01 → hd.heap_1 = hd.heap_1 →
  ∀ (dp un : Nat) (gd : Option (List Code)) (cn : Str) (cs : Scope) (b : Addr) (ccd : Value) (cl : List (Str × Addr)) (outer : List Env) (base h₀ : Heap) (L Lc : Addr) (m : Str → Option Value) (s : Shared) (Q : Flow → Shared → Prop) (E : Value → Shared → Prop),
    Below (ktrTop dp un gd cn cs Lc b ccd cl outer) base (envX cn cs Lc b ccd cl :: outer) h₀ → Fr h₀ L s.heap m → (hd.heap_1 w.params).In h₀ → News h₀ L s.heap ((q, accObj dq [] nq) :: (a.mut w ln tl [] n1 p tp n2 ++ O)) → DJ ((q, accObj dq [] nq) :: (a.mut w ln tl [] n1 p tp n2 ++ O)) → Tp mean mg mb h₀ → 
    m (Str.ofString "halves") = some (.ref hv) → m (Str.ofString "turned") = some (.ref tnn) → m (Str.ofString "piles") = some (.ref pv) → m (Str.ofString "lexers") = some (.ref ll) → m (Str.ofString "side") = some (.int sd tsd) → 
    (hv, W.listOf hs.toArray nv) ∈ O → (tnn, W.listOf ts.toArray nt) ∈ O → (pv, W.listOf ps.toArray np) ∈ O → (ll, W.listOf ls.toArray nll) ∈ O → (lh, W.listOf vs.toArray nh) ∈ O → (dq, accD w td) ∈ O → (∀ q ∈ a.imm w, q ∈ O) → Cards O vs cds →
    dp + (1 + 2) * 4 < recursionLimit → un + (1 + 2) * 12 < cLine →
    (∀ (h' : Heap) (tk' : Nat) (m' : Str → Option Value) (X T : List Value) (n' n1' : Nat) (O' : Led), Fr h₀ L h' m' → News h₀ L h' ((q, accObj dq X n') :: (a.mut w ln tl T n1' p tp n2 ++ (O' ++ O))) → DJ ((q, accObj dq X n') :: (a.mut w ln tl T n1' p tp n2 ++ (O' ++ O))) → SideS O' t cds X T →
      (∀ y, y ≠ Str.ofString "blank" → y ≠ Str.ofString "card" → m' y = m y) → Q .next { s with heap := h', toks := tk' }) →
    wpAny (model PySem.Challenge.pw_xj0013_01 w) ((ktrTop dp un gd cn cs Lc b ccd cl outer).deeper (envOf (Str.ofString "_law_shuffle") (fnScope w.params 215) L 215 (.ref 214))) (execs (forBody w.params 12) (envOf (Str.ofString "_law_shuffle") (fnScope w.params 215) L 215 (.ref 214))) Q E s := by
  intro _ _ dp un gd cn cs b ccd cl outer base h₀ L Lc m s Q E hB hF hX hN hD hT hhv htn hpl hlx hsde mhv mtn mpv mll mlh mdq him hcx hdp hun hret
  have mo : ∀ {p' : Addr × Obj}, p' ∈ O → p' ∈ a.mut w ln tl [] n1 p tp n2 ++ O := fun h => List.mem_append_right _ h
  rcases (show t = 0 ∨ t = 1 by (exact om115 ht)) with rfl | rfl
  · refine shuf2f2 a ok ln tl tp n1 n2 p hv tnn lh ll nv nt nh sd nll hs ts vs ls cds tsd tt hsd hls hhs hts hlen ((q, accObj dq [] nq) :: O) rfl rfl dp un gd cn cs b ccd cl outer base h₀ L Lc m s Q E hB hF hX (cb_drop hN fun p hp => (perm6 _ _ _).mem_iff.mp hp) (hD.perm (perm6 _ _ _).symm) hT hhv htn hlx hsde (.tail _ mhv) (.tail _ mtn) (.tail _ mll) (.tail _ mlh) (fun q hq => .tail _ (him q hq)) (hcx.mono fun p hp => .tail _ hp) hdp hun ?_
    intro h' tk' m' T n' F N D hST hm
    exact hret h' tk' m' [] T nq n' [] F (cb_drop N fun p hp => (perm6 _ _ _).mem_iff.mpr hp) (D.perm (perm6 _ _ _)) (.inr ⟨rfl, rfl, hST⟩) hm
  · refine shuf2f1 q dq pv hv tnn lh np nv nt nh sd nq ps hs ts vs cds tsd tt td hsd hps hhs hts hlen (a.mut w ln tl [] n1 p tp n2 ++ O) rfl rfl dp un gd cn cs b ccd cl outer base h₀ L Lc m s Q E hB hF hX hN hD hT hhv htn hpl hsde (mo mhv) (mo mtn) (mo mpv) (mo mlh) (mo mdq) (hcx.mono fun p hp => mo hp) hdp hun ?_
    intro h' tk' m' X n' O' F N D hXC hm
    exact hret h' tk' m' X [] n' n1 O' F (cb_drop N fun p hp => (perm5 _ _ _ _).mem_iff.mpr hp) (D.perm (perm5 _ _ _ _)) (.inl ⟨rfl, hXC, rfl⟩) hm
end

section
open PySem PySem.W PyProof.Rows PySem.Calls PySem.Spec Builtin Builtin.ObjectAttr Builtin.Str
set_option maxHeartbeats 3000000
variable {w : World} {mean : ExcName → Option Value} {mg mb : Str → Option Value}
theorem permI {α : Type} (i q : α) (A S R : List α) : (i :: (q :: (A ++ (S ++ R)))).Perm (q :: (A ++ (i :: (S ++ R)))) := by
  classical
  rw [List.perm_iff_count]; intro a; simp only [List.count_append, List.count_cons]; (exact om119)
theorem permI2 {α : Type} (i q : α) (A S X O' R : List α) : (q :: (A ++ (X ++ (i :: (S ++ (O' ++ R)))))).Perm (i :: (q :: (A ++ (S ++ ((X ++ O') ++ R))))) := by
  classical
  rw [List.perm_iff_count]; intro a; simp only [List.count_append, List.count_cons]; (exact om118)
theorem permJ {α : Type} (i q : α) (A S R : List α) : (i :: (S ++ (q :: (A ++ R)))).Perm (q :: (A ++ (i :: (S ++ R)))) := by
  classical
  rw [List.perm_iff_count]; intro a; simp only [List.count_append, List.count_cons]; (exact om117)
theorem permJ2 {α : Type} (i q : α) (A S X O' R : List α) : (q :: (A ++ (X ++ (i :: (S ++ (O' ++ R)))))).Perm (i :: (S ++ (q :: (A ++ ((X ++ O') ++ R))))) := by
  classical
  rw [List.perm_iff_count]; intro a; simp only [List.count_append, List.count_cons]; (exact om116)
inductive H2J (w : World) (q0 q1 dq0 dq1 : Addr) (a0 a1 : Lx) (ln0 ln1 : Int) (tl0 tp0 tl1 tp1 : Tok) (n20 p0 n21 p1 t0 t1 : Nat) (c0 c1 : List (Str × Str)) (O : Led) (m : Str → Option Value) (i : Nat) (m' : Str → Option Value) (news' : Led) : Prop
  | mk (X0 T0 X1 T1 : List Value) (n0 m0 n1 m1 : Nat) (O' : Led) (e : news' = (((q0, accObj dq0 X0 n0) :: a0.mut w ln0 tl0 T0 m0 p0 tp0 n20) ++ (((q1, accObj dq1 X1 n1) :: a1.mut w ln1 tl1 T1 m1 p1 tp1 n21) ++ (O' ++ O)))) (hD : DJ news') (h0 : SideS O' t0 (if 1 ≤ i then c0 else []) X0 T0) (h1 : SideS O' t1 (if 2 ≤ i then c1 else []) X1 T1) (hm : ∀ y, y ≠ Str.ofString "side" → y ≠ Str.ofString "blank" → y ≠ Str.ofString "card" → m' y = m y)
theorem shuf2h (q0 q1 dq0 dq1 : Addr) (np nq0 nq1 : Nat) (pv : Addr) (td0 td1 : Tok) (a0 a1 : Lx) (ok0 : a0.Ok) (ok1 : a1.Ok) (ln0 ln1 : Int) (tl0 tp0 tl1 tp1 : Tok) (n10 n20 p0 n11 n21 p1 : Nat) (hv tnn l0 l1 ll : Addr) (nv nt nl0 nl1 nll t0 t1 : Nat) (ht0 : t0 < 2) (ht1 : t1 < 2) (v0 v1 : List Value) (c0 c1 : List (Str × Str)) (tt0 tt1 : Tok) (hl0 : c0.length < 5) (hl1 : c1.length < 5) (O : Led) : PySem.Challenge.rw_xj0013_01 = PySem.Challenge.rw_xj0013_01 → hd.heap_1 = hd.heap_1 →
  ∀ (dp un : Nat) (gd : Option (List Code)) (cn : Str) (cs : Scope) (b : Addr) (ccd : Value) (cl : List (Str × Addr)) (outer : List Env) (base h₀ : Heap) (L Lc : Addr) (m : Str → Option Value) (s : Shared) (Q : Flow → Shared → Prop) (E : Value → Shared → Prop),
    Below (ktrTop dp un gd cn cs Lc b ccd cl outer) base (envX cn cs Lc b ccd cl :: outer) h₀ → Fr h₀ L s.heap m → (hd.heap_1 w.params).In h₀ → News h₀ L s.heap (((q0, accObj dq0 [] nq0) :: a0.mut w ln0 tl0 [] n10 p0 tp0 n20) ++ (((q1, accObj dq1 [] nq1) :: a1.mut w ln1 tl1 [] n11 p1 tp1 n21) ++ O)) → DJ (((q0, accObj dq0 [] nq0) :: a0.mut w ln0 tl0 [] n10 p0 tp0 n20) ++ (((q1, accObj dq1 [] nq1) :: a1.mut w ln1 tl1 [] n11 p1 tp1 n21) ++ O)) → Tp mean mg mb h₀ → 
    m (Str.ofString "halves") = some (.ref hv) → m (Str.ofString "turned") = some (.ref tnn) → m (Str.ofString "piles") = some (.ref pv) → m (Str.ofString "lexers") = some (.ref ll) → 
    (hv, W.listOf [Value.ref l0, .ref l1].toArray nv) ∈ O → (tnn, W.listOf [Value.int t0 tt0, .int t1 tt1].toArray nt) ∈ O → (pv, W.listOf [Value.ref q0, .ref q1].toArray np) ∈ O → (ll, W.listOf [Value.ref a0.ix, .ref a1.ix].toArray nll) ∈ O → (l0, W.listOf v0.toArray nl0) ∈ O → (l1, W.listOf v1.toArray nl1) ∈ O → (dq0, accD w td0) ∈ O → (dq1, accD w td1) ∈ O → (∀ q ∈ a0.imm w, q ∈ O) → (∀ q ∈ a1.imm w, q ∈ O) → Cards O v0 c0 → Cards O v1 c1 →
    dp + (1 + 2) * 4 < recursionLimit → un + (1 + 2) * 12 < cLine →
    (∀ (h' : Heap) (tk' : Nat) (m' : Str → Option Value) (X0 T0 X1 T1 : List Value) (n0 m0 n1 m1 : Nat) (O' : Led), Fr h₀ L h' m' → News h₀ L h' (((q0, accObj dq0 X0 n0) :: a0.mut w ln0 tl0 T0 m0 p0 tp0 n20) ++ (((q1, accObj dq1 X1 n1) :: a1.mut w ln1 tl1 T1 m1 p1 tp1 n21) ++ (O' ++ O))) → DJ (((q0, accObj dq0 X0 n0) :: a0.mut w ln0 tl0 T0 m0 p0 tp0 n20) ++ (((q1, accObj dq1 X1 n1) :: a1.mut w ln1 tl1 T1 m1 p1 tp1 n21) ++ (O' ++ O))) → SideS O' t0 c0 X0 T0 → SideS O' t1 c1 X1 T1 →
      (∀ y, y ≠ Str.ofString "side" → y ≠ Str.ofString "blank" → y ≠ Str.ofString "card" → m' y = m y) → wpAny (model PySem.Challenge.pw_xj0013_01 w) ((ktrTop dp un gd cn cs Lc b ccd cl outer).deeper (envOf (Str.ofString "_law_shuffle") (fnScope w.params 215) L 215 (.ref 214))) (execs ((fnBody w.params 215).drop 13) (envOf (Str.ofString "_law_shuffle") (fnScope w.params 215) L 215 (.ref 214))) Q E { s with heap := h', toks := tk' }) →
    wpAny (model PySem.Challenge.pw_xj0013_01 w) ((ktrTop dp un gd cn cs Lc b ccd cl outer).deeper (envOf (Str.ofString "_law_shuffle") (fnScope w.params 215) L 215 (.ref 214))) (execs ((fnBody w.params 215).drop 12) (envOf (Str.ofString "_law_shuffle") (fnScope w.params 215) L 215 (.ref 214))) Q E s := by
  k_fill; intro _ _ dp un gd cn cs b ccd cl outer base h₀ L Lc m s Q E hB hF hX hN hD hT hhv htn hpl hlx mhv mtn mpv mll ml0 ml1 md0 md1 him0 him1 hcx0 hcx1 hdp hun hret
  have e1 := (rfl : (fnBody w.params 215).drop 12 = (fnBody w.params 215).drop 12)
  conv at e1 => rhs; whnf
  have e2 := (rfl : fnScope w.params 215 = fnScope w.params 215)
  conv at e2 => rhs; whnf
  have e3 := (rfl : (fnBody w.params 215).drop 13 = (fnBody w.params 215).drop 13)
  conv at e3 => rhs; whnf
  have e4 := (rfl : forBody w.params 12 = forBody w.params 12)
  conv at e4 => rhs; whnf
  rw [e1, e2]
  rw [e3, e2] at hret
  repeat ((fail_if_success (with_reducible show wpAny _ _ (PySem.exec (Stmt.For _ _ _ _ _) _) _ _ _)); walk1; try dsimp only)
  refine wpAny_For ?_ (by intro _; rfl)
  repeat (walk1; try dsimp only)
  (rename IsRange _ _ _ _ _ _ _ _ => hR3); (rename Fr _ _ _ _ => F3); (rename News _ _ _ _ => N3)
  refine pyIter_rangeJ (n := 2) rfl hR3 (by decide) F3 N3 (H2J w q0 q1 dq0 dq1 a0 a1 ln0 ln1 tl0 tp0 tl1 tp1 n20 p0 n21 p1 t0 t1 c0 c1 O m)
    ⟨[], [], [], [], nq0, n10, nq1, n11, [], rfl, hD, SideS.start _ ht0, SideS.start _ ht1, fun _ _ _ _ => rfl⟩ ?_ ?_
  · rintro i t m₁ news₁ h₁ tk₁ I it hi ⟨X0, T0, X1, T1, n0, m0, n1, m1, O', rfl, hDJ, hS0, hS1, hm⟩ F₁ N₁ hI K KE hK _hV
    repeat ((fail_if_success (with_reducible show wpAny _ _ (execs _ _) _ _ _)); walk1; try dsimp only)
    rw [← e4, ← e2]
    (rename Fr _ _ _ _ => F5); (rename News _ _ _ _ => N5)
    have k1 := (hm (Str.ofString "turned") (by decide +kernel) (by decide +kernel) (by decide +kernel)).trans htn
    have k2 := (hm (Str.ofString "lexers") (by decide +kernel) (by decide +kernel) (by decide +kernel)).trans hlx
    have k3 := (hm (Str.ofString "halves") (by decide +kernel) (by decide +kernel) (by decide +kernel)).trans hhv
    have k4 := (hm (Str.ofString "piles") (by decide +kernel) (by decide +kernel) (by decide +kernel)).trans hpl
    have hDI := DJ.cons (p := (I, it)) hI hDJ
    have f1 : ∀ {y : Str} {v u : Value}, m₁ y = some v → y ≠ Str.ofString "side" → (if y = Str.ofString "side" then some u else m₁ y) = some v := fun h hn => (if_neg hn).trans h
    rcases (show i = 0 ∨ i = 1 by (exact om115 hi)) with rfl | rfl
    · obtain ⟨rfl, rfl⟩ := hS0.empty
      have mo : ∀ {p : Addr × Obj}, p ∈ O → p ∈ (I, it) :: (((q1, accObj dq1 X1 n1) :: a1.mut w ln1 tl1 T1 m1 p1 tp1 n21) ++ (O' ++ O)) := fun h => .tail _ (List.mem_append_right _ (List.mem_append_right _ h))
      refine shuf2g q0 dq0 np n0 [Value.ref q0, .ref q1] pv td0 a0 ok0 ln0 tl0 tp0 m0 n20 p0 hv tnn l0 ll nv nt nl0 0 nll t0 ht0 [Value.ref l0, .ref l1] [Value.int t0 tt0, .int t1 tt1] v0 [Value.ref a0.ix, .ref a1.ix] c0 t tt0 (by decide) rfl rfl rfl rfl hl0 ((I, it) :: (((q1, accObj dq1 X1 n1) :: a1.mut w ln1 tl1 T1 m1 p1 tp1 n21) ++ (O' ++ O))) rfl rfl dp un gd cn cs b ccd cl outer base h₀ L Lc _ _ _ _ hB F5 hX (cb_drop N5 fun p hp => (permI _ _ _ _ _).mem_iff.mpr hp) (hDI.perm (permI _ _ _ _ _)) hT (f1 k3 (by decide +kernel)) (f1 k1 (by decide +kernel)) (f1 k4 (by decide +kernel)) (f1 k2 (by decide +kernel)) (if_pos rfl) (mo mhv) (mo mtn) (mo mpv) (mo mll) (mo ml0) (mo md0) (fun q hq => mo (him0 q hq)) (hcx0.mono fun p hp => mo hp) hdp hun ?_
      intro h' tk' m' X T n' n1' O'' F N D hST hm'
      have PP := permI2 (I, it) (q0, accObj dq0 X n') (a0.mut w ln0 tl0 T n1' p0 tp0 n20) ((q1, accObj dq1 X1 n1) :: a1.mut w ln1 tl1 T1 m1 p1 tp1 n21) O'' O' O
      refine hK (.inl rfl) F (cb_drop N fun p hp => PP.mem_iff.mpr hp) (DJ.off (a := [(I, it)]) (D.perm PP) _ (.head _)) ⟨X, T, X1, T1, n', n1', n1, m1, O'' ++ O', rfl, DJ.right (a := [(I, it)]) (D.perm PP), hST.mono fun p hp => List.mem_append_left _ hp, hS1.mono fun p hp => List.mem_append_right _ hp, ?_⟩
      intro y h1 h2 h3
      rw [hm' y h2 h3, if_neg h1]
      exact hm y h1 h2 h3
    · obtain ⟨rfl, rfl⟩ := hS1.empty
      have mo : ∀ {p : Addr × Obj}, p ∈ O → p ∈ (I, it) :: (((q0, accObj dq0 X0 n0) :: a0.mut w ln0 tl0 T0 m0 p0 tp0 n20) ++ (O' ++ O)) := fun h => .tail _ (List.mem_append_right _ (List.mem_append_right _ h))
      refine shuf2g q1 dq1 np n1 [Value.ref q0, .ref q1] pv td1 a1 ok1 ln1 tl1 tp1 m1 n21 p1 hv tnn l1 ll nv nt nl1 1 nll t1 ht1 [Value.ref l0, .ref l1] [Value.int t0 tt0, .int t1 tt1] v1 [Value.ref a0.ix, .ref a1.ix] c1 t tt1 (by decide) rfl rfl rfl rfl hl1 ((I, it) :: (((q0, accObj dq0 X0 n0) :: a0.mut w ln0 tl0 T0 m0 p0 tp0 n20) ++ (O' ++ O))) rfl rfl dp un gd cn cs b ccd cl outer base h₀ L Lc _ _ _ _ hB F5 hX (cb_drop N5 fun p hp => (permJ _ _ _ _ _).mem_iff.mpr hp) (hDI.perm (permJ _ _ _ _ _)) hT (f1 k3 (by decide +kernel)) (f1 k1 (by decide +kernel)) (f1 k4 (by decide +kernel)) (f1 k2 (by decide +kernel)) (if_pos rfl) (mo mhv) (mo mtn) (mo mpv) (mo mll) (mo ml1) (mo md1) (fun q hq => mo (him1 q hq)) (hcx1.mono fun p hp => mo hp) hdp hun ?_
      intro h' tk' m' X T n' n1' O'' F N D hST hm'
      have PP := permJ2 (I, it) (q1, accObj dq1 X n') (a1.mut w ln1 tl1 T n1' p1 tp1 n21) ((q0, accObj dq0 X0 n0) :: a0.mut w ln0 tl0 T0 m0 p0 tp0 n20) O'' O' O
      refine hK (.inl rfl) F (cb_drop N fun p hp => PP.mem_iff.mpr hp) (DJ.off (a := [(I, it)]) (D.perm PP) _ (.head _)) ⟨X0, T0, X, T, n0, m0, n', n1', O'' ++ O', rfl, DJ.right (a := [(I, it)]) (D.perm PP), hS0.mono fun p hp => List.mem_append_right _ hp, hST.mono fun p hp => List.mem_append_left _ hp, ?_⟩
      intro y h1 h2 h3
      rw [hm' y h2 h3, if_neg h1]
      exact hm y h1 h2 h3
  · rintro h' tk' m' news' F' N' ⟨X0, T0, X1, T1, n0, m0, n1, m1, O', rfl, hDJ, hS0, hS1, hm⟩
    dsimp only
    repeat ((fail_if_success (with_reducible show wpAny _ _ (execs (Stmt.For _ _ _ _ _ :: _) _) _ _ _)); walk1; try dsimp only)
    exact hret h' tk' m' X0 T0 X1 T1 n0 m0 n1 m1 O' F' N' hDJ hS0 hS1 hm
end

section
open PySem PySem.W PyProof.Rows PySem.Calls PySem.Spec Builtin Builtin.ObjectAttr Builtin.Str
set_option maxHeartbeats 3000000
variable {w : World} {mean : ExcName → Option Value} {mg mb : Str → Option Value}
theorem deal1 (q dq dk dxk : Addr) (np nq nk nt sd : Nat) (ps ts : List Value) (pv tnn Tc : Addr) (td tdk ta tb tsd tt : Tok) (c : Str × Str) (X Y : List Value) (hsd : sd < 2) (hps : ps[sd]? = some (.ref q)) (hts : ts[sd]? = some (.int 1 tt)) (hX5 : X.length < 100) (hY5 : Y.length < 100) (O : Led) : PySem.Challenge.rw_xj0013_01 = PySem.Challenge.rw_xj0013_01 → hd.heap_1 = hd.heap_1 →
  ∀ (dp un : Nat) (gd : Option (List Code)) (cn : Str) (cs : Scope) (b : Addr) (ccd : Value) (cl : List (Str × Addr)) (outer : List Env) (base h₀ : Heap) (L Lc : Addr) (m : Str → Option Value) (s : Shared) (Q : Flow → Shared → Prop) (E : Value → Shared → Prop),
    Below (ktrTop dp un gd cn cs Lc b ccd cl outer) base (envX cn cs Lc b ccd cl :: outer) h₀ → Fr h₀ L s.heap m → (hd.heap_1 w.params).In h₀ → News h₀ L s.heap ((q, accObj dq (X ++ [.ref Tc]) nq) :: (dk, accObj dxk Y nk) :: O) → DJ ((q, accObj dq (X ++ [.ref Tc]) nq) :: (dk, accObj dxk Y nk) :: O) → Tp mean mg mb h₀ → 
    m (Str.ofString "turned") = some (.ref tnn) → m (Str.ofString "piles") = some (.ref pv) → m (Str.ofString "deck") = some (.ref dk) → m (Str.ofString "side") = some (.int sd tsd) → 
    (tnn, W.listOf ts.toArray nt) ∈ O → (pv, W.listOf ps.toArray np) ∈ O → (dq, accD w td) ∈ O → (dxk, accD w tdk) ∈ O → (Tc, tupObj [.str c.1 ta, .str c.2 tb]) ∈ O →
    dp + (2 + 2) * 4 < recursionLimit → un + (2 + 2) * 12 < cLine →
    (∀ (h' : Heap) (tk' : Nat) (m' : Str → Option Value) (Tn : Addr) (t1 t2 : Tok) (n' n1' : Nat), Fr h₀ L h' m' → News h₀ L h' ((q, accObj dq X n') :: (dk, accObj dxk (Y ++ [.ref Tn]) n1') :: ([(Tn, tupObj [.str c.1 t1, .str c.2 t2])] ++ O)) → DJ ((q, accObj dq X n') :: (dk, accObj dxk (Y ++ [.ref Tn]) n1') :: ([(Tn, tupObj [.str c.1 t1, .str c.2 t2])] ++ O)) →
      (∀ y, y ≠ Str.ofString "blank" → y ≠ Str.ofString "card" → m' y = m y) → Q .next { s with heap := h', toks := tk' }) →
    wpAny (model PySem.Challenge.pw_xj0013_01 w) ((ktrTop dp un gd cn cs Lc b ccd cl outer).deeper (envOf (Str.ofString "_law_shuffle") (fnScope w.params 215) L 215 (.ref 214))) (execs ((forBody w.params 13).drop 1) (envOf (Str.ofString "_law_shuffle") (fnScope w.params 215) L 215 (.ref 214))) Q E s := by
  k_fill; intro _ _ dp un gd cn cs b ccd cl outer base h₀ L Lc m s Q E hB hF hX hN hD hT htn hpl hdk hsde mtn mpv mdq mdk mTc hdp hun hret
  have e1 := (rfl : (forBody w.params 13).drop 1 = (forBody w.params 13).drop 1)
  conv at e1 => rhs; whnf
  have e2 := (rfl : fnScope w.params 215 = fnScope w.params 215)
  conv at e2 => rhs; whnf
  rw [e1, e2]
  clear e1 e2
  have mo : ∀ {p' : Addr × Obj}, p' ∈ O → ∀ r u, p' ∈ r :: u :: O := fun h _ _ => .tail _ (.tail _ h)
  repeat ((fail_if_success (with_reducible show wpAny _ _ (subscriptTail _ _ _ _) _ _ _)); walk1; try dsimp only)
  refine list_item (isListOf (by assumption) (mo mtn _ _)) (by (exact om79)) (by (exact om355 hsd)) (by simpa using hts) ?_
  repeat ((fail_if_success (with_reducible show wpAny _ _ (subscriptTail _ _ _ _) _ _ _)); walk1; try dsimp only)
  refine list_item (isListOf (by assumption) (mo mpv _ _)) (by (exact om79)) (by (exact om355 hsd)) (by simpa using hps) ?_
  repeat (walk1; try dsimp only)
  (rename Fr _ _ _ _ => F4)
  refine acc_getMethod_f (dx := dq) (tk := td) (hX.keeps F4.keep) (hN _ (.head _)).1 (hN _ (mo mdq _ _)).1 (by k_is) (by k_is) (by kernel_rfl) ?_
  repeat ((fail_if_success (with_reducible show wpAny _ _ (PySem.call (Value.ref 61) _) _ _ _)); walk1; try dsimp only)
  refine claim_frame (pop_w q dq X (.ref Tc) nq (by (exact om62 hX5)) rfl rfl) (fun v post extra h => by obtain ⟨-, rfl, rfl⟩ := h; exact ⟨rfl, DJ.nil⟩) [] [] ((dk, accObj dxk Y nk) :: O) (dp + 1) (un + 3) gd _ _ _ _ _ _ _ _ _ _ _ _ _ _ hB (by assumption) hX hN hD ⟨td, .tail _ mdq⟩ hT rfl (by (exact om55 hdp)) (by (exact om54 hun)) ?_
  rintro v6 post6 extra6 h6 tk6 - F6 N6 D6 ⟨rfl, rfl, rfl⟩
  have mTc' : (Tc, tupObj [.str c.1 ta, .str c.2 tb]) ∈ [] ++ ([(q, accObj dq X (nq + 1))] ++ ([] ++ ([] ++ ((dk, accObj dxk Y nk) :: O)))) := mo mTc _ _
  repeat ((fail_if_success (with_reducible show wpAny _ _ (PySem.getMethod _ _ _) _ _ _)); walk1; try dsimp only)
  (rename Fr _ _ _ _ => F7); (rename News _ _ _ _ => N7)
  refine acc_getMethod_f (dx := dxk) (tk := tdk) (hX.keeps F7.keep) (N7 _ (.tail _ (.head _))).1 (N7 _ (mo mdk _ _)).1 (by k_is) (by k_is) (by kernel_rfl) ?_
  repeat ((fail_if_success (with_reducible show wpAny _ _ (PySem.call (Value.ref 45) _) _ _ _)); walk1; try dsimp only)
  (rename Fr _ _ _ _ => F8)
  refine claim_frame (push_w dk dxk Y nk (.str c.1 ta) (.str c.2 tb) (by (exact om62 hY5)) rfl rfl) (fun v post extra h => by obtain ⟨-, _, rfl, rfl⟩ := h; exact ⟨rfl, DJ.one _⟩) [(q, accObj dq X (nq + 1))] [] O (dp + 1) (un + 3) gd _ _ _ _ _ _ _ _ _ _ _ _ _ _ hB F8 hX N7 D6 ⟨tdk, .tail _ mdk⟩ hT rfl (by (exact om121 hdp)) (by (exact om120 hun)) ?_
  rintro v9 post9 extra9 h9 tk9 - F9 N9 D9 ⟨rfl, T9, rfl, rfl⟩
  repeat (walk1; try dsimp only)
  refine hret _ _ _ T9 ta tb _ _ F9 N9 D9 ?_
  intro y h1 h2
  rw [if_neg h2, if_neg h1]
end

section
open PySem PySem.W PyProof.Rows PySem.Calls PySem.Spec Builtin Builtin.ObjectAttr Builtin.Str
set_option maxHeartbeats 3000000
variable {w : World} {mean : ExcName → Option Value} {mg mb : Str → Option Value}
theorem deal0 (a : Lx) (ok : a.Ok) (ln : Int) (tl tp : Tok) (n1 n2 p : Nat) (dk dxk : Addr) (nk nt sd nll : Nat) (ls ts : List Value) (ll tnn : Addr) (tdk tb tsd tt : Tok) (c2 : Str) (T Y : List Value) (hsd : sd < 2) (hls : ls[sd]? = some (.ref a.ix)) (hts : ts[sd]? = some (.int 0 tt)) (hX5 : T.length < 99) (hY5 : Y.length < 100) (O : Led) : PySem.Challenge.rw_xj0013_01 = PySem.Challenge.rw_xj0013_01 → hd.heap_1 = hd.heap_1 →
  ∀ (dp un : Nat) (gd : Option (List Code)) (cn : Str) (cs : Scope) (b : Addr) (ccd : Value) (cl : List (Str × Addr)) (outer : List Env) (base h₀ : Heap) (L Lc : Addr) (m : Str → Option Value) (s : Shared) (Q : Flow → Shared → Prop) (E : Value → Shared → Prop),
    Below (ktrTop dp un gd cn cs Lc b ccd cl outer) base (envX cn cs Lc b ccd cl :: outer) h₀ → Fr h₀ L s.heap m → (hd.heap_1 w.params).In h₀ → News h₀ L s.heap (a.mut w ln tl (.str c2 tb :: T) n1 p tp n2 ++ ([] ++ ((dk, accObj dxk Y nk) :: O))) → DJ (a.mut w ln tl (.str c2 tb :: T) n1 p tp n2 ++ ([] ++ ((dk, accObj dxk Y nk) :: O))) → Tp mean mg mb h₀ → 
    m (Str.ofString "turned") = some (.ref tnn) → m (Str.ofString "lexers") = some (.ref ll) → m (Str.ofString "deck") = some (.ref dk) → m (Str.ofString "side") = some (.int sd tsd) → 
    (tnn, W.listOf ts.toArray nt) ∈ O → (ll, W.listOf ls.toArray nll) ∈ O → (dxk, accD w tdk) ∈ O → (∀ q ∈ a.imm w, q ∈ O) →
    dp + (2 + 2) * 4 < recursionLimit → un + (2 + 2) * 12 < cLine →
    (∀ (h' : Heap) (tk' : Nat) (m' : Str → Option Value) (Tn : Addr) (t1 t2 : Tok) (n' n1' : Nat), Fr h₀ L h' m' → News h₀ L h' (a.mut w ln tl T n' p tp n2 ++ ((dk, accObj dxk (Y ++ [.ref Tn]) n1') :: ([(Tn, tupObj [.str (Str.ofString " ") t1, .str c2 t2])] ++ O))) → DJ (a.mut w ln tl T n' p tp n2 ++ ((dk, accObj dxk (Y ++ [.ref Tn]) n1') :: ([(Tn, tupObj [.str (Str.ofString " ") t1, .str c2 t2])] ++ O))) →
      (∀ y, y ≠ Str.ofString "blank" → y ≠ Str.ofString "card" → m' y = m y) → Q .next { s with heap := h', toks := tk' }) →
    wpAny (model PySem.Challenge.pw_xj0013_01 w) ((ktrTop dp un gd cn cs Lc b ccd cl outer).deeper (envOf (Str.ofString "_law_shuffle") (fnScope w.params 215) L 215 (.ref 214))) (execs ((forBody w.params 13).drop 1) (envOf (Str.ofString "_law_shuffle") (fnScope w.params 215) L 215 (.ref 214))) Q E s := by
  k_fill; intro _ _ dp un gd cn cs b ccd cl outer base h₀ L Lc m s Q E hB hF hX hN hD hT htn hlx hdk hsde mtn mll mdk him hdp hun hret
  have hix := him _ (.head _)
  have e1 := (rfl : (forBody w.params 13).drop 1 = (forBody w.params 13).drop 1)
  conv at e1 => rhs; whnf
  have e2 := (rfl : fnScope w.params 215 = fnScope w.params 215)
  conv at e2 => rhs; whnf
  rw [e1, e2]
  clear e1 e2
  have mo : ∀ {p' : Addr × Obj}, p' ∈ O → p' ∈ a.mut w ln tl (.str c2 tb :: T) n1 p tp n2 ++ ([] ++ ((dk, accObj dxk Y nk) :: O)) := fun h => List.mem_append_right _ (.tail _ h)
  repeat ((fail_if_success (with_reducible show wpAny _ _ (subscriptTail _ _ _ _) _ _ _)); walk1; try dsimp only)
  refine list_item (isListOf (by assumption) (mo mtn)) (by (exact om79)) (by (exact om355 hsd)) (by simpa using hts) ?_
  repeat ((fail_if_success (with_reducible show wpAny _ _ (subscriptTail _ _ _ _) _ _ _)); walk1; try dsimp only)
  refine list_item (isListOf (by assumption) (mo mll)) (by (exact om79)) (by (exact om355 hsd)) (by simpa using hls) ?_
  repeat ((fail_if_success (with_reducible show wpAny _ _ (PySem.call (Value.ref 133) _) _ _ _)); walk1; try dsimp only)
  (rename Fr _ _ _ _ => F4)
  refine claim_frame (get_tokenP_w a ok ln tl T n1 p tp n2 (.str c2 tb) (by (exact om122 hX5)) rfl rfl) (fun v post extra h => by obtain ⟨_, -, rfl, rfl⟩ := h; exact ⟨rfl, DJ.nil⟩) [] [] ((dk, accObj dxk Y nk) :: O) (dp + 1) (un + 3) gd _ _ _ _ _ _ _ _ _ _ _ _ _ _ hB F4 hX hN hD (fun q hq => .tail _ (him q hq)) hT rfl (by (exact om121 hdp)) (by (exact om120 hun)) ?_
  rintro v6 post6 extra6 h6 tk6 - F6 N6 D6 ⟨n6, rfl, rfl, rfl⟩
  repeat ((fail_if_success (with_reducible show wpAny _ _ (PySem.getMethod _ _ _) _ _ _)); walk1; try dsimp only)
  (rename Fr _ _ _ _ => F7); (rename News _ _ _ _ => N7')
  have N7 : News h₀ L _ (a.mut w ln tl T n6 p tp n2 ++ ([(dk, accObj dxk Y nk)] ++ ([] ++ O))) := cb_drop N7' fun p hp => .tail _ hp
  have D7 : DJ (a.mut w ln tl T n6 p tp n2 ++ ([(dk, accObj dxk Y nk)] ++ ([] ++ O))) := D6
  refine acc_getMethod_f (dx := dxk) (tk := tdk) (hX.keeps F7.keep) (N7 _ (List.mem_append_right _ (.head _))).1 (N7 _ (List.mem_append_right _ (.tail _ mdk))).1 (by k_is) (by k_is) (by kernel_rfl) ?_
  clear N7'
  repeat ((fail_if_success (with_reducible show wpAny _ _ (PySem.call (Value.ref 45) _) _ _ _)); walk1; try dsimp only)
  (rename Fr _ _ _ _ => F8)
  refine claim_frame (push_w dk dxk Y nk (.str (Str.ofString " ") _) (.str c2 tb) (by (exact om62 hY5)) rfl rfl) (fun v post extra h => by obtain ⟨-, _, rfl, rfl⟩ := h; exact ⟨rfl, DJ.one _⟩) (a.mut w ln tl T n6 p tp n2) [] O (dp + 1) (un + 3) gd _ _ _ _ _ _ _ _ _ _ _ _ _ _ hB F8 hX N7 D7 ⟨tdk, List.mem_append_right _ mdk⟩ hT rfl (by (exact om121 hdp)) (by (exact om120 hun)) ?_
  rintro v9 post9 extra9 h9 tk9 - F9 N9 D9 ⟨rfl, T9, rfl, rfl⟩
  repeat (walk1; try dsimp only)
  refine hret _ _ _ T9 _ tb _ _ F9 N9 D9 ?_
  intro y h1 h2
  rw [if_neg h2, if_neg h1]
end

section
open PySem PySem.W PyProof.Rows PySem.Calls PySem.Spec Builtin Builtin.ObjectAttr Builtin.Str
set_option maxHeartbeats 3000000
variable {w : World} {mean : ExcName → Option Value} {mg mb : Str → Option Value}
/-- what a side has still to deal, in the order of dealing -/
noncomputable def SideD (O : Led) (t : Nat) (rem : List (Str × Str)) (X T : List Value) : Prop := (t = 1 ∧ Cards O X rem.reverse ∧ T = []) ∨ (t = 0 ∧ X = [] ∧ StrsAre T rem)
theorem SideD.mono {O O' : Led} (h : ∀ p ∈ O, p ∈ O') {t : Nat} {pc : List (Str × Str)} {X T : List Value} : SideD O t pc X T → SideD O' t pc X T
  | .inl ⟨e, c, d⟩ => .inl ⟨e, c.mono h, d⟩
  | .inr h => .inr h
theorem SideD.empty {O : Led} {t : Nat} {X T : List Value} : SideD O t [] X T → X = [] ∧ T = []
  | .inl ⟨_, c, d⟩ => ⟨List.eq_nil_of_length_eq_zero c.length, d⟩
  | .inr ⟨_, c, d⟩ => ⟨c, List.eq_nil_of_length_eq_zero d.length⟩
theorem SideS.toD {O : Led} {t : Nat} {pc : List (Str × Str)} {X T : List Value} : SideS O t pc X T → SideD O t (if t = 1 then pc.reverse else pc) X T
  | .inl ⟨e, c, d⟩ => .inl ⟨e, by rw [if_pos e, List.reverse_reverse]; exact c, d⟩
  | .inr ⟨e, c, d⟩ => .inr ⟨e, c, by rw [if_neg (by (exact om129 e))]; exact d⟩
theorem Cards.snoc {O : Led} {X : List Value} {pc : List (Str × Str)} {c : Str × Str} (h : Cards O X (pc ++ [c])) : ∃ X' Tc ta tb, X = X' ++ [.ref Tc] ∧ Cards O X' pc ∧ (Tc, tupObj [.str c.1 ta, .str c.2 tb]) ∈ O := by
  induction pc generalizing X with
  | nil => cases h with
    | cons m r => cases r; exact ⟨[], _, _, _, rfl, .nil, m⟩
  | cons p pc ih => cases h with
    | cons m r =>
      obtain ⟨X', Tc, ta, tb, e, hc, hm⟩ := ih r
      exact ⟨_ :: X', Tc, ta, tb, congrArg _ e, .cons m hc, hm⟩
theorem permD {α : Type} (q k : α) (A O : List α) : (q :: (A ++ (k :: O))).Perm (A ++ ([] ++ (k :: (q :: O)))) := by
  classical
  rw [List.perm_iff_count]; intro a; simp only [List.count_append, List.count_cons, List.count_nil]; (exact om128)
theorem permD2 {α : Type} (q k : α) (A X O : List α) : (A ++ (k :: (X ++ (q :: O)))).Perm (q :: (A ++ (k :: (X ++ O)))) := by
  classical
  rw [List.perm_iff_count]; intro a; simp only [List.count_append, List.count_cons, List.count_nil]; (exact om127)
theorem permD3 {α : Type} (q k : α) (A O : List α) : (q :: (A ++ (k :: O))).Perm (q :: k :: (A ++ O)) := by
  classical
  rw [List.perm_iff_count]; intro a; simp only [List.count_append, List.count_cons, List.count_nil]; (exact om126)
theorem permD4 {α : Type} (q k : α) (A X O : List α) : (q :: k :: (X ++ (A ++ O))).Perm (q :: (A ++ (k :: (X ++ O)))) := by
  classical
  rw [List.perm_iff_count]; intro a; simp only [List.count_append, List.count_cons, List.count_nil]; (exact om125)
theorem deal (q dq : Addr) (np nq : Nat) (ps : List Value) (pv : Addr) (td : Tok) (a : Lx) (ok : a.Ok) (ln : Int) (tl tp : Tok) (n1 n2 p : Nat) (dk dxk : Addr) (nk nt sd nll t : Nat) (ls ts : List Value) (ll tnn : Addr) (tdk tsd tt : Tok) (c : Str × Str) (rem : List (Str × Str)) (X T Y : List Value) (hsd : sd < 2) (hps : ps[sd]? = some (.ref q)) (hls : ls[sd]? = some (.ref a.ix)) (hts : ts[sd]? = some (.int t tt)) (hrl : rem.length < 50) (hc1 : c.1 = Str.ofString " ") (hY5 : Y.length < 100) (O O₁ : Led) (hS : SideD O₁ t (c :: rem) X T) : PySem.Challenge.rw_xj0013_01 = PySem.Challenge.rw_xj0013_01 → hd.heap_1 = hd.heap_1 →
  ∀ (dp un : Nat) (gd : Option (List Code)) (cn : Str) (cs : Scope) (b : Addr) (ccd : Value) (cl : List (Str × Addr)) (outer : List Env) (base h₀ : Heap) (L Lc : Addr) (m : Str → Option Value) (s : Shared) (Q : Flow → Shared → Prop) (E : Value → Shared → Prop),
    Below (ktrTop dp un gd cn cs Lc b ccd cl outer) base (envX cn cs Lc b ccd cl :: outer) h₀ → Fr h₀ L s.heap m → (hd.heap_1 w.params).In h₀ → News h₀ L s.heap ((q, accObj dq X nq) :: (a.mut w ln tl T n1 p tp n2 ++ ((dk, accObj dxk Y nk) :: O))) → DJ ((q, accObj dq X nq) :: (a.mut w ln tl T n1 p tp n2 ++ ((dk, accObj dxk Y nk) :: O))) → Tp mean mg mb h₀ → 
    m (Str.ofString "turned") = some (.ref tnn) → m (Str.ofString "piles") = some (.ref pv) → m (Str.ofString "lexers") = some (.ref ll) → m (Str.ofString "deck") = some (.ref dk) → m (Str.ofString "side") = some (.int sd tsd) → 
    (tnn, W.listOf ts.toArray nt) ∈ O → (pv, W.listOf ps.toArray np) ∈ O → (ll, W.listOf ls.toArray nll) ∈ O → (dq, accD w td) ∈ O → (dxk, accD w tdk) ∈ O → (∀ q ∈ a.imm w, q ∈ O) → (∀ q ∈ O₁, q ∈ O) →
    dp + (2 + 2) * 4 < recursionLimit → un + (2 + 2) * 12 < cLine →
    (∀ (h' : Heap) (tk' : Nat) (m' : Str → Option Value) (X' T' : List Value) (Tn : Addr) (t1 t2 : Tok) (nq' n' n1' : Nat), Fr h₀ L h' m' → News h₀ L h' ((q, accObj dq X' nq') :: (a.mut w ln tl T' n' p tp n2 ++ ((dk, accObj dxk (Y ++ [.ref Tn]) n1') :: ([(Tn, tupObj [.str c.1 t1, .str c.2 t2])] ++ O)))) → DJ ((q, accObj dq X' nq') :: (a.mut w ln tl T' n' p tp n2 ++ ((dk, accObj dxk (Y ++ [.ref Tn]) n1') :: ([(Tn, tupObj [.str c.1 t1, .str c.2 t2])] ++ O)))) → SideD O₁ t rem X' T' →
      (∀ y, y ≠ Str.ofString "blank" → y ≠ Str.ofString "card" → m' y = m y) → Q .next { s with heap := h', toks := tk' }) →
    wpAny (model PySem.Challenge.pw_xj0013_01 w) ((ktrTop dp un gd cn cs Lc b ccd cl outer).deeper (envOf (Str.ofString "_law_shuffle") (fnScope w.params 215) L 215 (.ref 214))) (execs ((forBody w.params 13).drop 1) (envOf (Str.ofString "_law_shuffle") (fnScope w.params 215) L 215 (.ref 214))) Q E s := by
  intro _ _ dp un gd cn cs b ccd cl outer base h₀ L Lc m s Q E hB hF hX hN hD hT htn hpl hlx hdk hsde mtn mpv mll mdq mdk him hO1 hdp hun hret
  rcases hS with ⟨rfl, hC, rfl⟩ | ⟨rfl, rfl, hS⟩
  · rw [List.reverse_cons] at hC
    obtain ⟨X', Tc, ta, tb, rfl, hC', mTc⟩ := hC.snoc
    have mo : ∀ {p' : Addr × Obj}, p' ∈ O → p' ∈ a.mut w ln tl [] n1 p tp n2 ++ O := fun h => List.mem_append_right _ h
    have hXl : X'.length < 100 := by rw [hC'.length, List.length_reverse]; (exact om124 hrl)
    refine deal1 q dq dk dxk np nq nk nt sd ps ts pv tnn Tc td tdk ta tb tsd tt c X' Y hsd hps hts hXl hY5 (a.mut w ln tl [] n1 p tp n2 ++ O) rfl rfl dp un gd cn cs b ccd cl outer base h₀ L Lc m s Q E hB hF hX (cb_drop hN fun p hp => (permD3 _ _ _ _).mem_iff.mpr hp) (hD.perm (permD3 _ _ _ _)) hT htn hpl hdk hsde (mo mtn) (mo mpv) (mo mdq) (mo mdk) (mo (hO1 _ mTc)) hdp hun ?_
    intro h' tk' m' Tn t1 t2 n' n1' F N D hm
    exact hret h' tk' m' X' [] Tn t1 t2 n' n1 n1' F (cb_drop N fun p hp => (permD4 _ _ _ _ _).mem_iff.mpr hp) (D.perm (permD4 _ _ _ _ _)) (.inl ⟨rfl, hC', rfl⟩) hm
  · match T, hS with
    | v :: T', ⟨⟨tb, e⟩, hS'⟩ =>
      subst e
      have hXl : T'.length < 99 := by rw [hS'.length]; (exact om123 hrl)
      refine deal0 a ok ln tl tp n1 n2 p dk dxk nk nt sd nll ls ts ll tnn tdk tb tsd tt c.2 T' Y hsd hls hts hXl hY5 ((q, accObj dq [] nq) :: O) rfl rfl dp un gd cn cs b ccd cl outer base h₀ L Lc m s Q E hB hF hX (cb_drop hN fun p hp => (permD _ _ _ _).mem_iff.mpr hp) (hD.perm (permD _ _ _ _)) hT htn hlx hdk hsde (.tail _ mtn) (.tail _ mll) (.tail _ mdk) (fun q hq => .tail _ (him q hq)) hdp hun ?_
      intro h' tk' m' Tn t1 t2 n' n1' F N D hm
      rw [← hc1] at N D
      exact hret h' tk' m' [] T' Tn t1 t2 nq n' n1' F (cb_drop N fun p hp => (permD2 _ _ _ _ _).mem_iff.mpr hp) (D.perm (permD2 _ _ _ _ _)) (.inr ⟨rfl, rfl, hS'⟩) hm
end

section
open PySem PySem.W PyProof.Rows PySem.Calls PySem.Spec Builtin Builtin.ObjectAttr Builtin.Str
set_option maxHeartbeats 3000000
variable {w : World} {mean : ExcName → Option Value} {mg mb : Str → Option Value}
theorem bitAnd1k (k : Nat) (h : k < 8) : Builtin.bitAnd (k : Int) 1 = ((k % 2 : Nat) : Int) := by
  rcases (show k = 0 ∨ k = 1 ∨ k = 2 ∨ k = 3 ∨ k = 4 ∨ k = 5 ∨ k = 6 ∨ k = 7 by (exact om133 h)) with rfl | rfl | rfl | rfl | rfl | rfl | rfl | rfl <;> rfl
theorem shr1 (l : Nat) (h : l < 4) : Int.fdiv (l : Int) (2 ^ (1 : Int).toNat) = ((l / 2 : Nat) : Int) := by
  rcases (show l = 0 ∨ l = 1 ∨ l = 2 ∨ l = 3 by (exact om80 h)) with rfl | rfl | rfl | rfl <;> rfl
theorem bitXor1 (a b : Nat) (ha : a < 2) (hb : b < 2) : Builtin.bitXor (a : Int) (b : Int) = (((a + b) % 2 : Nat) : Int) := by
  rcases (show a = 0 ∨ a = 1 by (exact om115 ha)) with rfl | rfl <;> rcases (show b = 0 ∨ b = 1 by (exact om115 hb)) with rfl | rfl <;> rfl
theorem pickS (k l : Nat) (hk8 : k < 8) (hl : l < 4) (tk tl : Tok) (news : Led) : PySem.Challenge.rw_xj0013_01 = PySem.Challenge.rw_xj0013_01 → hd.heap_1 = hd.heap_1 →
  ∀ (dp un : Nat) (gd : Option (List Code)) (cn : Str) (cs : Scope) (b : Addr) (ccd : Value) (cl : List (Str × Addr)) (outer : List Env) (base h₀ : Heap) (L Lc : Addr) (m : Str → Option Value) (s : Shared) (Q : Flow → Shared → Prop) (E : Value → Shared → Prop),
    Below (ktrTop dp un gd cn cs Lc b ccd cl outer) base (envX cn cs Lc b ccd cl :: outer) h₀ → Fr h₀ L s.heap m → (hd.heap_1 w.params).In h₀ → News h₀ L s.heap news → Tp mean mg mb h₀ → 
    m (Str.ofString "k") = some (.int k tk) → m (Str.ofString "lower") = some (.int l tl) → 
    dp + (2 + 2) * 4 < recursionLimit → un + (2 + 2) * 12 < cLine →
    (∀ (h' : Heap) (tk' : Nat) (t : Tok), Fr h₀ L h' (fun y => if y = Str.ofString "side" then some (.int ((k + l / 2) % 2 : Nat) t) else m y) → News h₀ L h' news → 
      wpAny (model PySem.Challenge.pw_xj0013_01 w) ((ktrTop dp un gd cn cs Lc b ccd cl outer).deeper (envOf (Str.ofString "_law_shuffle") (fnScope w.params 215) L 215 (.ref 214))) (execs ((forBody w.params 13).drop 1) (envOf (Str.ofString "_law_shuffle") (fnScope w.params 215) L 215 (.ref 214))) Q E { s with heap := h', toks := tk' }) →
    wpAny (model PySem.Challenge.pw_xj0013_01 w) ((ktrTop dp un gd cn cs Lc b ccd cl outer).deeper (envOf (Str.ofString "_law_shuffle") (fnScope w.params 215) L 215 (.ref 214))) (execs (forBody w.params 13) (envOf (Str.ofString "_law_shuffle") (fnScope w.params 215) L 215 (.ref 214))) Q E s := by
  k_fill; intro _ _ dp un gd cn cs b ccd cl outer base h₀ L Lc m s Q E hB hF hX hN hT hk hlow hdp hun hret
  have e1 := (rfl : forBody w.params 13 = forBody w.params 13)
  conv at e1 => rhs; whnf
  have e2 := (rfl : fnScope w.params 215 = fnScope w.params 215)
  conv at e2 => rhs; whnf
  have e3 := (rfl : (forBody w.params 13).drop 1 = (forBody w.params 13).drop 1)
  conv at e3 => rhs; whnf
  rw [e3, e2] at hret
  rw [e1, e2]
  clear e1 e2 e3
  repeat (walk1; try dsimp only)
  refine and_w k 1 tk _ rfl rfl (dp + 1) (un + 3) gd _ _ _ _ _ _ _ _ _ _ _ news _ _ _ hB (by assumption) hX (by assumption) hT rfl (by (exact om121 hdp)) (by (exact om120 hun)) ?_
  intro t1 h1 tk1 F1 N1
  rw [bitAnd1k k hk8]
  repeat (walk1; try dsimp only)
  refine rshift_w (l : Nat) 1 tl _ (Int.natCast_nonneg _) (by decide) (by decide) rfl rfl (dp + 1) (un + 3) gd _ _ _ _ _ _ _ _ _ _ _ news _ _ _ hB (by assumption) hX (by assumption) hT rfl (by (exact om121 hdp)) (by (exact om120 hun)) ?_
  intro t2 h2 tk2 F2 N2
  rw [shr1 l hl]
  repeat (walk1; try dsimp only)
  refine xor_w (k % 2 : Nat) (l / 2 : Nat) t1 t2 rfl rfl (dp + 1) (un + 3) gd _ _ _ _ _ _ _ _ _ _ _ news _ _ _ hB (by assumption) hX (by assumption) hT rfl (by (exact om121 hdp)) (by (exact om120 hun)) ?_
  intro t3 h3 tk3 F3 N3
  rw [bitXor1 _ _ (by (exact om132)) (by (exact om131 hl)), show (k % 2 + l / 2) % 2 = (k + l / 2) % 2 by (exact om130)]
  repeat ((fail_if_success (with_reducible show wpAny _ _ (execs [_, _] _) _ _ _)); walk1; try dsimp only)
  (rename Fr _ _ _ _ => F9); (rename News _ _ _ _ => N9)
  exact hret _ _ _ F9 N9
end

section
open PySem PySem.W PyProof.Rows PySem.Calls PySem.Spec Builtin Builtin.ObjectAttr Builtin.Str
set_option maxHeartbeats 3000000
variable {w : World} {mean : ExcName → Option Value} {mg mb : Str → Option Value}
/-- the deck that k dealings make: at the even ones deals side f, else the other -/
noncomputable def deckUp (f : Nat) (P0 P1 : List (Str × Str)) : Nat → List (Str × Str)
  | 0 => []
  | k + 1 => deckUp f P0 P1 k ++ ((if (k + f) % 2 = 0 then P0 else P1)[k / 2]?).toList
noncomputable def cnt (f s k : Nat) : Nat := (k + if s = f then 1 else 0) / 2
theorem deckUp_length (f : Nat) (P0 P1 : List (Str × Str)) : ∀ k, (deckUp f P0 P1 k).length ≤ k
  | 0 => Nat.le_refl _
  | k + 1 => by
    have := deckUp_length f P0 P1 k
    rw [deckUp, List.length_append]
    have h2 : ((if (k + f) % 2 = 0 then P0 else P1)[k / 2]?).toList.length ≤ 1 := by
      cases (if (k + f) % 2 = 0 then P0 else P1)[k / 2]? <;> simp
    (exact om155 this h2)
theorem cnt_same (f s k : Nat) (hf : f < 2) (hs : s = (k + f) % 2) : cnt f s k = k / 2 ∧ cnt f s (k + 1) = k / 2 + 1 := by
  unfold cnt
  split <;> (first | exact om153 hs (by assumption) | exact om154 hf hs (by assumption))
theorem cnt_other (f s k : Nat) (hf : f < 2) (hs2 : s < 2) (hs : s ≠ (k + f) % 2) : cnt f s (k + 1) = cnt f s k := by
  unfold cnt
  split <;> (first | exact om151 hs2 hs (by assumption) | exact om152 hf hs2 hs (by assumption))
theorem permK {α : Type} (i q k : α) (A S R : List α) : (i :: (q :: (A ++ (S ++ (k :: R))))).Perm (q :: (A ++ (k :: (i :: (S ++ R))))) := by
  classical
  rw [List.perm_iff_count]; intro a; simp only [List.count_append, List.count_cons]; (exact om150)
theorem permK2 {α : Type} (i q k : α) (A S X O' R : List α) : (q :: (A ++ (k :: (X ++ (i :: (S ++ (O' ++ R))))))).Perm (i :: (q :: (A ++ (S ++ (k :: ((O' ++ X) ++ R)))))) := by
  classical
  rw [List.perm_iff_count]; intro a; simp only [List.count_append, List.count_cons]; (exact om149)
theorem permL {α : Type} (i q k : α) (A S R : List α) : (i :: (S ++ (q :: (A ++ (k :: R))))).Perm (q :: (A ++ (k :: (i :: (S ++ R))))) := by
  classical
  rw [List.perm_iff_count]; intro a; simp only [List.count_append, List.count_cons]; (exact om148)
theorem permL2 {α : Type} (i q k : α) (A S X O' R : List α) : (q :: (A ++ (k :: (X ++ (i :: (S ++ (O' ++ R))))))).Perm (i :: (S ++ (q :: (A ++ (k :: ((O' ++ X) ++ R)))))) := by
  classical
  rw [List.perm_iff_count]; intro a; simp only [List.count_append, List.count_cons]; (exact om147)
inductive K2J (w : World) (q0 q1 dq0 dq1 : Addr) (a0 a1 : Lx) (ln0 ln1 : Int) (tl0 tp0 tl1 tp1 : Tok) (n20 p0 n21 p1 t0 t1 : Nat) (dk dxk : Addr) (l : Nat) (P0 P1 : List (Str × Str)) (O : Led) (m : Str → Option Value) (i : Nat) (m' : Str → Option Value) (news' : Led) : Prop
  | mk (X0 T0 X1 T1 : List Value) (n0 m0 n1 m1 : Nat) (Y : List Value) (nk' : Nat) (O' : Led) (e : news' = (((q0, accObj dq0 X0 n0) :: a0.mut w ln0 tl0 T0 m0 p0 tp0 n20) ++ (((q1, accObj dq1 X1 n1) :: a1.mut w ln1 tl1 T1 m1 p1 tp1 n21) ++ ((dk, accObj dxk Y nk') :: (O' ++ O))))) (hD : DJ news') (h0 : SideD O t0 (P0.drop (cnt (l / 2) 0 i)) X0 T0) (h1 : SideD O t1 (P1.drop (cnt (l / 2) 1 i)) X1 T1) (hY : Cards O' Y (deckUp (l / 2) P0 P1 i)) (hm : ∀ y, y ≠ Str.ofString "k" → y ≠ Str.ofString "side" → y ≠ Str.ofString "blank" → y ≠ Str.ofString "card" → m' y = m y)
theorem shuf2k (q0 q1 dq0 dq1 : Addr) (np nq0 nq1 : Nat) (pv : Addr) (td0 td1 : Tok) (a0 a1 : Lx) (ok0 : a0.Ok) (ok1 : a1.Ok) (ln0 ln1 : Int) (tl0 tp0 tl1 tp1 : Tok) (n10 n20 p0 n11 n21 p1 : Nat) (dk dxk tnn ll : Addr) (nk nt nll t0 t1 half l : Nat) (hhalf : half < 5) (hl : l < 4) (X0i T0i X1i T1i : List Value) (P0 P1 : List (Str × Str)) (tdk tt0 tt1 th tlo : Tok) (hl0 : P0.length = half) (hl1 : P1.length = half) (hb0 : ∀ c ∈ P0, c.1 = Str.ofString " ") (hb1 : ∀ c ∈ P1, c.1 = Str.ofString " ") (O : Led) (hS0i : SideD O t0 P0 X0i T0i) (hS1i : SideD O t1 P1 X1i T1i) : PySem.Challenge.rw_xj0013_01 = PySem.Challenge.rw_xj0013_01 → hd.heap_1 = hd.heap_1 →
  ∀ (dp un : Nat) (gd : Option (List Code)) (cn : Str) (cs : Scope) (b : Addr) (ccd : Value) (cl : List (Str × Addr)) (outer : List Env) (base h₀ : Heap) (L Lc : Addr) (m : Str → Option Value) (s : Shared) (Q : Flow → Shared → Prop) (E : Value → Shared → Prop),
    Below (ktrTop dp un gd cn cs Lc b ccd cl outer) base (envX cn cs Lc b ccd cl :: outer) h₀ → Fr h₀ L s.heap m → (hd.heap_1 w.params).In h₀ → News h₀ L s.heap (((q0, accObj dq0 X0i nq0) :: a0.mut w ln0 tl0 T0i n10 p0 tp0 n20) ++ (((q1, accObj dq1 X1i nq1) :: a1.mut w ln1 tl1 T1i n11 p1 tp1 n21) ++ ((dk, accObj dxk [] nk) :: O))) → DJ (((q0, accObj dq0 X0i nq0) :: a0.mut w ln0 tl0 T0i n10 p0 tp0 n20) ++ (((q1, accObj dq1 X1i nq1) :: a1.mut w ln1 tl1 T1i n11 p1 tp1 n21) ++ ((dk, accObj dxk [] nk) :: O))) → Tp mean mg mb h₀ → 
    m (Str.ofString "turned") = some (.ref tnn) → m (Str.ofString "piles") = some (.ref pv) → m (Str.ofString "lexers") = some (.ref ll) → m (Str.ofString "deck") = some (.ref dk) → m (Str.ofString "half") = some (.int half th) → m (Str.ofString "lower") = some (.int l tlo) → 
    (tnn, W.listOf [Value.int t0 tt0, .int t1 tt1].toArray nt) ∈ O → (pv, W.listOf [Value.ref q0, .ref q1].toArray np) ∈ O → (ll, W.listOf [Value.ref a0.ix, .ref a1.ix].toArray nll) ∈ O → (dq0, accD w td0) ∈ O → (dq1, accD w td1) ∈ O → (dxk, accD w tdk) ∈ O → (∀ q ∈ a0.imm w, q ∈ O) → (∀ q ∈ a1.imm w, q ∈ O) →
    dp + (2 + 2) * 4 < recursionLimit → un + (2 + 2) * 12 < cLine →
    (∀ (h' : Heap) (tk' : Nat) (m' : Str → Option Value) (Y : List Value) (n0 m0 n1 m1 nk' : Nat) (O' : Led), Fr h₀ L h' m' → News h₀ L h' (((q0, accObj dq0 [] n0) :: a0.mut w ln0 tl0 [] m0 p0 tp0 n20) ++ (((q1, accObj dq1 [] n1) :: a1.mut w ln1 tl1 [] m1 p1 tp1 n21) ++ ((dk, accObj dxk Y nk') :: (O' ++ O)))) → DJ (((q0, accObj dq0 [] n0) :: a0.mut w ln0 tl0 [] m0 p0 tp0 n20) ++ (((q1, accObj dq1 [] n1) :: a1.mut w ln1 tl1 [] m1 p1 tp1 n21) ++ ((dk, accObj dxk Y nk') :: (O' ++ O)))) → Cards O' Y (deckUp (l / 2) P0 P1 (2 * half)) →
      (∀ y, y ≠ Str.ofString "k" → y ≠ Str.ofString "side" → y ≠ Str.ofString "blank" → y ≠ Str.ofString "card" → m' y = m y) → wpAny (model PySem.Challenge.pw_xj0013_01 w) ((ktrTop dp un gd cn cs Lc b ccd cl outer).deeper (envOf (Str.ofString "_law_shuffle") (fnScope w.params 215) L 215 (.ref 214))) (execs ((fnBody w.params 215).drop 14) (envOf (Str.ofString "_law_shuffle") (fnScope w.params 215) L 215 (.ref 214))) Q E { s with heap := h', toks := tk' }) →
    wpAny (model PySem.Challenge.pw_xj0013_01 w) ((ktrTop dp un gd cn cs Lc b ccd cl outer).deeper (envOf (Str.ofString "_law_shuffle") (fnScope w.params 215) L 215 (.ref 214))) (execs ((fnBody w.params 215).drop 13) (envOf (Str.ofString "_law_shuffle") (fnScope w.params 215) L 215 (.ref 214))) Q E s := by
  k_fill; intro _ _ dp un gd cn cs b ccd cl outer base h₀ L Lc m s Q E hB hF hX hN hD hT htn hpl hlx hdk hhf hlow mtn mpv mll md0 md1 mdk him0 him1 hdp hun hret
  have e1 := (rfl : (fnBody w.params 215).drop 13 = (fnBody w.params 215).drop 13)
  conv at e1 => rhs; whnf
  have e2 := (rfl : fnScope w.params 215 = fnScope w.params 215)
  conv at e2 => rhs; whnf
  have e3 := (rfl : (fnBody w.params 215).drop 14 = (fnBody w.params 215).drop 14)
  conv at e3 => rhs; whnf
  have e4 := (rfl : forBody w.params 13 = forBody w.params 13)
  conv at e4 => rhs; whnf
  rw [e1, e2]
  rw [e3, e2] at hret
  repeat ((fail_if_success (with_reducible show wpAny _ _ (PySem.exec (Stmt.For _ _ _ _ _) _) _ _ _)); walk1; try dsimp only)
  refine wpAny_For ?_ (by intro _; rfl)
  repeat (walk1; try dsimp only)
  (rename IsRange _ _ _ _ _ _ _ _ => hR3); (rename Fr _ _ _ _ => F3); (rename News _ _ _ _ => N3)
  rw [show (2 * (half : Int)) = ((2 * half : Nat) : Int) by (exact om146)] at hR3
  refine pyIter_rangeJ (n := 2 * half) rfl hR3 (by (exact om356 hhalf)) F3 N3 (K2J w q0 q1 dq0 dq1 a0 a1 ln0 ln1 tl0 tp0 tl1 tp1 n20 p0 n21 p1 t0 t1 dk dxk l P0 P1 O m)
    ⟨X0i, T0i, X1i, T1i, nq0, n10, nq1, n11, [], nk, [], rfl, hD, by rw [show cnt (l / 2) 0 0 = 0 by unfold cnt; split <;> rfl]; exact hS0i, by rw [show cnt (l / 2) 1 0 = 0 by unfold cnt; split <;> rfl]; exact hS1i, .nil, fun _ _ _ _ _ => rfl⟩ ?_ ?_
  · rintro i t m₁ news₁ h₁ tk₁ I it hi ⟨X0, T0, X1, T1, n0, m0, n1, m1, Y, nk', O', rfl, hDJ, hS0, hS1, hY, hm⟩ F₁ N₁ hI K KE hK _hV
    repeat ((fail_if_success (with_reducible show wpAny _ _ (execs _ _) _ _ _)); walk1; try dsimp only)
    rw [← e4, ← e2]
    (rename Fr _ _ _ _ => F5); (rename News _ _ _ _ => N5)
    have k1 := (hm (Str.ofString "turned") (by decide +kernel) (by decide +kernel) (by decide +kernel) (by decide +kernel)).trans htn
    have k2 := (hm (Str.ofString "lexers") (by decide +kernel) (by decide +kernel) (by decide +kernel) (by decide +kernel)).trans hlx
    have k4 := (hm (Str.ofString "piles") (by decide +kernel) (by decide +kernel) (by decide +kernel) (by decide +kernel)).trans hpl
    have k5 := (hm (Str.ofString "deck") (by decide +kernel) (by decide +kernel) (by decide +kernel) (by decide +kernel)).trans hdk
    have k6 := (hm (Str.ofString "lower") (by decide +kernel) (by decide +kernel) (by decide +kernel) (by decide +kernel)).trans hlow
    have f1 : ∀ {y : Str} {v u : Value}, m₁ y = some v → y ≠ Str.ofString "k" → (if y = Str.ofString "k" then some u else m₁ y) = some v := fun h hn => (if_neg hn).trans h
    have f2 : ∀ {y : Str} {v u u' : Value}, m₁ y = some v → y ≠ Str.ofString "k" → y ≠ Str.ofString "side" → (if y = Str.ofString "side" then some u' else if y = Str.ofString "k" then some u else m₁ y) = some v := fun h hn h2 => (if_neg h2).trans ((if_neg hn).trans h)
    have hDI := DJ.cons (p := (I, it)) hI hDJ
    refine pickS i l (by (exact om144 hhalf hi)) hl _ tlo _ rfl rfl dp un gd cn cs b ccd cl outer base h₀ L Lc _ _ _ _ hB F5 hX N5 hT (if_pos rfl) (f1 k6 (by decide +kernel)) hdp hun ?_
    intro h6 tk6 t6 F6 N6
    rcases (show (i + l / 2) % 2 = 0 ∨ (i + l / 2) % 2 = 1 by (exact om143)) with hsd | hsd
    · have hcs := cnt_same (l / 2) 0 i (by (exact om131 hl)) hsd.symm
      have hco := cnt_other (l / 2) 1 i (by (exact om131 hl)) (by decide) (by (exact om142 hsd))
      have hlt : i / 2 < P0.length := by rw [hl0]; (exact om139 hi)
      have hS' : SideD O t0 (P0[i / 2] :: P0.drop (i / 2 + 1)) X0 T0 := by rw [← List.drop_eq_getElem_cons hlt, ← hcs.1]; exact hS0
      have hSO : SideD O t1 (P1.drop (cnt (l / 2) 1 (i + 1))) X1 T1 := by rw [hco]; exact hS1
      have mo : ∀ {p : Addr × Obj}, p ∈ O → p ∈ (I, it) :: (((q1, accObj dq1 X1 n1) :: a1.mut w ln1 tl1 T1 m1 p1 tp1 n21) ++ (O' ++ O)) := fun h => .tail _ (List.mem_append_right _ (List.mem_append_right _ h))
      rw [hsd] at F6
      refine deal q0 dq0 np n0 [Value.ref q0, .ref q1] pv td0 a0 ok0 ln0 tl0 tp0 m0 n20 p0 dk dxk nk' nt 0 nll t0 [Value.ref a0.ix, .ref a1.ix] [Value.int t0 tt0, .int t1 tt1] ll tnn tdk t6 tt0 P0[i / 2] (P0.drop (i / 2 + 1)) X0 T0 Y (by decide) rfl rfl rfl (by rw [List.length_drop]; (exact om138 hhalf hl0)) (hb0 _ (List.getElem_mem hlt)) (by rw [hY.length]; have := deckUp_length (l / 2) P0 P1 i; (exact om141 hhalf hl0 hlt this)) ((I, it) :: (((q1, accObj dq1 X1 n1) :: a1.mut w ln1 tl1 T1 m1 p1 tp1 n21) ++ (O' ++ O))) O hS' rfl rfl dp un gd cn cs b ccd cl outer base h₀ L Lc _ _ _ _ hB F6 hX (cb_drop N6 fun p hp => (permK _ _ _ _ _ _).mem_iff.mpr hp) (hDI.perm (permK _ _ _ _ _ _)) hT (f2 k1 (by decide +kernel) (by decide +kernel)) (f2 k4 (by decide +kernel) (by decide +kernel)) (f2 k2 (by decide +kernel) (by decide +kernel)) (f2 k5 (by decide +kernel) (by decide +kernel)) (if_pos rfl) (mo mtn) (mo mpv) (mo mll) (mo md0) (mo mdk) (fun q hq => mo (him0 q hq)) (fun q hq => mo hq) hdp hun ?_
      intro h' tk' m' X' T' Tn u1 u2 nq' n' n1' F N D hST hm'
      have PP := permK2 (I, it) (q0, accObj dq0 X' nq') (dk, accObj dxk (Y ++ [Value.ref Tn]) n1') (a0.mut w ln0 tl0 T' n' p0 tp0 n20) ((q1, accObj dq1 X1 n1) :: a1.mut w ln1 tl1 T1 m1 p1 tp1 n21) [(Tn, tupObj [.str P0[i / 2].1 u1, .str P0[i / 2].2 u2])] O' O
      rw [← hcs.2] at hST
      refine hK (.inl rfl) F (cb_drop N fun p hp => PP.mem_iff.mpr hp) (DJ.off (a := [(I, it)]) (D.perm PP) _ (.head _)) ⟨X', T', X1, T1, nq', n', n1, m1, Y ++ [Value.ref Tn], n1', O' ++ [(Tn, tupObj [.str P0[i / 2].1 u1, .str P0[i / 2].2 u2])], rfl, DJ.right (a := [(I, it)]) (D.perm PP), hST, hSO, ?_, ?_⟩
      · rw [deckUp, if_pos hsd, List.getElem?_eq_getElem hlt]
        exact Cards.append (hY.mono fun p hp => List.mem_append_left _ hp) (.one (List.mem_append_right _ (.head _)))
      · intro y h1 h2 h3 h4
        rw [hm' y h3 h4, if_neg h2, if_neg h1]
        exact hm y h1 h2 h3 h4
    · have hcs := cnt_same (l / 2) 1 i (by (exact om131 hl)) hsd.symm
      have hco := cnt_other (l / 2) 0 i (by (exact om131 hl)) (by decide) (by (exact om140 hsd))
      have hlt : i / 2 < P1.length := by rw [hl1]; (exact om139 hi)
      have hS' : SideD O t1 (P1[i / 2] :: P1.drop (i / 2 + 1)) X1 T1 := by rw [← List.drop_eq_getElem_cons hlt, ← hcs.1]; exact hS1
      have hSO : SideD O t0 (P0.drop (cnt (l / 2) 0 (i + 1))) X0 T0 := by rw [hco]; exact hS0
      have mo : ∀ {p : Addr × Obj}, p ∈ O → p ∈ (I, it) :: (((q0, accObj dq0 X0 n0) :: a0.mut w ln0 tl0 T0 m0 p0 tp0 n20) ++ (O' ++ O)) := fun h => .tail _ (List.mem_append_right _ (List.mem_append_right _ h))
      rw [hsd] at F6
      refine deal q1 dq1 np n1 [Value.ref q0, .ref q1] pv td1 a1 ok1 ln1 tl1 tp1 m1 n21 p1 dk dxk nk' nt 1 nll t1 [Value.ref a0.ix, .ref a1.ix] [Value.int t0 tt0, .int t1 tt1] ll tnn tdk t6 tt1 P1[i / 2] (P1.drop (i / 2 + 1)) X1 T1 Y (by decide) rfl rfl rfl (by rw [List.length_drop]; (exact om138 hhalf hl1)) (hb1 _ (List.getElem_mem hlt)) (by rw [hY.length]; have := deckUp_length (l / 2) P0 P1 i; (exact om137 hhalf hi this)) ((I, it) :: (((q0, accObj dq0 X0 n0) :: a0.mut w ln0 tl0 T0 m0 p0 tp0 n20) ++ (O' ++ O))) O hS' rfl rfl dp un gd cn cs b ccd cl outer base h₀ L Lc _ _ _ _ hB F6 hX (cb_drop N6 fun p hp => (permL _ _ _ _ _ _).mem_iff.mpr hp) (hDI.perm (permL _ _ _ _ _ _)) hT (f2 k1 (by decide +kernel) (by decide +kernel)) (f2 k4 (by decide +kernel) (by decide +kernel)) (f2 k2 (by decide +kernel) (by decide +kernel)) (f2 k5 (by decide +kernel) (by decide +kernel)) (if_pos rfl) (mo mtn) (mo mpv) (mo mll) (mo md1) (mo mdk) (fun q hq => mo (him1 q hq)) (fun q hq => mo hq) hdp hun ?_
      intro h' tk' m' X' T' Tn u1 u2 nq' n' n1' F N D hST hm'
      have PP := permL2 (I, it) (q1, accObj dq1 X' nq') (dk, accObj dxk (Y ++ [Value.ref Tn]) n1') (a1.mut w ln1 tl1 T' n' p1 tp1 n21) ((q0, accObj dq0 X0 n0) :: a0.mut w ln0 tl0 T0 m0 p0 tp0 n20) [(Tn, tupObj [.str P1[i / 2].1 u1, .str P1[i / 2].2 u2])] O' O
      rw [← hcs.2] at hST
      refine hK (.inl rfl) F (cb_drop N fun p hp => PP.mem_iff.mpr hp) (DJ.off (a := [(I, it)]) (D.perm PP) _ (.head _)) ⟨X0, T0, X', T', n0, m0, nq', n', Y ++ [Value.ref Tn], n1', O' ++ [(Tn, tupObj [.str P1[i / 2].1 u1, .str P1[i / 2].2 u2])], rfl, DJ.right (a := [(I, it)]) (D.perm PP), hSO, hST, ?_, ?_⟩
      · rw [deckUp, if_neg (by (exact om136 hsd)), List.getElem?_eq_getElem hlt]
        exact Cards.append (hY.mono fun p hp => List.mem_append_left _ hp) (.one (List.mem_append_right _ (.head _)))
      · intro y h1 h2 h3 h4
        rw [hm' y h3 h4, if_neg h2, if_neg h1]
        exact hm y h1 h2 h3 h4
  · rintro h' tk' m' news' F' N' ⟨X0, T0, X1, T1, n0, m0, n1, m1, Y, nk', O', rfl, hDJ, hS0, hS1, hY, hm⟩
    have c0 : P0.drop (cnt (l / 2) 0 (2 * half)) = [] := List.drop_eq_nil_of_le (by rw [hl0]; unfold cnt; split <;> (first | exact om134 | exact om135))
    have c1 : P1.drop (cnt (l / 2) 1 (2 * half)) = [] := List.drop_eq_nil_of_le (by rw [hl1]; unfold cnt; split <;> (first | exact om134 | exact om135))
    rw [c0] at hS0
    rw [c1] at hS1
    obtain ⟨rfl, rfl⟩ := hS0.empty
    obtain ⟨rfl, rfl⟩ := hS1.empty
    dsimp only
    repeat ((fail_if_success (with_reducible show wpAny _ _ (execs (Stmt.Return _ _ :: _) _) _ _ _)); walk1; try dsimp only)
    exact hret h' tk' m' Y n0 m0 n1 m1 nk' O' F' N' hDJ hY hm
end

section
open PySem PySem.W PyProof.Rows PySem.Calls PySem.Spec Builtin Builtin.ObjectAttr Builtin.Str
set_option maxHeartbeats 3000000
variable {w : World} {mean : ExcName → Option Value} {mg mb : Str → Option Value}
theorem DJ.comp {I C D : Addr} {oi oc od : Obj} {l : Led} (ne : I ≠ C ∧ I ≠ D ∧ C ≠ D) (off : ∀ p ∈ l, p.1 ≠ I ∧ p.1 ≠ C ∧ p.1 ≠ D) (h : DJ l) : DJ ((I, oi) :: (C, oc) :: (D, od) :: l) := by
  refine DJ.cons ?_ (DJ.cons ?_ (DJ.cons (fun q hq => (off q hq).2.2) h))
  · intro q hq
    rcases List.mem_cons.mp hq with rfl | hq
    · exact Ne.symm ne.1
    rcases List.mem_cons.mp hq with rfl | hq
    · exact Ne.symm ne.2.1
    · exact (off q hq).1
  · intro q hq
    rcases List.mem_cons.mp hq with rfl | hq
    · exact Ne.symm ne.2.2
    · exact (off q hq).2.1
theorem permC {α : Type} (e0 e1 q0 q1 : α) (O : List α) : (q0 :: e0 :: q1 :: e1 :: O).Perm (e0 :: e1 :: q0 :: q1 :: O) := by
  classical
  rw [List.perm_iff_count]; intro a; simp only [List.count_cons]; (exact om156)
theorem off1_mem {D : Addr} : ∀ {l : Led}, LCg.Off1 D l → ∀ p ∈ l, p.1 ≠ D
  | [], _, _, hp => nomatch hp
  | _ :: _, h, p, hp => by
    rcases List.mem_cons.mp hp with e | hp
    · rw [e]; exact h.1
    · exact off1_mem h.2 p hp
theorem shuf2l (q0 q1 dq0 dq1 : Addr) (np nq0 nq1 : Nat) (pv : Addr) (td0 td1 : Tok) (O : Led) : PySem.Challenge.rw_xj0013_01 = PySem.Challenge.rw_xj0013_01 → hd.heap_1 = hd.heap_1 →
  ∀ (dp un : Nat) (gd : Option (List Code)) (cn : Str) (cs : Scope) (b : Addr) (ccd : Value) (cl : List (Str × Addr)) (outer : List Env) (base h₀ : Heap) (L Lc : Addr) (m : Str → Option Value) (s : Shared) (Q : Flow → Shared → Prop) (E : Value → Shared → Prop),
    Below (ktrTop dp un gd cn cs Lc b ccd cl outer) base (envX cn cs Lc b ccd cl :: outer) h₀ → Fr h₀ L s.heap m → (hd.heap_1 w.params).In h₀ → News h₀ L s.heap ((q0, accObj dq0 [] nq0) :: (q1, accObj dq1 [] nq1) :: O) → DJ ((q0, accObj dq0 [] nq0) :: (q1, accObj dq1 [] nq1) :: O) → Tp mean mg mb h₀ → 
    m (Str.ofString "piles") = some (.ref pv) → (pv, W.listOf [Value.ref q0, .ref q1].toArray np) ∈ O → (dq0, accD w td0) ∈ O → (dq1, accD w td1) ∈ O →
    dp + (2 + 2) * 4 < recursionLimit → un + (2 + 2) * 12 < cLine →
    (∀ (h' : Heap) (tk' : Nat) (lr e0 e1 : Addr) (nl n0 n1 : Nat) (t1 t2 t3 t4 : Tok) (O' : Led), Fr h₀ L h' m → News h₀ L h' ((lr, W.listOf [Value.ref e0, .ref e1].toArray nl) :: (e0, tupObj [.str (Str.ofString "") t1, .str (Str.ofString "") t2]) :: (e1, tupObj [.str (Str.ofString "") t3, .str (Str.ofString "") t4]) :: (O' ++ ((q0, accObj dq0 [] n0) :: (q1, accObj dq1 [] n1) :: O))) → DJ ((lr, W.listOf [Value.ref e0, .ref e1].toArray nl) :: (e0, tupObj [.str (Str.ofString "") t1, .str (Str.ofString "") t2]) :: (e1, tupObj [.str (Str.ofString "") t3, .str (Str.ofString "") t4]) :: (O' ++ ((q0, accObj dq0 [] n0) :: (q1, accObj dq1 [] n1) :: O))) →
      Q (.ret (.ref lr)) { s with heap := h', toks := tk' }) →
    wpAny (model PySem.Challenge.pw_xj0013_01 w) ((ktrTop dp un gd cn cs Lc b ccd cl outer).deeper (envOf (Str.ofString "_law_shuffle") (fnScope w.params 215) L 215 (.ref 214))) (execs ((fnBody w.params 215).drop 14) (envOf (Str.ofString "_law_shuffle") (fnScope w.params 215) L 215 (.ref 214))) Q E s := by
  k_fill; intro _ _ dp un gd cn cs b ccd cl outer base h₀ L Lc m s Q E hB hF hX hN hD hT hpl mpv md0 md1 hdp hun hret
  have e1 := (rfl : (fnBody w.params 215).drop 14 = (fnBody w.params 215).drop 14)
  conv at e1 => rhs; whnf
  have e2 := (rfl : fnScope w.params 215 = fnScope w.params 215)
  conv at e2 => rhs; whnf
  rw [e1, e2]
  clear e1 e2
  repeat ((fail_if_success (with_reducible show wpAny _ _ (PySem.getMethod _ _ _) _ _ _)); walk1; try dsimp only)
  (rename Fr _ _ _ _ => F1); (rename News _ _ _ _ => N1)
  refine acc_getMethod_f (dx := dq0) (tk := td0) (hX.keeps F1.keep) (N1 _ (.tail _ (.tail _ (.tail _ (.head _))))).1 (N1 _ (.tail _ (.tail _ (.tail _ (.tail _ (.tail _ md0)))))).1 (by k_is) (by k_is) (by kernel_rfl) ?_
  repeat ((fail_if_success (with_reducible show wpAny _ _ (PySem.call (Value.ref 61) _) _ _ _)); walk1; try dsimp only)
  (rename (_ ∧ _ ∧ LCg.Off3 _ _ _ _) => offX); (rename (_ ≠ _ ∧ _ ≠ _ ∧ _ ≠ _) => neX)
  have offA : ∀ p ∈ (q0, accObj dq0 [] nq0) :: (q1, accObj dq1 [] nq1) :: O, p.1 ≠ _ ∧ p.1 ≠ _ ∧ p.1 ≠ _ := fun p hp => LCg.Off3.mem (l := (q0, accObj dq0 [] nq0) :: (q1, accObj dq1 [] nq1) :: O) offX p hp
  have D1 := DJ.comp (oi := emptyDict) (oc := emptyDict) (od := emptyDict) neX offA hD
  (rename Fr _ _ _ _ => F1)
  refine claim_frame (pop_none_w q0 dq0 nq0 rfl rfl) (fun v post extra h => by obtain ⟨_, _, _, -, rfl, rfl⟩ := h; exact ⟨rfl, DJ.one _⟩) [_, _, _] [] ((q1, accObj dq1 [] nq1) :: O) (dp + 1) (un + 3) gd _ _ _ _ _ _ _ _ _ _ _ _ _ _ hB F1 hX N1 (DJ.same rfl D1) ⟨td0, .tail _ (.tail _ (.tail _ (.tail _ md0)))⟩ hT rfl (by (exact om55 hdp)) (by (exact om54 hun)) ?_
  rintro v6 post6 extra6 h6 tk6 - F6 N6 D6 ⟨e0, t1, t2, rfl, rfl, rfl⟩
  repeat (walk1; try dsimp only)
  have dI := DJ.off (a := [_]) (b := _ :: _ :: _) D6 _ (.head _)
  have dC := DJ.off (a := [_]) (DJ.right (a := [_]) D6) _ (.head _)
  have dD := DJ.off (a := [_]) (DJ.right (a := [_, _]) D6) _ (.head _)
  refine LCg.CompEnd.intro F6 N6 ((q0, accObj dq0 [] nq0) :: (e0, tupObj [Value.str (Str.ofString "") t1, Value.str (Str.ofString "") t2]) :: (q1, accObj dq1 [] nq1) :: O) (fun p hp => hp) ⟨offA _ (.head _), ⟨dI _ (.tail _ (.tail _ (.tail _ (.head _)))), dC _ (.tail _ (.tail _ (.head _))), dD _ (.tail _ (.head _))⟩, offX.2⟩ ?hS ?r
  case hS =>
    exact .inr ⟨_, .tail _ (.tail _ (.tail _ mpv)), rfl, _, rfl⟩
  case r =>
    refine LCg.CompRest.succ fun v I oI C oC D m₂ h tk E' hP hC hx F N off ne => ?_
    have hv : v = Value.ref q1 := (Option.some.inj hP).symm
    subst hv
    repeat ((fail_if_success (with_reducible show wpAny _ _ (PySem.getMethod _ _ _) _ _ _)); walk1; try dsimp only)
    (rename Fr _ _ _ _ => F7); (rename News _ _ _ _ => N7)
    refine acc_getMethod_f (dx := dq1) (tk := td1) (hX.keeps F7.keep) (N7 _ (.tail _ (.tail _ (.tail _ (.tail _ (.tail _ (.head _))))))).1 (N7 _ (.tail _ (.tail _ (.tail _ (.tail _ (.tail _ (.tail _ md1))))))).1 (by k_is) (by k_is) (by kernel_rfl) ?_
    repeat ((fail_if_success (with_reducible show wpAny _ _ (PySem.call (Value.ref 61) _) _ _ _)); walk1; try dsimp only)
    (rename Fr _ _ _ _ => F8)
    have D7 : DJ ((q0, accObj dq0 [] nq0) :: (e0, tupObj [Value.str (Str.ofString "") t1, Value.str (Str.ofString "") t2]) :: (q1, accObj dq1 [] nq1) :: O) := DJ.right (a := [_, _, _]) D6
    have D8 := DJ.comp (oi := emptyDict) (oc := emptyDict) (od := emptyDict) ne (fun p hp => LCg.Off3.mem off p hp) D7
    refine claim_frame (pop_none_w q1 dq1 nq1 rfl rfl) (fun v post extra h => by obtain ⟨_, _, _, -, rfl, rfl⟩ := h; exact ⟨rfl, DJ.one _⟩) [_, _, _, _, _] [] O (dp + 1) (un + 3) gd _ _ _ _ _ _ _ _ _ _ _ _ _ _ hB F8 hX N7 (DJ.same rfl D8) ⟨td1, .tail _ (.tail _ (.tail _ (.tail _ (.tail _ md1))))⟩ hT rfl (by (exact om55 hdp)) (by (exact om54 hun)) ?_
    rintro v9 post9 extra9 h9 tk9 - F9 N9 D9 ⟨e1, t3, t4, rfl, rfl, rfl⟩
    repeat (walk1; try dsimp only)
    have PC := permC (e0, tupObj [Value.str (Str.ofString "") t1, Value.str (Str.ofString "") t2]) (e1, tupObj [Value.str (Str.ofString "") t3, Value.str (Str.ofString "") t4]) (q0, accObj dq0 [] nq0) (q1, accObj dq1 [] nq1) O
    have cI := DJ.off (a := [_]) D9 _ (.head _)
    have cC := DJ.off (a := [_]) (DJ.right (a := [_]) D9) _ (.head _)
    have cD := DJ.off (a := [_]) (DJ.right (a := [_, _]) D9) _ (.head _)
    have DZ := (DJ.right (a := [_, _, _]) D9).perm PC
    refine LCg.CompEnd.intro F9 N9 _ (fun p hp => ?_) (LCg.Off3.of fun p hp => ⟨cI p (.tail _ (.tail _ (PC.mem_iff.mpr hp))), cC p (.tail _ (PC.mem_iff.mpr hp)), cD p (PC.mem_iff.mpr hp)⟩) (.inr ⟨_, .tail _ (.tail _ (.tail _ (.tail _ mpv))), rfl, _, rfl⟩) ?_
    · exact ((PC.cons _).cons _ |>.cons _).mem_iff.mpr hp
    · refine LCg.CompRest.zero ?_
      intro D h' tk' F N off1
      exact hret h' tk' D e0 e1 _ nq0 nq1 t1 t2 t3 t4 [] F N (DJ.cons (off1_mem off1) DZ)
end

section
open PySem PySem.W PyProof.Rows PySem.Calls PySem.Spec Builtin Builtin.ObjectAttr Builtin.Str
theorem tokU_nil (acc : List Nat) : tokU acc [] = (acc, []) := by unfold tokU; rfl
theorem tokU_w2 {c : Nat} (acc r : List Nat) (h : isW c = true) : tokU acc (c :: r) = (acc, r) := by
  unfold tokU; rw [if_pos h]
theorem tokU_b2 (acc : List Nat) (d : Nat) (r : List Nat) : tokU acc (92 :: d :: r) = tokU (acc ++ [d]) r := by
  conv => lhs; unfold tokU
  rw [if_neg (by decide), if_pos rfl]
theorem tokU_c2 {c : Nat} (acc r : List Nat) (h : isW c = false) (h2 : c ≠ 92) : tokU acc (c :: r) = tokU (acc ++ [c]) r := by
  conv => lhs; unfold tokU
  rw [if_neg (by rw [h]; decide), if_neg h2]
theorem tokQ_q2 (acc r : List Nat) : tokQ acc (34 :: r) = (acc, r) := by
  unfold tokQ; rw [if_pos rfl]
theorem tokQ_b2 (acc : List Nat) (d : Nat) (r : List Nat) : tokQ acc (92 :: d :: r) = tokQ (acc ++ [d]) r := by
  conv => lhs; unfold tokQ
  rw [if_neg (by decide), if_pos rfl]
theorem tokQ_c2 {c : Nat} (acc r : List Nat) (h : c ≠ 34) (h2 : c ≠ 92) : tokQ acc (c :: r) = tokQ (acc ++ [c]) r := by
  conv => lhs; unfold tokQ
  rw [if_neg h, if_neg h2]
theorem tokS_q2 (r : List Nat) : tokS (34 :: r) = tokQ [] r := by
  conv => lhs; unfold tokS
  rw [if_neg (by decide), if_pos rfl]
theorem tokS_b2 (d : Nat) (r : List Nat) : tokS (92 :: d :: r) = tokU [d] r := by
  conv => lhs; unfold tokS
  rw [if_neg (by decide), if_neg (by decide), if_pos rfl]
theorem tokS_c2 {c : Nat} (r : List Nat) (h : isW c = false) (h2 : c ≠ 34) (h3 : c ≠ 92) : tokS (c :: r) = tokU [c] r := by
  conv => lhs; unfold tokS
  rw [if_neg (by rw [h]; decide), if_neg h2, if_neg h3]
noncomputable def escB (way c : Nat) : Bool := way == 0 || c == 92 || (c == 34 && way == 1) || (way == 2 && isW c)
noncomputable def wrB (way : Nat) : List Nat → List Nat
  | [] => []
  | c :: r => (if escB way c then [92, c] else [c]) ++ wrB way r
theorem wrL_B (way : Nat) : ∀ (word acc : List Nat), (acc ≠ [] ∨ way < 2) → wrL way acc word = acc ++ wrB way word
  | [], acc, _ => by simp [wrL, wrB]
  | c :: r, acc, h => by
    rw [wrL, wrL_B way r _ (.inl (by simp)), wrB]
    have e : esc way acc c = escB way c := by
      unfold esc escB
      rcases h with h | h
      · have : (acc == []) = false := by simpa using h
        rw [this, Bool.or_false]
      · rcases (show way = 0 ∨ way = 1 by (exact om115 h)) with rfl | rfl <;> simp
    rw [e]
    split <;> simp
theorem tokU_wr (way : Nat) (hw : way = 0 ∨ way = 2) : ∀ (word acc r : List Nat), (r = [] ∨ ∃ w r', isW w = true ∧ r = w :: r') → tokU acc (wrB way word ++ r) = (acc ++ word, r.tail)
  | [], acc, r, h => by
    rcases h with rfl | ⟨w, r', h, rfl⟩
    · simp [wrB, tokU_nil]
    · simp [wrB, tokU_w2 _ _ h]
  | c :: x, acc, r, h => by
    rw [wrB]
    by_cases e : escB way c = true
    · rw [if_pos e]
      show tokU acc (92 :: c :: (wrB way x ++ r)) = _
      rw [tokU_b2, tokU_wr way hw x _ r h]
      simp
    · rw [if_neg e]
      show tokU acc (c :: (wrB way x ++ r)) = _
      have e2 : isW c = false ∧ c ≠ 92 := by
        rcases hw with rfl | rfl
        · simp [escB] at e
        · simp [escB] at e; exact ⟨by simpa using e.2, e.1⟩
      rw [tokU_c2 _ _ e2.1 e2.2, tokU_wr way hw x _ r h]
      simp
theorem tokQ_wr : ∀ (word acc r : List Nat), tokQ acc (wrB 1 word ++ 34 :: r) = (acc ++ word, r)
  | [], acc, r => by simp [wrB, tokQ_q2]
  | c :: x, acc, r => by
    rw [wrB]
    by_cases e : escB 1 c = true
    · rw [if_pos e]
      show tokQ acc (92 :: c :: (wrB 1 x ++ 34 :: r)) = _
      rw [tokQ_b2, tokQ_wr x _ r]
      simp
    · rw [if_neg e]
      show tokQ acc (c :: (wrB 1 x ++ 34 :: r)) = _
      have e2 : c ≠ 34 ∧ c ≠ 92 := by
        simp [escB] at e; exact ⟨e.2, e.1⟩
      rw [tokQ_c2 _ _ e2.1 e2.2, tokQ_wr x _ r]
      simp
theorem tok_written (way : Nat) (hw : way < 3) (word r : List Nat) (hne : word ≠ []) (h : r = [] ∨ ∃ w r', isW w = true ∧ r = w :: r') : ∃ r2, tokS (writtenV way word ++ r) = (word, r2) ∧ tokS r2 = tokS r := by
  obtain ⟨c, x, rfl⟩ : ∃ c x, word = c :: x := by
    cases word with
    | nil => exact absurd rfl hne
    | cons c x => exact ⟨c, x, rfl⟩
  have ht : tokS r.tail = tokS r := by
    rcases h with rfl | ⟨w, r', h, rfl⟩
    · rfl
    · exact (tokS_w h).symm
  rcases (show way = 0 ∨ way = 1 ∨ way = 2 by (exact om69 hw)) with rfl | rfl | rfl
  · refine ⟨r.tail, ?_, ht⟩
    unfold writtenV
    rw [if_neg (by decide), wrL_B 0 _ _ (.inr (by decide)), List.nil_append, wrB, if_pos (by simp [escB])]
    show tokS (92 :: c :: (wrB 0 x ++ r)) = _
    rw [tokS_b2, tokU_wr 0 (.inl rfl) x _ r h]
    rfl
  · refine ⟨r, ?_, rfl⟩
    unfold writtenV
    rw [if_pos rfl, wrL_B 1 _ _ (.inr (by decide)), List.nil_append]
    show tokS (34 :: ((wrB 1 (c :: x) ++ [34]) ++ r)) = _
    rw [tokS_q2, List.append_assoc]
    exact tokQ_wr (c :: x) [] r
  · refine ⟨r.tail, ?_, ht⟩
    unfold writtenV
    rw [if_neg (by decide), wrL]
    by_cases e : esc 2 [] c = true
    · rw [if_pos e, wrL_B 2 _ _ (.inl (by simp))]
      show tokS (92 :: c :: (wrB 2 x ++ r)) = _
      rw [tokS_b2, tokU_wr 2 (.inr rfl) x _ r h]
      rfl
    · rw [if_neg e, wrL_B 2 _ _ (.inl (by simp))]
      show tokS (c :: (wrB 2 x ++ r)) = _
      have e2 : c ≠ 92 ∧ c ≠ 34 ∧ isW c = false := by
        simp [esc] at e; exact ⟨e.1.1, e.1.2, e.2⟩
      rw [tokS_c2 _ e2.2.2 e2.2.1 e2.1, tokU_wr 2 (.inr rfl) x _ r h]
      rfl
/-- the text yields the words ts, then the empty word for ever -/
noncomputable def Toks : List Nat → List (List Nat) → Prop
  | r, [] => tokS r = ([], [])
  | r, t :: ts => (tokS r).1 = t ∧ Toks (tokS r).2 ts
theorem Toks.congr {r r' : List Nat} (e : tokS r = tokS r') : ∀ {ts : List (List Nat)}, Toks r ts → Toks r' ts
  | [], h => by unfold Toks at *; rw [← e]; exact h
  | _ :: _, h => by unfold Toks at *; rw [← e]; exact h
theorem isW_wh (k : Nat) (h : k < 4) : isW (wh k) = true := by
  rcases (show k = 0 ∨ k = 1 ∨ k = 2 ∨ k = 3 by (exact om80 h)) with rfl | rfl | rfl | rfl <;> rfl
theorem toks_written {way : Nat} (hw : way < 3) {word r : List Nat} {ts : List (List Nat)} (hne : word ≠ []) (h : r = [] ∨ ∃ w r', isW w = true ∧ r = w :: r') (ht : Toks r ts) : Toks (writtenV way word ++ r) (word :: ts) := by
  obtain ⟨r2, e1, e2⟩ := tok_written way hw word r hne h
  unfold Toks
  rw [e1]
  exact ⟨rfl, ht.congr e2.symm⟩
theorem toks_file (way : Nat) : ∀ (os : List Nat) (k : Nat), Toks (fileL way k os) (os.map fun o => [sg o])
  | [], k => by simp [fileL, Toks, tokS]
  | o :: r, k => by
    rw [fileL, List.map_cons]
    have hw := isW_wh ((way / 3 + k) % 4) (Nat.mod_lt _ (by decide))
    exact toks_written (Nat.mod_lt _ (by decide)) (by simp) (.inr ⟨_, _, hw, rfl⟩) ((toks_file way r (k + 1)).congr (tokS_w hw).symm)
end

section
open PySem PySem.W PyProof.Rows PySem.Calls PySem.Spec Builtin Builtin.ObjectAttr Builtin.Str
set_option maxHeartbeats 2000000
noncomputable def placeN (p half k : Nat) : Nat := 2 * (if k / (p / half + 1) % 2 = 1 then half - 1 - p % half else p % half) + (p / half + k / 4) % 2
theorem place_eq (p half k : Nat) (hh : half = 2 ∨ half = 4) (hp : p < 2 * half) (hk : k < 8) : placeV p half k = (placeN p half k : Nat) := by
  rcases hh with rfl | rfl
  · have : ∀ p : Nat, p < 4 → ∀ k : Nat, k < 8 → placeV p (2 : Nat) k = (placeN p 2 k : Nat) := by decide +kernel
    exact this p hp k hk
  · have : ∀ p : Nat, p < 8 → ∀ k : Nat, k < 8 → placeV p (4 : Nat) k = (placeN p 4 k : Nat) := by decide +kernel
    exact this p hp k hk
noncomputable def shufP (half k : Nat) (X : List (Str × Str)) : List (Str × Str) :=
  deckUp (k / 4) (if k % 2 = 1 then (X.take half).reverse else X.take half) (if k / 2 % 2 = 1 then (X.drop half).reverse else X.drop half) (2 * half)
theorem len4 {α : Type} {X : List α} (h : X.length = 4) : ∃ a b c d, X = [a, b, c, d] := by
  match X, h with
  | [a, b, c, d], _ => exact ⟨a, b, c, d, rfl⟩
theorem len8 {α : Type} {X : List α} (h : X.length = 8) : ∃ a b c d e f g i, X = [a, b, c, d, e, f, g, i] := by
  match X, h with
  | [a, b, c, d, e, f, g, i], _ => exact ⟨a, b, c, d, e, f, g, i, rfl⟩
theorem lt4 {p : Nat} (h : p < 4) : p = 0 ∨ p = 1 ∨ p = 2 ∨ p = 3 := by (exact om80 h)
theorem lt8 {p : Nat} (h : p < 8) : p = 0 ∨ p = 1 ∨ p = 2 ∨ p = 3 ∨ p = 4 ∨ p = 5 ∨ p = 6 ∨ p = 7 := by (exact om133 h)
theorem shufP_at (half k : Nat) (hh : half = 2 ∨ half = 4) (hk : k < 8) (X : List (Str × Str)) (hX : X.length = 2 * half) : (shufP half k X).length = 2 * half ∧ ∀ p, p < 2 * half → (shufP half k X)[placeN p half k]? = X[p]? := by
  rcases hh with rfl | rfl
  · obtain ⟨a, b, c, d, rfl⟩ := len4 hX
    rcases lt8 hk with rfl | rfl | rfl | rfl | rfl | rfl | rfl | rfl <;>
      exact ⟨by kernel_rfl, fun p hp => by rcases lt4 hp with rfl | rfl | rfl | rfl <;> kernel_rfl⟩
  · obtain ⟨a, b, c, d, e, f, g, i, rfl⟩ := len8 hX
    rcases lt8 hk with rfl | rfl | rfl | rfl | rfl | rfl | rfl | rfl <;>
      exact ⟨by kernel_rfl, fun p hp => by rcases lt8 hp with rfl | rfl | rfl | rfl | rfl | rfl | rfl | rfl <;> kernel_rfl⟩
end

section
open PySem PySem.W PyProof.Rows PySem.Calls PySem.Spec Builtin Builtin.ObjectAttr Builtin.Str
set_option maxHeartbeats 3000000
variable {w : World} {mean : ExcName → Option Value} {mg mb : Str → Option Value}
theorem pz1 {α : Type} (K A B R : List α) : ((K ++ (A ++ B)) ++ R).Perm (A ++ (B ++ (K ++ R))) := by
  classical
  rw [List.perm_iff_count]; intro a; simp only [List.count_append]; (exact om192)
theorem pz2 {α : Type} (S A B K R : List α) : (S ++ (A ++ (B ++ (K ++ R)))).Perm (K ++ (S ++ (A ++ (B ++ R)))) := by
  classical
  rw [List.perm_iff_count]; intro a; simp only [List.count_append]; (exact om191)
theorem pz3 {α : Type} (B T K X : List α) : (B ++ (T ++ (K ++ X))).Perm (T ++ (K ++ (B ++ X))) := by
  classical
  rw [List.perm_iff_count]; intro a; simp only [List.count_append]; (exact om190)
theorem pz6 {α : Type} (V Q1 Q0 D HL T K B2 B3 BB S A B R : List α) : (V ++ (Q1 ++ (Q0 ++ (D ++ (HL ++ (T ++ (K ++ (B2 ++ (B3 ++ (BB ++ (S ++ (A ++ (B ++ R))))))))))))).Perm ((Q0 ++ A) ++ ((Q1 ++ B) ++ (K ++ ((V ++ (D ++ (HL ++ (T ++ (B2 ++ (B3 ++ (BB ++ S))))))) ++ R)))) := by
  classical
  rw [List.perm_iff_count]; intro a; simp only [List.count_append]; (exact om189)
theorem pz7 {α : Type} (Q0 A Q1 B X K O : List α) : ((Q0 ++ A) ++ ((Q1 ++ B) ++ (X ++ (K ++ O)))).Perm ((Q0 ++ A) ++ ((Q1 ++ B) ++ (K ++ (X ++ O)))) := by
  classical
  rw [List.perm_iff_count]; intro a; simp only [List.count_append]; (exact om188)
theorem pz8 {α : Type} (Q0 A Q1 B X : List α) : ((Q0 ++ A) ++ ((Q1 ++ B) ++ X)).Perm (Q0 ++ (Q1 ++ (A ++ (B ++ X)))) := by
  classical
  rw [List.perm_iff_count]; intro a; simp only [List.count_append]; (exact om187)
theorem pz9 {α : Type} (N3 O3 Q A B K O2 O1 Z R : List α) : (N3 ++ (O3 ++ (Q ++ (A ++ (B ++ (K ++ (O2 ++ (O1 ++ (Z ++ R))))))))).Perm ((K ++ (A ++ B)) ++ ((N3 ++ (O3 ++ (Q ++ (O2 ++ (O1 ++ Z))))) ++ R)) := by
  classical
  rw [List.perm_iff_count]; intro a; simp only [List.count_append]; (exact om186)
inductive ShRd (w : World) (a0 a1 : Lx) (ocr0 ocr1 : Obj) (P : Led) (dxk ll lo : Addr) (nl' no : Nat) (xs os : List Value) (cds : List (Str × Str)) (rest : Led) : Prop
  | mk (hD : DJ (P ++ rest)) (h1 : ∀ q ∈ a0.imm w, q ∈ rest) (h2 : (a0.cr, ocr0) ∈ rest) (h3 : ∀ q ∈ a1.imm w, q ∈ rest) (h4 : (a1.cr, ocr1) ∈ rest) (h5 : ∃ tk, (dxk, accD w tk) ∈ rest) (h6 : (ll, W.listOf [.ref a0.ix, .ref a1.ix].toArray nl') ∈ rest) (h7 : (lo, W.listOf os.toArray no) ∈ rest) (ho : Cards rest os cds) (hx : Cards rest xs cds)
inductive ShPost (w : World) (a0 a1 : Lx) (dk dxk : Addr) (half k : Nat) (cds : List (Str × Str)) (ln0 ln1 : Int) (p0 p1 : Nat) (r0 r1 : List Nat) (v' : Value) (post extra : Led) : Prop
  | mk (lr e0 e1 : Addr) (nr : Nat) (t1 t2 t3 t4 tl0' tp0' tl1' tp1' : Tok) (m0 m1 n20' n21' p0' p1' nk' : Nat) (Y : List Value) (h0 : remOf a0.x p0' = r0) (h1 : remOf a1.x p1' = r1) (ev : v' = .ref lr)
    (ep : post = [(dk, accObj dxk Y nk')] ++ (a0.mut w (ln0 + nl (remOf a0.x p0) - nl r0) tl0' [] m0 p0' tp0' n20' ++ a1.mut w (ln1 + nl (remOf a1.x p1) - nl r1) tl1' [] m1 p1' tp1' n21')) (hD : DJ extra)
    (hl : (lr, W.listOf [Value.ref e0, .ref e1].toArray nr) ∈ extra) (he0 : (e0, tupObj [.str (Str.ofString "") t1, .str (Str.ofString "") t2]) ∈ extra) (he1 : (e1, tupObj [.str (Str.ofString "") t3, .str (Str.ofString "") t4]) ∈ extra) (hc : Cards extra Y (shufP half k cds))
theorem shuffle_w (a0 a1 : Lx) (ok0 : a0.Ok) (ok1 : a1.Ok) (ocr0 ocr1 : Obj) (hcr0 : CodeOk ocr0) (hcr1 : CodeOk ocr1) (hz0 : a0.x.length < 2000) (hz1 : a1.x.length < 2000) (hy0 : 2 ≤ a0.x.length) (hy1 : 2 ≤ a1.x.length)
    (ln0 ln1 : Int) (tl0 tl1 tp0 tp1 : Tok) (n10 n20 n11 n21 p0 p1 : Nat) (dk dxk ll lo : Addr) (nk nl' no : Nat) (xs os : List Value) (cds : List (Str × Str)) (half k : Nat) (hhalf : half = 2 ∨ half = 4) (hk8 : k < 8) (hcs : cds.length = 2 * half) (hbl : ∀ c ∈ cds, c.1 = Str.ofString " ") (hok : ∀ c ∈ cds, PyData.strOk c.1 = true ∧ PyData.strOk c.2 = true)
    (r0 r1 : List Nat) (hr0 : tokS (remOf a0.x p0) = ([sg (k % 2)], r0)) (hr1 : tokS (remOf a1.x p1) = ([sg (k / 2)], r1)) : PySem.Challenge.rw_xj0013_01 = PySem.Challenge.rw_xj0013_01 → hd.heap_1 = hd.heap_1 →
    ClaimL w mean mg mb 3 (.ref 215) [.ref dk, .ref ll, .ref lo] ([(dk, accObj dxk xs nk)] ++ (a0.mut w ln0 tl0 [] n10 p0 tp0 n20 ++ a1.mut w ln1 tl1 [] n11 p1 tp1 n21))
    (ShRd w a0 a1 ocr0 ocr1 ([(dk, accObj dxk xs nk)] ++ (a0.mut w ln0 tl0 [] n10 p0 tp0 n20 ++ a1.mut w ln1 tl1 [] n11 p1 tp1 n21)) dxk ll lo nl' no xs os cds)
    (ShPost w a0 a1 dk dxk half k cds ln0 ln1 p0 p1 r0 r1) := by
  k_fill; intro _ _ dp un gd cn cs b ccd cl outer A₀ base h₀ L m rest s Q E hB hF hX hN hO hR hT hk hdp hun hret
  obtain ⟨hD, him0, hcm0, him1, hcm1, ⟨tkd, hdx⟩, hll, hlo, hco, hcx⟩ := hR
  refine wpAny_call ?_
  k_dflt cell_enter
  have e1 : fnBody w.params 215 = fnBody w.params 215 := rfl
  conv at e1 => rhs; whnf
  have e2 : fnScope w.params 215 = fnScope w.params 215 := rfl
  conv at e2 => rhs; whnf
  rw [← e1, ← e2]
  clear e1 e2
  rename_i g1 L1 h1 FG F1 N1 B1 X1 T1
  refine gentoks (T0 := 1) (show 1 ≤ s.toks + 3 by (exact om185)) ?_
  intro tkA hTA
  dsimp only
  have hxl : xs.length = 2 * half := by rw [hcx.length, hcs]
  have hh5 : half < 5 := by (exact om184 hhalf)
  have hu2 : k % 2 < 2 := Nat.mod_lt _ (by decide)
  have hl4 : k / 2 < 4 := by (exact om183 hk8)
  have hsp : k / 2 % half < half := Nat.mod_lt _ (by (exact om182 hhalf))
  have PZ1 := pz1 [(dk, accObj dxk xs nk)] (a0.mut w ln0 tl0 [] n10 p0 tp0 n20) (a1.mut w ln1 tl1 [] n11 p1 tp1 n21) rest
  have mk : ∀ {q : Addr × Obj}, q ∈ rest → q ∈ [(dk, accObj dxk xs nk)] ++ rest := fun h => List.mem_append_right _ h
  refine shuf20 a0 a1 ok0 ok1 ocr0 ocr1 hcr0 hcr1 hz0 hz1 hy0 hy1 ln0 ln1 tl0 tl1 tp0 tp1 n10 n20 n11 n21 p0 p1 ll nl' (k % 2) (k / 2) (by (exact om181)) hl4 r0 r1 hr0 hr1 rfl rfl dp un gd cn cs b ccd cl outer base g1 L1 L _ ([(dk, accObj dxk xs nk)] ++ rest) _ _ _ B1 F1 X1 (cb_drop N1 fun p hp => PZ1.mem_iff.mpr hp) (hD.perm PZ1) T1 hTA (by kernel_rfl) (mk hll) (fun q hq => mk (him0 q hq)) (mk hcm0) (fun q hq => mk (him1 q hq)) (mk hcm1) (by (exact om180 hdp)) (by (exact om179 hun)) ?_
  intro h2 tk2 m2 sl SG tl0' tp0' tl1' tp1' tu tl n20' n21' p0' p1' hp0 hp1 F2 N2 D2 hup2 hlo2 hm2
  have dkm : m2 (Str.ofString "deck") = some (.ref dk) := by rw [hm2 _ (by decide +kernel) (by decide +kernel) (by decide +kernel)]; kernel_rfl
  have lxm : m2 (Str.ofString "lexers") = some (.ref ll) := by rw [hm2 _ (by decide +kernel) (by decide +kernel) (by decide +kernel)]; kernel_rfl
  have orm : m2 (Str.ofString "order") = some (.ref lo) := by rw [hm2 _ (by decide +kernel) (by decide +kernel) (by decide +kernel)]; kernel_rfl
  clear hm2 F1 N1 PZ1
  generalize hA : a0.mut w (ln0 + nl (remOf a0.x p0) - nl r0) tl0' [] n10 p0' tp0' n20' = A at *
  generalize hB' : a1.mut w (ln1 + nl (remOf a1.x p1) - nl r1) tl1' [] n11 p1' tp1' n21' = B at *
  have PZ2 := pz2 [(sl, SG)] A B [(dk, accObj dxk xs nk)] rest
  have m1 : ∀ {q : Addr × Obj}, q ∈ rest → q ∈ [(sl, SG)] ++ (A ++ (B ++ rest)) := fun h => List.mem_append_right _ (List.mem_append_right _ (List.mem_append_right _ h))
  refine shuf2a dk dxk nk xs half (k % 2) (k / 2) hhalf hxl hu2 hl4 tu tl rfl rfl dp un gd cn cs b ccd cl outer base g1 L1 L _ ([(sl, SG)] ++ (A ++ (B ++ rest))) _ _ _ B1 F2 X1 (cb_drop N2 fun p hp => PZ2.mem_iff.mpr hp) (D2.perm PZ2) T1 dkm hlo2 hup2 ⟨tkd, m1 hdx⟩ (by (exact om176 hdp)) (by (exact om175 hun)) ?_
  clear F2 N2 D2 PZ2
  intro h3 tk3 m3 tnn ta tb th ts nt F3 N3 D3 htn3 hhf3 hsp3 hm3
  have dkm3 : m3 (Str.ofString "deck") = some (.ref dk) := by rw [hm3 _ (by decide +kernel) (by decide +kernel) (by decide +kernel)]; exact dkm
  have lxm3 : m3 (Str.ofString "lexers") = some (.ref ll) := by rw [hm3 _ (by decide +kernel) (by decide +kernel) (by decide +kernel)]; exact lxm
  have orm3 : m3 (Str.ofString "order") = some (.ref lo) := by rw [hm3 _ (by decide +kernel) (by decide +kernel) (by decide +kernel)]; exact orm
  have lom3 : m3 (Str.ofString "lower") = some (.int (k / 2 : Nat) tl) := by rw [hm3 _ (by decide +kernel) (by decide +kernel) (by decide +kernel)]; exact hlo2
  clear hm3 dkm lxm orm hlo2 hup2
  refine shuf2b dk dxk nk xs half (k / 2 % half) hxl hsp hh5 th ts [(tnn, W.listOf #[Value.int (k % 2 : Nat) ta, Value.int (k / 2 % 2 : Nat) tb] nt)] rfl rfl dp un gd cn cs b ccd cl outer base g1 L1 L _ ([(sl, SG)] ++ (A ++ (B ++ rest))) _ _ _ B1 F3 X1 N3 D3 T1 dkm3 hhf3 hsp3 ⟨tkd, .tail _ (m1 hdx)⟩ (by (exact om176 hdp)) (by (exact om175 hun)) ?_
  clear F3 N3 D3
  intro h4 tk4 m4 b1 b2 b3 n1 n2 n3 nk4 x1 x2 F4 N4 D4 hbl4 hm4
  have dkm4 : m4 (Str.ofString "deck") = some (.ref dk) := by rw [hm4 _ (by decide +kernel)]; exact dkm3
  have lxm4 : m4 (Str.ofString "lexers") = some (.ref ll) := by rw [hm4 _ (by decide +kernel)]; exact lxm3
  have orm4 : m4 (Str.ofString "order") = some (.ref lo) := by rw [hm4 _ (by decide +kernel)]; exact orm3
  have lom4 : m4 (Str.ofString "lower") = some (.int (k / 2 : Nat) tl) := by rw [hm4 _ (by decide +kernel)]; exact lom3
  have htn4 : m4 (Str.ofString "turned") = some (.ref tnn) := by rw [hm4 _ (by decide +kernel)]; exact htn3
  have hhf4 : m4 (Str.ofString "half") = some (.int half th) := by rw [hm4 _ (by decide +kernel)]; exact hhf3
  have hsp4 : m4 (Str.ofString "spot") = some (.int (k / 2 % half : Nat) ts) := by rw [hm4 _ (by decide +kernel)]; exact hsp3
  clear hm4 dkm3 lxm3 orm3 lom3 htn3 hhf3 hsp3
  have PZ3 := pz3 [(b3, W.listOf (xs.drop half).toArray n3)] [(tnn, W.listOf #[Value.int (k % 2 : Nat) ta, Value.int (k / 2 % 2 : Nat) tb] nt)] [(dk, accObj dxk (xs.take half) nk4)] ([(b2, W.listOf x2.toArray n2), (b1, W.listOf x1.toArray n1)] ++ ([(sl, SG)] ++ (A ++ (B ++ rest))))
  refine shuf2c dk dxk nk4 (xs.take half) (xs.drop half) b3 half (k / 2 % half) n3 (by rw [List.length_take]; (exact om174 hxl)) hsp hh5 ts [(tnn, W.listOf #[Value.int (k % 2 : Nat) ta, Value.int (k / 2 % 2 : Nat) tb] nt)] rfl rfl dp un gd cn cs b ccd cl outer base g1 L1 L _ ([(b3, W.listOf (xs.drop half).toArray n3)] ++ ([(b2, W.listOf x2.toArray n2), (b1, W.listOf x1.toArray n1)] ++ ([(sl, SG)] ++ (A ++ (B ++ rest))))) _ _ _ B1 F4 X1 (cb_drop N4 fun p hp => PZ3.mem_iff.mpr hp) (D4.perm PZ3) T1 dkm4 hbl4 (.head _) hsp4 ⟨tkd, .tail _ (.tail _ (.tail _ (.tail _ (m1 hdx))))⟩ (by (exact om176 hdp)) (by (exact om175 hun)) ?_
  clear F4 N4 D4 PZ3
  intro h5 tk5 m5 hv l0 b4 b5 nv n0 n4 n5 nk5 x3 x4 F5 N5 D5 hhv5 hm5
  have dkm5 : m5 (Str.ofString "deck") = some (.ref dk) := by rw [hm5 _ (by decide +kernel) (by decide +kernel)]; exact dkm4
  have lxm5 : m5 (Str.ofString "lexers") = some (.ref ll) := by rw [hm5 _ (by decide +kernel) (by decide +kernel)]; exact lxm4
  have orm5 : m5 (Str.ofString "order") = some (.ref lo) := by rw [hm5 _ (by decide +kernel) (by decide +kernel)]; exact orm4
  have lom5 : m5 (Str.ofString "lower") = some (.int (k / 2 : Nat) tl) := by rw [hm5 _ (by decide +kernel) (by decide +kernel)]; exact lom4
  have htn5 : m5 (Str.ofString "turned") = some (.ref tnn) := by rw [hm5 _ (by decide +kernel) (by decide +kernel)]; exact htn4
  have hhf5 : m5 (Str.ofString "half") = some (.int half th) := by rw [hm5 _ (by decide +kernel) (by decide +kernel)]; exact hhf4
  clear hm5 dkm4 lxm4 orm4 lom4 htn4 hhf4 hsp4
  have m5' : ∀ {q : Addr × Obj}, q ∈ rest → q ∈ (hv, W.listOf [Value.ref l0, .ref b3].toArray nv) :: (l0, W.listOf (xs.take half).toArray n0) :: ([(tnn, W.listOf #[Value.int (k % 2 : Nat) ta, Value.int (k / 2 % 2 : Nat) tb] nt)] ++ ([(dk, accObj dxk [] nk5)] ++ ([] ++ ([(b5, W.listOf x4.toArray n5), (b4, W.listOf x3.toArray n4)] ++ ([(b3, W.listOf (xs.drop half).toArray n3)] ++ ([(b2, W.listOf x2.toArray n2), (b1, W.listOf x1.toArray n1)] ++ ([(sl, SG)] ++ (A ++ (B ++ rest))))))))) := fun h =>
    .tail _ (.tail _ (.tail _ (.tail _ (.tail _ (.tail _ (.tail _ (.tail _ (.tail _ (m1 h)))))))))
  refine shuf2d hv l0 b3 lo nv n0 n3 no xs os cds half hcs hh5 hok th rfl rfl dp un gd cn cs b ccd cl outer base g1 L1 L _ _ _ _ _ B1 F5 X1 N5 T1 hhf5 orm5 hhv5 (.head _) (.tail _ (.head _)) (.tail _ (.tail _ (.tail _ (.tail _ (.tail _ (.tail _ (.head _))))))) (m5' hlo) (hcx.mono fun p hp => m5' hp) (hco.mono fun p hp => m5' hp) (by (exact om176 hdp)) (by (exact om175 hun)) ?_
  clear F5 N5
  intro h6 tk6 F6 N6
  refine shuf2e rfl rfl dp un gd cn cs b ccd cl outer base g1 L1 L _ _ _ _ _ B1 F6 X1 N6 D5 T1 (by (exact om176 hdp)) (by (exact om175 hun)) ?_
  clear F6 N6 D5
  intro h7 tk7 m7 pv q0 q1 d0 d1 np n6 n7 t0 t1 F7 N7 D7 hpl7 hm7
  have dkm7 : m7 (Str.ofString "deck") = some (.ref dk) := by rw [hm7 _ (by decide +kernel)]; exact dkm5
  have lxm7 : m7 (Str.ofString "lexers") = some (.ref ll) := by rw [hm7 _ (by decide +kernel)]; exact lxm5
  have lom7 : m7 (Str.ofString "lower") = some (.int (k / 2 : Nat) tl) := by rw [hm7 _ (by decide +kernel)]; exact lom5
  have htn7 : m7 (Str.ofString "turned") = some (.ref tnn) := by rw [hm7 _ (by decide +kernel)]; exact htn5
  have hhf7 : m7 (Str.ofString "half") = some (.int half th) := by rw [hm7 _ (by decide +kernel)]; exact hhf5
  have hhv7 : m7 (Str.ofString "halves") = some (.ref hv) := by rw [hm7 _ (by decide +kernel)]; exact hhv5
  clear hm7 dkm5 lxm5 lom5 htn5 hhf5 hhv5 orm5 m5'
  subst hA hB'
  let V : Led := [(pv, W.listOf [Value.ref q0, .ref q1].toArray np)]
  let DD : Led := [(d1, accD w t1), (d0, accD w t0)]
  let HL : Led := [(hv, W.listOf [Value.ref l0, .ref b3].toArray nv), (l0, W.listOf (xs.take half).toArray n0)]
  let TT : Led := [(tnn, W.listOf [Value.int (k % 2 : Nat) ta, Value.int (k / 2 % 2 : Nat) tb].toArray nt)]
  let Z : Led := V ++ (DD ++ (HL ++ (TT ++ ([(b5, W.listOf x4.toArray n5), (b4, W.listOf x3.toArray n4)] ++ ([(b3, W.listOf (xs.drop half).toArray n3)] ++ ([(b2, W.listOf x2.toArray n2), (b1, W.listOf x1.toArray n1)] ++ [(sl, SG)]))))))
  let O : Led := [(dk, accObj dxk [] nk5)] ++ (Z ++ rest)
  have hZ : ∀ {q : Addr × Obj}, q ∈ Z → q ∈ O := fun h => List.mem_append_right _ (List.mem_append_left _ h)
  have hO' : ∀ {q : Addr × Obj}, q ∈ rest → q ∈ O := fun h => List.mem_append_right _ (List.mem_append_right _ h)
  have PZ6 : List.Perm _ (((q0, accObj d0 [] n6) :: a0.mut w (ln0 + nl (remOf a0.x p0) - nl r0) tl0' [] n10 p0' tp0' n20') ++ (((q1, accObj d1 [] n7) :: a1.mut w (ln1 + nl (remOf a1.x p1) - nl r1) tl1' [] n11 p1' tp1' n21') ++ O)) := pz6 V [(q1, accObj d1 [] n7)] [(q0, accObj d0 [] n6)] DD HL TT [(dk, accObj dxk [] nk5)] [(b5, W.listOf x4.toArray n5), (b4, W.listOf x3.toArray n4)] [(b3, W.listOf (xs.drop half).toArray n3)] [(b2, W.listOf x2.toArray n2), (b1, W.listOf x1.toArray n1)] [(sl, SG)] (a0.mut w (ln0 + nl (remOf a0.x p0) - nl r0) tl0' [] n10 p0' tp0' n20') (a1.mut w (ln1 + nl (remOf a1.x p1) - nl r1) tl1' [] n11 p1' tp1' n21') rest
  have z1 : (hv, W.listOf [Value.ref l0, .ref b3].toArray nv) ∈ Z := .tail _ (.tail _ (.tail _ (.head _)))
  have z2 : (tnn, W.listOf [Value.int (k % 2 : Nat) ta, .int (k / 2 % 2 : Nat) tb].toArray nt) ∈ Z := .tail _ (.tail _ (.tail _ (.tail _ (.tail _ (.head _)))))
  have z3 : (pv, W.listOf [Value.ref q0, .ref q1].toArray np) ∈ Z := .head _
  have z4 : (l0, W.listOf (xs.take half).toArray n0) ∈ Z := .tail _ (.tail _ (.tail _ (.tail _ (.head _))))
  have z5 : (b3, W.listOf (xs.drop half).toArray n3) ∈ Z := .tail _ (.tail _ (.tail _ (.tail _ (.tail _ (.tail _ (.tail _ (.tail _ (.head _))))))))
  have z6 : (d0, accD w t0) ∈ Z := .tail _ (.tail _ (.head _))
  have z7 : (d1, accD w t1) ∈ Z := .tail _ (.head _)
  clear_value Z
  refine shuf2h q0 q1 d0 d1 np n6 n7 pv t0 t1 a0 a1 ok0 ok1 _ _ tl0' tp0' tl1' tp1' n10 n20' p0' n11 n21' p1' hv tnn l0 b3 ll nv nt n0 n3 nl' (k % 2) (k / 2 % 2) hu2 (Nat.mod_lt _ (by decide)) (xs.take half) (xs.drop half) (cds.take half) (cds.drop half) ta tb (by rw [List.length_take]; (exact om178 hh5)) (by rw [List.length_drop]; (exact om177 hhalf hcs)) O rfl rfl dp un gd cn cs b ccd cl outer base g1 L1 L _ _ _ _ B1 F7 X1 (cb_drop N7 fun p hp => PZ6.mem_iff.mpr hp) (D7.perm PZ6) T1 hhv7 htn7 hpl7 lxm7 (hZ z1) (hZ z2) (hZ z3) (hO' hll) (hZ z4) (hZ z5) (hZ z6) (hZ z7) (fun q hq => hO' (him0 q hq)) (fun q hq => hO' (him1 q hq)) ((hcx.take half).mono fun p hp => hO' hp) ((hcx.drop half).mono fun p hp => hO' hp) (by (exact om176 hdp)) (by (exact om175 hun)) ?_
  clear F7 N7 D7 PZ6
  intro h8 tk8 m8 X0 T0 Xb Tb nb0 mb0 nb1 mb1 O1 F8 N8 D8 hS0 hS1 hm8
  have dkm8 : m8 (Str.ofString "deck") = some (.ref dk) := by rw [hm8 _ (by decide +kernel) (by decide +kernel) (by decide +kernel)]; exact dkm7
  have lxm8 : m8 (Str.ofString "lexers") = some (.ref ll) := by rw [hm8 _ (by decide +kernel) (by decide +kernel) (by decide +kernel)]; exact lxm7
  have lom8 : m8 (Str.ofString "lower") = some (.int (k / 2 : Nat) tl) := by rw [hm8 _ (by decide +kernel) (by decide +kernel) (by decide +kernel)]; exact lom7
  have htn8 : m8 (Str.ofString "turned") = some (.ref tnn) := by rw [hm8 _ (by decide +kernel) (by decide +kernel) (by decide +kernel)]; exact htn7
  have hhf8 : m8 (Str.ofString "half") = some (.int half th) := by rw [hm8 _ (by decide +kernel) (by decide +kernel) (by decide +kernel)]; exact hhf7
  have hpl8 : m8 (Str.ofString "piles") = some (.ref pv) := by rw [hm8 _ (by decide +kernel) (by decide +kernel) (by decide +kernel)]; exact hpl7
  clear hm8 dkm7 lxm7 lom7 htn7 hhf7 hpl7 hhv7
  have PZ7 : List.Perm _ (((q0, accObj d0 X0 nb0) :: a0.mut w (ln0 + nl (remOf a0.x p0) - nl r0) tl0' T0 mb0 p0' tp0' n20') ++ (((q1, accObj d1 Xb nb1) :: a1.mut w (ln1 + nl (remOf a1.x p1) - nl r1) tl1' Tb mb1 p1' tp1' n21') ++ ((dk, accObj dxk [] nk5) :: (O1 ++ (Z ++ rest))))) := pz7 [(q0, accObj d0 X0 nb0)] (a0.mut w (ln0 + nl (remOf a0.x p0) - nl r0) tl0' T0 mb0 p0' tp0' n20') [(q1, accObj d1 Xb nb1)] (a1.mut w (ln1 + nl (remOf a1.x p1) - nl r1) tl1' Tb mb1 p1' tp1' n21') O1 [(dk, accObj dxk [] nk5)] (Z ++ rest)
  have hZ1 : ∀ {q : Addr × Obj}, q ∈ Z → q ∈ O1 ++ (Z ++ rest) := fun h => List.mem_append_right _ (List.mem_append_left _ h)
  have hO1 : ∀ {q : Addr × Obj}, q ∈ rest → q ∈ O1 ++ (Z ++ rest) := fun h => List.mem_append_right _ (List.mem_append_right _ h)
  have lc0 : (cds.take half).length = half := by rw [List.length_take]; (exact om174 hcs)
  have lc1 : (cds.drop half).length = half := by rw [List.length_drop]; (exact om173 hcs)
  refine shuf2k q0 q1 d0 d1 np nb0 nb1 pv t0 t1 a0 a1 ok0 ok1 _ _ tl0' tp0' tl1' tp1' mb0 n20' p0' mb1 n21' p1' dk dxk tnn ll nk5 nt nl' (k % 2) (k / 2 % 2) half (k / 2) hh5 hl4 X0 T0 Xb Tb _ _ tkd ta tb th tl (by split <;> simp only [List.length_reverse, lc0]) (by split <;> simp only [List.length_reverse, lc1])
    (fun c hc => hbl c (List.mem_of_mem_take (by split at hc; exact List.mem_reverse.mp hc; exact hc))) (fun c hc => hbl c (List.mem_of_mem_drop (by split at hc; exact List.mem_reverse.mp hc; exact hc))) (O1 ++ (Z ++ rest)) ((hS0.mono fun p hp => List.mem_append_left _ hp).toD) ((hS1.mono fun p hp => List.mem_append_left _ hp).toD) rfl rfl dp un gd cn cs b ccd cl outer base g1 L1 L _ _ _ _ B1 F8 X1 (cb_drop N8 fun p hp => PZ7.mem_iff.mpr hp) (D8.perm PZ7) T1 htn8 hpl8 lxm8 dkm8 hhf8 lom8 (hZ1 z2) (hZ1 z3) (hO1 hll) (hZ1 z6) (hZ1 z7) (hO1 hdx) (fun q hq => hO1 (him0 q hq)) (fun q hq => hO1 (him1 q hq)) (by (exact om172 hdp)) (by (exact om171 hun)) ?_
  clear F8 N8 D8 PZ7
  intro h9 tk9 m9 Y nc0 mc0 nc1 mc1 nk9 O2 F9 N9 D9 hY hm9
  have hpl9 : m9 (Str.ofString "piles") = some (.ref pv) := by rw [hm9 _ (by decide +kernel) (by decide +kernel) (by decide +kernel) (by decide +kernel)]; exact hpl8
  clear hm9 dkm8 lxm8 lom8 htn8 hhf8 hpl8
  have PZ8 : List.Perm _ ((q0, accObj d0 [] nc0) :: (q1, accObj d1 [] nc1) :: (a0.mut w (ln0 + nl (remOf a0.x p0) - nl r0) tl0' [] mc0 p0' tp0' n20' ++ (a1.mut w (ln1 + nl (remOf a1.x p1) - nl r1) tl1' [] mc1 p1' tp1' n21' ++ ((dk, accObj dxk Y nk9) :: (O2 ++ (O1 ++ (Z ++ rest))))))) := pz8 [(q0, accObj d0 [] nc0)] (a0.mut w (ln0 + nl (remOf a0.x p0) - nl r0) tl0' [] mc0 p0' tp0' n20') [(q1, accObj d1 [] nc1)] (a1.mut w (ln1 + nl (remOf a1.x p1) - nl r1) tl1' [] mc1 p1' tp1' n21') ((dk, accObj dxk Y nk9) :: (O2 ++ (O1 ++ (Z ++ rest))))
  have hZ2 : ∀ {q : Addr × Obj}, q ∈ Z → q ∈ a0.mut w (ln0 + nl (remOf a0.x p0) - nl r0) tl0' [] mc0 p0' tp0' n20' ++ (a1.mut w (ln1 + nl (remOf a1.x p1) - nl r1) tl1' [] mc1 p1' tp1' n21' ++ ((dk, accObj dxk Y nk9) :: (O2 ++ (O1 ++ (Z ++ rest))))) := fun h => List.mem_append_right _ (List.mem_append_right _ (.tail _ (List.mem_append_right _ (hZ1 h))))
  refine shuf2l q0 q1 d0 d1 np nc0 nc1 pv t0 t1 _ rfl rfl dp un gd cn cs b ccd cl outer base g1 L1 L _ _ _ _ B1 F9 X1 (cb_drop N9 fun p hp => PZ8.mem_iff.mpr hp) (D9.perm PZ8) T1 hpl9 (hZ2 z3) (hZ2 z6) (hZ2 z7) (by (exact om172 hdp)) (by (exact om171 hun)) ?_
  clear F9 N9 D9 PZ8
  intro h10 tk10 lr e0 e1 nr nd0 nd1 ta1 ta2 ta3 ta4 O3 F10 N10 D10
  dsimp only
  walk1
  clear F10 N10
  (rename Fr _ _ _ _ => FZ); (rename News _ _ _ _ => NZ)
  let N3 : Led := [(lr, W.listOf [Value.ref e0, .ref e1].toArray nr), (e0, tupObj [.str (Str.ofString "") ta1, .str (Str.ofString "") ta2]), (e1, tupObj [.str (Str.ofString "") ta3, .str (Str.ofString "") ta4])]
  have PZ9 := pz9 N3 O3 [(q0, accObj d0 [] nd0), (q1, accObj d1 [] nd1)] (a0.mut w (ln0 + nl (remOf a0.x p0) - nl r0) tl0' [] mc0 p0' tp0' n20') (a1.mut w (ln1 + nl (remOf a1.x p1) - nl r1) tl1' [] mc1 p1' tp1' n21') [(dk, accObj dxk Y nk9)] O2 O1 Z rest
  have DZ := D10.perm PZ9
  refine hret (.ref lr) _ _ h10 tk10 FZ (cb_drop NZ fun p hp => PZ9.mem_iff.mpr hp) DZ.off (DJ.off (DJ.right DZ)) ⟨lr, e0, e1, nr, ta1, ta2, ta3, ta4, tl0', tp0', tl1', tp1', mc0, mc1, n20', n21', p0', p1', nk9, Y, hp0, hp1, rfl, rfl, DJ.left (DJ.right DZ), .head _, .tail _ (.head _), .tail _ (.tail _ (.head _)), ?_⟩
  refine Cards.mono (l := O2) (fun p hp => List.mem_append_right N3 (List.mem_append_right _ (List.mem_append_right _ (List.mem_append_left _ hp)))) ?_
  unfold shufP
  rw [show k / 4 = k / 2 / 2 by (exact om170)]
  exact hY
end

section
open PySem PySem.W PyProof.Rows PySem.Calls PySem.Spec Builtin Builtin.ObjectAttr Builtin.Str
set_option maxHeartbeats 3000000
section
variable {prog : Program} {w : World} {A : Around} {s : Shared} {h₀ : Heap} {L : Addr} {m : Str → Option Value} {env : Env}
theorem Hold.of {P : Prop} (h : Hold P) : P := h
/-- a comprehension by an invariant over the turn's number, the items so far and the ledger -/
theorem CompEnd_mono {s₁ s₂ : Shared} {I C D : Addr} {oI oC oD : Obj} {S : Led → Prop} {T T' : Value → Led → Prop} {y : Value} (hy : LCg.CompEnd h₀ L m s₁ I oI C oC D oD S T y s₂) (f : ∀ n', T y n' → T' y n') : LCg.CompEnd h₀ L m s₁ I oI C oC D oD S T' y s₂ := by
  obtain ⟨h', tk', news', e, F', N', off', hS, hJ'⟩ := hy
  exact ⟨h', tk', news', e, F', N', off', hS, f _ hJ'⟩
theorem CompRest_ind {elt : Expr} {x : Str} {scope : Scope} {cl : List (Str × Addr)} {S : Led → Prop} {P : Nat → Value → Prop} {Fin : List Value → Led → Prop} {n : Nat} (J : Nat → List Value → Led → Prop)
    (step : ∀ i ys news v I oI C oC D m₂ h tk (E' : Value → Shared → Prop), i < n → J i ys news → P i v → LCg.NsObj oC m₂ → m₂ x = some v → Fr h₀ L h m → News h₀ L h ((I, oI) :: (C, oC) :: (D, LCg.lst ys) :: news) → LCg.Off3 I C D news → ((@Ne Nat I C) ∧ (@Ne Nat I D) ∧ (@Ne Nat C D)) →
      wpAny (model prog w) A (eval elt (compEnvC scope cl C env)) (LCg.CompEnd h₀ L m { s with heap := h, toks := tk } I oI C oC D (LCg.lst ys) S (fun y news' => J (i + 1) (ys ++ [y]) news')) E' { s with heap := h, toks := tk })
    (fin : ∀ ys news, J n ys news → Fin ys news) : ∀ k i ys news, i + k = n → J i ys news → LCg.CompRest prog w A h₀ L m env elt x scope cl s S P Fin k i ys news := by
  intro k
  induction k with
  | zero => exact fun i ys news (e : i = n) hJ => fin ys news (e ▸ hJ)
  | succ k ih => exact fun i ys news e hJ => LCg.CompRest.succ fun v I oI C oC D m₂ h tk E' hP hC hx F N off ne => wpAny_mono (step i ys news v I oI C oC D m₂ h tk E' (om201 e) hJ hP hC hx F N off ne) (fun y _ hy => CompEnd_mono hy fun n' => ih (i + 1) (ys ++ [y]) n' (om200 e)) fun _ _ e => e
end
theorem off3_app {I C D : Addr} {l l' : Led} (h : LCg.Off3 I C D l) (h' : ∀ p ∈ l', p.1 ≠ I ∧ p.1 ≠ C ∧ p.1 ≠ D) : LCg.Off3 I C D (l' ++ l) := LCg.Off3.of fun p hp => (List.mem_append.mp hp).elim (h' p) (LCg.Off3.mem h p)
theorem updF_of {c : Addr} {o : Obj} {B : Led} : ∀ (A : Led), DJ (A ++ (c, o) :: B) → UpdF c o (A ++ (c, o) :: B) (fun o' => A ++ (c, o') :: B)
  | [], h => .head fun p hp => DJ.off (a := [_]) h (c, o) (.head _) p hp
  | q :: A, h => .tail (Ne.symm (DJ.off (a := [_]) h q (.head _) (c, o) (List.mem_append_right _ (.head _)))) (updF_of A (DJ.right (a := [_]) h))
theorem DJ.put {c : Addr} {o o' : Obj} {A B : Led} (h : DJ (A ++ (c, o) :: B)) : DJ (A ++ (c, o') :: B) := DJ.same (by simp) h
theorem storeX_D {M : Model} {A : Around} {E : Value → Shared → Prop} {s : Shared} {h₀ : Heap} {L a : Addr} {m : Str → Option Value} {cn : Str} {cs : Scope} {ccd : Value} {cl : List (Str × Addr)} {x : Str} {v : Value} {Q : Unit → Shared → Prop} {pre post : Led} {c : Addr} {o : Obj} {v₀ : Option Value}
    (F : Fr h₀ L s.heap m) (N : News h₀ L s.heap (pre ++ (c, o) :: post)) (D : DJ (pre ++ (c, o) :: post)) (hc : cl.lookup x = some c) (hd : o.data = .cell v₀)
    (h : ∀ h' o', Fr h₀ L h' m → News h₀ L h' (pre ++ (c, o') :: post) → DJ (pre ++ (c, o') :: post) → o'.data = .cell (some v) → Q () { s with heap := h' })
    (hk : cs.kind = .function := by rfl) (hx : (envX cn cs L a ccd cl).kindOf x = some .cell := by rfl) : wpAny M A (storeName (envX cn cs L a ccd cl) x v) Q E s :=
  storeX_C F N hc (updF_of pre D) hd (fun h' o' F' N' d' => h h' o' F' N' D.put d') hk hx
/-- the deck in order: at place q the card whose place is q -/
noncomputable def orderP (cs : List Str) (ps : List Nat) : List (Str × Str) := (List.range ps.length).map fun q => (Str.ofString " ", cs.getD (ps.idxOf q) default)
theorem rng_size (n : Nat) : Builtin.Range.rangeSize 0 n 1 = (n : Int) := by
  unfold Builtin.Range.rangeSize
  rw [if_pos (by decide)]
  split <;> (first | exact om199 (by assumption) | exact om94 (by assumption))
theorem rng_small (n : Nat) (hn : n < 2 ^ 60) : Builtin.Range.small 0 n 1 = true := by
  have hf : Builtin.Range.rangeFitsLong (n : Int) = true := by simp [Builtin.Range.rangeFitsLong]; (exact om354 hn)
  unfold Builtin.Range.small
  rw [if_pos (by decide), show (n : Int) + (1 - 1) = n from by (exact om198 hn), rng_size n, hf]
  simp [show Builtin.Range.rangeFitsLong 0 = true from by decide, show Builtin.Range.rangeFitsLong 1 = true from by decide]
/-- natural numbers as values -/
noncomputable def NatsAre (vs : List Value) (ps : List Nat) : Prop := IntsAre vs (ps.map fun (p : Nat) => (p : Int))
theorem nats_can : ∀ ps : List Nat, PyData.canLayAll0 ((ps.map fun (p : Nat) => (p : Int)).map PyData.int) = true
  | [] => rfl
  | p :: ps => by
    have := nats_can ps
    simp only [List.map_cons, PyData.canLayAll0, PyData.canLay0, Bool.true_and]
    exact this
theorem nats_depth : ∀ ps : List Nat, PyData.depthAll ((ps.map fun (p : Nat) => (p : Int)).map PyData.int) = 0
  | [] => by simp [PyData.depthAll]
  | p :: ps => by
    have := nats_depth ps
    simp only [List.map_cons, PyData.depthAll, PyData.depth]
    (exact om197 this)
theorem nats_weight : ∀ ps : List Nat, (∀ q ∈ ps, q < 8) → PyData.weightAll ((ps.map fun (p : Nat) => (p : Int)).map PyData.int) ≤ 4 * ps.length
  | [], _ => by simp [PyData.weightAll]
  | p :: ps, h => by
    have h1 := nats_weight ps fun q hq => h q (.tail _ hq)
    have h2 : ∀ q : Nat, q < 8 → PyData.weight (.int (q : Nat)) ≤ 3 := by
      intro q hq
      rcases lt8 hq with rfl | rfl | rfl | rfl | rfl | rfl | rfl | rfl <;> decide +kernel
    have h3 := h2 p (h p (.head _))
    simp only [List.map_cons, PyData.weightAll, List.length_cons]
    (exact om196 h1 h3)
theorem nats_lay {ps : List Nat} (h : ∀ q ∈ ps, q < 8) (hl : ps.length ≤ 8) : PyData.layable0 (.list ((ps.map fun (p : Nat) => (p : Int)).map PyData.int)) = true := by
  have h1 := nats_can ps
  have h2 := nats_depth ps
  have h3 := nats_weight ps h
  have d1 : PyData.canLay0 (.list ((ps.map fun (p : Nat) => (p : Int)).map PyData.int)) = true := by simp only [PyData.canLay0]; exact h1
  have d2 : PyData.depth (.list ((ps.map fun (p : Nat) => (p : Int)).map PyData.int)) ≤ 64 := by simp only [PyData.depth]; (exact om195 h2)
  have d3 : PyData.weight (.list ((ps.map fun (p : Nat) => (p : Int)).map PyData.int)) ≤ 2 ^ 20 := by simp only [PyData.weight]; (exact om357 hl h3)
  unfold PyData.layable0
  rw [d1, decide_eq_true d2, decide_eq_true d3]
  rfl
theorem nats_idx (q : Nat) : ∀ ps : List Nat, (ps.map fun (p : Nat) => (p : Int)).idxOf (q : Int) = ps.idxOf q
  | [] => rfl
  | p :: ps => by
    have ih := nats_idx q ps
    simp only [List.map_cons, List.idxOf_cons, ih]
    by_cases e : p = q
    · subst e; simp
    · have e1 : ((p : Int) == (q : Int)) = false := by simp; (exact om193 e)
      have e2 : (p == q) = false := by simpa using e
      rw [e1, e2]
theorem orderP_at {cs : List Str} {ps : List Nat} {i : Nat} (hi : i < ps.length) : (orderP cs ps)[i]? = some (Str.ofString " ", cs.getD (ps.idxOf i) default) := by
  unfold orderP
  rw [List.getElem?_map, List.getElem?_range hi]
  rfl
theorem Cards.step {O : Led} {T : Addr} {ta tb : Tok} {ys : List Value} {cds : List (Str × Str)} {i : Nat} {c : Str × Str} (h : Cards O ys (cds.take i)) (hc : cds[i]? = some c) : Cards ((T, tupObj [.str c.1 ta, .str c.2 tb]) :: O) (ys ++ [.ref T]) (cds.take (i + 1)) := by
  rw [List.take_succ, hc]
  exact Cards.append (h.mono fun p hp => .tail _ hp) (.one (.head _))
end

end

section
local macro_rules | `(tactic| walk_at "CompSrc") => `(tactic| (k_here; refine Hold.of ?_))

section
open PySem PySem.W PyProof.Rows PySem.Calls PySem.Spec Builtin Builtin.ObjectAttr Builtin.Str
set_option maxHeartbeats 3000000
variable {w : World} {mean : ExcName → Option Value} {mg mb : Str → Option Value}
local macro_rules | `(tactic| walk_at "exec Assign cons ListComp") => `(tactic| (k_here; k_dflt (refine LCg.Assign_ListComp_U (F₀ := by k_asm) (by rfl) (by with_unfolding_all rfl) (by with_unfolding_all rfl) (by decide) (by rfl) (by decide) (by rfl) (by rfl) (by rfl) ?_)))
local macro_rules | `(tactic| walk_at "eval ListComp") => `(tactic| (k_here; k_dflt (refine LCg.ListComp_U (F₀ := by k_asm) (by with_unfolding_all rfl) (by decide) (by rfl) (by decide) (by rfl) ?_)))
noncomputable abbrev runEnv (w : World) (L : Addr) : Env := envOfC (Str.ofString "_law_run") (fnScope w.params 220) L 220 (.ref 219)
noncomputable abbrev RC (L : Addr) (oK oH oP oC : Obj) : Led := [(L + 1 + 1 + 1 + 1, oK), (L + 1 + 1 + 1, oH), (L + 1 + 1, oP), (L + 1, oC)]
theorem runA (lc lp : Addr) (nc np : Nat) (css : List (Str × Tok)) (vs : List Value) (ps : List Nat) (half : Nat) (hhalf : half = 2 ∨ half = 4) (hcl : css.length = 2 * half) (hps : NatsAre vs ps) (hpl : ps.length = 2 * half) (hpp : ∀ q, q < 2 * half → q ∈ ps) (hpb : ∀ q ∈ ps, q < 2 * half) : PySem.Challenge.rw_xj0013_01 = PySem.Challenge.rw_xj0013_01 → hd.heap_1 = hd.heap_1 →
  ∀ (dp un : Nat) (gd : Option (List Code)) (cn : Str) (cs : Scope) (a : Addr) (ccd : Value) (cl : List (Str × Addr)) (outer : List Env) (base h₀ : Heap) (L Lc : Addr) (m : Str → Option Value) (R : Led) (oK oH oP oC : Obj) (vH : Option Value) (s : Shared) (Q : Flow → Shared → Prop) (E : Value → Shared → Prop),
    Below (ktrTop dp un gd cn cs Lc a ccd cl outer) base (envX cn cs Lc a ccd cl :: outer) h₀ → Fr h₀ L s.heap m → (hd.heap_1 w.params).In h₀ → News h₀ L s.heap (RC L oK oH oP oC ++ R) → DJ (RC L oK oH oP oC ++ R) → Tp mean mg mb h₀ →
    oH.data = .cell vH → oP.data = .cell (some (.ref lp)) → oC.data = .cell (some (.ref lc)) → (lc, W.listOf (strVals css).toArray nc) ∈ R → (lp, W.listOf vs.toArray np) ∈ R →
    dp + (1 + 2) * 4 < recursionLimit → un + (1 + 2) * 12 < cLine →
    (∀ (h' : Heap) (tk' : Nat) (oH' : Obj) (lo : Addr) (os : List Value) (no : Nat) (O' : Led) (th : Tok), Fr h₀ L h' (fun y => if y = Str.ofString "order" then some (.ref lo) else m y) → News h₀ L h' ((lo, W.listOf os.toArray no) :: (O' ++ (RC L oK oH' oP oC ++ R))) → DJ ((lo, W.listOf os.toArray no) :: (O' ++ (RC L oK oH' oP oC ++ R))) →
      oH'.data = .cell (some (.int half th)) → Cards O' os (orderP (css.map (·.1)) ps) →
      wpAny (model PySem.Challenge.pw_xj0013_01 w) ((ktrTop dp un gd cn cs Lc a ccd cl outer).deeper (runEnv w L)) (execs ((fnBody w.params 220).drop 2) (runEnv w L)) Q E { s with heap := h', toks := tk' }) →
    wpAny (model PySem.Challenge.pw_xj0013_01 w) ((ktrTop dp un gd cn cs Lc a ccd cl outer).deeper (runEnv w L)) (execs (fnBody w.params 220) (runEnv w L)) Q E s := by
  k_fill; intro _ _ dp un gd cn cs b ccd cl outer base h₀ L Lc m R oK oH oP oC vH s Q E hB hF hX hN hD hT hH hP hC hlc hlp hdp hun hret
  have e1 : fnBody w.params 220 = fnBody w.params 220 := rfl
  conv at e1 => rhs; whnf
  have e2 : fnScope w.params 220 = fnScope w.params 220 := rfl
  conv at e2 => rhs; whnf
  have e3 : (fnBody w.params 220).drop 2 = (fnBody w.params 220).drop 2 := rfl
  conv at e3 => rhs; whnf
  unfold runEnv at *
  rw [e1, e2]
  rw [e3, e2] at hret
  clear e1 e2 e3
  repeat ((fail_if_success (with_reducible show wpAny _ _ (execs (Stmt.Assign [Expr.Name (Str.ofString "order") _] _ _ :: _) _) _ _ _)); walk1; try dsimp only)
  refine Calls.call_len_list (items := (strVals css).toArray) (isListOf hN (List.mem_append_right _ hlc)) (by simp; (exact om211 hhalf hcl)) ?_
  repeat ((fail_if_success (with_reducible show wpAny _ _ (storeName _ _ _) _ _ _)); walk1; try dsimp only)
  k_dflt (refine storeX_D (pre := [_]) hF hN hD rfl hH ?_)
  intro h1 oH' F1 N1 D1 d1
  have hfd : ((strVals css).toArray.size : Int).fdiv 2 = (half : Nat) := by
    rw [Int.fdiv_eq_ediv_of_nonneg _ (by decide), List.size_toArray, List.length_map, hcl]; (exact om210)
  rw [hfd] at d1
  replace N1 : News h₀ L h1 (RC L oK oH' oP oC ++ R) := N1
  replace D1 : DJ (RC L oK oH' oP oC ++ R) := D1
  clear hN hF hD
  repeat (walk1; try dsimp only)
  unfold Hold
  (rename IsRange _ _ _ _ _ _ _ _ => hR2); (rename Fr _ _ _ _ => F2); (rename News _ _ _ _ => N2)
  rw [show (2 * (half : Int)) = ((2 * half : Nat) : Int) by (exact om146)] at hR2
  have hol : (orderP (css.map (·.1)) ps).length = 2 * half := by simp [orderP, hpl]
  refine LCg.CompSrc.range rfl F2 N2 hR2 (rng_small _ (by (exact om359 hhalf))) (rng_size (2 * half)) (by rw [sizeLine_eq]; (exact om208 hhalf)) ?_
  intro g
  refine CompRest_ind (n := 2 * half) (fun i ys news => ∃ T : Led, news = T ++ (RC L oK oH' oP oC ++ R) ∧ DJ news ∧ Cards T ys ((orderP (css.map (·.1)) ps).take i)) ?step ?fin (2 * half) 0 [] _ (by (exact om207)) ⟨[], rfl, D1, .nil⟩
  case fin =>
    rintro ys news ⟨T, rfl, hDT, hCT⟩
    intro D h tk F N o1
    rw [List.take_of_length_le (Nat.le_of_eq hol)] at hCT
    exact hret _ _ _ D ys _ T _ F N (DJ.cons (off1_mem o1) hDT) d1 hCT
  case step =>
    rintro i ys news v I oI C oC' D m₂ h tk E' hi ⟨T, rfl, hDT, hCT⟩ ⟨t, rfl⟩ hNs hx F N off ne
    have mm : ∀ {q : Addr × Obj}, q ∈ RC L oK oH' oP oC ++ R → q ∈ (I, oI) :: (C, oC') :: (D, LCg.lst ys) :: (T ++ (RC L oK oH' oP oC ++ R)) := fun h => .tail _ (.tail _ (.tail _ (List.mem_append_right _ h)))
    have mP : (L + 1 + 1, oP) ∈ (I, oI) :: (C, oC') :: (D, LCg.lst ys) :: (T ++ (RC L oK oH' oP oC ++ R)) := mm (.tail _ (.tail _ (.head _)))
    have mC : (L + 1, oC) ∈ (I, oI) :: (C, oC') :: (D, LCg.lst ys) :: (T ++ (RC L oK oH' oP oC ++ R)) := mm (.tail _ (.tail _ (.tail _ (.head _))))
    have mlc := mm (List.mem_append_right _ hlc)
    have mlp := mm (List.mem_append_right _ hlp)
    repeat ((fail_if_success (with_reducible show wpAny _ _ (PySem.call (Value.builtin "list.index") _) _ _ _)); walk1; try dsimp only)
    rw [show (0 + (i : Int)) = ((i : Nat) : Int) by (exact om206)]
    have hip : i ∈ ps := hpp i hi
    have hix : ps.idxOf i < 2 * half := by rw [← hpl]; exact List.idxOf_lt_length_iff.mpr hip
    refine index_list_ints (ns := ps.map fun (p : Nat) => (p : Int)) (isListOf N mlp) hps (nats_lay (fun q hq => by have := hpb q hq; (exact om205 hhalf this)) (by (exact om204 hhalf hpl))) (List.mem_map.mpr ⟨i, hip, rfl⟩) ?_
    rw [nats_idx]
    obtain ⟨⟨cx, ct⟩, hcx⟩ : ∃ p, css[ps.idxOf i]? = some p := ⟨_, List.getElem?_eq_getElem (by (exact om202 hcl hix))⟩
    refine list_item (vs := strVals css) (v := .str cx ct) (isListOf N mlc) (by (exact om79)) (by (exact om358 hhalf hix)) (by simp [hcx]) ?_
    repeat (walk1; try dsimp only)
    (rename Fr _ _ _ _ => F5); (rename News _ _ _ _ => N5); (rename (_ < _ ∧ _ < _ ∧ _ < _ ∧ AllLt _ _) => l5)
    refine LCg.CompEnd.intro F5 N5 ((_, tupObj [Value.str (Str.ofString " ") tk, Value.str cx ct]) :: (T ++ (RC L oK oH' oP oC ++ R))) (by ktr_rel) ⟨⟨Nat.ne_of_gt l5.1, Nat.ne_of_gt l5.2.1, Nat.ne_of_gt l5.2.2.1⟩, off⟩ trivial ⟨(_, tupObj [Value.str (Str.ofString " ") tk, Value.str cx ct]) :: T, rfl, DJ.new (fun q hq => tb_ltOf l5.2.2.2 q hq) hDT, ?_⟩
    refine Cards.step (c := (Str.ofString " ", cx)) hCT ?_
    rw [orderP_at (by (exact om202 hpl hi))]
    simp [List.getD_eq_getElem?_getD, hcx]
end

section
open PySem PySem.W PyProof.Rows PySem.Calls PySem.Spec Builtin Builtin.ObjectAttr Builtin.Str
set_option maxHeartbeats 3000000
section
variable {prog : Program} {w : World} {A : Around} {s : Shared} {env : Env} {h₀ : Heap} {target : Expr} {body : List Stmt} {R : Result → Shared → Prop}
theorem pyIter_listG {E : Value → Shared → Prop} {l : Addr} {vs : List Value} {nl : Nat} {m : Str → Option Value} {news : Led} (hh : A.handled = none) (hl : (l, W.listOf vs.toArray nl) ∈ news)
    (F : Fr h₀ env.locals s.heap m) (N : News h₀ env.locals s.heap news) (J : Nat → (Str → Option Value) → Led → Prop) (h0 : J 0 m news) (hkeep : ∀ i m' news', J i m' news' → (l, W.listOf vs.toArray nl) ∈ news')
    (hG : AllBare s.gens)
    (step : ∀ i v m₁ news₁ h₁ tk₁ gs₁ I it, vs[i]? = some v → J i m₁ news₁ → AllBare gs₁ → Fr h₀ env.locals h₁ m₁ → News h₀ env.locals h₁ ((I, it) :: news₁) → (∀ p ∈ news₁, p.1 ≠ I) →
      ∀ (K : Flow → Shared → Prop) (KE : Value → Shared → Prop),
      (∀ {f h' tk gs m' news'}, f = .next ∨ f = .cont → AllBare gs → Fr h₀ env.locals h' m' → News h₀ env.locals h' ((I, it) :: news') → (∀ p ∈ news', p.1 ≠ I) → J (i + 1) m' news' → K f { s with heap := h', toks := tk, gens := gs }) → (∀ {v s₃}, R (.ok (.ret v)) s₃ → K (.ret v) s₃) →
      wpAny (model prog w) A (assign target env v) (fun _ s₂ => wpAny (model prog w) A (execs body env) K KE s₂) KE { s with heap := h₁, toks := tk₁, gens := gs₁ })
    (fin : ∀ h' tk' gs' m' news', AllBare gs' → Fr h₀ env.locals h' m' → News h₀ env.locals h' news' → J vs.length m' news' → R (.ok .next) { s with heap := h', toks := tk', gens := gs' }) :
    wpAny (model prog w) A (pyIter (.ref l)) (fun it s₂ => codeAny (model prog w) A (.forLoop target it body [] env) R s₂) E s := by
  have hll := (N _ hl).1
  have hlt : ∀ p ∈ news, p.1 ≠ s.heap.objs.size := fun p hp => Nat.ne_of_lt (Heap.lt_size (N p hp).1)
  have hL : s.heap.IsList l vs.toArray := ⟨_, hll, rfl, _, rfl⟩
  refine wpAny_pyIter_list hL ?_
  refine forX (keep := [(l, W.listOf vs.toArray nl)]) AllBare (Walks.list hh s.heap.objs.size l (Nat.ne_of_lt (Heap.lt_size hll)) vs.toArray) (fun i v s Q E st q => letGo_listiter st.1 q) (fun i h st => ?_) ?_ (F.push _) (fun p hp => ⟨Heap.get?_push_of_some _ (N p hp).1, (N p hp).2⟩) hlt (Nat.ne_of_lt F.ns.lt) (next_is_new F) J h0 (fun i m' n' hJ q hq => by rw [List.mem_singleton.mp hq]; exact hkeep i m' n' hJ) hG ?_ ?_
  · obtain ⟨⟨o, ho, -⟩, -⟩ := st
    exact ⟨o, ho⟩
  · exact ⟨⟨_, Heap.get?_push_size _ rfl, rfl, rfl⟩, hL.at fun o e => Heap.get?_push_of_some _ e⟩
  · intro i v m₁ news₁ h₁ tk₁ gs₁ it hi hP hJ hG₁ F₁ N₁ hI K KE hK hV
    exact step i v m₁ news₁ h₁ tk₁ gs₁ _ it (by simpa using hP) hJ hG₁ F₁ N₁ hI K KE hK hV
  · intro h' tk' gs' m' news' hG' F' N' hJ
    exact fin h' tk' gs' m' news' hG' F' N' (by simpa using hJ)
end
end

section
open PySem PySem.W PyProof.Rows PySem.Calls PySem.Spec Builtin Builtin.ObjectAttr Builtin.Str
set_option maxHeartbeats 3000000
variable {w : World} {mean : ExcName → Option Value} {mg mb : Str → Option Value}
local macro_rules | `(tactic| walk_at "exec Assign cons ListComp") => `(tactic| (k_here; first | k_dflt (refine LCg.Assign_ListComp_U (F₀ := by k_asm) (by rfl) (by with_unfolding_all rfl) (by with_unfolding_all rfl) (by decide) (by rfl) (by decide) (by rfl) (by rfl) (by rfl) ?_) | k_dflt (refine wpAny_Assign_Name ?_ (by with_unfolding_all rfl))))
local macro_rules | `(tactic| walk_at "eval ListComp") => `(tactic| (k_here; k_dflt (refine LCg.ListComp_U (F₀ := by k_asm) (by with_unfolding_all rfl) (by decide) (by rfl) (by decide) (by rfl) ?_)))
noncomputable def runBody (P : Params) : List Stmt := match (fnBody P 220).drop 2 with
  | (.For _ _ b _ _) :: _ => b
  | _ => []
theorem NatsAre.at {vs : List Value} {ps : List Nat} (h : NatsAre vs ps) {i : Nat} {v : Value} (hv : vs[i]? = some v) : ∃ p t, ps[i]? = some p ∧ v = .int (p : Nat) t := by
  unfold NatsAre at h
  induction vs generalizing ps i with
  | nil => cases i <;> cases hv
  | cons x vs ih =>
    cases ps with
    | nil => cases h
    | cons p ps =>
      cases h with
      | cons _ t r =>
        cases i with
        | zero => exact ⟨p, t, rfl, (Option.some.inj hv).symm⟩
        | succ i => exact ih r hv
theorem NatsAre.snoc {vs : List Value} {ps : List Nat} (h : NatsAre vs ps) (p : Nat) (t : Tok) : NatsAre (vs ++ [.int (p : Nat) t]) (ps ++ [p]) := by
  unfold NatsAre at *
  rw [List.map_append]
  exact h.append (.cons _ _ .nil)
theorem NatsAre.len {vs : List Value} {ps : List Nat} (h : NatsAre vs ps) : vs.length = ps.length := by
  have := IntsAre.length h
  simpa using this
theorem runB1 (lc lp : Addr) (nc np : Nat) (css : List (Str × Tok)) (vs : List Value) (ps : List Nat) (half k : Nat) (hhalf : half = 2 ∨ half = 4) (hk8 : k < 8) (hcl : css.length = 2 * half) (hps : NatsAre vs ps) (hpl : ps.length = 2 * half) (hpb : ∀ q ∈ ps, q < 2 * half) (hpp : ∀ q, q < 2 * half → q ∈ ps.map (placeN · half k)) (hpb2 : ∀ q ∈ ps.map (placeN · half k), q < 2 * half) (tk th : Tok) : PySem.Challenge.rw_xj0013_01 = PySem.Challenge.rw_xj0013_01 → hd.heap_1 = hd.heap_1 →
  ∀ (dp un : Nat) (gd : Option (List Code)) (cn : Str) (cs : Scope) (a : Addr) (ccd : Value) (cl : List (Str × Addr)) (outer : List Env) (base h₀ : Heap) (L Lc : Addr) (m : Str → Option Value) (R : Led) (oK oH oP oC : Obj) (s : Shared) (Q : Flow → Shared → Prop) (E : Value → Shared → Prop),
    Below (ktrTop dp un gd cn cs Lc a ccd cl outer) base (envX cn cs Lc a ccd cl :: outer) h₀ → Fr h₀ L s.heap m → (hd.heap_1 w.params).In h₀ → News h₀ L s.heap (RC L oK oH oP oC ++ R) → DJ (RC L oK oH oP oC ++ R) → Tp mean mg mb h₀ →
    oK.data = .cell (some (.int k tk)) → oH.data = .cell (some (.int half th)) → oP.data = .cell (some (.ref lp)) → oC.data = .cell (some (.ref lc)) → (lc, W.listOf (strVals css).toArray nc) ∈ R → (lp, W.listOf vs.toArray np) ∈ R →
    dp + (1 + 2) * 4 < recursionLimit → un + (1 + 2) * 12 < cLine →
    (∀ (h' : Heap) (tk' : Nat) (oP' : Obj) (lp' lo : Addr) (vs' os : List Value) (np' no : Nat) (O' : Led), Fr h₀ L h' (fun y => if y = Str.ofString "order" then some (.ref lo) else m y) → News h₀ L h' ((lo, W.listOf os.toArray no) :: (O' ++ (RC L oK oH oP' oC ++ ((lp', W.listOf vs'.toArray np') :: R)))) → DJ ((lo, W.listOf os.toArray no) :: (O' ++ (RC L oK oH oP' oC ++ ((lp', W.listOf vs'.toArray np') :: R)))) →
      oP'.data = .cell (some (.ref lp')) → NatsAre vs' (ps.map (placeN · half k)) → Cards O' os (orderP (css.map (·.1)) (ps.map (placeN · half k))) →
      wpAny (model PySem.Challenge.pw_xj0013_01 w) ((ktrTop dp un gd cn cs Lc a ccd cl outer).deeper (runEnv w L)) (execs ((runBody w.params).drop 3) (runEnv w L)) Q E { s with heap := h', toks := tk' }) →
    wpAny (model PySem.Challenge.pw_xj0013_01 w) ((ktrTop dp un gd cn cs Lc a ccd cl outer).deeper (runEnv w L)) (execs ((runBody w.params).drop 1) (runEnv w L)) Q E s := by
  k_fill; intro _ _ dp un gd cn cs b ccd cl outer base h₀ L Lc m R oK oH oP oC s Q E hB hF hX hN hD hT hK hH hP hC hlc hlp hdp hun hret
  have e1 : (runBody w.params).drop 1 = (runBody w.params).drop 1 := rfl
  conv at e1 => rhs; whnf
  have e2 : fnScope w.params 220 = fnScope w.params 220 := rfl
  conv at e2 => rhs; whnf
  have e3 : (runBody w.params).drop 3 = (runBody w.params).drop 3 := rfl
  conv at e3 => rhs; whnf
  unfold runEnv at *
  rw [e1, e2]
  rw [e3, e2] at hret
  clear e1 e2 e3
  repeat (walk1; try dsimp only)
  unfold Hold
  (rename Fr _ _ _ _ => F2); (rename News _ _ _ _ => N2)
  have hvl := hps.len
  refine LCg.CompSrc.ledger rfl F2 N2 (List.mem_append_right _ hlp) (by rw [List.size_toArray, sizeLine_eq]; (exact om216 hhalf hpl hvl)) ?_
  intro g
  have hsz : vs.toArray.size = ps.length := by rw [List.size_toArray, hvl]
  rw [hsz]
  refine CompRest_ind (n := ps.length) (fun i ys news => news = RC L oK oH oP oC ++ R ∧ NatsAre ys ((ps.take i).map (placeN · half k))) ?step1 ?fin1 ps.length 0 [] _ (by (exact om215)) ⟨rfl, .nil⟩
  case step1 =>
    rintro i ys news v I oI C oC' D m₂ h tk E' hi ⟨rfl, hys⟩ hPv hNs hx F N off ne
    obtain ⟨q, tq, hq, rfl⟩ := hps.at (v := v) (i := i) (by simpa using hPv)
    have hq8 : q < 2 * half := hpb q (List.mem_of_getElem? hq)
    have mm : ∀ {q : Addr × Obj}, q ∈ RC L oK oH oP oC ++ R → q ∈ (I, oI) :: (C, oC') :: (D, LCg.lst ys) :: (RC L oK oH oP oC ++ R) := fun h => .tail _ (.tail _ (.tail _ h))
    have mK : (L + 1 + 1 + 1 + 1, oK) ∈ (I, oI) :: (C, oC') :: (D, LCg.lst ys) :: (RC L oK oH oP oC ++ R) := mm (.head _)
    have mH : (L + 1 + 1 + 1, oH) ∈ (I, oI) :: (C, oC') :: (D, LCg.lst ys) :: (RC L oK oH oP oC ++ R) := mm (.tail _ (.head _))
    repeat ((fail_if_success (with_reducible show wpAny _ _ (PySem.call (Value.ref 210) _) _ _ _)); walk1; try dsimp only)
    (rename Fr _ _ _ _ => F3); (rename News _ _ _ _ => N3)
    refine place_w (q : Nat) (half : Nat) (k : Nat) tq th _ (Int.natCast_nonneg _) (by (exact om214 hhalf)) (by (exact om213 hq8)) (Int.natCast_nonneg _) (by (exact om212 hk8)) rfl rfl (dp + 1) (un + 3) gd _ _ _ _ _ _ _ _ _ _ _ _ _ _ _ hB F3 hX N3 hT rfl (by (exact om11 hdp)) (by (exact om10 hun)) ?_
    intro tv h4 tk4 F4 N4
    rw [place_eq q half k hhalf hq8 hk8]
    refine LCg.CompEnd.intro F4 N4 (RC L oK oH oP oC ++ R) (fun p hp => hp) off (.inr ⟨_, List.mem_append_right _ hlp, rfl, _, rfl⟩) ⟨rfl, ?_⟩
    rw [List.take_add_one, hq, Option.toList_some, List.map_append]
    exact hys.snoc (placeN q half k) tv
  case fin1 =>
    rintro ys news ⟨rfl, hys⟩
    rw [List.take_length] at hys
    intro D h tk F N o1
    have D1 := DJ.cons (p := (D, LCg.lst ys)) (off1_mem o1) hD
    clear F2 N2
    repeat ((fail_if_success (with_reducible show wpAny _ _ (storeName _ _ _) _ _ _)); walk1; try dsimp only)
    k_dflt (refine storeX_D (pre := [_, _, _]) F N D1 rfl hP ?_)
    intro h1 oP' F1 N1 D1' d1
    replace N1 : News h₀ L h1 (RC L oK oH oP' oC ++ ((D, W.listOf ys.toArray ys.length) :: R)) := cb_drop N1 fun p hp => (List.perm_middle (l₁ := RC L oK oH oP' oC) (l₂ := R)).mem_iff.mp hp
    replace D1' : DJ (RC L oK oH oP' oC ++ ((D, W.listOf ys.toArray ys.length) :: R)) := DJ.perm (List.perm_middle (l₁ := RC L oK oH oP' oC) (l₂ := R)).symm D1'
    replace hret := fun h' tk' lo os no O' => hret h' tk' oP' D lo ys os ys.length no O'
    generalize hps2 : ps.map (placeN · half k) = ps2 at *
    have hpl2 : ps2.length = 2 * half := by rw [← hps2, List.length_map, hpl]
    have hlc2 := List.Mem.tail (D, W.listOf ys.toArray ys.length) hlc
    have hlp2 : (D, W.listOf ys.toArray ys.length) ∈ (D, W.listOf ys.toArray ys.length) :: R := .head _
    clear N F D1 o1 hD
    generalize (D, W.listOf ys.toArray ys.length) :: R = R2 at *
    repeat (walk1; try dsimp only)
    unfold Hold
    (rename IsRange _ _ _ _ _ _ _ _ => hR2); (rename Fr _ _ _ _ => F2); (rename News _ _ _ _ => N2)
    rw [show (2 * (half : Int)) = ((2 * half : Nat) : Int) by (exact om146)] at hR2
    have hol : (orderP (css.map (·.1)) ps2).length = 2 * half := by simp [orderP, hpl2]
    refine LCg.CompSrc.range rfl F2 N2 hR2 (rng_small _ (by (exact om359 hhalf))) (rng_size (2 * half)) (by rw [sizeLine_eq]; (exact om208 hhalf)) ?_
    intro g
    refine CompRest_ind (n := 2 * half) (fun i ys news => ∃ T : Led, news = T ++ (RC L oK oH oP' oC ++ R2) ∧ DJ news ∧ Cards T ys ((orderP (css.map (·.1)) ps2).take i)) ?step ?fin (2 * half) 0 [] _ (by (exact om207)) ⟨[], rfl, D1', .nil⟩
    case fin =>
      rintro ys' news ⟨T, rfl, hDT, hCT⟩
      intro D' h tk F N o1
      rw [List.take_of_length_le (Nat.le_of_eq hol)] at hCT
      exact hret _ _ D' ys' _ T F N (DJ.cons (off1_mem o1) hDT) d1 hys hCT
    case step =>
      rintro i ys' news v I oI C oC' D' m₂ h tk E' hi ⟨T, rfl, hDT, hCT⟩ ⟨t, rfl⟩ hNs hx F N off ne
      have mm : ∀ {q : Addr × Obj}, q ∈ RC L oK oH oP' oC ++ R2 → q ∈ (I, oI) :: (C, oC') :: (D', LCg.lst ys') :: (T ++ (RC L oK oH oP' oC ++ R2)) := fun h => .tail _ (.tail _ (.tail _ (List.mem_append_right _ h)))
      have mP : (L + 1 + 1, oP') ∈ (I, oI) :: (C, oC') :: (D', LCg.lst ys') :: (T ++ (RC L oK oH oP' oC ++ R2)) := mm (.tail _ (.tail _ (.head _)))
      have mC : (L + 1, oC) ∈ (I, oI) :: (C, oC') :: (D', LCg.lst ys') :: (T ++ (RC L oK oH oP' oC ++ R2)) := mm (.tail _ (.tail _ (.tail _ (.head _))))
      have mlc := mm (List.mem_append_right _ hlc2)
      have mlp := mm (List.mem_append_right _ hlp2)
      repeat ((fail_if_success (with_reducible show wpAny _ _ (PySem.call (Value.builtin "list.index") _) _ _ _)); walk1; try dsimp only)
      rw [show (0 + (i : Int)) = ((i : Nat) : Int) by (exact om206)]
      have hip : i ∈ ps2 := hpp i hi
      have hix : ps2.idxOf i < 2 * half := by rw [← hpl2]; exact List.idxOf_lt_length_iff.mpr hip
      refine index_list_ints (ns := ps2.map fun (p : Nat) => (p : Int)) (isListOf N mlp) hys (nats_lay (fun q hq => by have := hpb2 q hq; (exact om205 hhalf this)) (by (exact om204 hhalf hpl2))) (List.mem_map.mpr ⟨i, hip, rfl⟩) ?_
      rw [nats_idx]
      obtain ⟨⟨cx, ct⟩, hcx⟩ : ∃ p, css[ps2.idxOf i]? = some p := ⟨_, List.getElem?_eq_getElem (by (exact om202 hcl hix))⟩
      refine list_item (vs := strVals css) (v := .str cx ct) (isListOf N mlc) (by (exact om79)) (by (exact om358 hhalf hix)) (by simp [hcx]) ?_
      repeat (walk1; try dsimp only)
      (rename Fr _ _ _ _ => F5); (rename News _ _ _ _ => N5); (rename (_ < _ ∧ _ < _ ∧ _ < _ ∧ AllLt _ _) => l5)
      refine LCg.CompEnd.intro F5 N5 ((_, tupObj [Value.str (Str.ofString " ") tk, Value.str cx ct]) :: (T ++ (RC L oK oH oP' oC ++ R2))) (by ktr_rel) ⟨⟨Nat.ne_of_gt l5.1, Nat.ne_of_gt l5.2.1, Nat.ne_of_gt l5.2.2.1⟩, off⟩ trivial ⟨(_, tupObj [Value.str (Str.ofString " ") tk, Value.str cx ct]) :: T, rfl, DJ.new (fun q hq => tb_ltOf l5.2.2.2 q hq) hDT, ?_⟩
      refine Cards.step (c := (Str.ofString " ", cx)) hCT ?_
      rw [orderP_at (by (exact om202 hpl2 hi))]
      simp [List.getD_eq_getElem?_getD, hcx]
end

end

section
local macro_rules | `(tactic| walk_at "eval Name") => `(tactic| (k_here; (with_reducible show wpAny _ _ (PySem.eval (Expr.Name _ _) (envOfC _ _ _ _ _)) _ _ _); (rename Fr _ _ _ _ => lF'); k_dflt (refine nameX_L lF' (by assumption) ?_)))

section
open PySem PySem.W PyProof.Rows PySem.Calls PySem.Spec Builtin Builtin.ObjectAttr Builtin.Str
set_option maxHeartbeats 3000000
variable {w : World} {mean : ExcName → Option Value} {mg mb : Str → Option Value}
local macro_rules | `(tactic| walk_at "CompSrc") => `(tactic| (k_here; refine Hold.of ?_))
local macro_rules | `(tactic| walk_at "SrcLP") => `(tactic| (k_here; refine Hold.of ?_))
local macro_rules | `(tactic| walk_at "eval ListComp") => `(tactic| (k_here; k_dflt (refine LCp.ListComp_P (F₀ := by k_asm) (by with_unfolding_all rfl) (by decide) (by rfl) (by decide) (by rfl) (by rfl) (by decide) ?_)))
section
variable {prog : Program} {A : Around} {s : Shared} {h₀ : Heap} {L : Addr} {m : Str → Option Value} {env : Env}
theorem CompRestP_ind {elt : Expr} {x x₂ : Str} {scope : Scope} {cl : List (Str × Addr)} {S : Led → Prop} {P : Nat → Value → Prop} {Fin : List Value → Led → Prop} {n : Nat} (J : Nat → List Value → Led → Prop)
    (step : ∀ i ys news v, i < n → J i ys news → P i v → ∃ (t : Addr) (ot : Obj) (v₁ v₂ : Value) (nt : Nat), v = .ref t ∧ (t, ot) ∈ news ∧ ot.cls = .type "tuple" ∧ ot.data = .seq #[v₁, v₂] nt ∧
      ∀ I oI C oC D m₂ h tk (E' : Value → Shared → Prop), LCg.NsObj oC m₂ → m₂ x = some v₁ → m₂ x₂ = some v₂ → Fr h₀ L h m → News h₀ L h ((I, oI) :: (C, oC) :: (D, LCg.lst ys) :: news) → LCg.Off3 I C D news → ((@Ne Nat I C) ∧ (@Ne Nat I D) ∧ (@Ne Nat C D)) →
      wpAny (model prog w) A (eval elt (compEnvC scope cl C env)) (LCg.CompEnd h₀ L m { s with heap := h, toks := tk } I oI C oC D (LCg.lst ys) S (fun y news' => J (i + 1) (ys ++ [y]) news')) E' { s with heap := h, toks := tk })
    (fin : ∀ ys news, J n ys news → Fin ys news) : ∀ k i ys news, i + k = n → J i ys news → LCp.CompRestP prog w A h₀ L m env elt x x₂ scope cl s S P Fin k i ys news := by
  intro k
  induction k with
  | zero => exact fun i ys news (e : i = n) hJ => fin ys news (e ▸ hJ)
  | succ k ih => exact fun i ys news e hJ => LCp.CompRestP.succ fun v hP => (step i ys news v (om201 e) hJ hP).imp fun t => Exists.imp fun ot => Exists.imp fun v₁ => Exists.imp fun v₂ => Exists.imp fun nt => And.imp id <| And.imp id <| And.imp id <| And.imp id fun a5 I oI C oC D m₂ h tk E' hC hx hx2 F N off ne => wpAny_mono (a5 I oI C oC D m₂ h tk E' hC hx hx2 F N off ne) (fun y _ hy => CompEnd_mono hy fun n' => ih (i + 1) (ys ++ [y]) n' (om200 e)) fun _ _ e => e
end
theorem Cards.at {O : Led} {v : Value} {c : Str × Str} {xs : List Value} {cds : List (Str × Str)} {i : Nat} (h : Cards O xs cds) (hc : cds[i]? = some c) (hv : xs[i]? = some v) : ∃ T ta tb, v = .ref T ∧ (T, tupObj [.str c.1 ta, .str c.2 tb]) ∈ O := by
  induction h generalizing i with
  | nil => cases hv
  | cons m _ ih => cases i with
    | zero => cases hc; cases hv; exact ⟨_, _, _, rfl, m⟩
    | succ i => exact ih hc hv
theorem strs_snoc {ys : List Value} {zs : List Str} (h : PyProof.Rows.StrsAre ys zs) (z : Str) (t : Tok) : PyProof.Rows.StrsAre (ys ++ [.str z t]) (zs ++ [z]) := by
  induction h with
  | nil => exact .cons _ _ .nil
  | cons y u r ih => exact .cons _ _ ih
theorem runB2 (lr e0 e1 dk dxk lo : Addr) (nr nk no : Nat) (t1 t2 t3 t4 tdk : Tok) (Y os : List Value) (cds : List (Str × Str)) (hcl : cds.length < 10) (hbd : ∀ c ∈ cds, c.1.length ≤ 1000 ∧ c.2.length ≤ 1000) : PySem.Challenge.rw_xj0013_01 = PySem.Challenge.rw_xj0013_01 → hd.heap_1 = hd.heap_1 →
  ∀ (dp un : Nat) (gd : Option (List Code)) (cn : Str) (cs : Scope) (a : Addr) (ccd : Value) (cl : List (Str × Addr)) (outer : List Env) (base h₀ : Heap) (L Lc : Addr) (m : Str → Option Value) (R : Led) (tb : Obj) (s : Shared) (Q : Flow → Shared → Prop) (E : Value → Shared → Prop),
    Below (ktrTop dp un gd cn cs Lc a ccd cl outer) base (envX cn cs Lc a ccd cl :: outer) h₀ → Fr h₀ L s.heap m → (hd.heap_1 w.params).In h₀ → News h₀ L s.heap ((70, tb) :: R) → DJ ((70, tb) :: R) → Tp mean mg mb h₀ →
    TabOk tb → AllBare s.gens → m (Str.ofString "left") = some (.ref lr) → m (Str.ofString "deck") = some (.ref dk) → m (Str.ofString "order") = some (.ref lo) → 
    (lr, W.listOf [Value.ref e0, .ref e1].toArray nr) ∈ R → (e0, tupObj [.str (Str.ofString "") t1, .str (Str.ofString "") t2]) ∈ R → (e1, tupObj [.str (Str.ofString "") t3, .str (Str.ofString "") t4]) ∈ R → (dk, accObj dxk Y nk) ∈ R → (dxk, accD w tdk) ∈ R → (lo, W.listOf os.toArray no) ∈ R → Cards R Y cds → Cards R os cds →
    dp + (2 + 2) * 4 < recursionLimit → un + (2 + 2) * 12 < cLine →
    (∀ (h' : Heap) (tk' : Nat) (gs' : Array GenState) (tb' : Obj), AllBare gs' → Fr h₀ L h' m → News h₀ L h' ((70, tb') :: R) → TabOk tb' → Q .next { s with heap := h', toks := tk', gens := gs' }) →
    wpAny (model PySem.Challenge.pw_xj0013_01 w) ((ktrTop dp un gd cn cs Lc a ccd cl outer).deeper (runEnv w L)) (execs ((runBody w.params).drop 3) (runEnv w L)) Q E s := by
  k_fill; intro _ _ dp un gd cn cs b ccd cl outer base h₀ L Lc m R tb s Q E hB hF hX hN hD hT htb hG hml hmd hmo mlr me0 me1 mdk mdx mlo hcY hco hdp hun hret
  have e1' : (runBody w.params).drop 3 = (runBody w.params).drop 3 := rfl
  conv at e1' => rhs; whnf
  have e2 : fnScope w.params 220 = fnScope w.params 220 := rfl
  conv at e2 => rhs; whnf
  unfold runEnv at *
  rw [e1', e2]
  clear e1' e2
  repeat ((fail_if_success (with_reducible show wpAny _ _ (compareOp _ _ _) _ _ _)); walk1; try dsimp only)
  (rename Fr _ _ _ _ => F9); (rename News _ _ _ _ => N9)
  have NR : News h₀ L _ R := cb_drop N9 fun p hp => .tail _ (.tail _ (.tail _ (.tail _ hp)))
  have N8 : News h₀ L _ ((70, tb) :: R) := cb_drop N9 fun p hp => .tail _ (.tail _ (.tail _ hp))
  let dd : PyData := .list [.tuple [.str (Str.ofString ""), .str (Str.ofString "")], .tuple [.str (Str.ofString ""), .str (Str.ofString "")]]
  have hlay : PyData.canLay0 dd = true := by decide +kernel
  have hdep : PyData.depth dd ≤ 3 := by decide +kernel
  refine SeqAt.compareNe_reads (da := dd) (db := dd) (.list (NR _ mlr).1 rfl rfl (.cons (.tuple (NR _ me0).1 rfl rfl (.cons (.str _ _) (.cons (.str _ _) .nil))) (.cons (.tuple (NR _ me1).1 rfl rfl (.cons (.str _ _) (.cons (.str _ _) .nil))) .nil))) (.list (N9 _ (.head _)).1 rfl rfl (.cons (.tuple (N9 _ (.tail _ (.tail _ (.head _)))).1 rfl rfl (.cons (.str _ _) (.cons (.str _ _) .nil))) (.cons (.tuple (N9 _ (.tail _ (.head _))).1 rfl rfl (.cons (.str _ _) (.cons (.str _ _) .nil))) .nil))) hlay hlay ?hu ?_
  case hu =>
    rw [Nat.min_self]
    have e : ∀ e : Env, ((ktrTop dp un gd cn cs Lc b ccd cl outer).deeper e).units = un + 3 := fun _ => rfl
    rw [e]
    (exact om222 hun hdep)
  rw [SeqAt.eqv_refl _ hlay]
  clear N9
  repeat ((fail_if_success (with_reducible show wpAny _ _ (PySem.call (Value.type "str") _) _ _ _)); walk1; try dsimp only)
  (rename Fr _ _ _ _ => F9)
  refine kso_call (K := hd.heap_1 w.params) (C := 101) (f := 75) (ox := accObj dxk Y nk) (od := some (accD w tdk)) ?hu2 (hX.keeps F9.keep) ⟨(NR _ mdk).1, rfl, rfl, (NR _ mdx).1⟩ (by kernel_rfl) (by kernel_rfl) ?_
  case hu2 =>
    have e : ∀ e : Env, ((ktrTop dp un gd cn cs Lc b ccd cl outer).deeper e).in1.in1.units = un + 5 := fun _ => rfl
    rw [e]
    (exact om221 hun)
  refine claimG_frame (str_w dk dxk Y nk cds tb htb hbd (by (exact om220 hcl)) rfl rfl) (fun v post extra h => by obtain ⟨_, _, -, rfl, -, rfl⟩ := h; exact ⟨rfl, DJ.nil⟩) [] [] R (dp + 1) (un + 5) gd _ _ _ _ _ _ _ _ _ _ _ _ _ _ hB F9 hX N8 hD ⟨mdk, hcY⟩ hT rfl hG (by (exact om121 hdp)) (by (exact om219 hun)) ?_
  rintro v2 post extra h4 tk4 gs4 hle4 hG4 F4 N4 D4 ⟨tz, tb', rfl, rfl, htb', rfl⟩
  dsimp only [StrBack]
  clear F9 N8 NR
  repeat (walk1; try dsimp only)
  unfold Hold
  (rename Fr _ _ _ _ => F5)
  replace N4 : News h₀ L h4 ((70, tb') :: R) := N4
  replace D4 : DJ ((70, tb') :: R) := D4
  have hol : os.toArray.size = cds.length := by rw [List.size_toArray, hco.length]
  refine LCp.SrcLP.ledger rfl F5 N4 (.tail _ mlo) (by rw [hol, sizeLine_eq]; (exact om218 hcl)) ?_
  intro g
  rw [hol]
  refine CompRestP_ind (n := cds.length) (fun i ys news => news = (70, tb') :: R ∧ PyProof.Rows.StrsAre ys ((cds.take i).map fun c => c.1 ++ c.2)) ?step ?fin cds.length 0 [] _ (by (exact om215)) ⟨rfl, .nil⟩
  case step =>
    rintro i ys news v hi ⟨rfl, hys⟩ hv
    obtain ⟨c, hc⟩ : ∃ c, cds[i]? = some c := ⟨_, List.getElem?_eq_getElem hi⟩
    obtain ⟨T, ta, tb2, rfl, hT2⟩ := hco.at hc (by simpa using hv)
    refine ⟨T, _, .str c.1 ta, .str c.2 tb2, _, rfl, .tail _ hT2, rfl, rfl, ?_⟩
    intro I oI C oC D m₂ h tk E' hNs hx hx2 F N off ne
    have hbc := hbd c (List.mem_of_getElem? hc)
    repeat (walk1; try dsimp only)
    refine LCg.CompEnd.intro F N ((70, tb') :: R) (fun p hp => hp) off (.inr ⟨_, .tail _ mlo, rfl, _, rfl⟩) ⟨rfl, ?_⟩
    rw [List.take_add_one, hc, Option.toList_some, List.map_append]
    exact strs_snoc hys _ _
  case fin =>
    rintro ys news ⟨rfl, hys⟩
    rw [List.take_length] at hys
    intro D h tk F N o1
    clear F5 N4
    repeat ((fail_if_success (with_reducible show wpAny _ _ (PySem.call (Value.builtin "str.join") _) _ _ _)); walk1; try dsimp only)
    refine join_list (D := D) (ys := cds.map fun c => c.1 ++ c.2) ⟨_, (N _ (.head _)).1, rfl, _, rfl⟩ (by simpa using hys) ?hj ?_
    case hj =>
      have h1 := catOf_weight cds hbd
      have h2 : (cds.map fun c => c.1 ++ c.2) = catOf cds := List.map_congr_left fun c _ => (join2 c.1 c.2).symm
      rw [h2]
      have h3 : (catOf cds).length = cds.length := by simp [catOf]
      have h4 : (Str.ofString "").length = 0 := by decide +kernel
      rw [h3, h4]
      (exact om217 hcl h1)
    intro t' k
    have hee : (cds.map fun c => c.1 ++ c.2) = catOf cds := List.map_congr_left fun c _ => (join2 c.1 c.2).symm
    rw [hee]
    repeat (walk1; try dsimp only)
    · (rename ((Txt.join mt _ != _) = true) => hbad)
      exact absurd hbad (by simp)
    · repeat (walk1; try dsimp only)
      (rename Fr _ _ _ _ => FE); (rename News _ _ _ _ => NE)
      exact hret _ _ gs4 tb' hG4 FE (cb_drop NE fun p hp => .tail _ hp) htb'
end

section
open PySem PySem.W PyProof.Rows PySem.Calls PySem.Spec Builtin Builtin.ObjectAttr Builtin.Str
set_option maxHeartbeats 3000000
variable {w : World} {mean : ExcName → Option Value} {mg mb : Str → Option Value}
theorem runB0 (a0 a1 : Lx) (ok0 : a0.Ok) (ok1 : a1.Ok) (ocr0 ocr1 : Obj) (hcr0 : CodeOk ocr0) (hcr1 : CodeOk ocr1) (hz0 : a0.x.length < 2000) (hz1 : a1.x.length < 2000) (hy0 : 2 ≤ a0.x.length) (hy1 : 2 ≤ a1.x.length)
    (ln0 ln1 : Int) (tl0 tl1 tp0 tp1 : Tok) (n10 n20 n11 n21 p0 p1 : Nat) (dk dxk ll lo : Addr) (nk nl' no : Nat) (xs os : List Value) (cds : List (Str × Str)) (half k : Nat) (hhalf : half = 2 ∨ half = 4) (hk8 : k < 8) (hcs : cds.length = 2 * half) (hbl : ∀ c ∈ cds, c.1 = Str.ofString " ") (hok : ∀ c ∈ cds, PyData.strOk c.1 = true ∧ PyData.strOk c.2 = true)
    (r0 r1 : List Nat) (hr0 : tokS (remOf a0.x p0) = ([sg (k % 2)], r0)) (hr1 : tokS (remOf a1.x p1) = ([sg (k / 2)], r1)) : PySem.Challenge.rw_xj0013_01 = PySem.Challenge.rw_xj0013_01 → hd.heap_1 = hd.heap_1 →
  ∀ (dp un : Nat) (gd : Option (List Code)) (cn : Str) (cs : Scope) (a : Addr) (ccd : Value) (cl : List (Str × Addr)) (outer : List Env) (base h₀ : Heap) (L Lc : Addr) (m : Str → Option Value) (A R : Led) (s : Shared) (Q : Flow → Shared → Prop) (E : Value → Shared → Prop),
    Below (ktrTop dp un gd cn cs Lc a ccd cl outer) base (envX cn cs Lc a ccd cl :: outer) h₀ → Fr h₀ L s.heap m → (hd.heap_1 w.params).In h₀ → News h₀ L s.heap (A ++ (([(dk, accObj dxk xs nk)] ++ (a0.mut w ln0 tl0 [] n10 p0 tp0 n20 ++ a1.mut w ln1 tl1 [] n11 p1 tp1 n21)) ++ ([] ++ R))) → DJ (A ++ (([(dk, accObj dxk xs nk)] ++ (a0.mut w ln0 tl0 [] n10 p0 tp0 n20 ++ a1.mut w ln1 tl1 [] n11 p1 tp1 n21)) ++ ([] ++ R))) → Tp mean mg mb h₀ →
    m (Str.ofString "deck") = some (.ref dk) → m (Str.ofString "lexers") = some (.ref ll) → m (Str.ofString "order") = some (.ref lo) →
    (∀ q ∈ a0.imm w, q ∈ R) → (a0.cr, ocr0) ∈ R → (∀ q ∈ a1.imm w, q ∈ R) → (a1.cr, ocr1) ∈ R → (∃ tk, (dxk, accD w tk) ∈ R) → (ll, W.listOf [.ref a0.ix, .ref a1.ix].toArray nl') ∈ R → (lo, W.listOf os.toArray no) ∈ R → Cards R os cds → Cards R xs cds →
    dp + (4 + 2) * 4 < recursionLimit → un + (4 + 2) * 12 < cLine →
    (∀ (h' : Heap) (tk' : Nat) (X : Led) (lr e0 e1 : Addr) (nr : Nat) (t1 t2 t3 t4 tl0' tp0' tl1' tp1' : Tok) (m0 m1 n20' n21' p0' p1' nk' : Nat) (Y : List Value), remOf a0.x p0' = r0 → remOf a1.x p1' = r1 →
      Fr h₀ L h' (fun y => if y = Str.ofString "left" then some (.ref lr) else m y) → News h₀ L h' (A ++ (([(dk, accObj dxk Y nk')] ++ (a0.mut w (ln0 + nl (remOf a0.x p0) - nl r0) tl0' [] m0 p0' tp0' n20' ++ a1.mut w (ln1 + nl (remOf a1.x p1) - nl r1) tl1' [] m1 p1' tp1' n21')) ++ ([] ++ (X ++ R)))) → DJ (A ++ (([(dk, accObj dxk Y nk')] ++ (a0.mut w (ln0 + nl (remOf a0.x p0) - nl r0) tl0' [] m0 p0' tp0' n20' ++ a1.mut w (ln1 + nl (remOf a1.x p1) - nl r1) tl1' [] m1 p1' tp1' n21')) ++ ([] ++ (X ++ R)))) →
      (lr, W.listOf [Value.ref e0, .ref e1].toArray nr) ∈ X → (e0, tupObj [.str (Str.ofString "") t1, .str (Str.ofString "") t2]) ∈ X → (e1, tupObj [.str (Str.ofString "") t3, .str (Str.ofString "") t4]) ∈ X → Cards X Y (shufP half k cds) →
      wpAny (model PySem.Challenge.pw_xj0013_01 w) ((ktrTop dp un gd cn cs Lc a ccd cl outer).deeper (runEnv w L)) (execs ((runBody w.params).drop 1) (runEnv w L)) Q E { s with heap := h', toks := tk' }) →
    wpAny (model PySem.Challenge.pw_xj0013_01 w) ((ktrTop dp un gd cn cs Lc a ccd cl outer).deeper (runEnv w L)) (execs (runBody w.params) (runEnv w L)) Q E s := by
  k_fill; intro _ _ dp un gd cn cs b ccd cl outer base h₀ L Lc m A R s Q E hB hF hX hN hD hT hmd hml hmo him0 hcm0 him1 hcm1 hdx hll hlo hco hcx hdp hun hret
  have e1' : runBody w.params = runBody w.params := rfl
  conv at e1' => rhs; whnf
  have e2 : fnScope w.params 220 = fnScope w.params 220 := rfl
  conv at e2 => rhs; whnf
  have e3 : (runBody w.params).drop 1 = (runBody w.params).drop 1 := rfl
  conv at e3 => rhs; whnf
  unfold runEnv at *
  rw [e1', e2]
  rw [e3, e2] at hret
  clear e1' e2 e3
  repeat ((fail_if_success (with_reducible show wpAny _ _ (PySem.call (Value.ref 215) _) _ _ _)); walk1; try dsimp only)
  (rename Fr _ _ _ _ => F1)
  have mR : ∀ {q : Addr × Obj}, q ∈ R → q ∈ A ++ ([] ++ R) := fun h => List.mem_append_right _ h
  obtain ⟨tkd, hdx⟩ := hdx
  refine claim_frame (shuffle_w a0 a1 ok0 ok1 ocr0 ocr1 hcr0 hcr1 hz0 hz1 hy0 hy1 ln0 ln1 tl0 tl1 tp0 tp1 n10 n20 n11 n21 p0 p1 dk dxk ll lo nk nl' no xs os cds half k hhalf hk8 hcs hbl hok r0 r1 hr0 hr1 rfl rfl) ?hp A [] R (dp + 1) (un + 3) gd _ _ _ _ _ _ _ _ _ _ _ _ _ _ hB F1 hX hN hD ⟨hD.perm (perm3 A _ [] R), fun q hq => mR (him0 q hq), mR hcm0, fun q hq => mR (him1 q hq), mR hcm1, ⟨tkd, mR hdx⟩, mR hll, mR hlo, hco.mono fun p hp => mR hp, hcx.mono fun p hp => mR hp⟩ hT rfl (by (exact om224 hdp)) (by (exact om223 hun)) ?_
  case hp =>
    rintro v post extra ⟨lr, e0, e1, nr, t1, t2, t3, t4, tl0', tp0', tl1', tp1', m0, m1, n20', n21', p0', p1', nk', Y, -, -, -, rfl, hDX, -⟩
    exact ⟨rfl, hDX⟩
  rintro v post X h' tk' - F2 N2 D2 ⟨lr, e0, e1, nr, t1, t2, t3, t4, tl0', tp0', tl1', tp1', m0, m1, n20', n21', p0', p1', nk', Y, hp0, hp1, rfl, rfl, -, hlr, he0, he1, hY⟩
  repeat ((fail_if_success (with_reducible show wpAny _ _ (execs (Stmt.Assign [Expr.Name (Str.ofString "places") _] _ _ :: _) _) _ _ _)); walk1; try dsimp only)
  (rename Fr _ _ _ _ => FZ); (rename News _ _ _ _ => NZ)
  exact hret _ _ X lr e0 e1 nr t1 t2 t3 t4 tl0' tp0' tl1' tp1' m0 m1 n20' n21' p0' p1' nk' Y hp0 hp1 FZ NZ D2 hlr he0 he1 hY
end

section
open PySem PySem.W PyProof.Rows PySem.Calls PySem.Spec Builtin Builtin.ObjectAttr Builtin.Str
set_option maxHeartbeats 2000000
theorem place_lt (half k p : Nat) (hh : half = 2 ∨ half = 4) (hk : k < 8) (hp : p < 2 * half) : placeN p half k < 2 * half := by
  rcases hh with rfl | rfl
  · have : ∀ k : Nat, k < 8 → ∀ p : Nat, p < 4 → placeN p 2 k < 4 := by decide +kernel
    exact this k hk p hp
  · have : ∀ k : Nat, k < 8 → ∀ p : Nat, p < 8 → placeN p 4 k < 8 := by decide +kernel
    exact this k hk p hp
theorem place_inj (half k p q : Nat) (hh : half = 2 ∨ half = 4) (hk : k < 8) (hp : p < 2 * half) (hq : q < 2 * half) (e : placeN p half k = placeN q half k) : p = q := by
  rcases hh with rfl | rfl
  · have : ∀ k : Nat, k < 8 → ∀ p : Nat, p < 4 → ∀ q : Nat, q < 4 → placeN p 2 k = placeN q 2 k → p = q := by decide +kernel
    exact this k hk p hp q hq e
  · have : ∀ k : Nat, k < 8 → ∀ p : Nat, p < 8 → ∀ q : Nat, q < 8 → placeN p 4 k = placeN q 4 k → p = q := by decide +kernel
    exact this k hk p hp q hq e
theorem place_sur (half k q : Nat) (hh : half = 2 ∨ half = 4) (hk : k < 8) (hq : q < 2 * half) : ∃ p, p < 2 * half ∧ placeN p half k = q := by
  rcases hh with rfl | rfl
  · have : ∀ k : Nat, k < 8 → ∀ q : Nat, q < 4 → ∃ p : Nat, p < 4 ∧ placeN p 2 k = q := by decide +kernel
    exact this k hk q hq
  · have : ∀ k : Nat, k < 8 → ∀ q : Nat, q < 8 → ∃ p : Nat, p < 8 ∧ placeN p 4 k = q := by decide +kernel
    exact this k hk q hq
/-- the places 0 .. 2 * half - 1, each once -/
structure PermP (half : Nat) (ps : List Nat) : Prop where
  len : ps.length = 2 * half
  mem : ∀ q, q < 2 * half → q ∈ ps
  lt : ∀ q ∈ ps, q < 2 * half
theorem PermP.step {half k : Nat} {ps : List Nat} (h : PermP half ps) (hh : half = 2 ∨ half = 4) (hk : k < 8) : PermP half (ps.map (placeN · half k)) where
  len := by rw [List.length_map]; exact h.len
  mem := fun q hq => by
    obtain ⟨p, hp, e⟩ := place_sur half k q hh hk hq
    exact List.mem_map.mpr ⟨p, h.mem p hp, e⟩
  lt := fun q hq => by
    obtain ⟨p, hp, rfl⟩ := List.mem_map.mp hq
    exact place_lt half k p hh hk (h.lt p hp)
theorem PermP.start (half : Nat) : PermP half (List.range (2 * half)) := ⟨List.length_range, fun _ h => List.mem_range.mpr h, fun _ h => List.mem_range.mp h⟩
theorem idxOf_map_inj (f : Nat → Nat) (p : Nat) : ∀ ps : List Nat, (∀ q ∈ ps, f q = f p → q = p) → (ps.map f).idxOf (f p) = ps.idxOf p
  | [], _ => rfl
  | q :: ps, h => by
    have ih := idxOf_map_inj f p ps fun q hq => h q (.tail _ hq)
    simp only [List.map_cons, List.idxOf_cons, ih]
    by_cases e : q = p
    · subst e; simp
    · have e1 : (f q == f p) = false := by simpa using fun e2 => e (h q (.head _) e2)
      have e2 : (q == p) = false := by simpa using e
      rw [e1, e2]
theorem order_shuf (half k : Nat) (hh : half = 2 ∨ half = 4) (hk : k < 8) (cs : List Str) (ps : List Nat) (h : PermP half ps) : orderP cs (ps.map (placeN · half k)) = shufP half k (orderP cs ps) := by
  have h2 := h.step hh hk
  have hl : (orderP cs ps).length = 2 * half := by simp [orderP, h.len]
  have hpl := h.len
  obtain ⟨s1, s2⟩ := shufP_at half k hh hk (orderP cs ps) hl
  apply List.ext_getElem?
  intro q
  by_cases hq : q < 2 * half
  · obtain ⟨p, hp, rfl⟩ := place_sur half k q hh hk hq
    rw [s2 p hp, orderP_at (by rw [h2.len]; exact hq), orderP_at (by rw [h.len]; exact hp)]
    rw [idxOf_map_inj (placeN · half k) p ps fun q hq e => place_inj half k q p hh hk (h.lt q hq) hp e]
  · rw [List.getElem?_eq_none (by simp only [orderP, List.length_map, List.length_range]; (exact om238 hpl hq)), List.getElem?_eq_none (by (exact om238 s1 hq))]
/-- the places behind the rounds ks -/
noncomputable def stepsP (half : Nat) : List Nat → List Nat → List Nat
  | [], ps => ps
  | k :: ks, ps => stepsP half ks (ps.map (placeN · half k))
theorem stepsP_snoc (half k : Nat) : ∀ (ks ps : List Nat), stepsP half (ks ++ [k]) ps = (stepsP half ks ps).map (placeN · half k)
  | [], _ => rfl
  | _ :: ks, ps => stepsP_snoc half k ks _
theorem PermP.steps {half : Nat} (hh : half = 2 ∨ half = 4) : ∀ {ks ps : List Nat}, (∀ k ∈ ks, k < 8) → PermP half ps → PermP half (stepsP half ks ps)
  | [], _, _, h => h
  | k :: ks, _, hk, h => PermP.steps hh (ks := ks) (fun x hx => hk x (.tail _ hx)) (h.step hh (hk k (.head _)))
/-- the rest of a text yields the signs os, and r' is left -/
noncomputable def Yields : List Nat → List Nat → List Nat → Prop
  | r, [], r' => r = r'
  | r, o :: os, r' => ∃ r1, tokS r = ([sg o], r1) ∧ Yields r1 os r'
theorem Yields.of_toks : ∀ (os : List Nat) {r : List Nat} {ts : List (List Nat)}, Toks r ((os.map fun o => [sg o]) ++ ts) → ∃ r', Yields r os r' ∧ Toks r' ts
  | [], r, _, h => ⟨r, rfl, h⟩
  | o :: os, r, ts, h => by
    obtain ⟨h1, h2⟩ : (tokS r).1 = [sg o] ∧ Toks (tokS r).2 ((os.map fun o => [sg o]) ++ ts) := h
    obtain ⟨r', y, t⟩ := Yields.of_toks os h2
    exact ⟨r', ⟨(tokS r).2, Prod.ext h1 rfl, y⟩, t⟩
theorem pq0 {α : Type} (LO O' C T P R : List α) : (LO ++ (O' ++ (C ++ ((T ++ P) ++ R)))).Perm (C ++ (T ++ (P ++ ((LO ++ O') ++ R)))) := by
  classical
  rw [List.perm_iff_count]; intro a; simp only [List.count_append]; (exact om237)
theorem pq1 {α : Type} (I C T P X : List α) : (I ++ (C ++ (T ++ (P ++ X)))).Perm ((I ++ (C ++ T)) ++ (P ++ ([] ++ X))) := by
  classical
  rw [List.perm_iff_count]; intro a; simp only [List.count_append, List.count_nil]; (exact om236)
theorem pq2 {α : Type} (I C T P X1 X : List α) : ((I ++ (C ++ T)) ++ (P ++ ([] ++ (X1 ++ X)))).Perm (C ++ (I ++ (T ++ (P ++ (X1 ++ X))))) := by
  classical
  rw [List.perm_iff_count]; intro a; simp only [List.count_append, List.count_nil]; (exact om235)
theorem pq3 {α : Type} (LO O' C LP I T P X1 X R : List α) : (LO ++ (O' ++ (C ++ (LP ++ (I ++ (T ++ (P ++ (X1 ++ (X ++ R))))))))).Perm (T ++ (I ++ (C ++ (P ++ ((LO ++ (O' ++ (LP ++ (X1 ++ X)))) ++ R))))) := by
  classical
  rw [List.perm_iff_count]; intro a; simp only [List.count_append]; (exact om234)
theorem pq4 {α : Type} (T I C X : List α) : (T ++ (I ++ (C ++ X))).Perm (I ++ (C ++ (T ++ X))) := by
  classical
  rw [List.perm_iff_count]; intro a; simp only [List.count_append]; (exact om190)
theorem pq5 {α : Type} (T P X R : List α) : (T ++ (P ++ (X ++ R))).Perm ((T ++ P) ++ (X ++ R)) := by
  rw [List.append_assoc]
end

end

section
local macro_rules | `(tactic| walk_at "eval Name") => `(tactic| (k_here; (with_reducible show wpAny _ _ (PySem.eval (Expr.Name _ _) (envOfC _ _ _ _ _)) _ _ _); (rename Fr _ _ _ _ => lF'); k_dflt (refine nameX_L lF' (by assumption) ?_)))
local macro_rules | `(tactic| walk_at "CompSrc") => `(tactic| (k_here; refine Hold.of ?_))
local macro_rules | `(tactic| walk_at "exec Assign cons ListComp") => `(tactic| (k_here; first | k_dflt (refine LCg.Assign_ListComp_U (F₀ := by k_asm) (by rfl) (by with_unfolding_all rfl) (by with_unfolding_all rfl) (by decide) (by rfl) (by decide) (by rfl) (by rfl) (by rfl) ?_) | k_dflt (refine wpAny_Assign_Name ?_ (by with_unfolding_all rfl))))
local macro_rules | `(tactic| walk_at "eval ListComp") => `(tactic| (k_here; k_dflt (refine LCg.ListComp_U (F₀ := by k_asm) (by with_unfolding_all rfl) (by decide) (by rfl) (by decide) (by rfl) ?_)))

section
open PySem PySem.W PyProof.Rows PySem.Calls PySem.Spec Builtin Builtin.ObjectAttr Builtin.Str
set_option maxHeartbeats 6000000
variable {w : World} {mean : ExcName → Option Value} {mg mb : Str → Option Value}
/-- between two rounds -/
inductive RunJ (w : World) (a0 a1 : Lx) (dk dxk : Addr) (L : Addr) (oH oC : Obj) (R : Led) (half : Nat) (css : List Str) (ps ks : List Nat) (z0 z1 : List Nat) (K0 K1 : Int) (m : Str → Option Value) (i : Nat) (m' : Str → Option Value) (news : Led) : Prop
  | mk (vK : Option Value) (oK oP tb : Obj) (lp lo : Addr) (vs os Y : List Value) (np no nk : Nat) (ln0 ln1 : Int) (tl0 tl1 tp0 tp1 : Tok) (n10 n20 n11 n21 p0 p1 : Nat) (X : Led)
    (e : news = RC L oK oH oP oC ++ ([(70, tb)] ++ (([(dk, accObj dxk Y nk)] ++ (a0.mut w ln0 tl0 [] n10 p0 tp0 n20 ++ a1.mut w ln1 tl1 [] n11 p1 tp1 n21)) ++ (X ++ R)))) (hD : DJ news) (ht : TabOk tb) (dK : oK.data = .cell vK) (dP : oP.data = .cell (some (.ref lp))) (hlp : (lp, W.listOf vs.toArray np) ∈ X ++ R) (hvs : NatsAre vs (stepsP half (ks.take i) ps)) (hlo : (lo, W.listOf os.toArray no) ∈ X ++ R)
    (hco : Cards (X ++ R) os (orderP css (stepsP half (ks.take i) ps))) (hcY : Cards (X ++ R) Y (orderP css (stepsP half (ks.take i) ps))) (hi : i ≠ 0 → (lp, W.listOf vs.toArray np) ∈ X ∧ Cards X Y (orderP css (stepsP half (ks.take i) ps)))
    (hy0 : Yields (remOf a0.x p0) ((ks.drop i).map (· % 2)) z0) (hy1 : Yields (remOf a1.x p1) ((ks.drop i).map (· / 2)) z1) (hK0 : ln0 + nl (remOf a0.x p0) = K0) (hK1 : ln1 + nl (remOf a1.x p1) = K1)
    (hor : m' (Str.ofString "order") = some (.ref lo)) (hm : ∀ y, y ≠ Str.ofString "order" → y ≠ Str.ofString "left" → m' y = m y)
theorem Cards.mem2 {O : Led} {A B : Led} {xs : List Value} {cds : List (Str × Str)} (h : Cards O xs cds) (hm : ∀ q ∈ O, q ∈ A ∨ q ∈ B) : Cards (A ++ B) xs cds := h.mono fun p hp => List.mem_append.mpr (hm p hp)
theorem orderP_fst (cs : List Str) (ps : List Nat) : ∀ c ∈ orderP cs ps, c.1 = Str.ofString " " := by
  intro c hc
  obtain ⟨q, -, rfl⟩ := List.mem_map.mp hc
  rfl
theorem orderP_snd {cs : List Str} {ps : List Nat} {half : Nat} (hl : cs.length = 2 * half) (hp : PermP half ps) : ∀ c ∈ orderP cs ps, c.2 ∈ cs := by
  intro c hc
  obtain ⟨q, hq, rfl⟩ := List.mem_map.mp hc
  have hq2 : q < 2 * half := by rw [← hp.len]; exact List.mem_range.mp hq
  have h2 : ps.idxOf q < cs.length := by rw [hl, ← hp.len]; exact List.idxOf_lt_length_iff.mpr (hp.mem q hq2)
  rw [List.getD_eq_getElem?_getD, List.getElem?_eq_getElem h2]
  exact List.getElem_mem h2
theorem runL (a0 a1 : Lx) (ok0 : a0.Ok) (ok1 : a1.Ok) (ocr0 ocr1 : Obj) (hcr0 : CodeOk ocr0) (hcr1 : CodeOk ocr1) (hz0 : a0.x.length < 2000) (hz1 : a1.x.length < 2000) (hy0 : 2 ≤ a0.x.length) (hy1 : 2 ≤ a1.x.length) (dk dxk ll lc lk : Addr) (nl' nc nkk : Nat) (css : List (Str × Tok)) (kvs : List Value) (ps ks : List Nat) (half : Nat) (th : Tok) (hhalf : half = 2 ∨ half = 4) (hcl : css.length = 2 * half) (hpp : PermP half ps) (hks : NatsAre kvs ks) (hk8 : ∀ k ∈ ks, k < 8) (hk9 : ks.length < 20)
    (hbd : ∀ c ∈ css, c.1.length ≤ 1000) (hok : ∀ c ∈ css, PyData.strOk c.1 = true) (z0 z1 : List Nat) (K0 K1 : Int) : PySem.Challenge.rw_xj0013_01 = PySem.Challenge.rw_xj0013_01 → hd.heap_1 = hd.heap_1 →
  ∀ (dp un : Nat) (gd : Option (List Code)) (cn : Str) (cs : Scope) (a : Addr) (ccd : Value) (cl : List (Str × Addr)) (outer : List Env) (base h₀ : Heap) (L Lc : Addr) (m : Str → Option Value) (R news : Led) (oH oC : Obj) (s : Shared) (Q : Flow → Shared → Prop) (E : Value → Shared → Prop),
    Below (ktrTop dp un gd cn cs Lc a ccd cl outer) base (envX cn cs Lc a ccd cl :: outer) h₀ → Fr h₀ L s.heap m → (hd.heap_1 w.params).In h₀ → News h₀ L s.heap news → Tp mean mg mb h₀ → AllBare s.gens →
    m (Str.ofString "deck") = some (.ref dk) → m (Str.ofString "lexers") = some (.ref ll) → m (Str.ofString "kinds") = some (.ref lk) → oH.data = .cell (some (.int half th)) → oC.data = .cell (some (.ref lc)) →
    (∀ q ∈ a0.imm w, q ∈ R) → (a0.cr, ocr0) ∈ R → (∀ q ∈ a1.imm w, q ∈ R) → (a1.cr, ocr1) ∈ R → (∃ tk, (dxk, accD w tk) ∈ R) → (ll, W.listOf [.ref a0.ix, .ref a1.ix].toArray nl') ∈ R → (lc, W.listOf (strVals css).toArray nc) ∈ R → (lk, W.listOf kvs.toArray nkk) ∈ R →
    RunJ w a0 a1 dk dxk L oH oC R half (css.map (·.1)) ps ks z0 z1 K0 K1 m 0 m news →
    dp + (5 + 2) * 4 < recursionLimit → un + (5 + 2) * 12 < cLine →
    (∀ (h' : Heap) (tk' : Nat) (gs' : Array GenState) (m' : Str → Option Value) (news' : Led), AllBare gs' → Fr h₀ L h' m' → News h₀ L h' news' → RunJ w a0 a1 dk dxk L oH oC R half (css.map (·.1)) ps ks z0 z1 K0 K1 m ks.length m' news' →
      wpAny (model PySem.Challenge.pw_xj0013_01 w) ((ktrTop dp un gd cn cs Lc a ccd cl outer).deeper (runEnv w L)) (execs ((fnBody w.params 220).drop 3) (runEnv w L)) Q E { s with heap := h', toks := tk', gens := gs' }) →
    wpAny (model PySem.Challenge.pw_xj0013_01 w) ((ktrTop dp un gd cn cs Lc a ccd cl outer).deeper (runEnv w L)) (execs ((fnBody w.params 220).drop 2) (runEnv w L)) Q E s := by
  k_fill; intro _ _ dp un gd cn cs b ccd cl outer base h₀ L Lc m R news oH oC s Q E hB hF hX hN hT hG hmd hml hmk hH hC him0 hcm0 him1 hcm1 hdx hll hlc hlk hJ0 hdp hun hret
  have e1' : (fnBody w.params 220).drop 2 = (fnBody w.params 220).drop 2 := rfl
  conv at e1' => rhs; whnf
  have e2 : fnScope w.params 220 = fnScope w.params 220 := rfl
  conv at e2 => rhs; whnf
  have e3 : (fnBody w.params 220).drop 3 = (fnBody w.params 220).drop 3 := rfl
  conv at e3 => rhs; whnf
  have e4 : runBody w.params = runBody w.params := rfl
  conv at e4 => rhs; whnf
  unfold runEnv at *
  rw [e1', e2]
  rw [e3, e2] at hret
  repeat ((fail_if_success (with_reducible show wpAny _ _ (PySem.exec (Stmt.For _ _ _ _ _) _) _ _ _)); walk1; try dsimp only)
  refine wpAny_For ?_ (by intro _; rfl)
  repeat (walk1; try dsimp only)
  have hR0 : ∀ {news' : Led} {i : Nat} {m' : Str → Option Value}, RunJ w a0 a1 dk dxk L oH oC R half (css.map (·.1)) ps ks z0 z1 K0 K1 m i m' news' → ∀ {q : Addr × Obj}, q ∈ R → q ∈ news' := by
    rintro news' i m' ⟨vK, oK, oP, tb, lp, lo, vs, os, Y, np, no, nk, ln0, ln1, tl0, tl1, tp0, tp1, n10, n20, n11, n21, p0, p1, X, rfl, -⟩ q hq
    exact List.mem_append_right _ (List.mem_append_right _ (List.mem_append_right _ (List.mem_append_right _ hq)))
  (rename Fr _ _ _ _ => F1); (rename News _ _ _ _ => N1)
  refine pyIter_listG (vs := kvs) (nl := nkk) rfl (hR0 hJ0 hlk) F1 N1 (RunJ w a0 a1 dk dxk L oH oC R half (css.map (·.1)) ps ks z0 z1 K0 K1 m) hJ0 (fun i m' news' h => hR0 h hlk) hG ?_ ?_
  · rintro i v m₁ news₁ h₁ tk₁ gs₁ I it hv ⟨vK, oK, oP, tb, lp, lo, vs, os, Y, np, no, nk, ln0, ln1, tl0, tl1, tp0, tp1, n10, n20, n11, n21, p0, p1, X, rfl, hD1, htb, dK, dP, hlp, hvs, hlo, hco, hcY, -, hy0', hy1', hK0, hK1, hor, hm⟩ hG₁ F₁ N₁ hI K KE hK _hV
    obtain ⟨k, tkk, hki, rfl⟩ := hks.at hv
    have hk8' : k < 8 := hk8 k (List.mem_of_getElem? hki)
    have hil : i < ks.length := (List.getElem?_eq_some_iff.mp hki).1
    have hdr : ks.drop i = k :: ks.drop (i + 1) := by
      rw [List.drop_eq_getElem_cons hil]
      congr 1
      exact Option.some.inj ((List.getElem?_eq_getElem hil).symm.trans hki)
    have htk : stepsP half (ks.take (i + 1)) ps = (stepsP half (ks.take i) ps).map (placeN · half k) := by
      rw [List.take_add_one, hki, Option.toList_some, stepsP_snoc]
    rw [hdr, List.map_cons] at hy0' hy1'
    obtain ⟨r0, hr0, hyr0⟩ := hy0'
    obtain ⟨r1, hr1, hyr1⟩ := hy1'
    have hpsi : PermP half (stepsP half (ks.take i) ps) := PermP.steps hhalf (fun x hx => hk8 x (List.mem_of_mem_take hx)) hpp
    generalize stepsP half (ks.take i) ps = psi at *
    have hps2 := hpsi.step hhalf hk8'
    have hcl2 : (css.map (·.1)).length = 2 * half := by rw [List.length_map, hcl]
    have hcbl := orderP_fst (css.map (·.1)) psi
    have hcsn := orderP_snd hcl2 hpsi
    have hcok : ∀ c ∈ orderP (css.map (·.1)) psi, PyData.strOk c.1 = true ∧ PyData.strOk c.2 = true := fun c hc => ⟨by rw [hcbl c hc]; decide +kernel, by obtain ⟨x, hx, e⟩ := List.mem_map.mp (hcsn c hc); rw [← e]; exact hok x hx⟩
    have hol : (orderP (css.map (·.1)) psi).length = 2 * half := by simp [orderP, hpsi.len]
    have D₁ := DJ.cons (p := (I, it)) hI hD1
    repeat ((fail_if_success (with_reducible show wpAny _ _ (storeName _ _ _) _ _ _)); walk1; try dsimp only)
    k_dflt (refine storeX_D (pre := [(I, it)]) F₁ N₁ D₁ rfl dK ?_)
    intro h2 oK' F2 N2 D2 d2
    rw [← e4, ← e2]
    let CC : Led := RC L oK' oH oP oC
    let TT : Led := [(70, tb)]
    let II : Led := [(I, it)]
    let PP : Led := [(dk, accObj dxk Y nk)] ++ (a0.mut w ln0 tl0 [] n10 p0 tp0 n20 ++ a1.mut w ln1 tl1 [] n11 p1 tp1 n21)
    have Q1 := pq1 II CC TT PP (X ++ R)
    have mX : ∀ {q : Addr × Obj}, q ∈ R → q ∈ X ++ R := fun h => List.mem_append_right _ h
    refine runB0 a0 a1 ok0 ok1 ocr0 ocr1 hcr0 hcr1 hz0 hz1 hy0 hy1 ln0 ln1 tl0 tl1 tp0 tp1 n10 n20 n11 n21 p0 p1 dk dxk ll lo nk nl' no Y os (orderP (css.map (·.1)) psi) half k hhalf hk8' hol hcbl hcok r0 r1 hr0 hr1 rfl rfl dp un gd cn cs b ccd cl outer base h₀ L Lc m₁ (II ++ (CC ++ TT)) (X ++ R) _ _ _ hB F2 hX (cb_drop N2 fun p hp => Q1.mem_iff.mpr hp) (D2.perm Q1) hT (by rw [hm _ (by decide +kernel) (by decide +kernel)]; exact hmd) (by rw [hm _ (by decide +kernel) (by decide +kernel)]; exact hml) hor (fun q hq => mX (him0 q hq)) (mX hcm0) (fun q hq => mX (him1 q hq)) (mX hcm1) (by obtain ⟨tkd, hdx⟩ := hdx; exact ⟨tkd, mX hdx⟩) (mX hll) hlo hco hcY (by (exact om232 hdp)) (by (exact om231 hun)) ?_
    intro h3 tk3 X1 lr e0 e1 nr t1 t2 t3 t4 tl0' tp0' tl1' tp1' m0 mm1 n20' n21' p0' p1' nk' Y' hp0 hp1 F3 N3 D3 hlr he0 he1 hY'
    clear N2 D2 F2 Q1 PP
    let PP : Led := [(dk, accObj dxk Y' nk')] ++ (a0.mut w (ln0 + nl (remOf a0.x p0) - nl r0) tl0' [] m0 p0' tp0' n20' ++ a1.mut w (ln1 + nl (remOf a1.x p1) - nl r1) tl1' [] mm1 p1' tp1' n21')
    have Q2 := pq2 II CC TT PP X1 (X ++ R)
    have mB : ∀ {q : Addr × Obj}, q ∈ X ++ R → q ∈ II ++ (TT ++ (PP ++ (X1 ++ (X ++ R)))) := fun h => List.mem_append_right _ (List.mem_append_right _ (List.mem_append_right _ (List.mem_append_right _ h)))
    refine runB1 lc lp nc np css vs psi half k hhalf hk8' hcl hvs hpsi.len hpsi.lt hps2.mem hps2.lt tkk th rfl rfl dp un gd cn cs b ccd cl outer base h₀ L Lc _ (II ++ (TT ++ (PP ++ (X1 ++ (X ++ R))))) oK' oH oP oC _ _ _ hB F3 hX (cb_drop N3 fun p hp => Q2.mem_iff.mpr hp) (D3.perm Q2) hT d2 hH dP hC (mB (mX hlc)) (mB hlp) (by (exact om230 hdp)) (by (exact om229 hun)) ?_
    clear N3 D3 F3 Q2
    intro h4 tk4 oP' lp' lo' vs' os' np' no' O' F4 N4 D4 dP' hvs' hco'
    have Q3 := pq3 [(lo', W.listOf os'.toArray no')] O' (RC L oK' oH oP' oC) [(lp', W.listOf vs'.toArray np')] II TT PP X1 X R
    rw [order_shuf half k hhalf hk8' (css.map (·.1)) psi hpsi] at hco'
    let X' : Led := [(lo', W.listOf os'.toArray no')] ++ (O' ++ ([(lp', W.listOf vs'.toArray np')] ++ (X1 ++ X)))
    have s1 : ∀ {q : Addr × Obj}, q ∈ X1 → q ∈ X' := fun h => List.mem_append_right [_] (List.mem_append_right O' (List.mem_append_right [_] (List.mem_append_left _ h)))
    have s2 : ∀ {q : Addr × Obj}, q ∈ O' → q ∈ X' := fun h => List.mem_append_right [_] (List.mem_append_left _ h)
    have s3 : (lp', W.listOf vs'.toArray np') ∈ X' := List.mem_append_right [_] (List.mem_append_right O' (.head _))
    have s4 : (lo', W.listOf os'.toArray no') ∈ X' := .head _
    have mC : ∀ {q : Addr × Obj}, q ∈ X' ++ R → q ∈ II ++ (RC L oK' oH oP' oC ++ (PP ++ (X' ++ R))) := fun h => List.mem_append_right _ (List.mem_append_right _ (List.mem_append_right _ h))
    have sl : (shufP half k (orderP (css.map (·.1)) psi)).length < 10 := by
      have := (shufP_at half k hhalf hk8' (orderP (css.map (·.1)) psi) hol).1
      (exact om228 hhalf this)
    have sb : ∀ c ∈ shufP half k (orderP (css.map (·.1)) psi), c.1.length ≤ 1000 ∧ c.2.length ≤ 1000 := by
      rw [← order_shuf half k hhalf hk8' (css.map (·.1)) psi hpsi]
      intro c hc
      refine ⟨by rw [orderP_fst _ _ c hc]; decide +kernel, ?_⟩
      obtain ⟨x, hx, e⟩ := List.mem_map.mp (orderP_snd hcl2 hps2 c hc)
      rw [← e]; exact hbd x hx
    obtain ⟨tkd, hdx⟩ := hdx
    refine runB2 lr e0 e1 dk dxk lo' nr nk' no' t1 t2 t3 t4 tkd Y' os' (shufP half k (orderP (css.map (·.1)) psi)) sl sb rfl rfl dp un gd cn cs b ccd cl outer base h₀ L Lc _ (II ++ (RC L oK' oH oP' oC ++ (PP ++ (X' ++ R)))) tb _ _ _ hB F4 hX (cb_drop N4 fun p hp => Q3.mem_iff.mpr hp) (D4.perm Q3) hT htb hG₁ ?l1 ?l2 ?l3 (mC (List.mem_append_left _ (s1 hlr))) (mC (List.mem_append_left _ (s1 he0))) (mC (List.mem_append_left _ (s1 he1))) (List.mem_append_right _ (List.mem_append_right _ (.head _))) (mC (List.mem_append_right _ hdx)) (mC (List.mem_append_left _ s4)) (hY'.mono fun p hp => mC (List.mem_append_left _ (s1 hp))) (hco'.mono fun p hp => mC (List.mem_append_left _ (s2 hp))) (by (exact om227 hdp)) (by (exact om226 hun)) ?_
    case l1 => rw [if_neg (by decide +kernel), if_pos rfl]
    case l2 => rw [if_neg (by decide +kernel), if_neg (by decide +kernel), hm _ (by decide +kernel) (by decide +kernel)]; exact hmd
    case l3 => rw [if_pos rfl]
    clear N4
    intro h5 tk5 gs5 tb' hG5 F5 N5 htb'
    have D5 : DJ ([(70, tb')] ++ (II ++ (RC L oK' oH oP' oC ++ (PP ++ (X' ++ R))))) := DJ.same (b := TT ++ (II ++ (RC L oK' oH oP' oC ++ (PP ++ (X' ++ R))))) rfl (D4.perm Q3)
    have Q4 := pq4 [(70, tb')] II (RC L oK' oH oP' oC) (PP ++ (X' ++ R))
    have D6 := D5.perm Q4
    refine hK (.inl rfl) hG5 F5 (cb_drop N5 fun p hp => Q4.mem_iff.mpr hp) (DJ.off (a := II) D6 _ (.head _)) ?_
    rw [← hp0] at hyr0
    rw [← hp1] at hyr1
    refine ⟨_, oK', oP', tb', lp', lo', vs', os', Y', np', no', nk', _, _, tl0', tl1', tp0', tp1', m0, n20', mm1, n21', p0', p1', X', rfl, DJ.right (a := II) D6, htb', d2, dP', List.mem_append_left _ s3, by rw [htk]; exact hvs', List.mem_append_left _ s4, ?_, ?_, ?_, hyr0, hyr1, ?_, ?_, if_pos rfl, ?_⟩
    · rw [htk, order_shuf half k hhalf hk8' (css.map (·.1)) psi hpsi]
      exact hco'.mono fun p hp => List.mem_append_left _ (s2 hp)
    · rw [htk, order_shuf half k hhalf hk8' (css.map (·.1)) psi hpsi]
      exact hY'.mono fun p hp => List.mem_append_left _ (s1 hp)
    · intro _
      refine ⟨s3, ?_⟩
      rw [htk, order_shuf half k hhalf hk8' (css.map (·.1)) psi hpsi]
      exact hY'.mono fun p hp => s1 hp
    · rw [hp0, ← hK0]; (exact om225)
    · rw [hp1, ← hK1]; (exact om225)
    · intro y h1 h2
      (try dsimp only)
      rw [if_neg h1, if_neg h2]
      exact hm y h1 h2
  · intro h' tk' gs' m' news' hG' F' N' hJ'
    have hkl : kvs.length = ks.length := hks.len
    rw [hkl] at hJ'
    dsimp only
    repeat ((fail_if_success (with_reducible show wpAny _ _ (execs (Stmt.Return _ _ :: _) _) _ _ _)); walk1; try dsimp only)
    exact hret _ _ gs' m' news' hG' F' N' hJ'
end

section
open PySem PySem.W PyProof.Rows PySem.Calls PySem.Spec Builtin Builtin.ObjectAttr Builtin.Str
set_option maxHeartbeats 6000000
variable {w : World} {mean : ExcName → Option Value} {mg mb : Str → Option Value}
inductive RunRd (w : World) (a0 a1 : Lx) (ocr0 ocr1 : Obj) (P : Led) (dxk ll lc lp lk : Addr) (nl' nc np nkk : Nat) (css : List (Str × Tok)) (vs Y kvs : List Value) (ps : List Nat) (rest : Led) : Prop
  | mk (hD : DJ (P ++ rest)) (h1 : ∀ q ∈ a0.imm w, q ∈ rest) (h2 : (a0.cr, ocr0) ∈ rest) (h3 : ∀ q ∈ a1.imm w, q ∈ rest) (h4 : (a1.cr, ocr1) ∈ rest) (h5 : ∃ tk, (dxk, accD w tk) ∈ rest) (h6 : (ll, W.listOf [.ref a0.ix, .ref a1.ix].toArray nl') ∈ rest) (h7 : (lc, W.listOf (strVals css).toArray nc) ∈ rest) (h8 : (lp, W.listOf vs.toArray np) ∈ rest) (h9 : (lk, W.listOf kvs.toArray nkk) ∈ rest) (hc : Cards rest Y (orderP (css.map (·.1)) ps))
inductive RunPost (w : World) (a0 a1 : Lx) (dk dxk : Addr) (half : Nat) (css : List (Str × Tok)) (ps ks : List Nat) (ln0 ln1 : Int) (p0 p1 : Nat) (z0 z1 : List Nat) (v' : Value) (post extra : Led) : Prop
  | mk (lp' : Addr) (vs' Y' : List Value) (np' nk' : Nat) (tb' : Obj) (ln0' ln1' : Int) (tl0' tl1' tp0' tp1' : Tok) (n10' n20' n11' n21' p0' p1' : Nat) (ev : v' = .ref lp') (ep : post = [(70, tb')] ++ ([(dk, accObj dxk Y' nk')] ++ (a0.mut w ln0' tl0' [] n10' p0' tp0' n20' ++ a1.mut w ln1' tl1' [] n11' p1' tp1' n21'))) (ht : TabOk tb') (hD : DJ extra) (hl : (lp', W.listOf vs'.toArray np') ∈ extra) (hv : NatsAre vs' (stepsP half ks ps)) (hc : Cards extra Y' (orderP (css.map (·.1)) (stepsP half ks ps))) (h0 : remOf a0.x p0' = z0) (h1 : remOf a1.x p1' = z1) (k0 : ln0' + nl z0 = ln0 + nl (remOf a0.x p0)) (k1 : ln1' + nl z1 = ln1 + nl (remOf a1.x p1))
theorem run_w (a0 a1 : Lx) (ok0 : a0.Ok) (ok1 : a1.Ok) (ocr0 ocr1 : Obj) (hcr0 : CodeOk ocr0) (hcr1 : CodeOk ocr1) (hz0 : a0.x.length < 2000) (hz1 : a1.x.length < 2000) (hy0 : 2 ≤ a0.x.length) (hy1 : 2 ≤ a1.x.length)
    (ln0 ln1 : Int) (tl0 tl1 tp0 tp1 : Tok) (n10 n20 n11 n21 p0 p1 : Nat) (dk dxk ll lc lp lk : Addr) (nk nl' nc np nkk : Nat) (css : List (Str × Tok)) (vs Y kvs : List Value) (ps ks : List Nat) (half : Nat) (tb : Obj) (hhalf : half = 2 ∨ half = 4) (hcl : css.length = 2 * half) (hps : NatsAre vs ps) (hpp : PermP half ps) (hks : NatsAre kvs ks) (hk8 : ∀ k ∈ ks, k < 8) (hk0 : ks ≠ []) (hk9 : ks.length < 20)
    (hbd : ∀ c ∈ css, c.1.length ≤ 1000) (hok : ∀ c ∈ css, PyData.strOk c.1 = true) (htb : TabOk tb) (z0 z1 : List Nat) (hz0' : Yields (remOf a0.x p0) (ks.map (· % 2)) z0) (hz1' : Yields (remOf a1.x p1) (ks.map (· / 2)) z1) : PySem.Challenge.rw_xj0013_01 = PySem.Challenge.rw_xj0013_01 → hd.heap_1 = hd.heap_1 →
    ClaimG w mean mg mb 5 (.ref 220) [.ref dk, .ref ll, .ref lc, .ref lp, .ref lk] ([(70, tb)] ++ ([(dk, accObj dxk Y nk)] ++ (a0.mut w ln0 tl0 [] n10 p0 tp0 n20 ++ a1.mut w ln1 tl1 [] n11 p1 tp1 n21)))
    (RunRd w a0 a1 ocr0 ocr1 ([(70, tb)] ++ ([(dk, accObj dxk Y nk)] ++ (a0.mut w ln0 tl0 [] n10 p0 tp0 n20 ++ a1.mut w ln1 tl1 [] n11 p1 tp1 n21))) dxk ll lc lp lk nl' nc np nkk css vs Y kvs ps)
    (RunPost w a0 a1 dk dxk half css ps ks ln0 ln1 p0 p1 z0 z1) := by
  k_fill; intro _ _ dp un gd cn cs b ccd cl outer A₀ base h₀ L m rest s Q E hB hF hX hN hO hR hT hk hG hdp hun hret
  obtain ⟨hD, him0, hcm0, him1, hcm1, ⟨tkd, hdx⟩, hll, hlc, hlp, hlk, hcY⟩ := hR
  refine wpAny_call ?_
  refine' callX_cells (binds := [(Str.ofString "deck", .ref dk), (Str.ofString "lexers", .ref ll), (Str.ofString "cards", .ref lc), (Str.ofString "places", .ref lp), (Str.ofString "kinds", .ref lk)]) hB hF hN hT.nolimit ?kA ?kF ?kK ((hX.keeps hF.keep) 220 _ rfl) rfl (codeRec_of (hX.keeps hF.keep) ?k7) ?k8 ?k9 ?kB ?kC ?_ ?c2 ?c3 ?c4
  (case kA => exact rfl); (case kF => exact rfl); (case kK => exact hk); (case k7 => k_is); (case k8 => show dp < recursionLimit; (exact om306 hdp)); (case k9 => exact BindsTo.of_eq rfl)
  (case kB =>
    intro n x hx
    rcases List.mem_cons.mp hx with rfl | hx
    · exact .inl rfl
    rcases List.mem_cons.mp hx with rfl | hx
    · exact .inl rfl
    rcases List.mem_cons.mp hx with rfl | hx
    · exact .inr ⟨rfl, rfl⟩
    rcases List.mem_cons.mp hx with rfl | hx
    · exact .inr ⟨rfl, rfl⟩
    rw [List.mem_singleton.mp hx]
    exact .inl rfl)
  (case kC => decide); (case c2 => exact rfl); (case c3 => exact rfl); (case c4 => exact rfl)
  intro g1 L' h1 tk1 cells FG F1 N1 CA B1 st1 lt1
  have X1 := hX.keeps st1
  have T1 := hT.keeps st1
  k_cells CA
  (rename_i oK oH oP oC dK dH dP dC)
  have dK' : oK.data = .cell none := dK.trans (by kernel_rfl)
  have dH' : oH.data = .cell none := dH.trans (by kernel_rfl)
  have dP' : oP.data = .cell (some (.ref lp)) := dP.trans (by kernel_rfl)
  have dC' : oC.data = .cell (some (.ref lc)) := dC.trans (by kernel_rfl)
  clear dK dH dP dC
  have D1 : DJ (RC L' oK oH oP oC ++ (([(70, tb)] ++ ([(dk, accObj dxk Y nk)] ++ (a0.mut w ln0 tl0 [] n10 p0 tp0 n20 ++ a1.mut w ln1 tl1 [] n11 p1 tp1 n21))) ++ rest)) := by
    have l1 : ∀ q ∈ ([(70, tb)] ++ ([(dk, accObj dxk Y nk)] ++ (a0.mut w ln0 tl0 [] n10 p0 tp0 n20 ++ a1.mut w ln1 tl1 [] n11 p1 tp1 n21))) ++ rest, q.1 < L' := lt1
    refine DJ.new ?_ (DJ.new ?_ (DJ.new ?_ (DJ.new ?_ hD)))
    · intro q hq
      rcases List.mem_cons.mp hq with rfl | hq
      · exact Nat.lt_succ_self _
      rcases List.mem_cons.mp hq with rfl | hq
      · exact Nat.lt_succ_of_lt (Nat.lt_succ_self _)
      rcases List.mem_cons.mp hq with rfl | hq
      · exact Nat.lt_succ_of_lt (Nat.lt_succ_of_lt (Nat.lt_succ_self _))
      exact Nat.lt_succ_of_lt (Nat.lt_succ_of_lt (Nat.lt_succ_of_lt (Nat.lt_succ_of_lt (l1 q hq))))
    · intro q hq
      rcases List.mem_cons.mp hq with rfl | hq
      · exact Nat.lt_succ_self _
      rcases List.mem_cons.mp hq with rfl | hq
      · exact Nat.lt_succ_of_lt (Nat.lt_succ_self _)
      exact Nat.lt_succ_of_lt (Nat.lt_succ_of_lt (Nat.lt_succ_of_lt (l1 q hq)))
    · intro q hq
      rcases List.mem_cons.mp hq with rfl | hq
      · exact Nat.lt_succ_self _
      exact Nat.lt_succ_of_lt (Nat.lt_succ_of_lt (l1 q hq))
    · intro q hq
      exact Nat.lt_succ_of_lt (l1 q hq)
  have e1 : fnBody w.params 220 = fnBody w.params 220 := rfl
  conv at e1 => rhs; whnf
  have e2 : fnScope w.params 220 = fnScope w.params 220 := rfl
  conv at e2 => rhs; whnf
  have e3 : (fnBody w.params 220).drop 3 = (fnBody w.params 220).drop 3 := rfl
  conv at e3 => rhs; whnf
  rw [← e1, ← e2]
  have mr : ∀ {q : Addr × Obj}, q ∈ rest → q ∈ ([(70, tb)] ++ ([(dk, accObj dxk Y nk)] ++ (a0.mut w ln0 tl0 [] n10 p0 tp0 n20 ++ a1.mut w ln1 tl1 [] n11 p1 tp1 n21))) ++ rest := fun h => List.mem_append_right _ h
  refine runA lc lp nc np css vs ps half hhalf hcl hps hpp.len hpp.mem hpp.lt rfl rfl dp un gd cn cs b ccd cl outer base g1 L' L _ (([(70, tb)] ++ ([(dk, accObj dxk Y nk)] ++ (a0.mut w ln0 tl0 [] n10 p0 tp0 n20 ++ a1.mut w ln1 tl1 [] n11 p1 tp1 n21))) ++ rest) oK oH oP oC none _ _ _ B1 F1 X1 N1 D1 T1 dH' dP' dC' (mr hlc) (mr hlp) (by (exact om230 hdp)) (by (exact om229 hun)) ?_
  clear N1 F1 D1
  intro h2 tk2 oH2 lo os no O' th F2 N2 D2 dH2 hco
  let TT : Led := [(70, tb)]
  let PP : Led := ([(dk, accObj dxk Y nk)] ++ (a0.mut w ln0 tl0 [] n10 p0 tp0 n20 ++ a1.mut w ln1 tl1 [] n11 p1 tp1 n21))
  have Q0 := pq0 [(lo, W.listOf os.toArray no)] O' (RC L' oK oH2 oP oC) TT PP rest
  have hJ0 : ∀ m2 : Str → Option Value, m2 (Str.ofString "order") = some (.ref lo) → RunJ w a0 a1 dk dxk L' oH2 oC rest half (css.map (·.1)) ps ks z0 z1 (ln0 + nl (remOf a0.x p0)) (ln1 + nl (remOf a1.x p1)) m2 0 m2 (RC L' oK oH2 oP oC ++ (TT ++ (PP ++ (([(lo, W.listOf os.toArray no)] ++ O') ++ rest)))) := fun m2 ho =>
    ⟨none, oK, oP, tb, lp, lo, vs, os, Y, np, no, nk, ln0, ln1, tl0, tl1, tp0, tp1, n10, n20, n11, n21, p0, p1, [(lo, W.listOf os.toArray no)] ++ O', rfl, D2.perm Q0, htb, dK', dP', List.mem_append_right _ hlp, hps, List.mem_append_left _ (.head _), hco.mono fun p hp => List.mem_append_left _ (.tail _ hp), hcY.mono fun p hp => List.mem_append_right _ hp, fun h => absurd rfl h, hz0', hz1', rfl, rfl, ho, fun y _ _ => rfl⟩
  refine runL a0 a1 ok0 ok1 ocr0 ocr1 hcr0 hcr1 hz0 hz1 hy0 hy1 dk dxk ll lc lk nl' nc nkk css kvs ps ks half th hhalf hcl hpp hks hk8 hk9 hbd hok z0 z1 _ _ rfl rfl dp un gd cn cs b ccd cl outer base g1 L' L _ rest _ oH2 oC _ _ _ B1 F2 X1 (cb_drop N2 fun p hp => Q0.mem_iff.mpr hp) T1 hG ?l1 ?l2 ?l3 dH2 dC' him0 hcm0 him1 hcm1 ⟨tkd, hdx⟩ hll hlc hlk (hJ0 _ (if_pos rfl)) (by (exact om305 hdp)) (by (exact om304 hun)) ?_
  case l1 => kernel_rfl
  case l2 => kernel_rfl
  case l3 => kernel_rfl
  clear F2 N2 D2 Q0 hJ0
  intro h3 tk3 gs3 m3 news3 hG3 F3 N3 hJ3
  obtain ⟨vK, oK3, oP3, tb3, lp3, lo3, vs3, os3, Y3, np3, no3, nk3, ln0', ln1', tl0', tl1', tp0', tp1', n10', n20', n11', n21', p0', p1', X3, rfl, hD3, htb3, dK3, dP3, -, hvs3, -, -, -, hx3, hy0'', hy1'', hK0, hK1, -, -⟩ := hJ3
  rw [List.drop_length] at hy0'' hy1''
  rw [List.take_length] at hvs3 hx3
  obtain ⟨hlp3, hcY3⟩ := hx3 (fun e => hk0 (List.eq_nil_of_length_eq_zero e))
  have hy0e : remOf a0.x p0' = z0 := hy0''
  have hy1e : remOf a1.x p1' = z1 := hy1''
  rw [e3, e2]
  repeat (walk1; try dsimp only)
  (rename Fr _ _ _ _ => FZ); (rename News _ _ _ _ => NZ)
  have DZ : DJ (([(70, tb3)] ++ ([(dk, accObj dxk Y3 nk3)] ++ (a0.mut w ln0' tl0' [] n10' p0' tp0' n20' ++ a1.mut w ln1' tl1' [] n11' p1' tp1' n21'))) ++ (X3 ++ rest)) := DJ.right (a := RC L' oK3 oH2 oP3 oC) hD3
  refine hret (.ref lp3) _ X3 _ _ gs3 hG3 FZ (cb_drop NZ fun p hp => List.mem_append_right _ hp) DZ.off (DJ.off (DJ.right DZ)) ⟨lp3, vs3, Y3, np3, nk3, tb3, ln0', ln1', tl0', tl1', tp0', tp1', n10', n20', n11', n21', p0', p1', rfl, rfl, htb3, DJ.left (DJ.right DZ), hlp3, hvs3, hcY3, hy0e, hy1e, ?_, ?_⟩
  · rw [← hy0e]; exact hK0
  · rw [← hy1e]; exact hK1
end

section
open PySem PySem.W PyProof.Rows PySem.Calls PySem.Spec Builtin Builtin.ObjectAttr Builtin.Str
set_option maxHeartbeats 3000000
open LCg
/-- a turn's end, the tokens told -/
noncomputable def EndT (h₀ : Heap) (L : Addr) (m : Str → Option Value) (s₁ : Shared) (I : Addr) (oI : Obj) (C : Addr) (oC : Obj) (D : Addr) (oD : Obj) (S : Led → Prop) (J : Value → Led → Nat → Prop) (y : Value) (s₂ : Shared) : Prop :=
  ∃ h' tk news', s₂ = { s₁ with heap := h', toks := tk } ∧ Fr h₀ L h' m ∧ News h₀ L h' ((I, oI) :: (C, oC) :: (D, oD) :: news') ∧ Off3 I C D news' ∧ S news' ∧ J y news' tk
section
variable {prog : Program} {w : World} {A : Around} {E : Value → Shared → Prop} {s : Shared} {h₀ : Heap} {L : Addr} {m : Str → Option Value} {env : Env}
noncomputable abbrev StepT (prog : Program) (w : World) (A : Around) (h₀ : Heap) (L : Addr) (m : Str → Option Value) (env : Env) (elt : Expr) (x : Str) (scope : Scope) (cl : List (Str × Addr)) (s : Shared) (S : Led → Prop) (P : Nat → Value → Prop) (n : Nat) (J : Nat → List Value → Led → Nat → Prop) : Prop :=
  ∀ i ys news v I oI C oC D m₂ h tk₀ tk (E' : Value → Shared → Prop), i < n → J i ys news tk₀ → tk₀ ≤ tk → P i v → NsObj oC m₂ → m₂ x = some v → Fr h₀ L h m → News h₀ L h ((I, oI) :: (C, oC) :: (D, lst ys) :: news) → Off3 I C D news → ((@Ne Nat I C) ∧ (@Ne Nat I D) ∧ (@Ne Nat C D)) → S news →
    wpAny (model prog w) A (eval elt (compEnvC scope cl C env)) (EndT h₀ L m { s with heap := h, toks := tk } I oI C oC D (lst ys) S (fun y => J (i + 1) (ys ++ [y]))) E' { s with heap := h, toks := tk }
inductive BlkI (h₀ : Heap) (L : Addr) (m : Str → Option Value) (I D C : Addr) (n : Nat) (St : Nat → Heap → Prop) (S : Led → Prop) (J : Nat → List Value → Led → Nat → Prop) (s₂ : Shared) (k : Nat) (s' : Shared) : Prop
  | mk (h' : Heap) (tk₀ tk i : Nat) (ys : List Value) (m' : Str → Option Value) (news' : Led) (e : s' = { s₂ with heap := h', toks := tk }) (hle : tk₀ ≤ tk) (hi : i ≤ n) (ek : k = n + 1 - i) (hy : ys.length = i) (st : St i h') (F : Fr h₀ L h' m) (hn : h'.Ns C m') (N : News h₀ L h' ((D, lst ys) :: news')) (off : Off3 I C D news') (hS : S news') (hJ : J i ys news' tk₀)
theorem blockT {elt iter : Expr} {x : Str} {px : Pos} {scope : Scope} {cl : List (Str × Addr)} {pos : Pos} {s₂ : Shared} {I : Addr} {fp : List Addr} {n : Nat} {P : Nat → Value → Prop} {St : Nat → Heap → Prop} {S : Led → Prop} {news : Led}
    {J : Nat → List Value → Led → Nat → Prop} {RR : Value → Addr → Result → Shared → Prop}
    (W : Walks prog w A I fp [I] n P St) (hsz : n ≤ sizeLine) (hIo : ∀ i h, St i h → ∃ o, h.get? I = some o)
    (hSt : ∀ i h h' o nw, St i h → h.get? I = some o → h'.get? I = some o → (∀ b o, h₀.get? b = some o → h'.get? b = some o) → News h₀ L h' nw → S nw → St i h')
    (hcell : ∀ y ∈ scope.names, y.2 ≠ .cell) (hkind : scope.kind = .function) (hx : scope.names.lookup x = some .local) (hst : St 0 s₂.heap) (hfp : ∀ b ∈ fp, b < s₂.heap.objs.size)
    (F : Fr h₀ L s₂.heap m) (N : News h₀ L s₂.heap news) (hIL : L ≠ I) (hI₀ : h₀.get? I = none) (off : ∀ p ∈ news, p.1 ≠ I) (hS : S news)
    (h0 : J 0 [] news s₂.toks) (step : StepT prog w A h₀ L m env elt x scope cl s₂ S P n J)
    (hRR : ∀ D C h tk₀ tk m' ys news', tk₀ ≤ tk → J n ys news' tk₀ → Fr h₀ L h m → News h₀ L h ((D, lst ys) :: news') → Off1 D news' → h.Ns C m' → h₀.get? C = none → C ≠ L → C ≠ D → (∀ p ∈ news', p.1 ≠ C) → RR (.ref D) C (.ok .next) { s₂ with heap := h, toks := tk }) :
    wpAny (model prog w) A (newList []) (fun acc s₃ => wpAny (model prog w) A (newFunctionEnv scope env.globals cl [] env.qual none .none (some env)) (fun cenv s₄ =>
      codeAny (model prog w) A (.compStart (.ListComp elt [⟨.Name x px, iter, [], 0⟩] scope pos) 0 (.ref I) acc { cenv with scope := relabel scope env }) (RR acc cenv.locals) s₄) E s₃) E s₂ := by
  refine wpAny_newObj_type (wpAny_newFunctionEnv hcell (by intro y hy; simp at hy) (fun h₁ hns₁ hsb₁ => ?_) hkind)
  dsimp only at hns₁ hsb₁ ⊢
  generalize hD : s₂.heap.objs.size = D at *
  generalize hH : s₂.heap.push { cls := .type "list", dict := none, data := .seq ([] : List Value).toArray } = H at hns₁ hsb₁ ⊢
  generalize hC : H.objs.size = C at *
  have eC : C = D + 1 := by rw [← hC, ← hH, Heap.size_push, hD]
  have hDC : D ≠ C := by rw [eC]; exact Nat.ne_of_lt (Nat.lt_succ_self _)
  have low : ∀ b o, s₂.heap.get? b = some o → b < D := fun b o e => hD ▸ Heap.lt_size e
  have hup : ∀ b, b < D → b ≠ C ∧ b ≠ D := fun b hb => ⟨by rw [eC]; exact Nat.ne_of_lt (Nat.lt_succ_of_lt hb), Nat.ne_of_lt hb⟩
  have keep : ∀ b o, s₂.heap.get? b = some o → h₁.get? b = some o := fun b o e => hsb₁.extBut b o (hup b (low b o e)).1 (Heap.get?_push_of_some _ (hH ▸ Heap.get?_push_of_some _ e))
  have hacc : h₁.get? D = some (lst []) := hsb₁.extBut _ _ hDC (Heap.get?_push_of_some _ (hH ▸ hD ▸ Heap.get?_push_size _ rfl))
  have none2 : ∀ a, D ≤ a → s₂.heap.get? a = none := fun a ha => by
    cases e : s₂.heap.get? a with
    | none => rfl
    | some o => exact absurd (low a o e) (Nat.not_lt.mpr ha)
  have none0 : ∀ a, D ≤ a → h₀.get? a = none := fun a ha => by
    cases e : h₀.get? a with
    | none => rfl
    | some o => have := none2 a ha; rw [F.keep a o e] at this; cases this
  have hD₀ := none0 D (Nat.le_refl _)
  have hC₀ := none0 C (by rw [eC]; exact Nat.le_succ _)
  have hLD : L < D := hD ▸ F.ns.lt
  have hIf : I ∈ fp := W.sub I (List.mem_singleton.mpr rfl)
  have hID : I < D := hfp I hIf
  have hDf : D ∉ fp := fun q => Nat.lt_irrefl _ (hfp _ q)
  have hCf : C ∉ fp := fun q => by have := hfp _ q; rw [eC] at this; exact Nat.lt_irrefl _ (Nat.lt_of_succ_lt this)
  have hLC := Ne.symm (hup L hLD).1
  have hLD' := Ne.symm (hup L hLD).2
  have hIC := (hup I hID).1
  have hID' := (hup I hID).2
  have off₀ : Off3 I C D news := Off3.of fun p hp => ⟨off p hp, (hup _ (low _ _ (N p hp).1)).1, (hup _ (low _ _ (N p hp).1)).2⟩
  have loop : ∀ s₃ : Shared, s₃ = { s₂ with heap := h₁, toks := s₂.toks + ([] : List (Str × Value)).length } →
      codeAny (model prog w) A (.compLoop (.ListComp elt [⟨.Name x px, iter, [], 0⟩] scope pos) 0 (.ref I) (.ref D) (compEnvC scope cl C env)) (RR (.ref D) C) s₃ := by
    rintro s₃ rfl
    refine codeAny_compLoop_tests
      (BlkI h₀ L m I D C n St S J s₂) ?_ (n + 1)
      ⟨h₁, s₂.toks, _, 0, [], _, news, rfl, Nat.le_add_right _ _, Nat.zero_le _, rfl, rfl, W.frame _ _ _ hst fun b _ o e => keep b o e, F.keeps keep, hns₁, fun p hp => ?_, off₀, hS, h0⟩
    · rintro k s' ⟨h', tk₀, tk, i, ys, m', news', rfl, hle, hi, rfl, hyl, hst', F', hn', N', off', hS', hJ⟩
      have o3 := off'.mem
      have NB : ∀ h₂ : Heap, (∀ b o, b ∉ [I] → h'.get? b = some o → h₂.get? b = some o) → News h₀ L h₂ ((D, lst ys) :: news') := fun h₂ hk => news_but N' hk fun p hp => by
        rcases List.mem_cons.mp hp with rfl | hp
        · exact Ne.symm hID'
        · exact (o3 p hp).1
      by_cases hlt : i < n
      · refine toks_cut (W.item i _ _ _ hlt hst' fun v h₂ tk₂ hP hst₂ hk₂ => ?_)
        intro hle₂
        refine wpAny_assign_Name (wpAny_storeName_local (lookup_relabel_local hx) (hn'.at' fun o e => hk₂ _ o (by simpa using Ne.symm hIC) e) (fun h₃ hn₃ hs₃ => ?_) (by simp [compEnvC, relabel, hkind]))
        refine wpAny_tests_nil ?_
        simp only [if_true]
        have hst₃ : St (i + 1) h₃ := W.frame _ _ _ hst₂ fun b hb o e => hs₃.extBut b o (fun q => hCf (by have q' : b = C := q; rw [← q']; exact hb)) e
        obtain ⟨oI, heI⟩ := hIo _ _ hst₃
        obtain ⟨oC, heC, hoC⟩ := ns_obj hn₃
        have F₃ : Fr h₀ L h₃ m := (fr_but F' hk₂ hIL hI₀).change hs₃ hLC hC₀
        have N₂ := NB h₂ hk₂
        have N₃ : News h₀ L h₃ ((I, oI) :: (C, oC) :: (D, lst ys) :: news') := fun p hp => by
          rcases List.mem_cons.mp hp with rfl | hp
          · exact ⟨heI, Ne.symm hIL, hI₀⟩
          rcases List.mem_cons.mp hp with rfl | hp
          · exact ⟨heC, hLC, hC₀⟩
          refine ⟨hs₃.extBut _ _ ?_ (N₂ p hp).1, (N₂ p hp).2⟩
          rcases List.mem_cons.mp hp with rfl | hp
          · exact hDC
          · exact (o3 p hp).2.1
        refine wpAny_mono (step i ys news' v I oI C oC D _ h₃ tk₀ _ _ hlt hJ (Nat.le_trans (Nat.le_trans hle hle₂) ?_) hP hoC (by simp) F₃ N₃ off' ⟨hIC, hID', Ne.symm hDC⟩ hS') (fun y s₄ h₄ => ?_) fun _ _ e => e
        · first | exact Nat.le_refl _ | exact Nat.le_succ _
        obtain ⟨h₄, tk₄, news₄, rfl, F₄, N₄, off₄, hS₄, hJ₄⟩ := h₄
        have zI := (N₄ (I, oI) (.head _)).1
        have zC := (N₄ (C, oC) (.tail _ (.head _))).1
        have zD := (N₄ (D, lst ys) (.tail _ (.tail _ (.head _)))).1
        have N₅ : News h₀ L h₄ news₄ := fun p hp => N₄ p (.tail _ (.tail _ (.tail _ hp)))
        have o4 := off₄.mem
        refine append_at (hsz := by show ys.toArray.size ≤ sizeLine; rw [List.size_toArray, hyl]; exact Nat.le_trans hi hsz) zD fun h₅ hs₅ hD₅ => ?_
        refine ⟨n + 1 - (i + 1), by (exact om233 hlt), h₅, tk₄, tk₄, i + 1, ys ++ [y], _, news₄, rfl, Nat.le_refl _, hlt, rfl, by rw [List.length_append, List.length_singleton, hyl], W.frame _ _ _ (hSt _ _ _ _ _ hst₃ heI zI F₄.keep N₅ hS₄) fun b hb o e => hs₅.extBut b o (fun q => hDf (q ▸ hb)) e, F₄.change hs₅ hLD' hD₀,
          (hoC.ns zC).sameBut hs₅ (Ne.symm hDC), fun p hp => ?_, off₄, hS₄, hJ₄⟩
        rcases List.mem_cons.mp hp with rfl | hp
        · exact ⟨hD₅.trans (congrArg some (lst_snoc ys y)), hLD', hD₀⟩
        · exact ⟨hs₅.extBut _ _ (o4 p hp).2.2 (N₅ p hp).1, (N₅ p hp).2⟩
      · obtain rfl : i = n := Nat.le_antisymm hi (Nat.not_lt.mp hlt)
        refine toks_cut (W.done _ _ _ hst' fun h₂ tk₂ hk₂ => ?_)
        intro hle₂
        exact hRR D C h₂ tk₀ tk₂ _ ys news' (Nat.le_trans hle hle₂) hJ (fr_but F' hk₂ hIL hI₀) (NB h₂ hk₂) off'.one (hn'.at' fun o e => hk₂ _ o (by simpa using Ne.symm hIC) e) hC₀ hLC (Ne.symm hDC) fun p hp => (o3 p hp).2.1
    · rcases List.mem_cons.mp hp with rfl | hp
      · exact ⟨hacc, hLD', hD₀⟩
      · exact ⟨keep _ _ (N p hp).1, (N p hp).2⟩
  exact codeAny_compStart_list (loop _ rfl) (W.self 0 _ _ _ (W.frame _ _ _ hst fun b _ o e => keep b o e) (loop _ rfl))
/-- the source of a comprehension, the tokens told -/
noncomputable def SrcT (prog : Program) (w : World) (A : Around) (h₀ : Heap) (L : Addr) (m : Str → Option Value) (env : Env) (elt : Expr) (x : Str) (scope : Scope) (cl : List (Str × Addr)) (Q : Value → Shared → Prop) (xv : Value) (s₁ : Shared) : Prop :=
  ∃ (r : Addr) (n : Nat) (news : Led) (P : Nat → Value → Prop) (S : Led → Prop) (J : Nat → List Value → Led → Nat → Prop),
    xv = .ref r ∧ n ≤ sizeLine ∧ A.handled = none ∧ Fr h₀ L s₁.heap m ∧ News h₀ L s₁.heap news ∧ S news ∧ J 0 [] news s₁.toks ∧
    ((∃ its k, (r, W.listOf its k) ∈ news ∧ its.size = n ∧ (∀ l, S l → (r, W.listOf its k) ∈ l) ∧ P = fun i v => its[i]? = some v) ∨
      (∃ t u v, IsRange s₁.heap r 0 (n : Nat) 1 t u v ∧ n < 2 ^ 60 ∧ P = fun i v => ∃ t, v = .int (i : Nat) t)) ∧
    (∀ g, StepT prog w A h₀ L m env elt x scope cl { s₁ with heap := g } S P n J) ∧
    ∀ D h tk₀ tk ys news', tk₀ ≤ tk → J n ys news' tk₀ → Fr h₀ L h m → News h₀ L h ((D, lst ys) :: news') → Off1 D news' → Q (.ref D) { s₁ with heap := h, toks := tk }
theorem ListComp_T {elt iter : Expr} {x : Str} {px : Pos} {scope : Scope} {cl : List (Str × Addr)} {pos : Pos} {Q : Value → Shared → Prop} (_F₀ : Fr h₀ L s.heap m)
    (hclos : closureFor scope env = pure cl) (hcell : ∀ y ∈ scope.names, y.2 ≠ .cell) (hkind : scope.kind = .function)
    (hnames : ∀ y ∈ scope.names, y.2 = .local → scope.names.lookup y.1 = some .local) (hx : scope.names.lookup x = some .local)
    (h : wpAny (model prog w) A (eval iter env) (SrcT prog w A h₀ L m env elt x scope cl Q) E s)
    (hs : ∀ x, foldedSetIterable iter env x = pure x := by intro _; rfl) :
    wpAny (model prog w) A (eval (.ListComp elt [⟨.Name x px, iter, [], 0⟩] scope pos) env) Q E s := by
  rw [eval_ListComp]
  refine wpAny_comprehension_free (use := none) rfl hs hclos hkind hnames (wpAny_mono h (fun xv s₁ h₁ => ?_) fun _ _ e => e)
  obtain ⟨r, n, news, P, S, J, rfl, hsz, hh, F, N, hS, h0, src, step, fin⟩ := h₁
  have RR : ∀ D C h tk₀ tk m' ys news', tk₀ ≤ tk → J n ys news' tk₀ → Fr h₀ L h m → News h₀ L h ((D, lst ys) :: news') → Off1 D news' → h.Ns C m' → h₀.get? C = none → C ≠ L → C ≠ D → (∀ p ∈ news', p.1 ≠ C) →
      compPost (model prog w) A E none Q (.ref D) C (.ok .next) { s₁ with heap := h, toks := tk } := by
    intro D C h tk₀ tk m' ys news' hle hJ F' N' o1 hn hC₀ hCL hCD offC
    refine ⟨m', hn, fun h'' hs'' => fin D h'' tk₀ tk ys news' hle hJ (F'.change hs'' hCL hC₀) (fun p hp => ⟨hs''.extBut _ _ ?_ (N' p hp).1, (N' p hp).2⟩) o1⟩
    rcases List.mem_cons.mp hp with rfl | hp
    · exact Ne.symm hCD
    · exact offC p hp
  rcases src with ⟨its, k, hm, rfl, hSm, rfl⟩ | ⟨t, u, v, hr, hn, rfl⟩
  · have hl : s₁.heap.IsList r its := ⟨_, (N _ hm).1, rfl, _, rfl⟩
    have hlt : r < s₁.heap.objs.size := Heap.lt_size (N _ hm).1
    refine wpAny_pyIter_list hl ?_
    have up : ∀ b o, s₁.heap.get? b = some o → (s₁.heap.push { cls := .type "list_iterator", data := .fields #[.ref r, .int 0 0] }).get? b = some o := fun b o e => Heap.get?_push_of_some _ e
    refine blockT (Walks.list hh s₁.heap.objs.size r (Nat.ne_of_lt hlt) its) hsz (fun i h st => by obtain ⟨o, e, _⟩ := st.1; exact ⟨o, e⟩) (fun i h h' o nw st e e' kk N' hS' => ⟨by obtain ⟨o', q, rr⟩ := st.1; rw [e] at q; cases q; exact ⟨o, e', rr⟩, ⟨_, (N' _ (hSm _ hS')).1, rfl, _, rfl⟩⟩) hcell hkind hx ⟨⟨_, Heap.get?_push_size _ rfl, rfl, rfl⟩, hl.push _⟩ (fun b hb => ?_)
      (F.keeps up) (N.grown up) (Nat.ne_of_lt F.ns.lt) (next_is_new F) (fun p hp => Nat.ne_of_lt (Heap.lt_size (N p hp).1)) hS h0 (step _) RR
    show b < (s₁.heap.push _).objs.size
    rw [Heap.size_push]
    rcases List.mem_cons.mp hb with rfl | hb
    · exact Nat.lt_succ_self _
    · rw [List.mem_singleton.mp hb]; exact Nat.lt_succ_of_lt hlt
  · refine wpAny_pyIter_range hr (rng_small n hn) ?_
    have Wr := range_walks (prog := prog) (w := w) (I := s₁.heap.objs.size) hh 0 n
    have Wr' : Walks prog w A s₁.heap.objs.size [s₁.heap.objs.size] [s₁.heap.objs.size] n (fun i v => ∃ t, v = .int (i : Nat) t) (fun i h => IsRangeIter h s₁.heap.objs.size (0 + (i : Nat) * 1) ((n : Int) - (i : Nat)) 1) :=
      { sub := Wr.sub, frame := Wr.frame, done := Wr.done, self := Wr.self, item := fun i s Q E hi st hQ => Wr.item i s Q E hi st fun v h' tk hP => hQ v h' tk (by obtain ⟨t, rfl⟩ := hP; exact ⟨t, by rw [Int.zero_add]⟩) }
    refine blockT Wr' hsz (fun i h st => ⟨_, st⟩) (fun i h h' o nw st e e' kk N' hS' => ?_) hcell hkind hx (by show IsRangeIter _ _ _ _ _; rw [rng_size n]; simpa using Heap.get?_push_size _ rfl) (fun b hb => ?_)
      (F.keeps fun _ _ e => Heap.get?_push_of_some _ e) (N.grown fun _ _ e => Heap.get?_push_of_some _ e) (Nat.ne_of_lt F.ns.lt) (next_is_new F) (fun p hp => Nat.ne_of_lt (Heap.lt_size (N p hp).1)) hS h0 (step _) RR
    · have st' : h.get? s₁.heap.objs.size = some _ := st
      show h'.get? s₁.heap.objs.size = some _
      rw [e', ← e]; exact st'
    · rw [List.mem_singleton.mp hb]
      show s₁.heap.objs.size < (s₁.heap.push _).objs.size
      rw [Heap.size_push]; exact Nat.lt_succ_self _
end
section
variable {M : Model} {A : Around} {E : Value → Shared → Prop} {env : Env}
theorem wp_execs_append {Γ : PySem.Ctx} {S₂ : List Stmt} {Q : Flow → Pos → Shared → Prop} {E : Value → Pos → Shared → Prop} : ∀ (S₁ : List Stmt) (p : Pos) (s : Shared),
    Sem.wp M Γ (execs S₁ env) (fun f p' s' => match f with | .next => Sem.wp M Γ (execs S₂ env) Q E p' s' | f => Q f p' s') E p s → Sem.wp M Γ (execs (S₁ ++ S₂) env) Q E p s
  | [], p, s, h => h
  | st :: r, p, s, h => by
    rw [execs_cons, Sem.wp_bind'] at h
    show Sem.wp M Γ (execs (st :: (r ++ S₂)) env) Q E p s
    rw [execs_cons, Sem.wp_bind']
    refine Sem.wp_mono M Γ _ (fun f p' s' h' => ?_) (fun _ _ _ h' => h') _ _ h
    cases f with
    | next => exact wp_execs_append r p' s' h'
    | brk => exact h'
    | cont => exact h'
    | ret v => exact h'
/-- first S₁, the tokens do not fall; then S₂ -/
theorem seqs {S₁ S₂ : List Stmt} {Q : Flow → Shared → Prop} {s : Shared} (h : wpAny M A (execs S₁ env) (fun f s' => s.toks ≤ s'.toks → f = .next ∧ wpAny M A (execs S₂ env) Q E s') E s) : wpAny M A (execs (S₁ ++ S₂) env) Q E s := by
  have h1 := toks_cut h
  intro Γ p hΓ
  refine wp_execs_append S₁ p s (Sem.wp_mono M Γ _ (fun f p' s' h' => ?_) (fun _ _ _ h' => h') _ _ (h1 Γ p hΓ))
  obtain ⟨rfl, h2⟩ := h'
  exact h2 Γ p' hΓ
end
noncomputable def lawStmt (P : Params) (k : Nat) : Stmt := ((fnBody P 225)[k]?).getD (.Pass default)
end

end

section
local macro_rules | `(tactic| walk_at "eval Name") => `(tactic| (k_here; (with_reducible show wpAny _ _ (PySem.eval (Expr.Name _ _) (envOfC _ _ _ _ _)) _ _ _); (rename Fr _ _ _ _ => lF'); k_dflt (refine nameX_L lF' (by assumption) ?_)))
local macro_rules | `(tactic| walk_at "eval Name") => `(tactic| (k_here; (with_reducible show wpAny _ _ (PySem.eval (Expr.Name _ _) (envOfC _ _ _ _ _)) _ _ _); (rename News _ _ _ _ => lN'); k_dflt (refine nameX_C (c := ?cA) lN' (by rfl) (by assumption) (by assumption) ?_)))
local macro_rules | `(tactic| walk_at "call ref") => `(tactic| (k_here; refine Hold.of ?_))
local macro_rules | `(tactic| walk_at "CompSrc") => `(tactic| (k_here; refine Hold.of ?_))
local macro_rules | `(tactic| walk_at "exec Assign cons ListComp") => `(tactic| (k_here; first | k_dflt (refine LCg.Assign_ListComp_U (F₀ := by k_asm) (by rfl) (by with_unfolding_all rfl) (by with_unfolding_all rfl) (by decide) (by rfl) (by decide) (by rfl) (by rfl) (by rfl) ?_) | k_dflt (refine wpAny_Assign_Name ?_ (by with_unfolding_all rfl))))
local macro_rules | `(tactic| walk_at "eval ListComp") => `(tactic| (k_here; k_dflt (refine LCg.ListComp_U (F₀ := by k_asm) (by with_unfolding_all rfl) (by decide) (by rfl) (by decide) (by rfl) ?_)))

section
open PySem PySem.W PyProof.Rows PySem.Calls PySem.Spec Builtin Builtin.ObjectAttr Builtin.Str
set_option maxHeartbeats 3000000
variable {w : World} {mean : ExcName → Option Value} {mg mb : Str → Option Value}
noncomputable abbrev lawEnv (w : World) (L : Addr) : Env := envOfC (Str.ofString "law") (fnScope w.params 225) L 225 (.ref 224)
/-- the cells of law -/
structure Cs where
  nu : Obj
  fi : Obj
  si : Obj
  go : Obj
  na : Obj
  kn : Obj
  re : Obj
  wo : Obj
  mo : Obj
noncomputable abbrev LCl (L : Addr) (c : Cs) : Led := [(L + 1 + 1 + 1 + 1 + 1 + 1 + 1 + 1 + 1, c.mo), (L + 1 + 1 + 1 + 1 + 1 + 1 + 1 + 1, c.wo), (L + 1 + 1 + 1 + 1 + 1 + 1 + 1, c.re), (L + 1 + 1 + 1 + 1 + 1 + 1, c.kn), (L + 1 + 1 + 1 + 1 + 1, c.na), (L + 1 + 1 + 1 + 1, c.go), (L + 1 + 1 + 1, c.si), (L + 1 + 1, c.fi), (L + 1, c.nu)]
theorem law_room {k : Nat} (h : k ≤ 10) : 1 + claimMargin + 1 + (k + 2) * 4 < recursionLimit := by
  have e1 : claimMargin = 300 := rfl
  have e2 : recursionLimit = 1000 := rfl
  (exact om244 h e1 e2)
theorem law_units {k : Nat} (h : k ≤ 10) : 7 + (k + 2) * 12 < cLine := by
  have e2 : cLine = 9900 := rfl
  (exact om243 h e2)
theorem NatsAre.item {vs : List Value} {ps : List Nat} (h : NatsAre vs ps) {i p : Nat} (hp : ps[i]? = some p) : ∃ t, vs[i]? = some (.int (p : Nat) t) := by
  have hi : i < vs.length := by rw [h.len]; exact (List.getElem?_eq_some_iff.mp hp).1
  obtain ⟨q, t, hq, e⟩ := h.at (List.getElem?_eq_getElem hi)
  rw [hp] at hq
  obtain rfl := Option.some.inj hq
  exact ⟨t, by rw [List.getElem?_eq_getElem hi, e]⟩
theorem fdivNat (a b : Nat) : Int.fdiv (a : Int) (b : Int) = ((a / b : Nat) : Int) := by
  rw [Int.fdiv_eq_ediv_of_nonneg _ (Int.natCast_nonneg _)]; rfl
theorem four_nats {vs : List Value} {ns : List Int} (h : IntsAre vs ns) (hl : ns.length = 4) (hb : ∀ x ∈ ns, 0 ≤ x ∧ x < 1000000) : ∃ n0 n1 n2 n3 : Nat, n0 < 1000000 ∧ n1 < 1000000 ∧ n2 < 1000000 ∧ n3 < 1000000 ∧ NatsAre vs [n0, n1, n2, n3] := by
  obtain ⟨a, b, c, d, rfl⟩ := len4 hl
  have ha := hb a (.head _)
  have hb' := hb b (.tail _ (.head _))
  have hc := hb c (.tail _ (.tail _ (.head _)))
  have hd := hb d (.tail _ (.tail _ (.tail _ (.head _))))
  refine ⟨a.toNat, b.toNat, c.toNat, d.toNat, by (exact om242 ha), by (exact om242 hb'), by (exact om242 hc), by (exact om242 hd), ?_⟩
  unfold NatsAre
  simp only [List.map_cons, List.map_nil]
  rw [Int.toNat_of_nonneg ha.1, Int.toNat_of_nonneg hb'.1, Int.toNat_of_nonneg hc.1, Int.toNat_of_nonneg hd.1]
  exact h
theorem law0 (la : Addr) (sv : List Value) (sn : List Int) (hsv : IntsAre sv sn) (hlen : sn.length < 1000) : PySem.Challenge.rw_xj0013_01 = PySem.Challenge.rw_xj0013_01 → hd.heap_1 = hd.heap_1 →
  ∀ (base h₀ : Heap) (L : Addr) (m : Str → Option Value) (R : Led) (c : Cs) (s : Shared) (Q : Flow → Shared → Prop) (E : Value → Shared → Prop),
    Below callerA base [] h₀ → Fr h₀ L s.heap m → (hd.heap_1 w.params).In h₀ → News h₀ L s.heap (LCl L c ++ R) → DJ (LCl L c ++ R) → Tp mean mg mb h₀ →
    m (Str.ofString "script") = some (.ref la) → h₀.IsList la sv.toArray → c.nu.data = .cell none → c.fi.data = .cell none → c.si.data = .cell none → c.go.data = .cell none →
    (∀ (h' : Heap) (tk' : Nat) (o1 o2 o3 o4 : Obj) (ln : Addr) (vs : List Value) (n0 n1 n2 n3 nn : Nat) (t1 t2 t3 : Tok), n0 < 1000000 → n1 < 1000000 → n2 < 1000000 → n3 < 1000000 → NatsAre vs [n0, n1, n2, n3] → Fr h₀ L h' m → News h₀ L h' (LCl L { c with nu := o1, fi := o2, si := o3, go := o4 } ++ ((ln, W.listOf vs.toArray nn) :: R)) → DJ (LCl L { c with nu := o1, fi := o2, si := o3, go := o4 } ++ ((ln, W.listOf vs.toArray nn) :: R)) →
      o1.data = .cell (some (.ref ln)) → o2.data = .cell (some (.int (2 + n3 % 2 : Nat) t1)) → o3.data = .cell (some (.int (2 ^ (2 + n3 % 2) : Nat) t2)) → o4.data = .cell (some (.int (n3 / 2 % 2 ^ (2 + n3 % 2) : Nat) t3)) →
      Q .next { s with heap := h', toks := tk' }) →
    wpAny (model PySem.Challenge.pw_xj0013_01 w) (callerA.deeper (lawEnv w L)) (execs [lawStmt w.params 0, lawStmt w.params 1, lawStmt w.params 2, lawStmt w.params 3] (lawEnv w L)) Q E s := by
  k_fill; intro _ _ base h₀ L m R c s Q E hB hF hX hN hD hT hsc hla d1 d2 d3x d4x hret
  have eS0 : lawStmt w.params 0 = lawStmt w.params 0 := rfl
  conv at eS0 => rhs; whnf
  have eS1 : lawStmt w.params 1 = lawStmt w.params 1 := rfl
  conv at eS1 => rhs; whnf
  have eS2 : lawStmt w.params 2 = lawStmt w.params 2 := rfl
  conv at eS2 => rhs; whnf
  have eS3 : lawStmt w.params 3 = lawStmt w.params 3 := rfl
  conv at eS3 => rhs; whnf
  have e2 : fnScope w.params 225 = fnScope w.params 225 := rfl
  conv at e2 => rhs; whnf
  unfold lawEnv at *
  rw [eS0, eS1, eS2, eS3, e2]
  clear eS0 eS1 eS2 eS3 e2
  repeat (walk1; try dsimp only)
  unfold Hold
  (rename Fr _ _ _ _ => F1)
  refine numbers_w la sv sn hsv hlen rfl rfl (1 + claimMargin + 1) 7 (some []) _ _ _ _ _ _ callerA base h₀ _ _ _ _ _ _ hB F1 hX hN hla hT rfl (law_room (by decide)) (law_units (by decide)) ?_
  intro ln vs ns nn h1 tk1 F2 N2 l2 hvs hnl hnb
  obtain ⟨n0, n1, n2, n3, b0, b1, b2, b3, hns⟩ := four_nats hvs hnl hnb
  have D2 := DJ.new (p := (ln, W.listOf vs.toArray nn)) l2 hD
  clear F1 hN hD hvs hnl hnb hla l2
  replace N2 : News h₀ L h1 (LCl L c ++ ((ln, W.listOf vs.toArray nn) :: R)) := cb_drop N2 fun p hp => (List.perm_middle (l₁ := LCl L c) (l₂ := R)).mem_iff.mp hp
  replace D2 : DJ (LCl L c ++ ((ln, W.listOf vs.toArray nn) :: R)) := DJ.perm (List.perm_middle (l₁ := LCl L c) (l₂ := R)).symm D2
  have hlm : (ln, W.listOf vs.toArray nn) ∈ (ln, W.listOf vs.toArray nn) :: R := .head _
  generalize hR2 : (ln, W.listOf vs.toArray nn) :: R = R2 at N2 D2 hlm
  repeat ((fail_if_success (with_reducible show wpAny _ _ (storeName _ _ _) _ _ _)); walk1; try dsimp only)
  k_dflt (refine storeX_D (pre := [_, _, _, _, _, _, _, _]) (by assumption) N2 D2 rfl d1 ?_)
  intro h3 o3 F3 N3 D3 d3
  replace N3 : News h₀ L h3 (LCl L { c with nu := o3 } ++ R2) := N3
  replace D3 : DJ (LCl L { c with nu := o3 } ++ R2) := D3
  have mnu : (L + 1, o3) ∈ LCl L { c with nu := o3 } ++ R2 := .tail _ (.tail _ (.tail _ (.tail _ (.tail _ (.tail _ (.tail _ (.tail _ (.head _))))))))
  generalize hW3 : LCl L { c with nu := o3 } ++ R2 = W3 at *
  have hlW : (ln, W.listOf vs.toArray nn) ∈ W3 := by rw [← hW3]; exact List.mem_append_right _ hlm
  obtain ⟨t3, v3⟩ := hns.item (i := 3) (p := n3) rfl
  repeat ((fail_if_success (with_reducible show wpAny _ _ (subscriptTail _ _ _ _) _ _ _)); walk1; try dsimp only)
  (rename News _ _ _ _ => N3)
  refine list_item (isListOf N3 hlW) (by decide) (by decide) v3 ?_
  repeat ((fail_if_success (with_reducible show wpAny _ _ (storeName _ _ _) _ _ _)); walk1; try dsimp only)
  subst hW3
  repeat ((fail_if_success (with_reducible show wpAny _ _ (storeName _ _ _) _ _ _)); walk1; try dsimp only)
  k_dflt (refine storeX_D (pre := [_, _, _, _, _, _, _]) (by assumption) N3 D3 rfl d2 ?_)
  intro h4 o4 F4 N4 D4 d4
  replace N4 : News h₀ L h4 (LCl L { c with nu := o3, fi := o4 } ++ R2) := N4
  replace D4 : DJ (LCl L { c with nu := o3, fi := o4 } ++ R2) := D4
  have mnu4 : (L + 1, o3) ∈ LCl L { c with nu := o3, fi := o4 } ++ R2 := .tail _ (.tail _ (.tail _ (.tail _ (.tail _ (.tail _ (.tail _ (.tail _ (.head _))))))))
  have mfi4 : (L + 1 + 1, o4) ∈ LCl L { c with nu := o3, fi := o4 } ++ R2 := .tail _ (.tail _ (.tail _ (.tail _ (.tail _ (.tail _ (.tail _ (.head _)))))))
  generalize hW4 : LCl L { c with nu := o3, fi := o4 } ++ R2 = W4 at *
  have hlW4 : (ln, W.listOf vs.toArray nn) ∈ W4 := by rw [← hW4]; exact List.mem_append_right _ hlm
  clear N3 D3 mnu hlW
  rw [show (2 : Int) + (n3 : Int).fmod 2 = ((2 + n3 % 2 : Nat) : Int) by rw [show (2 : Int) = ((2 : Nat) : Int) from rfl, fmodNat]; (exact om241)] at d4
  repeat ((fail_if_success (with_reducible show wpAny _ _ (storeName _ _ _) _ _ _)); walk1; try dsimp only)
  subst hW4
  repeat ((fail_if_success (with_reducible show wpAny _ _ (storeName _ _ _) _ _ _)); walk1; try dsimp only)
  k_dflt (refine storeX_D (pre := [_, _, _, _, _, _]) (by assumption) N4 D4 rfl d3x ?_)
  intro h5 o5 F5 N5 D5 d5
  replace N5 : News h₀ L h5 (LCl L { c with nu := o3, fi := o4, si := o5 } ++ R2) := N5
  replace D5 : DJ (LCl L { c with nu := o3, fi := o4, si := o5 } ++ R2) := D5
  have mnu5 : (L + 1, o3) ∈ LCl L { c with nu := o3, fi := o4, si := o5 } ++ R2 := .tail _ (.tail _ (.tail _ (.tail _ (.tail _ (.tail _ (.tail _ (.tail _ (.head _))))))))
  have mfi5 : (L + 1 + 1, o4) ∈ LCl L { c with nu := o3, fi := o4, si := o5 } ++ R2 := .tail _ (.tail _ (.tail _ (.tail _ (.tail _ (.tail _ (.tail _ (.head _)))))))
  have msi5 : (L + 1 + 1 + 1, o5) ∈ LCl L { c with nu := o3, fi := o4, si := o5 } ++ R2 := .tail _ (.tail _ (.tail _ (.tail _ (.tail _ (.tail _ (.head _))))))
  generalize hW5 : LCl L { c with nu := o3, fi := o4, si := o5 } ++ R2 = W5 at *
  have hlW5 : (ln, W.listOf vs.toArray nn) ∈ W5 := by rw [← hW5]; exact List.mem_append_right _ hlm
  clear N4 D4 mnu4 mfi4 hlW4
  rw [show ((2 : Int) ^ ((2 + n3 % 2 : Nat) : Int).toNat) = ((2 ^ (2 + n3 % 2) : Nat) : Int) by rw [Int.toNat_natCast]; norm_cast] at d5
  obtain ⟨sz, hsz, hs48⟩ : ∃ sz, 2 ^ (2 + n3 % 2) = sz ∧ (sz = 4 ∨ sz = 8) := ⟨_, rfl, by rcases (show n3 % 2 = 0 ∨ n3 % 2 = 1 by (exact om240)) with h | h <;> rw [h] <;> decide⟩
  rw [hsz] at d5
  have hne : ((sz : Nat) : Int) ≠ 0 := by (exact om239 hs48)
  repeat ((fail_if_success (with_reducible show wpAny _ _ (subscriptTail _ _ _ _) _ _ _)); walk1; try dsimp only)
  (rename News _ _ _ _ => N5)
  refine list_item (isListOf N5 hlW5) (by decide) (by decide) v3 ?_
  repeat ((fail_if_success (with_reducible show wpAny _ _ (storeName _ _ _) _ _ _)); walk1; try dsimp only)
  subst hW5
  repeat ((fail_if_success (with_reducible show wpAny _ _ (storeName _ _ _) _ _ _)); walk1; try dsimp only)
  k_dflt (refine storeX_D (pre := [_, _, _, _, _]) (by assumption) N5 D5 rfl d4x ?_)
  intro h6 o6 F6 N6 D6 d6
  replace N6 : News h₀ L h6 (LCl L { c with nu := o3, fi := o4, si := o5, go := o6 } ++ R2) := N6
  replace D6 : DJ (LCl L { c with nu := o3, fi := o4, si := o5, go := o6 } ++ R2) := D6
  rw [show ((n3 : Int).fdiv 2).fmod (sz : Nat) = ((n3 / 2 % sz : Nat) : Int) by rw [show (2 : Int) = ((2 : Nat) : Int) from rfl, fdivNat, fmodNat]] at d6
  repeat (walk1; try dsimp only)
  subst hR2
  rw [← hsz] at d5 d6
  (try dsimp only)
  repeat (walk1; try dsimp only)
  exact hret _ _ o3 o4 o5 o6 ln vs n0 n1 n2 n3 nn _ _ _ b0 b1 b2 b3 hns F6 N6 D6 d3 d4 d5 d6
end

section
open PySem PySem.W PyProof.Rows PySem.Calls PySem.Spec Builtin Builtin.ObjectAttr Builtin.Str
set_option maxHeartbeats 3000000
variable {w : World} {mean : ExcName → Option Value} {mg mb : Str → Option Value}
noncomputable def straightP (f goal : Nat) : List Nat := (List.range f).map fun k => goal / 2 ^ (f - 1 - k) % 2 * 4
theorem law1 (ln : Addr) (vs : List Value) (n0 n1 n2 n3 nn f goal : Nat) (t1 t2 : Tok) (hns : NatsAre vs [n0, n1, n2, n3]) (hf : f = 2 ∨ f = 3) (hgl : goal < 8) : PySem.Challenge.rw_xj0013_01 = PySem.Challenge.rw_xj0013_01 → hd.heap_1 = hd.heap_1 →
  ∀ (base h₀ : Heap) (L : Addr) (m : Str → Option Value) (R : Led) (c : Cs) (s : Shared) (Q : Flow → Shared → Prop) (E : Value → Shared → Prop),
    Below callerA base [] h₀ → Fr h₀ L s.heap m → (hd.heap_1 w.params).In h₀ → News h₀ L s.heap (LCl L c ++ R) → DJ (LCl L c ++ R) → Tp mean mg mb h₀ →
    (ln, W.listOf vs.toArray nn) ∈ R → c.nu.data = .cell (some (.ref ln)) → c.fi.data = .cell (some (.int f t1)) → c.go.data = .cell (some (.int goal t2)) →
    (∀ (h' : Heap) (tk' : Nat) (ld ls : Addr) (dvs svs : List Value) (nd ns : Nat), NatsAre dvs [n0 % 8, n1 % 8, n2 % 8] → NatsAre svs (straightP f goal) → Fr h₀ L h' (fun y => if y = Str.ofString "straight" then some (.ref ls) else if y = Str.ofString "drawn" then some (.ref ld) else m y) → News h₀ L h' ((ls, W.listOf svs.toArray ns) :: (ld, W.listOf dvs.toArray nd) :: (LCl L c ++ R)) → DJ ((ls, W.listOf svs.toArray ns) :: (ld, W.listOf dvs.toArray nd) :: (LCl L c ++ R)) →
      Q .next { s with heap := h', toks := tk' }) →
    wpAny (model PySem.Challenge.pw_xj0013_01 w) (callerA.deeper (lawEnv w L)) (execs [lawStmt w.params 4, lawStmt w.params 5] (lawEnv w L)) Q E s := by
  k_fill; intro _ _ base h₀ L m R c s Q E hB hF hX hN hD hT hln d1 d2 d3 hret
  have eS4 : lawStmt w.params 4 = lawStmt w.params 4 := rfl
  conv at eS4 => rhs; whnf
  have eS5 : lawStmt w.params 5 = lawStmt w.params 5 := rfl
  conv at eS5 => rhs; whnf
  have e2 : fnScope w.params 225 = fnScope w.params 225 := rfl
  conv at e2 => rhs; whnf
  unfold lawEnv at *
  rw [eS4, eS5, e2]
  clear eS4 eS5 e2
  have mnu : (L + 1, c.nu) ∈ LCl L c ++ R := .tail _ (.tail _ (.tail _ (.tail _ (.tail _ (.tail _ (.tail _ (.tail _ (.head _))))))))
  have mfi : (L + 1 + 1, c.fi) ∈ LCl L c ++ R := .tail _ (.tail _ (.tail _ (.tail _ (.tail _ (.tail _ (.tail _ (.head _)))))))
  have mgo : (L + 1 + 1 + 1 + 1, c.go) ∈ LCl L c ++ R := .tail _ (.tail _ (.tail _ (.tail _ (.tail _ (.head _)))))
  generalize hW0 : LCl L c ++ R = W0 at *
  have hlW : (ln, W.listOf vs.toArray nn) ∈ W0 := by rw [← hW0]; exact List.mem_append_right _ hln
  repeat (walk1; try dsimp only)
  (rename Fr _ _ _ _ => F1); (rename News _ _ _ _ => N1)
  refine kmk_slice (s := { heap := s.heap, gens := s.gens, drawn := s.drawn, toks := s.toks + 1, os := s.os }) (lo := none) (hi := some ((3 : Nat) : Int)) F1 N1 (isListOf N1 hlW) .none (.int _ _) ?_ (by with_unfolding_all rfl) (by kmk_pure) (by rw [List.size_toArray, hns.len]; exact (show 4 ≤ sizeLine by decide))
  intro s1 h1 F2 N2 l1
  rw [pick_take] at N2
  clear F1 N1
  have hv3 : NatsAre (vs.take 3) [n0, n1, n2] := by
    have h := hns
    unfold NatsAre at h ⊢
    cases h with
    | cons _ _ r => cases r with
      | cons _ _ r => cases r with
        | cons _ _ r => exact .cons _ _ (.cons _ _ (.cons _ _ .nil))
  have D2' : DJ ((s1, W.listOf (vs.take 3).toArray 0) :: W0) := DJ.new l1 hD
  repeat (walk1; try dsimp only)
  unfold Hold
  refine LCg.CompSrc.ledger rfl F2 N2 (.head _) (by rw [List.size_toArray, hv3.len]; exact (show 3 ≤ sizeLine by decide)) ?_
  intro g
  have hsz : (vs.take 3).toArray.size = 3 := by rw [List.size_toArray, hv3.len]; rfl
  rw [hsz]
  refine CompRest_ind (n := 3) (fun i ys news => news = (s1, W.listOf (vs.take 3).toArray 0) :: W0 ∧ NatsAre ys (([n0, n1, n2].take i).map (· % 8))) ?step1 ?fin1 3 0 [] _ (by (exact om248)) ⟨rfl, .nil⟩
  case step1 =>
    rintro i ys news v I oI C oC' D m₂ h tk E' hi ⟨rfl, hys⟩ hPv hNs hx F N off -
    obtain ⟨q, tq, hq, rfl⟩ := hv3.at (v := v) (i := i) (by simpa using hPv)
    repeat (walk1; try dsimp only)
    rw [show ((q : Int)).fmod 8 = ((q % 8 : Nat) : Int) from fmodNat q 8]
    refine LCg.CompEnd.intro F N ((s1, W.listOf (vs.take 3).toArray 0) :: W0) (fun p hp => hp) off (.inr ⟨_, .head _, rfl, _, rfl⟩) ⟨rfl, ?_⟩
    rw [List.take_add_one, hq, Option.toList_some, List.map_append]
    exact hys.snoc (q % 8) _
  case fin1 =>
    rintro ys news ⟨rfl, hys⟩
    intro D h tk F N o1
    have D3 := DJ.cons (p := (D, LCg.lst ys)) (off1_mem o1) D2'
    clear F2 N2
    replace N : News h₀ L h ((D, W.listOf ys.toArray ys.length) :: W0) := cb_drop N fun p hp => (List.mem_cons.mp hp).elim (fun e => e ▸ .head _) (fun e => .tail _ (.tail _ e))
    replace D3 : DJ ((D, W.listOf ys.toArray ys.length) :: W0) := DJ.right (a := [_]) (D3.perm (List.Perm.swap _ _ _))
    generalize hW1 : (D, W.listOf ys.toArray ys.length) :: W0 = W1 at *
    have mfi1 : (L + 1 + 1, c.fi) ∈ W1 := by rw [← hW1]; exact .tail _ mfi
    have mgo1 : (L + 1 + 1 + 1 + 1, c.go) ∈ W1 := by rw [← hW1]; exact .tail _ mgo
    dsimp only
    repeat (walk1; try dsimp only)
    unfold Hold
    (rename IsRange _ _ _ _ _ _ _ _ => hR2); (rename Fr _ _ _ _ => F2); (rename News _ _ _ _ => N2)
    refine LCg.CompSrc.range rfl F2 N2 hR2 (rng_small _ (by (exact om360 hf))) (rng_size f) (by rw [sizeLine_eq]; (exact om246 hf)) ?_
    intro g2
    refine CompRest_ind (n := f) (fun i zs news => news = W1 ∧ NatsAre zs ((straightP f goal).take i)) ?step2 ?fin2 f 0 [] _ (by (exact om215)) ⟨rfl, .nil⟩
    case fin2 =>
      rintro zs news ⟨rfl, hzs⟩
      rw [List.take_of_length_le (by simp [straightP])] at hzs
      intro D' h' tk' F' N' o1'
      subst hW1
      (try dsimp only)
      repeat (walk1; try dsimp only)
      exact hret _ _ D D' ys zs _ _ hys hzs F' N' (DJ.cons (off1_mem o1') D3)
    case step2 =>
      rintro i zs news v I oI C oC' D' m₂ h' tk' E' hi ⟨rfl, hzs⟩ ⟨t, rfl⟩ hNs hx F' N' off -
      have hf3 : f ≤ 3 := by rcases hf with rfl | rfl <;> decide
      have mm : ∀ {q : Addr × Obj}, q ∈ news → q ∈ (I, oI) :: (C, oC') :: (D', LCg.lst zs) :: news := fun h => .tail _ (.tail _ (.tail _ h))
      have mfi2 := mm mfi1
      have mgo2 := mm mgo1
      repeat (walk1; try dsimp only)
      have hval : ((goal : Int).fdiv (2 ^ ((f : Int) - 1 - (0 + (i : Int))).toNat)).fmod 2 * 4 = ((goal / 2 ^ (f - 1 - i) % 2 * 4 : Nat) : Int) := by
        rw [show ((f : Int) - 1 - (0 + (i : Int))).toNat = f - 1 - i by (exact om245), show ((2 : Int) ^ (f - 1 - i)) = ((2 ^ (f - 1 - i) : Nat) : Int) by norm_cast, fdivNat, show (2 : Int) = ((2 : Nat) : Int) from rfl, fmodNat]
        norm_cast
      rw [hval]
      refine LCg.CompEnd.intro F' N' news (fun p hp => hp) off trivial ⟨rfl, ?_⟩
      have hst : (straightP f goal)[i]? = some (goal / 2 ^ (f - 1 - i) % 2 * 4) := by
        unfold straightP
        rw [List.getElem?_map, List.getElem?_range hi]
        rfl
      rw [List.take_add_one, hst, Option.toList_some]
      exact hzs.snoc _ _
end

section
open PySem PySem.W PyProof.Rows PySem.Calls PySem.Spec Builtin Builtin.ObjectAttr Builtin.Str
set_option maxHeartbeats 3000000
variable {w : World} {mean : ExcName → Option Value} {mg mb : Str → Option Value}
theorem NatsAre.vals : ∀ {vs : List Value} {ps : List Nat}, NatsAre vs ps → ∃ os : List (Nat × Tok), vs = intVals os ∧ os.map (·.1) = ps
  | [], [], _ => ⟨[], rfl, rfl⟩
  | [], _ :: _, h => by cases h
  | _ :: _, [], h => by cases h
  | v :: vs, p :: ps, h => by
    cases h with
    | cons _ t r =>
      obtain ⟨os, e1, e2⟩ := NatsAre.vals (vs := vs) (ps := ps) r
      exact ⟨(p, t) :: os, by rw [e1]; rfl, by rw [← e2]; rfl⟩
theorem NatsAre.app {vs ws : List Value} {ps qs : List Nat} (h : NatsAre vs ps) (h' : NatsAre ws qs) : NatsAre (vs ++ ws) (ps ++ qs) := by
  unfold NatsAre at *
  rw [List.map_append]
  exact h.append h'
theorem law2 (ln ld ls : Addr) (vs dvs svs : List Value) (n0 n1 n2 n3 nn nd ns : Nat) (dks sks : List Nat) (hns : NatsAre vs [n0, n1, n2, n3]) (hb0 : n0 < 1000000) (hb1 : n1 < 1000000) (hdv : NatsAre dvs dks) (hsv : NatsAre svs sks) (hdl : dks.length = 3) (hsl : sks.length < 4) (hd8 : ∀ k ∈ dks ++ sks, k < 8) : PySem.Challenge.rw_xj0013_01 = PySem.Challenge.rw_xj0013_01 → hd.heap_1 = hd.heap_1 →
  ∀ (base h₀ : Heap) (L : Addr) (m : Str → Option Value) (R : Led) (c : Cs) (s : Shared) (Q : Flow → Shared → Prop) (E : Value → Shared → Prop),
    Below callerA base [] h₀ → Fr h₀ L s.heap m → (hd.heap_1 w.params).In h₀ → News h₀ L s.heap (LCl L c ++ R) → DJ (LCl L c ++ R) → Tp mean mg mb h₀ →
    m (Str.ofString "drawn") = some (.ref ld) → m (Str.ofString "straight") = some (.ref ls) → (ln, W.listOf vs.toArray nn) ∈ R → (ld, W.listOf dvs.toArray nd) ∈ R → (ls, W.listOf svs.toArray ns) ∈ R → c.nu.data = .cell (some (.ref ln)) →
    (∀ (h' : Heap) (tk' : Nat) (lf : Addr) (t0 t1 : Tok) (nf : Nat), Fr h₀ L h' (fun y => if y = Str.ofString "files" then some (.ref lf) else m y) → News h₀ L h' ((lf, W.listOf [Value.str ⟨(fileL (n0 / 8) 0 ((dks ++ sks).map (· % 2))).toArray⟩ t0, .str ⟨(fileL (n1 / 8) 0 ((dks ++ sks).map (· / 2))).toArray⟩ t1].toArray nf) :: (LCl L c ++ R)) → DJ ((lf, W.listOf [Value.str ⟨(fileL (n0 / 8) 0 ((dks ++ sks).map (· % 2))).toArray⟩ t0, .str ⟨(fileL (n1 / 8) 0 ((dks ++ sks).map (· / 2))).toArray⟩ t1].toArray nf) :: (LCl L c ++ R)) →
      Q .next { s with heap := h', toks := tk' }) →
    wpAny (model PySem.Challenge.pw_xj0013_01 w) (callerA.deeper (lawEnv w L)) (execs [lawStmt w.params 6] (lawEnv w L)) Q E s := by
  k_fill; intro _ _ base h₀ L m R c s Q E hB hF hX hN hD hT hmd hms hln hld hls d1 hret
  have eS6 : lawStmt w.params 6 = lawStmt w.params 6 := rfl
  conv at eS6 => rhs; whnf
  have e2 : fnScope w.params 225 = fnScope w.params 225 := rfl
  conv at e2 => rhs; whnf
  unfold lawEnv at *
  rw [eS6, e2]
  clear eS6 e2
  have mnu : (L + 1, c.nu) ∈ LCl L c ++ R := .tail _ (.tail _ (.tail _ (.tail _ (.tail _ (.tail _ (.tail _ (.tail _ (.head _))))))))
  generalize hW0 : LCl L c ++ R = W0 at *
  have hlW : (ln, W.listOf vs.toArray nn) ∈ W0 := by rw [← hW0]; exact List.mem_append_right _ hln
  have hldW : (ld, W.listOf dvs.toArray nd) ∈ W0 := by rw [← hW0]; exact List.mem_append_right _ hld
  have hlsW : (ls, W.listOf svs.toArray ns) ∈ W0 := by rw [← hW0]; exact List.mem_append_right _ hls
  have DW0 := hD
  repeat (walk1; try dsimp only)
  unfold Hold
  rename_i sA1 ws1 hh1 F1 N1 l1 hI1
  rw [← List.map_append] at hI1
  have hlen1 := NatsAre.len hI1
  have DA1 : DJ ((sA1, W.listOf ws1.toArray 0) :: W0) := DJ.new l1 DW0
  refine LCg.CompSrc.ledger rfl F1 N1 (.head _) (by rw [List.size_toArray, hlen1, sizeLine_eq, List.length_append]; (exact om252 hdl hsl)) ?_
  intro g1
  rw [List.size_toArray, hlen1]
  refine CompRest_ind (n := (dks ++ sks).length) (fun i ys news => news = (sA1, W.listOf ws1.toArray 0) :: W0 ∧ NatsAre ys (((dks ++ sks).take i).map (· % 2))) ?step1 ?fin1 _ 0 [] _ (Nat.zero_add _) ⟨rfl, .nil⟩
  case step1 =>
    rintro i ys news v I oI C oC' D m₂ h tk E' hi ⟨rfl, hys⟩ hPv hNs hx F N off -
    obtain ⟨q, tq, hq, rfl⟩ := NatsAre.at hI1 (v := v) (i := i) (by simpa using hPv)
    repeat (walk1; try dsimp only)
    rw [show (q : Int).fmod 2 = ((q % 2 : Nat) : Int) from fmodNat q 2]
    refine LCg.CompEnd.intro F N ((sA1, W.listOf ws1.toArray 0) :: W0) (fun p hp => hp) off (.inr ⟨_, .head _, rfl, _, rfl⟩) ⟨rfl, ?_⟩
    rw [List.take_add_one, hq, Option.toList_some, List.map_append]
    exact hys.snoc _ _
  case fin1 =>
    rintro ys1 news ⟨rfl, hys1⟩
    rw [List.take_length] at hys1
    intro P1 h1 tk1 FB1 NB1 o1
    have DB1 := DJ.cons (p := (P1, LCg.lst ys1)) (off1_mem o1) DA1
    clear F1 N1
    replace NB1 : News h₀ L h1 ((P1, W.listOf ys1.toArray ys1.length) :: W0) := cb_drop NB1 fun p hp => (List.mem_cons.mp hp).elim (fun e => e ▸ .head _) (fun e => .tail _ (.tail _ e))
    replace DB1 : DJ ((P1, W.listOf ys1.toArray ys1.length) :: W0) := DJ.right (a := [_]) (DB1.perm (List.Perm.swap _ _ _))
    obtain ⟨os1, rfl, hos1⟩ := hys1.vals
    have hol1 : os1.length = (dks ++ sks).length := by rw [← List.length_map (f := (·.1)), hos1, List.length_map]
    have ho41 : ∀ p ∈ os1, p.1 < 4 := fun p hp => by
      have h1 : p.1 ∈ os1.map (·.1) := List.mem_map.mpr ⟨p, hp, rfl⟩
      rw [hos1] at h1
      obtain ⟨k, hk, e⟩ := List.mem_map.mp h1
      have := hd8 k hk
      (exact om253 e)
    generalize hWW1 : (P1, W.listOf (intVals os1).toArray (intVals os1).length) :: W0 = WW1 at NB1 DB1
    have mnu1 : (L + 1, c.nu) ∈ WW1 := by rw [← hWW1]; exact .tail _ mnu
    have hlW1 : (ln, W.listOf vs.toArray nn) ∈ WW1 := by rw [← hWW1]; exact .tail _ hlW
    have hPW1 : (P1, W.listOf (intVals os1).toArray (intVals os1).length) ∈ WW1 := by rw [← hWW1]; exact .head _
    repeat ((fail_if_success (with_reducible show wpAny _ _ (subscriptTail _ _ _ _) _ _ _)); walk1; try dsimp only)
    obtain ⟨tn1, vn1⟩ := hns.item (i := 0) (p := n0) rfl
    (rename News _ _ _ _ => NC1)
    refine list_item (isListOf NC1 hlW1) (by decide) (by decide) vn1 ?_
    repeat (walk1; try dsimp only)
    rw [show (n0 : Int).fdiv 8 = ((n0 / 8 : Nat) : Int) from fdivNat n0 8]
    unfold Hold
    (rename Fr _ _ _ _ => FC1); (rename News _ _ _ _ => NC1)
    refine file_w os1 P1 _ (n0 / 8) _ (by rw [hol1, List.length_append]; (exact om250 hdl hsl)) ho41 (by (exact om249 hb0)) rfl rfl (1 + claimMargin + 1) 7 (some []) _ _ _ _ _ _ callerA base h₀ _ _ _ _ _ _ hB FC1 hX NC1 (fun p hp => nomatch hp) hPW1 hT rfl (law_room (by decide)) (law_units (by decide)) ?_
    rintro v post extra hh1b tk1b FD1 ND1 - - ⟨tv1, rfl, rfl, rfl⟩
    rw [hos1]
    clear FC1 NC1
    replace ND1 : News h₀ L hh1b W0 := cb_drop ND1 fun p hp => by rw [← hWW1]; exact .tail _ hp
    dsimp only
    repeat (walk1; try dsimp only)
    unfold Hold
    rename_i sA2 ws2 hh2 F2 N2 l2 hI2
    rw [← List.map_append] at hI2
    have hlen2 := NatsAre.len hI2
    have DA2 : DJ ((sA2, W.listOf ws2.toArray 0) :: W0) := DJ.new l2 DW0
    refine LCg.CompSrc.ledger rfl F2 N2 (.head _) (by rw [List.size_toArray, hlen2, sizeLine_eq, List.length_append]; (exact om252 hdl hsl)) ?_
    intro g2
    rw [List.size_toArray, hlen2]
    refine CompRest_ind (n := (dks ++ sks).length) (fun i ys news => news = (sA2, W.listOf ws2.toArray 0) :: W0 ∧ NatsAre ys (((dks ++ sks).take i).map (· / 2))) ?step2 ?fin2 _ 0 [] _ (Nat.zero_add _) ⟨rfl, .nil⟩
    case step2 =>
      rintro i ys news v I oI C oC' D m₂ h tk E' hi ⟨rfl, hys⟩ hPv hNs hx F N off -
      obtain ⟨q, tq, hq, rfl⟩ := NatsAre.at hI2 (v := v) (i := i) (by simpa using hPv)
      repeat (walk1; try dsimp only)
      rw [show (q : Int).fdiv 2 = ((q / 2 : Nat) : Int) from fdivNat q 2]
      refine LCg.CompEnd.intro F N ((sA2, W.listOf ws2.toArray 0) :: W0) (fun p hp => hp) off (.inr ⟨_, .head _, rfl, _, rfl⟩) ⟨rfl, ?_⟩
      rw [List.take_add_one, hq, Option.toList_some, List.map_append]
      exact hys.snoc _ _
    case fin2 =>
      rintro ys2 news ⟨rfl, hys2⟩
      rw [List.take_length] at hys2
      intro P2 h2 tk2 FB2 NB2 o2
      have DB2 := DJ.cons (p := (P2, LCg.lst ys2)) (off1_mem o2) DA2
      clear F2 N2
      replace NB2 : News h₀ L h2 ((P2, W.listOf ys2.toArray ys2.length) :: W0) := cb_drop NB2 fun p hp => (List.mem_cons.mp hp).elim (fun e => e ▸ .head _) (fun e => .tail _ (.tail _ e))
      replace DB2 : DJ ((P2, W.listOf ys2.toArray ys2.length) :: W0) := DJ.right (a := [_]) (DB2.perm (List.Perm.swap _ _ _))
      obtain ⟨os2, rfl, hos2⟩ := hys2.vals
      have hol2 : os2.length = (dks ++ sks).length := by rw [← List.length_map (f := (·.1)), hos2, List.length_map]
      have ho42 : ∀ p ∈ os2, p.1 < 4 := fun p hp => by
        have h1 : p.1 ∈ os2.map (·.1) := List.mem_map.mpr ⟨p, hp, rfl⟩
        rw [hos2] at h1
        obtain ⟨k, hk, e⟩ := List.mem_map.mp h1
        have := hd8 k hk
        (exact om251 e this)
      generalize hWW2 : (P2, W.listOf (intVals os2).toArray (intVals os2).length) :: W0 = WW2 at NB2 DB2
      have mnu2 : (L + 1, c.nu) ∈ WW2 := by rw [← hWW2]; exact .tail _ mnu
      have hlW2 : (ln, W.listOf vs.toArray nn) ∈ WW2 := by rw [← hWW2]; exact .tail _ hlW
      have hPW2 : (P2, W.listOf (intVals os2).toArray (intVals os2).length) ∈ WW2 := by rw [← hWW2]; exact .head _
      repeat ((fail_if_success (with_reducible show wpAny _ _ (subscriptTail _ _ _ _) _ _ _)); walk1; try dsimp only)
      obtain ⟨tn2, vn2⟩ := hns.item (i := 1) (p := n1) rfl
      (rename News _ _ _ _ => NC2)
      refine list_item (isListOf NC2 hlW2) (by decide) (by decide) vn2 ?_
      repeat (walk1; try dsimp only)
      rw [show (n1 : Int).fdiv 8 = ((n1 / 8 : Nat) : Int) from fdivNat n1 8]
      unfold Hold
      (rename Fr _ _ _ _ => FC2); (rename News _ _ _ _ => NC2)
      refine file_w os2 P2 _ (n1 / 8) _ (by rw [hol2, List.length_append]; (exact om250 hdl hsl)) ho42 (by (exact om249 hb1)) rfl rfl (1 + claimMargin + 1) 7 (some []) _ _ _ _ _ _ callerA base h₀ _ _ _ _ _ _ hB FC2 hX NC2 (fun p hp => nomatch hp) hPW2 hT rfl (law_room (by decide)) (law_units (by decide)) ?_
      rintro v post extra hh2b tk2b FD2 ND2 - - ⟨tv2, rfl, rfl, rfl⟩
      rw [hos2]
      clear FC2 NC2
      replace ND2 : News h₀ L hh2b W0 := cb_drop ND2 fun p hp => by rw [← hWW2]; exact .tail _ hp
      dsimp only
      repeat (walk1; try dsimp only)
      rename_i lf hhE lE hE FE NE
      have DE : DJ ((lf, W.listOf [Value.str ⟨(fileL (n0 / 8) 0 ((dks ++ sks).map (· % 2))).toArray⟩ tv1, .str ⟨(fileL (n1 / 8) 0 ((dks ++ sks).map (· / 2))).toArray⟩ tv2].toArray 0) :: W0) := DJ.new lE DW0
      subst hW0
      (try dsimp only)
      repeat (walk1; try dsimp only)
      exact hret _ _ lf tv1 tv2 0 FE NE DE
end

section
open PySem PySem.W PyProof.Rows PySem.Calls PySem.Spec Builtin Builtin.ObjectAttr Builtin.Str
set_option maxHeartbeats 3000000
variable {w : World} {mean : ExcName → Option Value} {mg mb : Str → Option Value}
local macro_rules | `(tactic| walk_at "eval ListComp") => `(tactic| (k_here; k_dflt (refine ListComp_T (_F₀ := by k_asm) (by with_unfolding_all rfl) (by decide) (by rfl) (by decide) (by rfl) (toks_cut ?_))))
local macro_rules | `(tactic| walk_at "binaryOp Add str str") => `(tactic| (k_here; refine Hold.of ?_))
noncomputable def signP (j : Nat) : Nat := [34, 92, 32, 9, 10, 35].getD j 0
noncomputable def nameP (n2 k : Nat) : List Nat := [97 + k, signP ((n2 / 8 + k) % 6)]
noncomputable def namesP (n2 size : Nat) : List Str := (List.range size).map fun k => ⟨(nameP n2 k).toArray⟩
theorem strVals_snoc (nss : List (Str × Tok)) (x : Str) (t : Tok) : strVals nss ++ [Value.str x t] = strVals (nss ++ [(x, t)]) := by simp [strVals]
theorem item_sign (j : Nat) (h : j < 6) : Txt.item (Str.ofString "\"\\ \t\n#") (j : Int) = ⟨#[signP j]⟩ := by
  rcases (show j = 0 ∨ j = 1 ∨ j = 2 ∨ j = 3 ∨ j = 4 ∨ j = 5 by (exact om259 h)) with rfl | rfl | rfl | rfl | rfl | rfl <;> decide +kernel
theorem add_T {prog : Program} {w : World} {A : Around} {E : Value → Shared → Prop} {s : Shared} {x y : Str} {t u : Tok} {Q : Value → Shared → Prop} (hx : x.length = 1) (hy : y.length = 1)
    (hq : Q (.str (x ++ y) s.toks) { s with toks := s.toks + 1 }) : wpAny (model prog w) A (binaryOp .Add (.str x t) (.str y u)) Q E s := by
  obtain ⟨hh, g, dd, tk, os⟩ := s
  dsimp only at hq
  have X := inNil hh
  refine x_call X 400 0 (c' := .call (.builtin "str.__add__") ⟨[.str x t, .str y u], []⟩) (by kernel_rfl) ?_
  refine codeAny_call_builtin (b := Builtin.«str.__add__») (by decide +kernel) (entryFor_of_tree (by kernel_rfl)) ?_
  refine x_pure X 400 0 (v := ()) (by kernel_rfl) ?_
  repeat (first | with_reducible refine nd_at ?_ | lk)
  have hx0 : (x.length == 0) = false := by rw [hx]; rfl
  have hy0 : (y.length == 0) = false := by rw [hy]; rfl
  rw [hx0, hy0]
  rw [if_neg (by rw [Bool.and_false]; decide), if_neg (by rw [Bool.and_false]; decide)]
  unfold retStr mkStr
  have hl2 : (x ++ y).length = x.length + y.length := by
    show (x.cps ++ y.cps).size = x.cps.size + y.cps.size
    simp
  rw [if_neg (by rw [sizeLine_eq, hl2]; (exact om258 hx hy))]
  repeat (first | with_reducible refine nd_at ?_ | lk)
  exact hq
theorem law3 (ln : Addr) (vs : List Value) (n0 n1 n2 n3 nn size : Nat) (t1 : Tok) (vN : Option Value) (hns : NatsAre vs [n0, n1, n2, n3]) (hb2 : n2 < 1000000) (hsz : size = 4 ∨ size = 8) : PySem.Challenge.rw_xj0013_01 = PySem.Challenge.rw_xj0013_01 → hd.heap_1 = hd.heap_1 →
  ∀ (base h₀ : Heap) (L : Addr) (m : Str → Option Value) (R : Led) (c : Cs) (s : Shared) (Q : Flow → Shared → Prop) (E : Value → Shared → Prop),
    Below callerA base [] h₀ → Fr h₀ L s.heap m → (hd.heap_1 w.params).In h₀ → News h₀ L s.heap (LCl L c ++ R) → DJ (LCl L c ++ R) → Tp mean mg mb h₀ →
    (ln, W.listOf vs.toArray nn) ∈ R → c.nu.data = .cell (some (.ref ln)) → c.si.data = .cell (some (.int size t1)) → c.na.data = .cell vN → 0 < s.toks →
    (∀ (h' : Heap) (tk' : Nat) (o : Obj) (la : Addr) (nss : List (Str × Tok)) (nl : Nat), nss.map (·.1) = namesP n2 size → (∀ p ∈ nss, p.2 ≠ 0 ∧ p.2 < tk') → o.data = .cell (some (.ref la)) → Fr h₀ L h' m → News h₀ L h' (LCl L { c with na := o } ++ ((la, W.listOf (strVals nss).toArray nl) :: R)) → DJ (LCl L { c with na := o } ++ ((la, W.listOf (strVals nss).toArray nl) :: R)) →
      Q .next { s with heap := h', toks := tk' }) →
    wpAny (model PySem.Challenge.pw_xj0013_01 w) (callerA.deeper (lawEnv w L)) (execs [lawStmt w.params 7] (lawEnv w L)) Q E s := by
  k_fill; intro _ _ base h₀ L m R c s Q E hB hF hX hN hD hT hln d1 d2 d3 hTk hret
  have eS7 : lawStmt w.params 7 = lawStmt w.params 7 := rfl
  conv at eS7 => rhs; whnf
  have e2 : fnScope w.params 225 = fnScope w.params 225 := rfl
  conv at e2 => rhs; whnf
  unfold lawEnv at *
  rw [eS7, e2]
  clear eS7 e2
  have hN' := hN
  have mnu : (L + 1, c.nu) ∈ LCl L c ++ R := .tail _ (.tail _ (.tail _ (.tail _ (.tail _ (.tail _ (.tail _ (.tail _ (.head _))))))))
  have msi : (L + 1 + 1 + 1, c.si) ∈ LCl L c ++ R := .tail _ (.tail _ (.tail _ (.tail _ (.tail _ (.tail _ (.head _))))))
  generalize hW0 : LCl L c ++ R = W0 at hN' mnu msi
  have hlW : (ln, W.listOf vs.toArray nn) ∈ W0 := by rw [← hW0]; exact List.mem_append_right _ hln
  clear hN
  repeat (walk1; try dsimp only)
  (rename IsRange _ _ _ _ _ _ _ _ => hR2); (rename Fr _ _ _ _ => F2); (rename News _ _ _ _ => N2); rename_i hle2
  refine ⟨_, size, W0, _, fun _ => True, fun i ys news tk => news = W0 ∧ 0 < tk ∧ ∃ nss : List (Str × Tok), ys = strVals nss ∧ nss.map (·.1) = (namesP n2 size).take i ∧ ∀ p ∈ nss, p.2 ≠ 0 ∧ p.2 < tk, rfl, by rw [sizeLine_eq]; (exact om257 hsz), rfl, F2, N2, trivial, ⟨rfl, Nat.lt_of_lt_of_le hTk hle2, [], rfl, rfl, fun p hp => nomatch hp⟩, .inr ⟨_, _, _, hR2, by (exact om369 hsz), rfl⟩, fun g => ?step2, ?fin2⟩
  case step2 =>
    rintro i ys news v I oI C oC' D' m₂ h' tk₀ tk' E' hi ⟨rfl, h0, nss, rfl, hnss, hnt⟩ hlt ⟨t, rfl⟩ hNs hx F' N' off - -
    have hi8 := om260 hsz hi
    have mm : ∀ {q : Addr × Obj}, q ∈ news → q ∈ (I, oI) :: (C, oC') :: (D', LCg.lst (strVals nss)) :: news := fun h => .tail _ (.tail _ (.tail _ h))
    have mnu2 := mm mnu
    have hlW2 := mm hlW
    repeat ((fail_if_success (with_reducible show wpAny _ _ (subscriptTail _ _ _ _) _ _ _)); walk1; try dsimp only)
    obtain ⟨tn, vn⟩ := hns.item (i := 2) (p := n2) rfl
    refine list_item (isListOf N' hlW2) (by decide) (by decide) vn ?_
    repeat (walk1; try dsimp only)
    unfold Hold
    have hsg : Txt.item (Str.ofString "\"\\ \t\n#") (((n2 : Int).fdiv 8 + (i : Int)).fmod 6) = ⟨#[signP ((n2 / 8 + i) % 6)]⟩ := by
      rw [show ((n2 : Int).fdiv 8 + (i : Int)).fmod 6 = (((n2 / 8 + i) % 6 : Nat) : Int) by rw [show (8 : Int) = ((8 : Nat) : Int) from rfl, fdivNat, ← Int.natCast_add, show (6 : Int) = ((6 : Nat) : Int) from rfl, fmodNat], item_sign _ (Nat.mod_lt _ (by decide))]
    rw [hsg, show (97 + (i : Int)).toNat = 97 + i by (exact om255)]
    refine add_T rfl rfl ?_
    have hst : (namesP n2 size)[i]? = some ⟨(nameP n2 i).toArray⟩ := by
      unfold namesP
      rw [List.getElem?_map, List.getElem?_range hi]
      rfl
    have hcat : (⟨#[97 + i]⟩ : Str) ++ ⟨#[signP ((n2 / 8 + i) % 6)]⟩ = ⟨(nameP n2 i).toArray⟩ := rfl
    rw [hcat]
    refine ⟨h', _, news, rfl, F', N', off, trivial, rfl, Nat.succ_pos _, nss ++ [(⟨(nameP n2 i).toArray⟩, _)], strVals_snoc nss _ _, ?_, ?_⟩
    · rw [List.take_add_one, hst, Option.toList_some, List.map_append, hnss]
      rfl
    · intro p hp
      rcases List.mem_append.mp hp with hp | hp
      · have := hnt p hp
        refine ⟨this.1, Nat.lt_of_lt_of_le this.2 (Nat.le_trans hlt ?_)⟩
        dsimp only
        (exact om254)
      · rw [List.mem_singleton.mp hp]
        exact ⟨Nat.succ_ne_zero _, Nat.lt_succ_self _⟩
  case fin2 =>
    rintro D h tk₀ tk ys news hle ⟨rfl, -, nss, rfl, hnss, hnt⟩ F N o1
    rw [List.take_of_length_le (by simp [namesP])] at hnss
    replace hnt : ∀ p ∈ nss, p.2 ≠ 0 ∧ p.2 < tk := fun p hp => ⟨(hnt p hp).1, Nat.lt_of_lt_of_le (hnt p hp).2 hle⟩
    clear F2 N2
    repeat ((fail_if_success (with_reducible show wpAny _ _ (storeName _ _ _) _ _ _)); walk1; try dsimp only)
    have hN1 := DJ.cons (p := (D, LCg.lst (strVals nss))) (off1_mem o1) (hW0 ▸ hD)
    subst hW0
    replace N : News h₀ L h (LCl L c ++ ((D, W.listOf (strVals nss).toArray (strVals nss).length) :: R)) := cb_drop N fun p hp => (List.perm_middle (l₁ := LCl L c) (l₂ := R)).mem_iff.mp hp
    have hD2 : DJ (LCl L c ++ ((D, W.listOf (strVals nss).toArray (strVals nss).length) :: R)) := DJ.perm (List.perm_middle (l₁ := LCl L c) (l₂ := R)).symm hN1
    repeat ((fail_if_success (with_reducible show wpAny _ _ (storeName _ _ _) _ _ _)); walk1; try dsimp only)
    k_dflt (refine storeX_D (pre := [_, _, _, _]) (by assumption) N hD2 rfl d3 ?_)
    intro h3 o3 F3 N3 D3 d3
    replace N3 : News h₀ L h3 (LCl L { c with na := o3 } ++ ((D, W.listOf (strVals nss).toArray (strVals nss).length) :: R)) := N3
    replace D3 : DJ (LCl L { c with na := o3 } ++ ((D, W.listOf (strVals nss).toArray (strVals nss).length) :: R)) := D3
    repeat (walk1; try dsimp only)
    (try dsimp only)
    repeat (walk1; try dsimp only)
    exact hret _ _ o3 D nss _ hnss hnt d3 F3 N3 D3
end

section
open PySem PySem.W PyProof.Rows PySem.Calls PySem.Spec Builtin Builtin.ObjectAttr Builtin.Str
set_option maxHeartbeats 3000000
variable {w : World} {mean : ExcName → Option Value} {mg mb : Str → Option Value}
noncomputable def cardP (n2 n3 k : Nat) : List Nat := writtenV ((n3 / 16 + k) % 3) (nameP n2 k)
noncomputable def cardsP (n2 n3 size : Nat) : List Str := (List.range size).map fun k => ⟨(cardP n2 n3 k).toArray⟩
theorem nameP_ascii (n2 k : Nat) (hk : k < 8) : ((nameP n2 k).toArray.all (· < 128)) = true := by
  unfold nameP
  have hj : (n2 / 8 + k) % 6 < 6 := Nat.mod_lt _ (by decide)
  generalize (n2 / 8 + k) % 6 = j at *
  rcases lt8 hk with rfl | rfl | rfl | rfl | rfl | rfl | rfl | rfl <;> rcases (show j = 0 ∨ j = 1 ∨ j = 2 ∨ j = 3 ∨ j = 4 ∨ j = 5 by (exact om259 hj)) with rfl | rfl | rfl | rfl | rfl | rfl <;> decide +kernel
theorem strVals_item {nss : List (Str × Tok)} {xs : List Str} (h : nss.map (·.1) = xs) {i : Nat} {x : Str} (hx : xs[i]? = some x) : ∃ t, (strVals nss)[i]? = some (.str x t) := by
  subst h
  rw [List.getElem?_map] at hx
  cases hn : nss[i]? with
  | none => rw [hn] at hx; cases hx
  | some p =>
    rw [hn] at hx
    obtain rfl := Option.some.inj hx
    exact ⟨p.2, by simp [strVals, hn]⟩
theorem namesP_at {n2 size i : Nat} (hi : i < size) : (namesP n2 size)[i]? = some ⟨(nameP n2 i).toArray⟩ := by
  unfold namesP
  rw [List.getElem?_map, List.getElem?_range hi]
  rfl
theorem cardsP_at {n2 n3 size i : Nat} (hi : i < size) : (cardsP n2 n3 size)[i]? = some ⟨(cardP n2 n3 i).toArray⟩ := by
  unfold cardsP
  rw [List.getElem?_map, List.getElem?_range hi]
  rfl
theorem law4 (ln la : Addr) (vs : List Value) (nss : List (Str × Tok)) (n0 n1 n2 n3 nn nl size : Nat) (t1 : Tok) (hns : NatsAre vs [n0, n1, n2, n3]) (hnss : nss.map (·.1) = namesP n2 size) (hsz : size = 4 ∨ size = 8) : PySem.Challenge.rw_xj0013_01 = PySem.Challenge.rw_xj0013_01 → hd.heap_1 = hd.heap_1 →
  ∀ (base h₀ : Heap) (L : Addr) (m : Str → Option Value) (R : Led) (c : Cs) (s : Shared) (Q : Flow → Shared → Prop) (E : Value → Shared → Prop),
    Below callerA base [] h₀ → Fr h₀ L s.heap m → (hd.heap_1 w.params).In h₀ → News h₀ L s.heap (LCl L c ++ R) → DJ (LCl L c ++ R) → Tp mean mg mb h₀ →
    (ln, W.listOf vs.toArray nn) ∈ R → (la, W.listOf (strVals nss).toArray nl) ∈ R → c.nu.data = .cell (some (.ref ln)) → c.si.data = .cell (some (.int size t1)) → c.na.data = .cell (some (.ref la)) →
    (∀ (h' : Heap) (tk' : Nat) (lc : Addr) (css : List (Str × Tok)) (nc : Nat), css.map (·.1) = cardsP n2 n3 size → Fr h₀ L h' (fun y => if y = Str.ofString "cards" then some (.ref lc) else m y) → News h₀ L h' ((lc, W.listOf (strVals css).toArray nc) :: (LCl L c ++ R)) → DJ ((lc, W.listOf (strVals css).toArray nc) :: (LCl L c ++ R)) →
      Q .next { s with heap := h', toks := tk' }) →
    wpAny (model PySem.Challenge.pw_xj0013_01 w) (callerA.deeper (lawEnv w L)) (execs [lawStmt w.params 8] (lawEnv w L)) Q E s := by
  k_fill; intro _ _ base h₀ L m R c s Q E hB hF hX hN hD hT hln hla d1 d2 d3 hret
  have eS8 : lawStmt w.params 8 = lawStmt w.params 8 := rfl
  conv at eS8 => rhs; whnf
  have e2 : fnScope w.params 225 = fnScope w.params 225 := rfl
  conv at e2 => rhs; whnf
  unfold lawEnv at *
  rw [eS8, e2]
  clear eS8 e2
  have mnu : (L + 1, c.nu) ∈ LCl L c ++ R := .tail _ (.tail _ (.tail _ (.tail _ (.tail _ (.tail _ (.tail _ (.tail _ (.head _))))))))
  have msi : (L + 1 + 1 + 1, c.si) ∈ LCl L c ++ R := .tail _ (.tail _ (.tail _ (.tail _ (.tail _ (.tail _ (.head _))))))
  have mna : (L + 1 + 1 + 1 + 1 + 1, c.na) ∈ LCl L c ++ R := .tail _ (.tail _ (.tail _ (.tail _ (.head _))))
  generalize hW0 : LCl L c ++ R = W0 at *
  have hlW : (ln, W.listOf vs.toArray nn) ∈ W0 := by rw [← hW0]; exact List.mem_append_right _ hln
  have hlN : (la, W.listOf (strVals nss).toArray nl) ∈ W0 := by rw [← hW0]; exact List.mem_append_right _ hla
  repeat (walk1; try dsimp only)
  unfold Hold
  (rename IsRange _ _ _ _ _ _ _ _ => hR2); (rename Fr _ _ _ _ => F2); (rename News _ _ _ _ => N2)
  refine LCg.CompSrc.range rfl F2 N2 hR2 (rng_small _ (by (exact om369 hsz))) (rng_size size) (by rw [sizeLine_eq]; (exact om257 hsz)) ?_
  intro g2
  refine CompRest_ind (n := size) (fun i ys news => news = W0 ∧ ∃ css : List (Str × Tok), ys = strVals css ∧ css.map (·.1) = (cardsP n2 n3 size).take i) ?step2 ?fin2 size 0 [] _ (by (exact om262 hsz)) ⟨rfl, [], rfl, rfl⟩
  case step2 =>
    rintro i ys news v I oI C oC' D' m₂ h' tk' E' hi ⟨rfl, css, rfl, hcss⟩ ⟨t, rfl⟩ hNs hx F' N' off -
    have mm : ∀ {q : Addr × Obj}, q ∈ news → q ∈ (I, oI) :: (C, oC') :: (D', LCg.lst (strVals css)) :: news := fun h => .tail _ (.tail _ (.tail _ h))
    have mnu2 := mm mnu
    have mna2 := mm mna
    have hlW2 := mm hlW
    have hlN2 := mm hlN
    rw [show (0 + (i : Int)) = (i : Nat) by (exact om206)] at hx
    obtain ⟨tn, vn⟩ := hns.item (i := 3) (p := n3) rfl
    obtain ⟨tm, vm⟩ := strVals_item hnss (namesP_at (n2 := n2) hi)
    repeat ((fail_if_success (with_reducible show wpAny _ _ (subscriptTail _ _ _ _) _ _ _)); walk1; try dsimp only)
    refine list_item (isListOf N' hlN2) (by (exact om79)) (by (exact om372 hsz hi)) (by rw [Int.toNat_natCast]; exact vm) ?_
    repeat ((fail_if_success (with_reducible show wpAny _ _ (subscriptTail _ _ _ _) _ _ _)); walk1; try dsimp only)
    refine list_item (isListOf N' hlW2) (by decide) (by decide) vn ?_
    repeat (walk1; try dsimp only)
    unfold Hold
    rw [show ((n3 : Int).fdiv 16 + (i : Int)).fmod 3 = (((n3 / 16 + i) % 3 : Nat) : Int) by rw [show (16 : Int) = ((16 : Nat) : Int) from rfl, fdivNat, ← Int.natCast_add, show (3 : Int) = ((3 : Nat) : Int) from rfl, fmodNat]]
    refine written_w (nameP n2 i) tm ((n3 / 16 + i) % 3) (Nat.mod_lt _ (by decide)) _ (by simp [nameP]) (nameP_ascii n2 i (by (exact om260 hsz hi))) rfl rfl (1 + claimMargin + 1) 7 (some []) _ _ _ _ _ _ callerA base h₀ _ _ _ _ _ _ hB F' hX N' (fun p hp => nomatch hp) trivial hT rfl (law_room (by decide)) (law_units (by decide)) ?_
    rintro v2 post extra h6 tk6 F6 N6 - - ⟨tv, rfl, rfl, rfl⟩
    refine LCg.CompEnd.intro F6 N6 news (fun p hp => hp) off trivial ⟨rfl, css ++ [(⟨(cardP n2 n3 i).toArray⟩, tv)], strVals_snoc css _ _, ?_⟩
    rw [List.take_add_one, cardsP_at hi, Option.toList_some, List.map_append, hcss]
    rfl
  case fin2 =>
    rintro ys news ⟨rfl, css, rfl, hcss⟩
    rw [List.take_of_length_le (by simp [cardsP])] at hcss
    intro D h tk F N o1
    subst hW0
    (try dsimp only)
    repeat (walk1; try dsimp only)
    exact hret _ _ D css _ hcss F N (DJ.cons (off1_mem o1) hD)
end

section
open PySem PySem.W PyProof.Rows PySem.Calls PySem.Spec Builtin Builtin.ObjectAttr Builtin.Str
set_option maxHeartbeats 3000000
variable {w : World} {mean : ExcName → Option Value} {mg mb : Str → Option Value}
theorem lx_dj0 {a : Lx} (ok : a.Ok) {cs : Addr} {ocr ocs : Obj} {tl tp : Tok} (h1 : a.pl < a.cr) (h2 : a.cr < a.rd) (h3 : a.rd < cs) (h4 : cs < a.sf) : DJ (a.mut w 1 tl [] 0 0 tp 0 ++ (a.imm w ++ [(a.cr, ocr), (cs, ocs)])) := by
  have l1 : @LT.lt Nat _ a.ct a.cp := ok.l1
  have l2 : @LT.lt Nat _ a.cp a.pl := ok.l2
  have l3 : @LT.lt Nat _ a.pl a.rd := ok.l3
  have l4 : @LT.lt Nat _ a.rd a.sf := ok.l4
  have l5 : @LT.lt Nat _ a.sf a.dsf := ok.l5
  have l6 : @LT.lt Nat _ a.dsf a.dix := ok.l6
  have l7 : @LT.lt Nat _ a.dix a.ix := ok.l7
  have l8 : @LT.lt Nat _ a.ix a.pb := ok.l8
  have g1 : @LT.lt Nat _ a.pl a.cr := h1
  have g2 : @LT.lt Nat _ a.cr a.rd := h2
  have g3 : @LT.lt Nat _ a.rd cs := h3
  have g4 : @LT.lt Nat _ cs a.sf := h4
  unfold DJ
  have e : (a.mut w 1 tl [] 0 0 tp 0 ++ (a.imm w ++ [(a.cr, ocr), (cs, ocs)])).map (·.1) = ([a.dix, a.pb, a.pl, a.ix, a.sf, a.dsf, a.rd, a.cp, a.ct, a.cr, cs] : List Nat) := rfl
  rw [e]
  exact nodup_up (a := a.ct) (l := [a.cp, a.pl, a.cr, a.rd, cs, a.sf, a.dsf, a.dix, a.ix, a.pb]) ⟨l1, l2, g1, g2, g3, g4, l5, l6, l7, l8, trivial⟩ [8, 10, 2, 9, 6, 7, 4, 1, 0, 3, 5] rfl (by decide)
theorem lx_dj1 {a : Lx} (ok : a.Ok) {tl tp : Tok} : DJ (a.mut w 1 tl [] 0 0 tp 0 ++ a.imm w) := by
  have l1 : @LT.lt Nat _ a.ct a.cp := ok.l1
  have l2 : @LT.lt Nat _ a.cp a.pl := ok.l2
  have l3 : @LT.lt Nat _ a.pl a.rd := ok.l3
  have l4 : @LT.lt Nat _ a.rd a.sf := ok.l4
  have l5 : @LT.lt Nat _ a.sf a.dsf := ok.l5
  have l6 : @LT.lt Nat _ a.dsf a.dix := ok.l6
  have l7 : @LT.lt Nat _ a.dix a.ix := ok.l7
  have l8 : @LT.lt Nat _ a.ix a.pb := ok.l8
  unfold DJ
  have e : (a.mut w 1 tl [] 0 0 tp 0 ++ a.imm w).map (·.1) = ([a.dix, a.pb, a.pl, a.ix, a.sf, a.dsf, a.rd, a.cp, a.ct] : List Nat) := rfl
  rw [e]
  exact nodup_up (a := a.ct) (l := [a.cp, a.pl, a.rd, a.sf, a.dsf, a.dix, a.ix, a.pb]) ⟨l1, l2, l3, l4, l5, l6, l7, l8, trivial⟩ [6, 8, 2, 7, 4, 5, 3, 1, 0] rfl (by decide)
noncomputable def LexJ (w : World) (L : Addr) (c : Cs) (R : Led) (f0 f1 : Str) (i : Nat) (ys : List Value) (news : Led) : Prop := match i with
  | 0 => ys = [] ∧ news = LCl L c ++ ((184, tabObj #[]) :: R) ∧ DJ news
  | 1 => ∃ (a0 : Lx) (cs : Addr) (ocr ocs : Obj) (tl0 tp0 : Tok), ys = [.ref a0.ix] ∧ a0.Ok ∧ a0.x = f0 ∧ CodeOk ocr ∧ news = LCl L c ++ ((184, lexTab a0.cr cs) :: ((a0.mut w 1 tl0 [] 0 0 tp0 0 ++ (a0.imm w ++ [(a0.cr, ocr), (cs, ocs)])) ++ R)) ∧ DJ news
  | _ => ∃ (a0 a1 : Lx) (cs : Addr) (ocr ocs : Obj) (tl0 tp0 tl1 tp1 : Tok), ys = [.ref a0.ix, .ref a1.ix] ∧ a0.Ok ∧ a0.x = f0 ∧ CodeOk ocr ∧ a1.Ok ∧ a1.x = f1 ∧ a1.cr = a0.cr ∧ news = LCl L c ++ ((184, lexTab a0.cr cs) :: ((a1.mut w 1 tl1 [] 0 0 tp1 0 ++ a1.imm w) ++ ((a0.mut w 1 tl0 [] 0 0 tp0 0 ++ (a0.imm w ++ [(a0.cr, ocr), (cs, ocs)])) ++ R))) ∧ DJ news
theorem law5 (lf : Addr) (f0 f1 : Str) (t0 t1 : Tok) (nf : Nat) : PySem.Challenge.rw_xj0013_01 = PySem.Challenge.rw_xj0013_01 → hd.heap_1 = hd.heap_1 →
  ∀ (base h₀ : Heap) (L : Addr) (m : Str → Option Value) (R : Led) (c : Cs) (s : Shared) (Q : Flow → Shared → Prop) (E : Value → Shared → Prop),
    Below callerA base [] h₀ → Fr h₀ L s.heap m → (hd.heap_1 w.params).In h₀ → News h₀ L s.heap (LCl L c ++ ((184, tabObj #[]) :: R)) → DJ (LCl L c ++ ((184, tabObj #[]) :: R)) → Tp mean mg mb h₀ →
    m (Str.ofString "files") = some (.ref lf) → (lf, W.listOf [Value.str f0 t0, .str f1 t1].toArray nf) ∈ R →
    (∀ (h' : Heap) (tk' : Nat) (ll : Addr) (nl : Nat) (a0 a1 : Lx) (cs : Addr) (ocr ocs : Obj) (tl0 tp0 tl1 tp1 : Tok), a0.Ok → a0.x = f0 → CodeOk ocr → a1.Ok → a1.x = f1 → a1.cr = a0.cr →
      Fr h₀ L h' (fun y => if y = Str.ofString "lexers" then some (.ref ll) else m y) → News h₀ L h' ((ll, W.listOf [Value.ref a0.ix, .ref a1.ix].toArray nl) :: (LCl L c ++ ((184, lexTab a0.cr cs) :: ((a1.mut w 1 tl1 [] 0 0 tp1 0 ++ a1.imm w) ++ ((a0.mut w 1 tl0 [] 0 0 tp0 0 ++ (a0.imm w ++ [(a0.cr, ocr), (cs, ocs)])) ++ R))))) → DJ ((ll, W.listOf [Value.ref a0.ix, .ref a1.ix].toArray nl) :: (LCl L c ++ ((184, lexTab a0.cr cs) :: ((a1.mut w 1 tl1 [] 0 0 tp1 0 ++ a1.imm w) ++ ((a0.mut w 1 tl0 [] 0 0 tp0 0 ++ (a0.imm w ++ [(a0.cr, ocr), (cs, ocs)])) ++ R))))) →
      Q .next { s with heap := h', toks := tk' }) →
    wpAny (model PySem.Challenge.pw_xj0013_01 w) (callerA.deeper (lawEnv w L)) (execs [lawStmt w.params 9] (lawEnv w L)) Q E s := by
  k_fill; intro _ _ base h₀ L m R c s Q E hB hF hX hN hD hT hmf hlf hret
  have eS9 : lawStmt w.params 9 = lawStmt w.params 9 := rfl
  conv at eS9 => rhs; whnf
  have e2 : fnScope w.params 225 = fnScope w.params 225 := rfl
  conv at e2 => rhs; whnf
  unfold lawEnv at *
  rw [eS9, e2]
  clear eS9 e2
  have hlf' : (lf, W.listOf [Value.str f0 t0, .str f1 t1].toArray nf) ∈ LCl L c ++ ((184, tabObj #[]) :: R) := List.mem_append_right _ (.tail _ hlf)
  repeat (walk1; try dsimp only)
  unfold Hold
  (rename Fr _ _ _ _ => F2); (rename News _ _ _ _ => N2)
  refine LCg.CompSrc.ledger rfl F2 N2 hlf' (show 2 ≤ sizeLine by decide) ?_
  intro g2
  refine CompRest_ind (n := 2) (LexJ w L c R f0 f1) ?step2 ?fin2 2 0 [] _ (by (exact om263)) ⟨rfl, rfl, hD⟩
  case step2 =>
    rintro i ys news v I oI C oC' D' m₂ h' tk' E' hi hJ hPv hNs hx F' N' off ne
    rcases (show i = 0 ∨ i = 1 by (exact om115 hi)) with rfl | rfl
    · obtain ⟨rfl, rfl, hDn⟩ := hJ
      obtain rfl : Value.str f0 t0 = v := Option.some.inj hPv
      have D1 := DJ.comp (oi := oI) (oc := oC') (od := LCg.lst []) ne (fun p hp => LCg.Off3.mem off p hp) hDn
      repeat (walk1; try dsimp only)
      unfold Hold
      refine claim_frame (lexer1_w f0 t0 rfl rfl) (fun v post extra h => ?_) ((I, oI) :: (C, oC') :: (D', LCg.lst []) :: LCl L c) [] R (1 + claimMargin + 1) 7 (some []) _ _ _ _ _ _ callerA base h₀ _ _ _ _ _ hB F' hX N' D1 trivial hT rfl (law_room (by decide)) (law_units (by decide)) ?_
      · obtain ⟨a, cs, ocr, ocs, tl, tp, -, ok, -, -, g1, g2, g3, g4, rfl, rfl⟩ := h
        exact ⟨rfl, lx_dj0 ok g1 g2 g3 g4⟩
      rintro v6 post6 extra6 h6 tk6 - F6 N6 D6 ⟨a0, cs, ocr, ocs, tl0, tp0, rfl, ok0, hx0, hcr, g1, g2, g3, g4, rfl, rfl⟩
      have D7 : DJ (LCl L c ++ ((184, lexTab a0.cr cs) :: ((a0.mut w 1 tl0 [] 0 0 tp0 0 ++ (a0.imm w ++ [(a0.cr, ocr), (cs, ocs)])) ++ R))) := DJ.right (a := [_, _, _]) D6
      have o1 := DJ.off (a := [_]) D6 _ (.head _)
      have o2 := DJ.off (a := [_]) (DJ.right (a := [_]) D6) _ (.head _)
      have o3 := DJ.off (a := [_]) (DJ.right (a := [_, _]) D6) _ (.head _)
      refine LCg.CompEnd.intro F6 N6 (LCl L c ++ ((184, lexTab a0.cr cs) :: ((a0.mut w 1 tl0 [] 0 0 tp0 0 ++ (a0.imm w ++ [(a0.cr, ocr), (cs, ocs)])) ++ R))) (fun p hp => hp) (LCg.Off3.of fun p hp => ⟨o1 p (.tail _ (.tail _ hp)), o2 p (.tail _ hp), o3 p hp⟩) (.inr ⟨_, List.mem_append_right _ (.tail _ (List.mem_append_right _ hlf)), rfl, _, rfl⟩) ⟨a0, cs, ocr, ocs, tl0, tp0, rfl, ok0, hx0, hcr, rfl, D7⟩
    · obtain ⟨a0, cs, ocr, ocs, tl0, tp0, rfl, ok0, hx0, hcr, rfl, hDn⟩ := hJ
      obtain rfl : Value.str f1 t1 = v := Option.some.inj hPv
      have D1 := DJ.comp (oi := oI) (oc := oC') (od := LCg.lst [.ref a0.ix]) ne (fun p hp => LCg.Off3.mem off p hp) hDn
      repeat (walk1; try dsimp only)
      unfold Hold
      refine claim_frame (lexer2_w f1 t1 a0.cr cs rfl rfl) (fun v post extra h => ?_) ((I, oI) :: (C, oC') :: (D', LCg.lst [.ref a0.ix]) :: LCl L c) [] ((a0.mut w 1 tl0 [] 0 0 tp0 0 ++ (a0.imm w ++ [(a0.cr, ocr), (cs, ocs)])) ++ R) (1 + claimMargin + 1) 7 (some []) _ _ _ _ _ _ callerA base h₀ _ _ _ _ _ hB F' hX N' D1 trivial hT rfl (law_room (by decide)) (law_units (by decide)) ?_
      · obtain ⟨a, tl, tp, -, ok, -, -, rfl, rfl⟩ := h
        exact ⟨rfl, lx_dj1 ok⟩
      rintro v6 post6 extra6 h6 tk6 - F6 N6 D6 ⟨a1, tl1, tp1, rfl, ok1, hx1, hcr1, rfl, rfl⟩
      have D7 : DJ (LCl L c ++ ((184, lexTab a0.cr cs) :: ((a1.mut w 1 tl1 [] 0 0 tp1 0 ++ a1.imm w) ++ ((a0.mut w 1 tl0 [] 0 0 tp0 0 ++ (a0.imm w ++ [(a0.cr, ocr), (cs, ocs)])) ++ R)))) := DJ.right (a := [_, _, _]) D6
      have o1 := DJ.off (a := [_]) D6 _ (.head _)
      have o2 := DJ.off (a := [_]) (DJ.right (a := [_]) D6) _ (.head _)
      have o3 := DJ.off (a := [_]) (DJ.right (a := [_, _]) D6) _ (.head _)
      refine LCg.CompEnd.intro F6 N6 (LCl L c ++ ((184, lexTab a0.cr cs) :: ((a1.mut w 1 tl1 [] 0 0 tp1 0 ++ a1.imm w) ++ ((a0.mut w 1 tl0 [] 0 0 tp0 0 ++ (a0.imm w ++ [(a0.cr, ocr), (cs, ocs)])) ++ R)))) (fun p hp => hp) (LCg.Off3.of fun p hp => ⟨o1 p (.tail _ (.tail _ hp)), o2 p (.tail _ hp), o3 p hp⟩) (.inr ⟨_, List.mem_append_right _ (.tail _ (List.mem_append_right _ (List.mem_append_right _ hlf))), rfl, _, rfl⟩) ⟨a0, a1, cs, ocr, ocs, tl0, tp0, tl1, tp1, rfl, ok0, hx0, hcr, ok1, hx1, hcr1, rfl, D7⟩
  case fin2 =>
    rintro ys news ⟨a0, a1, cs, ocr, ocs, tl0, tp0, tl1, tp1, rfl, ok0, hx0, hcr, ok1, hx1, hcr1, rfl, hD2⟩
    intro D h tk F N o1
    (try dsimp only)
    repeat (walk1; try dsimp only)
    exact hret _ _ D _ a0 a1 cs ocr ocs tl0 tp0 tl1 tp1 ok0 hx0 hcr ok1 hx1 hcr1 F N (DJ.cons (off1_mem o1) hD2)
end

section
open PySem PySem.W PyProof.Rows PySem.Calls PySem.Spec Builtin Builtin.ObjectAttr Builtin.Str
set_option maxHeartbeats 3000000
variable {w : World} {mean : ExcName → Option Value} {mg mb : Str → Option Value}
/-- the deck as dealt -/
noncomputable def deck0 (css : List (Str × Tok)) : List (Str × Str) := css.map fun p => (Str.ofString " ", p.1)
theorem pf1 {α : Type} (D X O' B : List α) : (D ++ ([] ++ (X ++ (O' ++ B)))).Perm (D ++ ((X ++ O') ++ B)) := by
  classical
  rw [List.perm_iff_count]; intro a; simp only [List.count_append, List.count_nil]; (exact om267)
inductive DealJ (w : World) (dk dxk : Addr) (tkd : Tok) (B : Led) (cds : List (Str × Str)) (m : Str → Option Value) (i : Nat) (m' : Str → Option Value) (news : Led) : Prop
  | mk (xs : List Value) (n : Nat) (O' : Led) (e : news = (dk, accObj dxk xs n) :: (O' ++ ((dxk, accD w tkd) :: B))) (hD : DJ news) (hX : Cards O' xs (cds.take i)) (hd : m' (Str.ofString "deck") = some (.ref dk)) (hm : ∀ y, y ≠ Str.ofString "deck" → y ≠ Str.ofString "card" → m' y = m y)
theorem law6 (lc : Addr) (css : List (Str × Tok)) (nc : Nat) (hcl : css.length < 10) : PySem.Challenge.rw_xj0013_01 = PySem.Challenge.rw_xj0013_01 → hd.heap_1 = hd.heap_1 →
  ∀ (base h₀ : Heap) (L : Addr) (m : Str → Option Value) (R : Led) (c : Cs) (s : Shared) (Q : Flow → Shared → Prop) (E : Value → Shared → Prop),
    Below callerA base [] h₀ → Fr h₀ L s.heap m → (hd.heap_1 w.params).In h₀ → News h₀ L s.heap (LCl L c ++ R) → DJ (LCl L c ++ R) → Tp mean mg mb h₀ →
    m (Str.ofString "cards") = some (.ref lc) → (lc, W.listOf (strVals css).toArray nc) ∈ R →
    (∀ (h' : Heap) (tk' : Nat) (m' : Str → Option Value) (dk dxk : Addr) (tkd : Tok) (xs : List Value) (n : Nat) (O' : Led), Cards O' xs (deck0 css) → m' (Str.ofString "deck") = some (.ref dk) → (∀ y, y ≠ Str.ofString "deck" → y ≠ Str.ofString "card" → m' y = m y) →
      Fr h₀ L h' m' → News h₀ L h' ((dk, accObj dxk xs n) :: (O' ++ ((dxk, accD w tkd) :: (LCl L c ++ R)))) → DJ ((dk, accObj dxk xs n) :: (O' ++ ((dxk, accD w tkd) :: (LCl L c ++ R)))) →
      Q .next { s with heap := h', toks := tk' }) →
    wpAny (model PySem.Challenge.pw_xj0013_01 w) (callerA.deeper (lawEnv w L)) (execs [lawStmt w.params 10, lawStmt w.params 11] (lawEnv w L)) Q E s := by
  k_fill; intro _ _ base h₀ L m R c s Q E hB hF hX hN hD hT hmc hlc hret
  have eS10 : lawStmt w.params 10 = lawStmt w.params 10 := rfl
  conv at eS10 => rhs; whnf
  have eS11 : lawStmt w.params 11 = lawStmt w.params 11 := rfl
  conv at eS11 => rhs; whnf
  have e2 : fnScope w.params 225 = fnScope w.params 225 := rfl
  conv at e2 => rhs; whnf
  unfold lawEnv at *
  rw [eS10, eS11, e2]
  clear eS10 eS11 e2
  repeat (walk1; try dsimp only)
  unfold Hold
  (rename Fr _ _ _ _ => F1)
  refine claim_frameN (acc_new_w rfl rfl) (fun v post extra h => by obtain ⟨_, _, _, _, -, rfl, rfl⟩ := h; exact ⟨DJ.one _, DJ.one _⟩) [] [] (LCl L c ++ R) (1 + claimMargin + 1) 7 (some []) _ _ _ _ _ _ callerA base h₀ _ _ _ _ _ hB F1 hX hN hD trivial hT rfl (law_room (by decide)) (law_units (by decide)) ?_
  rintro v post extra h1 tk1 - F2 N2 D2 ⟨dk, dxk, n, tkd, rfl, rfl, rfl⟩
  clear F1
  have hlc' : (lc, W.listOf (strVals css).toArray nc) ∈ LCl L c ++ R := List.mem_append_right _ hlc
  replace N2 : News h₀ L h1 ((dk, accObj dxk [] n) :: ([] ++ ((dxk, accD w tkd) :: (LCl L c ++ R)))) := N2
  replace D2 : DJ ((dk, accObj dxk [] n) :: ([] ++ ((dxk, accD w tkd) :: (LCl L c ++ R)))) := D2
  generalize LCl L c ++ R = B at *
  repeat ((fail_if_success (with_reducible show wpAny _ _ (PySem.exec (Stmt.For _ _ _ _ _) _) _ _ _)); walk1; try dsimp only)
  refine wpAny_For ?_ (by intro _; rfl)
  repeat (walk1; try dsimp only)
  (rename Fr _ _ _ _ => F3); (rename News _ _ _ _ => N3)
  have hjm : ∀ {i : Nat} {m' : Str → Option Value} {news' : Led}, DealJ w dk dxk tkd B (deck0 css) m i m' news' → (lc, W.listOf (strVals css).toArray nc) ∈ news' := by
    rintro i m' news' ⟨xs, n, O', rfl, -⟩
    exact .tail _ (List.mem_append_right _ (.tail _ hlc'))
  refine pyIter_listJ (vs := strVals css) (nl := nc) rfl (.tail _ (.tail _ hlc')) F3 N3 (DealJ w dk dxk tkd B (deck0 css) m) ⟨[], n, [], rfl, D2, .nil, if_pos rfl, fun y h1 _ => if_neg h1⟩ (fun i m' news' h => hjm h) ?_ ?_
  · rintro i v m₁ news₁ h₂ tk₂ I it hv ⟨xs, n', O', rfl, hD1, hcx, hmd, hm⟩ F₁ N₁ hI K KE hK _hV
    have hil : i < css.length := by have := (List.getElem?_eq_some_iff.mp hv).1; simpa [strVals] using this
    obtain ⟨⟨cx, ct⟩, hcc⟩ : ∃ p, css[i]? = some p := ⟨_, List.getElem?_eq_getElem hil⟩
    obtain rfl : v = .str cx ct := by
      have e : (strVals css)[i]? = some (.str cx ct) := by simp [strVals, hcc]
      rw [e] at hv; exact (Option.some.inj hv).symm
    have DI := DJ.cons (p := (I, it)) hI hD1
    repeat ((fail_if_success (with_reducible show wpAny _ _ (PySem.getMethod _ _ _) _ _ _)); walk1; try dsimp only)
    (rename Fr _ _ _ _ => F4); (rename News _ _ _ _ => N4)
    have mdx : (dxk, accD w tkd) ∈ (I, it) :: (dk, accObj dxk xs n') :: (O' ++ (dxk, accD w tkd) :: B) := .tail _ (.tail _ (List.mem_append_right _ (.head _)))
    refine acc_getMethod_f (dx := dxk) (tk := tkd) (hX.keeps F4.keep) (N4 _ (.tail _ (.head _))).1 (N4 _ mdx).1 (by k_is) (by k_is) (by kernel_rfl) ?_
    repeat (walk1; try dsimp only)
    unfold Hold
    (rename Fr _ _ _ _ => F5); (rename News _ _ _ _ => N5)
    have hxl : xs.length ≤ i := by rw [hcx.length, List.length_take]; (exact om112)
    refine claim_frame (push_w dk dxk xs n' _ _ (by (exact om266 hcl hil hxl)) rfl rfl) (fun v post extra h => by obtain ⟨-, _, rfl, rfl⟩ := h; exact ⟨rfl, DJ.one _⟩) [(I, it)] [] (O' ++ (dxk, accD w tkd) :: B) (1 + claimMargin + 1) 7 (some []) _ _ _ _ _ _ callerA base h₀ _ _ _ _ _ hB F5 hX N5 DI ⟨tkd, .tail _ (List.mem_append_right O' (.head _))⟩ hT rfl (law_room (by decide)) (law_units (by decide)) ?_
    rintro v7 post7 extra7 h7 tk7 - F7 N7 D7 ⟨rfl, T, rfl, rfl⟩
    repeat (walk1; try dsimp only)
    (rename Fr _ _ _ _ => F8); (rename News _ _ _ _ => N8)
    have hc : (deck0 css)[i]? = some (Str.ofString " ", cx) := by simp [deck0, hcc]
    obtain ⟨tq, NQ, DQ⟩ : ∃ tq, News h₀ L h7 ((I, it) :: (dk, accObj dxk (xs ++ [Value.ref T]) (n' + 1)) :: (((T, tupObj [.str (Str.ofString " ") tq, .str cx ct]) :: O') ++ ((dxk, accD w tkd) :: B))) ∧ DJ ((I, it) :: (dk, accObj dxk (xs ++ [Value.ref T]) (n' + 1)) :: (((T, tupObj [.str (Str.ofString " ") tq, .str cx ct]) :: O') ++ ((dxk, accD w tkd) :: B))) := ⟨_, N8, D7⟩
    refine hK (.inl rfl) F8 NQ (DJ.off (a := [_]) DQ _ (.head _)) ⟨xs ++ [Value.ref T], n' + 1, (T, tupObj [.str (Str.ofString " ") tq, .str cx ct]) :: O', rfl, DJ.right (a := [_]) DQ, Cards.step (c := (Str.ofString " ", cx)) hcx hc, ?_, ?_⟩
    · (try dsimp only)
      rw [if_neg (by decide +kernel)]; exact hmd
    · intro y h1 h2
      (try dsimp only)
      rw [if_neg h2]
      exact hm y h1 h2
  · rintro h' tk' m' news' F' N' ⟨xs, n', O', rfl, hD1, hcx, hmd, hm⟩
    rw [List.take_of_length_le (by simp [deck0, strVals])] at hcx
    (try dsimp only)
    repeat (walk1; try dsimp only)
    (try dsimp only)
    repeat (walk1; try dsimp only)
    exact hret _ _ m' dk dxk tkd xs n' O' hcx hmd hm F' N' hD1
end

section
open PySem PySem.W PyProof.Rows PySem.Calls PySem.Spec Builtin Builtin.ObjectAttr Builtin.Str
set_option maxHeartbeats 3000000
variable {w : World} {mean : ExcName → Option Value} {mg mb : Str → Option Value}
theorem deck0_order (css : List (Str × Tok)) : deck0 css = orderP (css.map (·.1)) (List.range css.length) := by
  unfold deck0 orderP
  rw [List.length_range]
  apply List.ext_getElem?
  intro i
  by_cases hi : i < css.length
  · rw [List.getElem?_map, List.getElem?_map, List.getElem?_range hi, List.getElem?_eq_getElem hi]
    have e : (List.range css.length).idxOf i = i := by
      have h1 : (List.range css.length).idxOf i < (List.range css.length).length := List.idxOf_lt_length_iff.mpr (List.mem_range.mpr hi)
      have h2 := List.getElem_idxOf h1
      rwa [List.getElem_range] at h2
    simp only [Option.map_some, e]
    rw [List.getD_eq_getElem?_getD, List.getElem?_map, List.getElem?_eq_getElem hi]
    rfl
  · rw [List.getElem?_eq_none (by simp; (exact om270 hi)), List.getElem?_eq_none (by simp; (exact om270 hi))]
theorem rangeKs_nats (n : Nat) : rangeKs 0 n = (List.range n).map fun (p : Nat) => (p : Int) := by
  unfold rangeKs
  apply List.map_congr_left
  intro p _
  (exact om206)
noncomputable def natsD (ps : List Nat) : PyData := .list ((ps.map fun (p : Nat) => (p : Int)).map PyData.int)
theorem nats_readsAll {h : Heap} : ∀ {vs : List Value} {ps : List Nat}, NatsAre vs ps → ∃ as, ReadsAll h vs ((ps.map fun (p : Nat) => (p : Int)).map PyData.int) as
  | [], [], _ => ⟨[], .nil⟩
  | [], _ :: _, h => by cases h
  | _ :: _, [], h => by cases h
  | _ :: vs, _ :: ps, h => by
    cases h with
    | cons _ t r =>
      obtain ⟨as, ih⟩ := nats_readsAll (vs := vs) (ps := ps) r
      exact ⟨_, .cons (.int _ _) ih⟩
theorem nats_reads {h : Heap} {a : Addr} {vs : List Value} {n : Nat} {ps : List Nat} (hg : h.get? a = some (W.listOf vs.toArray n)) (hv : NatsAre vs ps) : ∃ as, Reads h (.ref a) (natsD ps) as := by
  obtain ⟨as, r⟩ := nats_readsAll (h := h) hv
  exact ⟨_, .list hg rfl rfl r⟩
theorem natsD_can (ps : List Nat) : (natsD ps).canLay0 = true := by
  unfold natsD
  simp only [PyData.canLay0]
  exact nats_can ps
theorem natsD_depth (ps : List Nat) : (natsD ps).depth = 1 := by
  unfold natsD
  simp only [PyData.depth]
  rw [nats_depth]
theorem law7 (a0 a1 : Lx) (ok0 : a0.Ok) (ok1 : a1.Ok) (ocr0 ocr1 : Obj) (hcr0 : CodeOk ocr0) (hcr1 : CodeOk ocr1) (hz0 : a0.x.length < 2000) (hz1 : a1.x.length < 2000) (hy0 : 2 ≤ a0.x.length) (hy1 : 2 ≤ a1.x.length)
    (ln0 ln1 : Int) (tl0 tl1 tp0 tp1 : Tok) (n10 n20 n11 n21 p0 p1 : Nat) (dk dxk ll lc ld : Addr) (nk nl' nc nd : Nat) (css : List (Str × Tok)) (Y dvs : List Value) (dks : List Nat) (half : Nat) (tb : Obj) (t1 : Tok) (vK : Option Value) (hhalf : half = 2 ∨ half = 4) (hcl : css.length = 2 * half) (hdv : NatsAre dvs dks) (hd8 : ∀ k ∈ dks, k < 8) (hd0 : dks ≠ []) (hd9 : dks.length < 20)
    (hbd : ∀ c ∈ css, c.1.length ≤ 1000) (hok : ∀ c ∈ css, PyData.strOk c.1 = true) (htb : TabOk tb) (z0 z1 : List Nat) (hz0' : Yields (remOf a0.x p0) (dks.map (· % 2)) z0) (hz1' : Yields (remOf a1.x p1) (dks.map (· / 2)) z1) : PySem.Challenge.rw_xj0013_01 = PySem.Challenge.rw_xj0013_01 → hd.heap_1 = hd.heap_1 →
  ∀ (base h₀ : Heap) (L : Addr) (m : Str → Option Value) (R : Led) (c : Cs) (s : Shared) (Q : Flow → Shared → Prop) (E : Value → Shared → Prop),
    Below callerA base [] h₀ → Fr h₀ L s.heap m → (hd.heap_1 w.params).In h₀ → News h₀ L s.heap (LCl L c ++ (([(70, tb)] ++ ([(dk, accObj dxk Y nk)] ++ (a0.mut w ln0 tl0 [] n10 p0 tp0 n20 ++ a1.mut w ln1 tl1 [] n11 p1 tp1 n21))) ++ R)) → DJ (LCl L c ++ (([(70, tb)] ++ ([(dk, accObj dxk Y nk)] ++ (a0.mut w ln0 tl0 [] n10 p0 tp0 n20 ++ a1.mut w ln1 tl1 [] n11 p1 tp1 n21))) ++ R)) → Tp mean mg mb h₀ →
    AllBare s.gens → m (Str.ofString "deck") = some (.ref dk) → m (Str.ofString "lexers") = some (.ref ll) → m (Str.ofString "cards") = some (.ref lc) → m (Str.ofString "drawn") = some (.ref ld) → c.si.data = .cell (some (.int (2 * half : Nat) t1)) → c.kn.data = .cell vK →
    (∀ q ∈ a0.imm w, q ∈ R) → (a0.cr, ocr0) ∈ R → (∀ q ∈ a1.imm w, q ∈ R) → (a1.cr, ocr1) ∈ R → (∃ tk, (dxk, accD w tk) ∈ R) → (ll, W.listOf [.ref a0.ix, .ref a1.ix].toArray nl') ∈ R → (lc, W.listOf (strVals css).toArray nc) ∈ R → (ld, W.listOf dvs.toArray nd) ∈ R → Cards R Y (deck0 css) →
    (∀ (h' : Heap) (tk' : Nat) (gs' : Array GenState) (o tb' : Obj) (lk : Addr) (kvs Y' : List Value) (nkv nk' : Nat) (ln0' ln1' : Int) (tl0' tl1' tp0' tp1' : Tok) (n10' n20' n11' n21' p0' p1' : Nat) (X : Led), AllBare gs' → TabOk tb' → o.data = .cell (some (.ref lk)) → (lk, W.listOf kvs.toArray nkv) ∈ X → NatsAre kvs (stepsP half dks (List.range (2 * half))) → Cards X Y' (orderP (css.map (·.1)) (stepsP half dks (List.range (2 * half)))) → remOf a0.x p0' = z0 → remOf a1.x p1' = z1 → ln0' + nl z0 = ln0 + nl (remOf a0.x p0) → ln1' + nl z1 = ln1 + nl (remOf a1.x p1) →
      Fr h₀ L h' m → News h₀ L h' (LCl L { c with kn := o } ++ (([(70, tb')] ++ ([(dk, accObj dxk Y' nk')] ++ (a0.mut w ln0' tl0' [] n10' p0' tp0' n20' ++ a1.mut w ln1' tl1' [] n11' p1' tp1' n21'))) ++ (X ++ R))) → DJ (LCl L { c with kn := o } ++ (([(70, tb')] ++ ([(dk, accObj dxk Y' nk')] ++ (a0.mut w ln0' tl0' [] n10' p0' tp0' n20' ++ a1.mut w ln1' tl1' [] n11' p1' tp1' n21'))) ++ (X ++ R))) →
      Q .next { s with heap := h', toks := tk', gens := gs' }) →
    wpAny (model PySem.Challenge.pw_xj0013_01 w) (callerA.deeper (lawEnv w L)) (execs [lawStmt w.params 12, lawStmt w.params 13] (lawEnv w L)) Q E s := by
  k_fill; intro _ _ base h₀ L m R c s Q E hB hF hX hN hD hT hG hmd hml hmc hmw d1 d2 him0 hcm0 him1 hcm1 hdx hll hlc hld hY hret
  have eS12 : lawStmt w.params 12 = lawStmt w.params 12 := rfl
  conv at eS12 => rhs; whnf
  have eS13 : lawStmt w.params 13 = lawStmt w.params 13 := rfl
  conv at eS13 => rhs; whnf
  have e2 : fnScope w.params 225 = fnScope w.params 225 := rfl
  conv at e2 => rhs; whnf
  unfold lawEnv at *
  rw [eS12, eS13, e2]
  clear eS12 eS13 e2
  have msi : (L + 1 + 1 + 1, c.si) ∈ LCl L c ++ (([(70, tb)] ++ ([(dk, accObj dxk Y nk)] ++ (a0.mut w ln0 tl0 [] n10 p0 tp0 n20 ++ a1.mut w ln1 tl1 [] n11 p1 tp1 n21))) ++ R) := .tail _ (.tail _ (.tail _ (.tail _ (.tail _ (.tail _ (.head _))))))
  generalize hW0 : LCl L c ++ (([(70, tb)] ++ ([(dk, accObj dxk Y nk)] ++ (a0.mut w ln0 tl0 [] n10 p0 tp0 n20 ++ a1.mut w ln1 tl1 [] n11 p1 tp1 n21))) ++ R) = W0 at hN msi
  repeat (walk1; try dsimp only)
  unfold Hold
  rename_i pl vps npl hh1 tkp F1 N1 l1 hI1
  have hps : NatsAre vps (List.range (2 * half)) := by
    have e : rangeKs 0 (((2 * half : Nat) : Int) - 0).toNat = (List.range (2 * half)).map fun (p : Nat) => (p : Int) := by
      rw [show (((2 * half : Nat) : Int) - 0).toNat = 2 * half by (exact om269)]
      exact rangeKs_nats _
    rw [e] at hI1
    exact hI1
  have D1 : DJ ((pl, W.listOf vps.toArray npl) :: W0) := DJ.new l1 (hW0 ▸ hD)
  subst hW0
  have hY' := hY
  rw [deck0_order, hcl] at hY'
  have mR : ∀ {q : Addr × Obj}, q ∈ R → q ∈ ((pl, W.listOf vps.toArray npl) :: LCl L c) ++ ([] ++ R) := fun h => List.mem_append_right _ h
  obtain ⟨tkd, hdx⟩ := hdx
  refine claimG_frame (run_w a0 a1 ok0 ok1 ocr0 ocr1 hcr0 hcr1 hz0 hz1 hy0 hy1 ln0 ln1 tl0 tl1 tp0 tp1 n10 n20 n11 n21 p0 p1 dk dxk ll lc pl ld nk nl' nc npl nd css vps Y dvs (List.range (2 * half)) dks half tb hhalf hcl hps (PermP.start half) hdv hd8 hd0 hd9 hbd hok htb z0 z1 hz0' hz1' rfl rfl) ?hp ((pl, W.listOf vps.toArray npl) :: LCl L c) [] R (1 + claimMargin + 1) 7 (some []) _ _ _ _ _ _ callerA base h₀ _ _ _ _ _ hB F1 hX N1 D1 ?hR hT rfl hG (law_room (by decide)) (law_units (by decide)) ?_
  case hp =>
    rintro v post extra ⟨lp', vs', Y', np', nk', tb', ln0', ln1', tl0', tl1', tp0', tp1', n10', n20', n11', n21', p0', p1', -, rfl, -, hDX, -⟩
    exact ⟨rfl, hDX⟩
  case hR =>
    exact ⟨D1.perm (perm3 ((pl, W.listOf vps.toArray npl) :: LCl L c) _ [] R), fun q hq => mR (him0 q hq), mR hcm0, fun q hq => mR (him1 q hq), mR hcm1, ⟨tkd, mR hdx⟩, mR hll, mR hlc, .head _, mR hld, hY'.mono fun p hp => mR hp⟩
  rintro v post X h2 tk2 gs2 - hG2 F2 N2 D2 ⟨lk, kvs, Y', nkv, nk', tb', ln0', ln1', tl0', tl1', tp0', tp1', n10', n20', n11', n21', p0', p1', rfl, rfl, htb', hDX, hlk, hkv, hcY', hq0, hq1, hK0, hK1⟩
  clear N1 F1 D1
  replace N2 : News h₀ L h2 (LCl L c ++ (([(70, tb')] ++ ([(dk, accObj dxk Y' nk')] ++ (a0.mut w ln0' tl0' [] n10' p0' tp0' n20' ++ a1.mut w ln1' tl1' [] n11' p1' tp1' n21'))) ++ (X ++ R))) := cb_drop N2 fun p hp => .tail _ hp
  replace D2 : DJ (LCl L c ++ (([(70, tb')] ++ ([(dk, accObj dxk Y' nk')] ++ (a0.mut w ln0' tl0' [] n10' p0' tp0' n20' ++ a1.mut w ln1' tl1' [] n11' p1' tp1' n21'))) ++ (X ++ R))) := DJ.right (a := [_]) D2
  repeat ((fail_if_success (with_reducible show wpAny _ _ (storeName _ _ _) _ _ _)); walk1; try dsimp only)
  k_dflt (refine storeX_D (pre := [_, _, _]) (by assumption) N2 D2 rfl d2 ?_)
  intro h3 o3 F3 N3 D3 d3
  replace N3 : News h₀ L h3 (LCl L { c with kn := o3 } ++ (([(70, tb')] ++ ([(dk, accObj dxk Y' nk')] ++ (a0.mut w ln0' tl0' [] n10' p0' tp0' n20' ++ a1.mut w ln1' tl1' [] n11' p1' tp1' n21'))) ++ (X ++ R))) := N3
  replace D3 : DJ (LCl L { c with kn := o3 } ++ (([(70, tb')] ++ ([(dk, accObj dxk Y' nk')] ++ (a0.mut w ln0' tl0' [] n10' p0' tp0' n20' ++ a1.mut w ln1' tl1' [] n11' p1' tp1' n21'))) ++ (X ++ R))) := D3
  have mkn : (L + 1 + 1 + 1 + 1 + 1 + 1, o3) ∈ LCl L { c with kn := o3 } ++ (([(70, tb')] ++ ([(dk, accObj dxk Y' nk')] ++ (a0.mut w ln0' tl0' [] n10' p0' tp0' n20' ++ a1.mut w ln1' tl1' [] n11' p1' tp1' n21'))) ++ (X ++ R)) := .tail _ (.tail _ (.tail _ (.head _)))
  generalize hW3 : LCl L { c with kn := o3 } ++ (([(70, tb')] ++ ([(dk, accObj dxk Y' nk')] ++ (a0.mut w ln0' tl0' [] n10' p0' tp0' n20' ++ a1.mut w ln1' tl1' [] n11' p1' tp1' n21'))) ++ (X ++ R)) = W3 at N3 D3 mkn
  repeat (walk1; try dsimp only)
  rename_i le he FE NE lE
  have hkn0 : stepsP half dks (List.range (2 * half)) ≠ [] := by
    have h := (PermP.steps hhalf hd8 (PermP.start half)).len
    intro e
    rw [e, List.length_nil] at h
    (exact om268 hhalf h)
  obtain ⟨as1, r1⟩ := nats_reads (NE _ (.tail _ (by rw [← hW3]; exact List.mem_append_right _ (List.mem_append_right _ (List.mem_append_left _ hlk))))).1 hkv
  obtain ⟨as2, r2⟩ := nats_reads (vs := []) (ps := []) (NE _ (.head _)).1 .nil
  refine SeqAt.compareEq_reads r1 r2 (natsD_can _) (natsD_can _) ?hu ?_
  case hu =>
    rw [natsD_depth, natsD_depth]
    exact (show 7 + min 1 1 < cLine by decide)
  have hne : PyData.eqv (natsD (stepsP half dks (List.range (2 * half)))) (natsD []) = false := by
    cases hc : stepsP half dks (List.range (2 * half)) with
    | nil => exact absurd hc hkn0
    | cons x xs => rfl
  rw [hne]
  repeat (walk1; try dsimp only)
  (rename Fr _ _ _ _ => FZ); (rename News _ _ _ _ => NZ)
  subst hW3
  (try dsimp only)
  repeat (walk1; try dsimp only)
  exact hret _ _ gs2 o3 tb' lk kvs Y' nkv nk' ln0' ln1' tl0' tl1' tp0' tp1' n10' n20' n11' n21' p0' p1' X hG2 htb' d3 hlk hkv hcY' hq0 hq1 hK0 hK1 FZ (cb_drop NZ fun p hp => .tail _ hp) D3
end

section
open PySem PySem.W PyProof.Rows PySem.Calls PySem.Spec Builtin Builtin.ObjectAttr Builtin.Str
set_option maxHeartbeats 3000000
variable {w : World} {mean : ExcName → Option Value} {mg mb : Str → Option Value}
theorem law8 (dk dxk cr cs2 : Addr) (nk : Nat) (tdk : Tok) (Y : List Value) (cds : List (Str × Str)) (tb : Obj) (vR : Option Value) (htb : TabOk tb) (hcl : cds.length < 10) (hbd : ∀ c ∈ cds, c.1.length ≤ 1000 ∧ c.2.length ≤ 1000) : PySem.Challenge.rw_xj0013_01 = PySem.Challenge.rw_xj0013_01 → hd.heap_1 = hd.heap_1 →
  ∀ (base h₀ : Heap) (L : Addr) (m : Str → Option Value) (R : Led) (c : Cs) (s : Shared) (Q : Flow → Shared → Prop) (E : Value → Shared → Prop),
    Below callerA base [] h₀ → Fr h₀ L s.heap m → (hd.heap_1 w.params).In h₀ → News h₀ L s.heap (LCl L c ++ ((70, tb) :: (184, lexTab cr cs2) :: R)) → DJ (LCl L c ++ ((70, tb) :: (184, lexTab cr cs2) :: R)) → Tp mean mg mb h₀ →
    AllBare s.gens → m (Str.ofString "deck") = some (.ref dk) → (dk, accObj dxk Y nk) ∈ R → (dxk, accD w tdk) ∈ R → Cards R Y cds → c.re.data = .cell vR →
    (∀ (h' : Heap) (tk' : Nat) (gs' : Array GenState) (o tb' : Obj) (rd : Lx) (tl tp : Tok), AllBare gs' → TabOk tb' → rd.Ok → rd.x = Txt.join mt (catOf cds) → rd.cr = cr → o.data = .cell (some (.ref rd.ix)) →
      Fr h₀ L h' m → News h₀ L h' (LCl L { c with re := o } ++ ((70, tb') :: (184, lexTab cr cs2) :: ((rd.mut w 1 tl [] 0 0 tp 0 ++ rd.imm w) ++ R))) → DJ (LCl L { c with re := o } ++ ((70, tb') :: (184, lexTab cr cs2) :: ((rd.mut w 1 tl [] 0 0 tp 0 ++ rd.imm w) ++ R))) →
      Q .next { s with heap := h', toks := tk', gens := gs' }) →
    wpAny (model PySem.Challenge.pw_xj0013_01 w) (callerA.deeper (lawEnv w L)) (execs [lawStmt w.params 14] (lawEnv w L)) Q E s := by
  k_fill; intro _ _ base h₀ L m R c s Q E hB hF hX hN hD hT hG hmd mdk mdx hcY d1 hret
  have eS14 : lawStmt w.params 14 = lawStmt w.params 14 := rfl
  conv at eS14 => rhs; whnf
  have e2 : fnScope w.params 225 = fnScope w.params 225 := rfl
  conv at e2 => rhs; whnf
  unfold lawEnv at *
  rw [eS14, e2]
  clear eS14 e2
  repeat ((fail_if_success (with_reducible show wpAny _ _ (PySem.call (Value.type "str") _) _ _ _)); walk1; try dsimp only)
  (rename Fr _ _ _ _ => F1)
  have mR : ∀ {q : Addr × Obj}, q ∈ R → q ∈ LCl L c ++ ((70, tb) :: (184, lexTab cr cs2) :: R) := fun h => List.mem_append_right _ (.tail _ (.tail _ h))
  refine kso_call (K := hd.heap_1 w.params) (C := 101) (f := 75) (ox := accObj dxk Y nk) (od := some (accD w tdk)) ?hu2 (hX.keeps F1.keep) ⟨(hN _ (mR mdk)).1, rfl, rfl, (hN _ (mR mdx)).1⟩ (by kernel_rfl) (by kernel_rfl) ?_
  case hu2 => exact (show 9 < cLine by decide)
  refine claimG_frame (str_w dk dxk Y nk cds tb htb hbd (by (exact om220 hcl)) rfl rfl) (fun v post extra h => by obtain ⟨_, _, -, rfl, -, rfl⟩ := h; exact ⟨rfl, DJ.nil⟩) (LCl L c) [] ((184, lexTab cr cs2) :: R) (1 + claimMargin + 1) 9 (some []) _ _ _ _ _ _ callerA base h₀ _ _ _ _ _ hB F1 hX hN hD ⟨List.mem_append_right _ (.tail _ mdk), hcY.mono fun p hp => List.mem_append_right _ (.tail _ hp)⟩ hT rfl hG (law_room (by decide)) (show 9 + (0 + 2) * 12 < cLine by decide) ?_
  rintro v2 post extra h4 tk4 gs4 - hG4 F4 N4 D4 ⟨tz, tb', rfl, rfl, htb', rfl⟩
  dsimp only [StrBack]
  repeat (walk1; try dsimp only)
  unfold Hold
  (rename Fr _ _ _ _ => F5); (rename News _ _ _ _ => N5)
  refine claim_frame (lexer2_w (Txt.join mt (catOf cds)) tz cr cs2 rfl rfl) (fun v post extra h => ?_) (LCl L c ++ [(70, tb')]) [] R (1 + claimMargin + 1) 7 (some []) _ _ _ _ _ _ callerA base h₀ _ _ _ _ _ hB F5 hX N5 D4 trivial hT rfl (law_room (by decide)) (law_units (by decide)) ?_
  · obtain ⟨a, tl, tp, -, ok, -, -, rfl, rfl⟩ := h
    exact ⟨rfl, lx_dj1 ok⟩
  rintro v6 post6 extra6 h6 tk6 - F6 N6 D6 ⟨rd, tl, tp, rfl, okr, hxr, hcrr, rfl, rfl⟩
  replace N6 : News h₀ L h6 (LCl L c ++ ((70, tb') :: (184, lexTab cr cs2) :: ((rd.mut w 1 tl [] 0 0 tp 0 ++ rd.imm w) ++ R))) := N6
  replace D6 : DJ (LCl L c ++ ((70, tb') :: (184, lexTab cr cs2) :: ((rd.mut w 1 tl [] 0 0 tp 0 ++ rd.imm w) ++ R))) := D6
  repeat ((fail_if_success (with_reducible show wpAny _ _ (storeName _ _ _) _ _ _)); walk1; try dsimp only)
  k_dflt (refine storeX_D (pre := [_, _]) (by assumption) N6 D6 rfl d1 ?_)
  intro h7 o7 F7 N7 D7 d7
  replace N7 : News h₀ L h7 (LCl L { c with re := o7 } ++ ((70, tb') :: (184, lexTab cr cs2) :: ((rd.mut w 1 tl [] 0 0 tp 0 ++ rd.imm w) ++ R))) := N7
  replace D7 : DJ (LCl L { c with re := o7 } ++ ((70, tb') :: (184, lexTab cr cs2) :: ((rd.mut w 1 tl [] 0 0 tp 0 ++ rd.imm w) ++ R))) := D7
  repeat (walk1; try dsimp only)
  (try dsimp only)
  repeat (walk1; try dsimp only)
  exact hret _ _ gs4 o7 tb' rd tl tp hG4 htb' okr hxr hcrr d7 F7 N7 D7
end

section
open PySem PySem.W PyProof.Rows PySem.Calls PySem.Spec Builtin Builtin.ObjectAttr Builtin.Str
set_option maxHeartbeats 3000000
variable {w : World} {mean : ExcName → Option Value} {mg mb : Str → Option Value}
local macro_rules | `(tactic| walk_at "eval ListComp") => `(tactic| (k_here; k_dflt (refine ListComp_T (_F₀ := by k_asm) (by with_unfolding_all rfl) (by decide) (by rfl) (by decide) (by rfl) (toks_cut ?_))))
noncomputable def wordsS (ws : List (List Nat)) : List Str := ws.map fun l => ⟨l.toArray⟩
theorem pw1 {α : Type} (A M R : List α) : (A ++ (M ++ R)).Perm (M ++ (A ++ R)) := by
  classical
  rw [List.perm_iff_count]; intro a; simp only [List.count_append]; (exact om274)
theorem pw2 {α : Type} (D M A R : List α) : (D ++ (M ++ (A ++ R))).Perm (A ++ (M ++ (D ++ R))) := by
  classical
  rw [List.perm_iff_count]; intro a; simp only [List.count_append]; (exact om273)
noncomputable def WordJ (w : World) (rd : Lx) (B : Led) (ws : List (List Nat)) (T0 : Nat) (i : Nat) (ys : List Value) (news : Led) (tk : Nat) : Prop :=
  ∃ (ln : Int) (tl tp : Tok) (p n2 : Nat) (wss : List (Str × Tok)), news = rd.mut w ln tl [] 0 p tp n2 ++ B ∧ DJ news ∧ ys = strVals wss ∧ wss.map (·.1) = (wordsS ws).take i ∧ (∀ p ∈ wss, T0 ≤ p.2) ∧ T0 ≤ tk ∧ Toks (remOf rd.x p) (ws.drop i)
theorem law9 (rd : Lx) (ok : rd.Ok) (ocr : Obj) (hcr : CodeOk ocr) (hz : rd.x.length < 2000) (hz2 : 2 ≤ rd.x.length) (la : Addr) (nss : List (Str × Tok)) (nl : Nat) (tl tp : Tok) (ws : List (List Nat)) (vW : Option Value) (hwl : ws.length = nss.length) (hnl : nss.length < 10) (hws : Toks (remOf rd.x 0) ws) : PySem.Challenge.rw_xj0013_01 = PySem.Challenge.rw_xj0013_01 → hd.heap_1 = hd.heap_1 →
  ∀ (base h₀ : Heap) (L : Addr) (m : Str → Option Value) (R : Led) (c : Cs) (s : Shared) (Q : Flow → Shared → Prop) (E : Value → Shared → Prop),
    Below callerA base [] h₀ → Fr h₀ L s.heap m → (hd.heap_1 w.params).In h₀ → News h₀ L s.heap (LCl L c ++ (rd.mut w 1 tl [] 0 0 tp 0 ++ R)) → DJ (LCl L c ++ (rd.mut w 1 tl [] 0 0 tp 0 ++ R)) → Tp mean mg mb h₀ →
    (∀ q ∈ rd.imm w, q ∈ R) → (rd.cr, ocr) ∈ R → (la, W.listOf (strVals nss).toArray nl) ∈ R → c.re.data = .cell (some (.ref rd.ix)) → c.na.data = .cell (some (.ref la)) → c.wo.data = .cell vW →
    (∀ (h' : Heap) (tk' : Nat) (o : Obj) (lw : Addr) (wss : List (Str × Tok)) (nw : Nat) (ln : Int) (tl tp : Tok) (p n2 : Nat), o.data = .cell (some (.ref lw)) → wss.map (·.1) = wordsS ws → (∀ p ∈ wss, s.toks ≤ p.2) → Toks (remOf rd.x p) [] →
      Fr h₀ L h' m → News h₀ L h' (LCl L { c with wo := o } ++ (rd.mut w ln tl [] 0 p tp n2 ++ ((lw, W.listOf (strVals wss).toArray nw) :: R))) → DJ (LCl L { c with wo := o } ++ (rd.mut w ln tl [] 0 p tp n2 ++ ((lw, W.listOf (strVals wss).toArray nw) :: R))) →
      Q .next { s with heap := h', toks := tk' }) →
    wpAny (model PySem.Challenge.pw_xj0013_01 w) (callerA.deeper (lawEnv w L)) (execs [lawStmt w.params 15] (lawEnv w L)) Q E s := by
  k_fill; intro _ _ base h₀ L m R c s Q E hB hF hX hN hD hT him hcm hla d1 d2 d3 hret
  have eS15 : lawStmt w.params 15 = lawStmt w.params 15 := rfl
  conv at eS15 => rhs; whnf
  have e2 : fnScope w.params 225 = fnScope w.params 225 := rfl
  conv at e2 => rhs; whnf
  unfold lawEnv at *
  rw [eS15, e2]
  clear eS15 e2
  have PA : List.Perm _ (rd.mut w 1 tl [] 0 0 tp 0 ++ (LCl L c ++ R)) := pw1 (LCl L c) (rd.mut w 1 tl [] 0 0 tp 0) R
  have hN1 := cb_drop hN fun p hp => PA.mem_iff.mpr hp
  have hD1 := hD.perm PA
  clear hN
  have mre : (L + 1 + 1 + 1 + 1 + 1 + 1 + 1, c.re) ∈ LCl L c ++ R := .tail _ (.tail _ (.head _))
  have mna : (L + 1 + 1 + 1 + 1 + 1, c.na) ∈ LCl L c ++ R := .tail _ (.tail _ (.tail _ (.tail _ (.head _))))
  have hlaB : (la, W.listOf (strVals nss).toArray nl) ∈ LCl L c ++ R := List.mem_append_right _ hla
  have himB : ∀ q ∈ rd.imm w, q ∈ LCl L c ++ R := fun q hq => List.mem_append_right _ (him q hq)
  have hcmB : (rd.cr, ocr) ∈ LCl L c ++ R := List.mem_append_right _ hcm
  have hixB := himB _ (.head _)
  generalize hBB : LCl L c ++ R = B at hN1 hD1 mre mna hlaB himB hcmB hixB
  have mna1 : (L + 1 + 1 + 1 + 1 + 1, c.na) ∈ rd.mut w 1 tl [] 0 0 tp 0 ++ B := List.mem_append_right _ mna
  repeat (walk1; try dsimp only)
  (rename Fr _ _ _ _ => F2); (rename News _ _ _ _ => N2); rename_i hle2
  have hsl : (strVals nss).toArray.size = nss.length := by simp [strVals]
  refine ⟨la, nss.length, _, _, fun l => (la, W.listOf (strVals nss).toArray nl) ∈ l, WordJ w rd B ws s.toks, rfl, by rw [sizeLine_eq]; (exact om218 hnl), rfl, F2, N2, List.mem_append_right _ hlaB, ⟨1, tl, tp, 0, 0, [], rfl, hD1, rfl, rfl, (fun p hp => nomatch hp), hle2, hws⟩, .inl ⟨_, nl, List.mem_append_right _ hlaB, hsl, fun l h => h, rfl⟩, fun g => ?step2, ?fin2⟩
  case step2 =>
    rintro i ys news v I oI C oC' D' m₂ h' tk₀ tk' E' hi ⟨ln, tl', tp', p, n2, wss, rfl, hDn, rfl, hwm, hwt, hT0, hTk⟩ hlt hPv hNs hx F' N' off ne -
    have mre2 : (L + 1 + 1 + 1 + 1 + 1 + 1 + 1, c.re) ∈ (I, oI) :: (C, oC') :: (D', LCg.lst (strVals wss)) :: (rd.mut w ln tl' [] 0 p tp' n2 ++ B) := .tail _ (.tail _ (.tail _ (List.mem_append_right _ mre)))
    have D1 := DJ.comp (oi := oI) (oc := oC') (od := LCg.lst (strVals wss)) ne (fun p hp => LCg.Off3.mem off p hp) hDn
    obtain ⟨wd, hwd⟩ : ∃ wd, ws[i]? = some wd := ⟨_, List.getElem?_eq_getElem (by (exact om272 hwl hi))⟩
    have hdr : ws.drop i = wd :: ws.drop (i + 1) := by
      have hil := (List.getElem?_eq_some_iff.mp hwd).1
      rw [List.drop_eq_getElem_cons hil]
      congr 1
      exact (List.getElem?_eq_some_iff.mp hwd).2
    rw [hdr] at hTk
    obtain ⟨hk1, hk2⟩ : (tokS (remOf rd.x p)).1 = wd ∧ Toks (tokS (remOf rd.x p)).2 (ws.drop (i + 1)) := hTk
    repeat (walk1; try dsimp only)
    unfold Hold
    refine claimT_frame (get_token_t0 rd ok ocr hcr hz hz2 ln tl' 0 p tp' n2 rfl rfl) (fun T v post extra h => get_token_post rd h) [(I, oI), (C, oC'), (D', LCg.lst (strVals wss))] [] B (1 + claimMargin + 1) 7 (some []) _ _ _ _ _ _ callerA base h₀ _ _ _ _ _ hB F' hX N' D1 ⟨fun q hq => .tail _ (.tail _ (.tail _ (himB q hq))), .tail _ (.tail _ (.tail _ hcmB))⟩ hT rfl (law_room (by decide)) (law_units (by decide)) ?_
    rintro v6 post6 extra6 h6 tk6 hle6 F6 N6 D6 ⟨t0, tl2, p2, tp2, n22, ht0, rfl, hp2, rfl, rfl⟩
    dsimp only at hle6 ht0
    rw [hk1]
    have D7 := DJ.right (a := [_, _, _]) D6
    have o1 := DJ.off (a := [_]) D6 _ (.head _)
    have o2 := DJ.off (a := [_]) (DJ.right (a := [_]) D6) _ (.head _)
    have o3 := DJ.off (a := [_]) (DJ.right (a := [_, _]) D6) _ (.head _)
    have hT0' : s.toks ≤ t0 := Nat.le_trans (Nat.le_trans hT0 hlt) ht0
    refine ⟨h6, tk6, rd.mut w (ln + Mine.nl (remOf rd.x p) - Mine.nl (remOf rd.x p2)) tl2 [] 0 p2 tp2 n22 ++ B, rfl, F6, N6, LCg.Off3.of fun p hp => ⟨o1 p (.tail _ (.tail _ hp)), o2 p (.tail _ hp), o3 p hp⟩, List.mem_append_right _ hlaB, _, tl2, tp2, p2, n22, wss ++ [(⟨wd.toArray⟩, t0)], rfl, D7, strVals_snoc wss _ _, ?_, ?_, Nat.le_trans (Nat.le_trans hT0 hlt) hle6, ?_⟩
    · rw [List.take_add_one, List.map_append, hwm]
      have hst : (wordsS ws)[i]? = some ⟨wd.toArray⟩ := by unfold wordsS; rw [List.getElem?_map, hwd]; rfl
      rw [hst]
      rfl
    · intro q hq
      rcases List.mem_append.mp hq with hq | hq
      · exact hwt q hq
      · rw [List.mem_singleton.mp hq]
        exact hT0'
    · rw [hp2]; exact hk2
  case fin2 =>
    rintro D h tk₀ tk ys news' hle ⟨ln, tl', tp', p, n2, wss, rfl, hDn, rfl, hwm, hwt, hT0, hTk⟩ F N o1
    rw [List.take_of_length_le (by unfold wordsS; rw [List.length_map]; (exact om271 hwl))] at hwm
    rw [List.drop_of_length_le (by (exact om271 hwl))] at hTk
    have D1 := DJ.cons (p := (D, LCg.lst (strVals wss))) (off1_mem o1) hDn
    subst hBB
    have PB : List.Perm ((D, W.listOf (strVals wss).toArray (strVals wss).length) :: (rd.mut w ln tl' [] 0 p tp' n2 ++ (LCl L c ++ R))) (LCl L c ++ (rd.mut w ln tl' [] 0 p tp' n2 ++ ((D, W.listOf (strVals wss).toArray (strVals wss).length) :: R))) := pw2 [(D, W.listOf (strVals wss).toArray (strVals wss).length)] (rd.mut w ln tl' [] 0 p tp' n2) (LCl L c) R
    have N1 := cb_drop N fun p hp => PB.mem_iff.mpr hp
    have D2 := D1.perm PB
    clear F2 N2 N D1
    repeat ((fail_if_success (with_reducible show wpAny _ _ (storeName _ _ _) _ _ _)); walk1; try dsimp only)
    k_dflt (refine storeX_D (pre := [_]) F N1 D2 rfl d3 ?_)
    intro h9 o9 F9 N9 D9 d9
    repeat (walk1; try dsimp only)
    (try dsimp only)
    repeat (walk1; try dsimp only)
    exact hret _ _ o9 D wss _ ln tl' tp' p n2 d9 hwm hwt hTk F9 N9 D9
end

section
open PySem PySem.W PyProof.Rows PySem.Calls PySem.Spec Builtin Builtin.ObjectAttr Builtin.Str
set_option maxHeartbeats 3000000
variable {w : World} {mean : ExcName → Option Value} {mg mb : Str → Option Value}
local macro_rules | `(tactic| walk_at "CompSrcT") => `(tactic| (k_here; refine Hold.of ?_))
local macro_rules | `(tactic| walk_at "exec Assign cons ListComp") => `(tactic| (k_here; k_dflt (refine LCt.Assign_ListComp_T (F₀ := by k_asm) (by rfl) (by with_unfolding_all rfl) (by with_unfolding_all rfl) (by decide) (by rfl) (by decide) (by rfl) (by rfl) (by rfl) ?_)))
local macro_rules | `(tactic| walk_at "compareOp In str ref") => `(tactic| (k_here; refine Hold.of ?_))
section
variable {prog : Program} {A : Around} {s : Shared} {h₀ : Heap} {L : Addr} {m : Str → Option Value} {env : Env}
theorem CompRestT_ind {ct elt : Expr} {x : Str} {scope : Scope} {cl : List (Str × Addr)} {S : Led → Prop} {P : Nat → Value → Prop} {Fin : List Value → Led → Prop} {n : Nat} (J : Nat → List Value → Led → Prop)
    (step : ∀ i ys news v I oI C oC D m₂ h tk (E' : Value → Shared → Prop), i < n → J i ys news → P i v → LCg.NsObj oC m₂ → m₂ x = some v → Fr h₀ L h m → News h₀ L h ((I, oI) :: (C, oC) :: (D, LCg.lst ys) :: news) → LCg.Off3 I C D news → ((@Ne Nat I C) ∧ (@Ne Nat I D) ∧ (@Ne Nat C D)) →
      wpAny (model prog w) A (isTrue ct (compEnvC scope cl C env) (eval ct (compEnvC scope cl C env))) (fun ok s' => ok = true ∧ wpAny (model prog w) A (eval elt (compEnvC scope cl C env)) (LCg.CompEnd h₀ L m { s with heap := h, toks := tk } I oI C oC D (LCg.lst ys) S (fun y news' => J (i + 1) (ys ++ [y]) news')) E' s') E' { s with heap := h, toks := tk })
    (fin : ∀ ys news, J n ys news → Fin ys news) : ∀ k i ys news, i + k = n → J i ys news → LCt.CompRestT prog w A h₀ L m env ct elt x scope cl s S P Fin k i ys news := by
  intro k
  induction k with
  | zero => exact fun i ys news (e : i = n) hJ => fin ys news (e ▸ hJ)
  | succ k ih =>
    exact fun i ys news e hJ => LCt.CompRestT.succ fun v I oI C oC D m₂ h tk E' hP hC hx F N off ne => by
      refine wpAny_mono (step i ys news v I oI C oC D m₂ h tk E' (om201 e) hJ hP hC hx F N off ne) (fun ok s' hok => ?_) fun _ _ e => e
      rw [if_pos hok.1]
      exact wpAny_mono hok.2 (fun y _ hy => CompEnd_mono hy fun n' => ih (i + 1) (ys ++ [y]) n' (om200 e)) fun _ _ e => e
end
theorem strVals_are : ∀ ss : List (Str × Tok), PyProof.Rows.StrsAre (strVals ss) (ss.map (·.1))
  | [] => .nil
  | p :: ss => .cons p.1 p.2 (strVals_are ss)
theorem law10 (la lw : Addr) (nss wss : List (Str × Tok)) (nl nw T : Nat) (qs : List Nat) (hnl : nss.length < 10) (hwl : wss.length < 10) (hql : qs.length = nss.length) (hnt : ∀ p ∈ nss, p.2 ≠ 0 ∧ p.2 < T) (hwt : ∀ p ∈ wss, T ≤ p.2)
    (hq : ∀ (i q : Nat) (p : Str × Tok), nss[i]? = some p → qs[i]? = some q → (∃ t, wss[q]? = some (p.1, t)) ∧ ∀ (j : Nat) (r : Str × Tok), j < q → wss[j]? = some r → r.1 ≠ p.1) : PySem.Challenge.rw_xj0013_01 = PySem.Challenge.rw_xj0013_01 → hd.heap_1 = hd.heap_1 →
  ∀ (base h₀ : Heap) (L : Addr) (m : Str → Option Value) (R : Led) (c : Cs) (s : Shared) (Q : Flow → Shared → Prop) (E : Value → Shared → Prop),
    Below callerA base [] h₀ → Fr h₀ L s.heap m → (hd.heap_1 w.params).In h₀ → News h₀ L s.heap (LCl L c ++ R) → DJ (LCl L c ++ R) → Tp mean mg mb h₀ →
    (la, W.listOf (strVals nss).toArray nl) ∈ R → (lw, W.listOf (strVals wss).toArray nw) ∈ R → c.na.data = .cell (some (.ref la)) → c.wo.data = .cell (some (.ref lw)) →
    (∀ (h' : Heap) (tk' : Nat) (ls : Addr) (vs : List Value) (ns : Nat), NatsAre vs qs → Fr h₀ L h' (fun y => if y = Str.ofString "seen" then some (.ref ls) else m y) → News h₀ L h' ((ls, W.listOf vs.toArray ns) :: (LCl L c ++ R)) → DJ ((ls, W.listOf vs.toArray ns) :: (LCl L c ++ R)) →
      Q .next { s with heap := h', toks := tk' }) →
    wpAny (model PySem.Challenge.pw_xj0013_01 w) (callerA.deeper (lawEnv w L)) (execs [lawStmt w.params 16] (lawEnv w L)) Q E s := by
  k_fill; intro _ _ base h₀ L m R c s Q E hB hF hX hN hD hT hla hlw d1 d2 hret
  have eS16 : lawStmt w.params 16 = lawStmt w.params 16 := rfl
  conv at eS16 => rhs; whnf
  have e2 : fnScope w.params 225 = fnScope w.params 225 := rfl
  conv at e2 => rhs; whnf
  unfold lawEnv at *
  rw [eS16, e2]
  clear eS16 e2
  have mna : (L + 1 + 1 + 1 + 1 + 1, c.na) ∈ LCl L c ++ R := .tail _ (.tail _ (.tail _ (.tail _ (.head _))))
  have mwo : (L + 1 + 1 + 1 + 1 + 1 + 1 + 1 + 1, c.wo) ∈ LCl L c ++ R := .tail _ (.head _)
  generalize hW0 : LCl L c ++ R = W0 at *
  have hlaW : (la, W.listOf (strVals nss).toArray nl) ∈ W0 := by rw [← hW0]; exact List.mem_append_right _ hla
  have hlwW : (lw, W.listOf (strVals wss).toArray nw) ∈ W0 := by rw [← hW0]; exact List.mem_append_right _ hlw
  repeat (walk1; try dsimp only)
  unfold Hold
  (rename Fr _ _ _ _ => F2); (rename News _ _ _ _ => N2)
  have hsl : (strVals nss).toArray.size = nss.length := by simp [strVals]
  refine LCt.CompSrcT.ledger rfl F2 N2 hlaW (by rw [hsl, sizeLine_eq]; (exact om218 hnl)) ?_
  intro g2
  rw [hsl]
  refine CompRestT_ind (n := nss.length) (fun i ys news => news = W0 ∧ NatsAre ys (qs.take i)) ?step2 ?fin2 _ 0 [] _ (Nat.zero_add _) ⟨rfl, .nil⟩
  case step2 =>
    rintro i ys news v I oI C oC' D' m₂ h' tk' E' hi ⟨rfl, hys⟩ hPv hNs hx F' N' off -
    obtain ⟨⟨px, pt⟩, hp⟩ : ∃ p, nss[i]? = some p := ⟨_, List.getElem?_eq_getElem hi⟩
    obtain ⟨q, hqi⟩ : ∃ q, qs[i]? = some q := ⟨_, List.getElem?_eq_getElem (by (exact om272 hql hi))⟩
    obtain ⟨⟨wt, hw⟩, hlow⟩ := hq i q (px, pt) hp hqi
    obtain rfl : Value.str px pt = v := by
      have e : (strVals nss).toArray[i]? = some (.str px pt) := by simp [strVals, hp]
      rw [e] at hPv; exact Option.some.inj hPv
    have mm : ∀ {q : Addr × Obj}, q ∈ news → q ∈ (I, oI) :: (C, oC') :: (D', LCg.lst ys) :: news := fun h => .tail _ (.tail _ (.tail _ h))
    have mwo2 := mm mwo
    have hlw2 := mm hlwW
    have hpn := hnt (px, pt) (List.mem_of_getElem? hp)
    have hql2 : q < wss.length := (List.getElem?_eq_some_iff.mp hw).1
    repeat (walk1; try dsimp only)
    unfold Hold
    refine in_list_strs (isListOf N' hlw2) (strVals_are wss) ?_
    rw [show (List.map (·.1) wss).any (· == px) = true from List.any_eq_true.mpr ⟨px, List.mem_map.mpr ⟨_, List.mem_of_getElem? hw, rfl⟩, by simp⟩]
    repeat (walk1; try dsimp only)
    unfold Hold
    have hss : wss = wss.take q ++ (px, wt) :: wss.drop (q + 1) := by
      have e : (px, wt) :: wss.drop (q + 1) = wss.drop q := by
        rw [List.drop_eq_getElem_cons hql2]
        congr 1
        exact (List.getElem?_eq_some_iff.mp hw).2.symm
      rw [e, List.take_append_drop]
    have hlq : (wss.take q).length = q := by rw [List.length_take]; (exact om277 hql2)
    have hpre : ∀ r ∈ wss.take q, r.1 ≠ px := fun r hr => by
      obtain ⟨j, hj⟩ := List.mem_iff_getElem?.mp hr
      have hjq : j < q := by have := (List.getElem?_eq_some_iff.mp hj).1; (exact om276 hlq this)
      rw [List.getElem?_take_of_lt hjq] at hj
      exact hlow j r hjq hj
    have ht0 : ∀ r ∈ wss, r.2 ≠ 0 := fun r hr e => by
      have h1 := hwt r hr
      rw [e] at h1
      exact absurd (Nat.lt_of_lt_of_le hpn.2 h1) (Nat.not_lt_zero _)
    have htu : ∀ r ∈ wss.take q, r.2 ≠ pt := fun r hr e => by
      have h1 := hwt r (List.mem_of_mem_take hr)
      rw [e] at h1
      exact absurd hpn.2 (Nat.not_lt.mpr h1)
    refine indexOf_w lw wss (wss.take q) (wss.drop (q + 1)) wt nw px pt hss (by (exact om275 hwl)) hpre hpn.1 ht0 htu rfl rfl (1 + claimMargin + 1) 7 (some []) _ _ _ _ _ _ callerA base h₀ _ _ _ _ _ _ hB F' hX N' (fun p hp => nomatch hp) hlw2 hT rfl (law_room (by decide)) (law_units (by decide)) ?_
    rintro v6 post6 extra6 h6 tk6 F6 N6 - - ⟨tv, rfl, rfl, rfl⟩
    rw [hlq]
    refine LCg.CompEnd.intro F6 N6 news (fun p hp => hp) off (.inr ⟨_, hlaW, rfl, _, rfl⟩) ⟨rfl, ?_⟩
    rw [List.take_add_one, hqi, Option.toList_some]
    exact hys.snoc q tv
  case fin2 =>
    rintro ys news ⟨rfl, hys⟩
    rw [List.take_of_length_le (by (exact om271 hql))] at hys
    intro D h tk F N o1
    subst hW0
    (try dsimp only)
    repeat (walk1; try dsimp only)
    exact hret _ _ D ys _ hys F N (DJ.cons (off1_mem o1) hD)
end

section
open PySem PySem.W PyProof.Rows PySem.Calls PySem.Spec Builtin Builtin.ObjectAttr Builtin.Str
set_option maxHeartbeats 3000000
variable {w : World} {mean : ExcName → Option Value} {mg mb : Str → Option Value}
local macro_rules | `(tactic| walk_at "compareOp NotEq ref ref") => `(tactic| (k_here; refine Hold.of ?_))
theorem law11 (rd : Lx) (ok : rd.Ok) (ocr : Obj) (hcr : CodeOk ocr) (hz : rd.x.length < 2000) (hz2 : 2 ≤ rd.x.length) (ln : Int) (tl tp : Tok) (p n2 : Nat) (ls lk : Addr) (vs kvs : List Value) (ns nk : Nat) (qs : List Nat) (hvs : NatsAre vs qs) (hkv : NatsAre kvs qs) (hend : Toks (remOf rd.x p) []) : PySem.Challenge.rw_xj0013_01 = PySem.Challenge.rw_xj0013_01 → hd.heap_1 = hd.heap_1 →
  ∀ (base h₀ : Heap) (L : Addr) (m : Str → Option Value) (R : Led) (c : Cs) (s : Shared) (Q : Flow → Shared → Prop) (E : Value → Shared → Prop),
    Below callerA base [] h₀ → Fr h₀ L s.heap m → (hd.heap_1 w.params).In h₀ → News h₀ L s.heap (LCl L c ++ (rd.mut w ln tl [] 0 p tp n2 ++ R)) → DJ (LCl L c ++ (rd.mut w ln tl [] 0 p tp n2 ++ R)) → Tp mean mg mb h₀ →
    m (Str.ofString "seen") = some (.ref ls) → (ls, W.listOf vs.toArray ns) ∈ R → (lk, W.listOf kvs.toArray nk) ∈ R → (∀ q ∈ rd.imm w, q ∈ R) → (rd.cr, ocr) ∈ R → c.kn.data = .cell (some (.ref lk)) → c.re.data = .cell (some (.ref rd.ix)) →
    (∀ (h' : Heap) (tk' : Nat) (ln' : Int) (tl' tp' : Tok) (p' n2' : Nat), Fr h₀ L h' m → News h₀ L h' (LCl L c ++ (rd.mut w ln' tl' [] 0 p' tp' n2' ++ R)) → DJ (LCl L c ++ (rd.mut w ln' tl' [] 0 p' tp' n2' ++ R)) →
      Q .next { s with heap := h', toks := tk' }) →
    wpAny (model PySem.Challenge.pw_xj0013_01 w) (callerA.deeper (lawEnv w L)) (execs [lawStmt w.params 17] (lawEnv w L)) Q E s := by
  k_fill; intro _ _ base h₀ L m R c s Q E hB hF hX hN hD hT hms hls hlk him hcm d1 d2 hret
  have eS17 : lawStmt w.params 17 = lawStmt w.params 17 := rfl
  conv at eS17 => rhs; whnf
  have e2 : fnScope w.params 225 = fnScope w.params 225 := rfl
  conv at e2 => rhs; whnf
  unfold lawEnv at *
  rw [eS17, e2]
  clear eS17 e2
  have mkn : (L + 1 + 1 + 1 + 1 + 1 + 1, c.kn) ∈ LCl L c ++ (rd.mut w ln tl [] 0 p tp n2 ++ R) := .tail _ (.tail _ (.tail _ (.head _)))
  have mre : (L + 1 + 1 + 1 + 1 + 1 + 1 + 1, c.re) ∈ LCl L c ++ (rd.mut w ln tl [] 0 p tp n2 ++ R) := .tail _ (.tail _ (.head _))
  have mR : ∀ {q : Addr × Obj}, q ∈ R → q ∈ LCl L c ++ (rd.mut w ln tl [] 0 p tp n2 ++ R) := fun h => List.mem_append_right _ (List.mem_append_right _ h)
  have mix := mR (him _ (.head _))
  have mdi : (rd.dix, netD w rd.t1 rd.t2 rd.t3 rd.t4 tl rd.tw ln rd.sf rd.pb) ∈ LCl L c ++ (rd.mut w ln tl [] 0 p tp n2 ++ R) := List.mem_append_right _ (.head _)
  have hvl := mR hls
  have hkl := mR hlk
  have hN0 := hN
  generalize hW0 : LCl L c ++ (rd.mut w ln tl [] 0 p tp n2 ++ R) = W0 at hN mkn mre mix mdi hvl hkl
  clear hN0
  repeat (walk1; try dsimp only)
  unfold Hold
  (rename News _ _ _ _ => N1)
  obtain ⟨as1, r1⟩ := nats_reads (N1 _ hvl).1 hvs
  obtain ⟨as2, r2⟩ := nats_reads (N1 _ hkl).1 hkv
  refine SeqAt.compareNe_reads r1 r2 (natsD_can _) (natsD_can _) ?hu ?_
  case hu =>
    rw [natsD_depth]
    exact (show 7 + min 1 1 < cLine by decide)
  rw [SeqAt.eqv_refl _ (natsD_can _)]
  repeat (walk1; try dsimp only)
  unfold Hold
  subst hW0
  (rename Fr _ _ _ _ => F1)
  refine claimT_frame (get_token_t0 rd ok ocr hcr hz hz2 ln tl 0 p tp n2 rfl rfl) (fun T v post extra h => get_token_post rd h) (LCl L c) [] R (1 + claimMargin + 1) 7 (some []) _ _ _ _ _ _ callerA base h₀ _ _ _ _ _ hB F1 hX N1 hD ⟨fun q hq => List.mem_append_right _ (him q hq), List.mem_append_right _ hcm⟩ hT rfl (law_room (by decide)) (law_units (by decide)) ?_
  rintro v6 post6 extra6 h6 tk6 - F6 N6 D6 ⟨t0, tl2, p2, tp2, n22, -, rfl, hp2, rfl, rfl⟩
  have he : tokS (remOf rd.x p) = ([], []) := hend
  rw [he]
  repeat (walk1; try dsimp only)
  (rename Fr _ _ _ _ => F7); (rename News _ _ _ _ => N7)
  (try dsimp only)
  repeat (walk1; try dsimp only)
  exact hret _ _ _ tl2 tp2 p2 n22 F7 N7 D6
end

section
open PySem PySem.W PyProof.Rows PySem.Calls PySem.Spec Builtin Builtin.ObjectAttr Builtin.Str
set_option maxHeartbeats 3000000
variable {w : World} {mean : ExcName → Option Value} {mg mb : Str → Option Value}
local macro_rules | `(tactic| walk_at "call builtin:len") => `(tactic| (k_here; (with_reducible show wpAny _ _ (call (Value.builtin _) [Value.ref _]) _ _ _); refine Hold.of ?_))
local macro_rules | `(tactic| walk_at "call builtin:sum") => `(tactic| (k_here; refine Hold.of ?_))
theorem nats_sum : ∀ ps : List Nat, (ps.map fun (p : Nat) => (p : Int)).sum = ((ps.sum : Nat) : Int)
  | [] => rfl
  | p :: ps => by
    have ih := nats_sum ps
    simp only [List.map_cons, List.sum_cons, ih]
    (exact om283 ih)
theorem law12 (dk dxk lc : Addr) (nk nc size : Nat) (tdk t1 : Tok) (Y : List Value) (cds : List (Str × Str)) (css : List (Str × Tok)) (tb : Obj) (htb : TabOk tb) (hcl : cds.length = size) (hsl : css.length = size) (hs9 : size < 10) (hbd : ∀ c ∈ cds, c.1.length ≤ 1000 ∧ c.2.length ≤ 1000) (hbc : ∀ c ∈ css, c.1.length ≤ 1000) (hsum : sumLen cds = (css.map fun c => 1 + c.1.length).sum) : PySem.Challenge.rw_xj0013_01 = PySem.Challenge.rw_xj0013_01 → hd.heap_1 = hd.heap_1 →
  ∀ (base h₀ : Heap) (L : Addr) (m : Str → Option Value) (R : Led) (c : Cs) (s : Shared) (Q : Flow → Shared → Prop) (E : Value → Shared → Prop),
    Below callerA base [] h₀ → Fr h₀ L s.heap m → (hd.heap_1 w.params).In h₀ → News h₀ L s.heap (LCl L c ++ ((63, tb) :: (dk, accObj dxk Y nk) :: R)) → DJ (LCl L c ++ ((63, tb) :: (dk, accObj dxk Y nk) :: R)) → Tp mean mg mb h₀ →
    AllBare s.gens → m (Str.ofString "deck") = some (.ref dk) → m (Str.ofString "cards") = some (.ref lc) → (dxk, accD w tdk) ∈ R → Cards R Y cds → (lc, W.listOf (strVals css).toArray nc) ∈ R → c.si.data = .cell (some (.int size t1)) →
    (∀ (h' : Heap) (tk' : Nat) (gs' : Array GenState) (tb' : Obj), AllBare gs' → TabOk tb' → Fr h₀ L h' m → News h₀ L h' (LCl L c ++ ((63, tb') :: (dk, accObj dxk Y nk) :: R)) → DJ (LCl L c ++ ((63, tb') :: (dk, accObj dxk Y nk) :: R)) →
      Q .next { s with heap := h', toks := tk', gens := gs' }) →
    wpAny (model PySem.Challenge.pw_xj0013_01 w) (callerA.deeper (lawEnv w L)) (execs [lawStmt w.params 18] (lawEnv w L)) Q E s := by
  k_fill; intro _ _ base h₀ L m R c s Q E hB hF hX hN hD hT hG hmd hmc mdx hcY hlc d1 hret
  have eS18 : lawStmt w.params 18 = lawStmt w.params 18 := rfl
  conv at eS18 => rhs; whnf
  have e2 : fnScope w.params 225 = fnScope w.params 225 := rfl
  conv at e2 => rhs; whnf
  unfold lawEnv at *
  rw [eS18, e2]
  clear eS18 e2
  repeat (walk1; try dsimp only)
  unfold Hold
  (rename Fr _ _ _ _ => F1)
  have mR : ∀ {q : Addr × Obj}, q ∈ R → q ∈ LCl L c ++ ((63, tb) :: (dk, accObj dxk Y nk) :: R) := fun h => List.mem_append_right _ (.tail _ (.tail _ h))
  have mdk : (dk, accObj dxk Y nk) ∈ LCl L c ++ ((63, tb) :: (dk, accObj dxk Y nk) :: R) := List.mem_append_right _ (.tail _ (.head _))
  refine len_K (K := hd.heap_1 w.params) (C := 101) (f := 68) (ox := accObj dxk Y nk) (od := some (accD w tdk)) F1 hX ⟨(hN _ mdk).1, rfl, rfl, (hN _ (mR mdx)).1⟩ (by kernel_rfl) (by kernel_rfl) ?_
  refine claimG_frame (len_w dk dxk Y nk cds tb htb hbd rfl rfl) (fun v post extra h => by obtain ⟨_, _, -, rfl, -, rfl⟩ := h; exact ⟨rfl, DJ.nil⟩) (LCl L c) [] ((dk, accObj dxk Y nk) :: R) (1 + claimMargin + 1) 8 (some []) _ _ _ _ _ _ callerA base h₀ _ _ _ _ _ hB F1 hX hN hD ⟨List.mem_append_right _ (.head _), ⟨tdk, List.mem_append_right _ (.tail _ mdx)⟩, hcY.mono fun p hp => List.mem_append_right _ (.tail _ hp)⟩ hT rfl hG (law_room (by decide)) (show 8 + (0 + 2) * 12 < cLine by decide) ?_
  rintro v2 post extra h4 tk4 gs4 - hG4 F4 N4 D4 ⟨tz, tb', rfl, rfl, htb', rfl⟩
  have hsz : sumLen cds < 100000 := by
    rw [hsum]
    have h1 : ∀ l : List (Str × Tok), (∀ c ∈ l, c.1.length ≤ 1000) → (l.map fun c => 1 + c.1.length).sum ≤ l.length * 1001 := by
      intro l
      induction l with
      | nil => intro _; simp
      | cons c l ih =>
        intro h
        have h2 := h c (.head _)
        have h3 := ih fun x hx => h x (.tail _ hx)
        simp only [List.map_cons, List.sum_cons, List.length_cons]
        (exact om282 h2 h3)
    have := h1 css hbc
    (exact om281 hsl hs9 this)
  show (0 ≤ ((sumLen cds : Nat) : Int) ∧ ((sumLen cds : Nat) : Int) < 2 ^ 63) ∧ _
  refine ⟨⟨Int.natCast_nonneg _, by (exact om361 hsz)⟩, ?_⟩
  replace N4 : News h₀ L h4 (LCl L c ++ ((63, tb') :: (dk, accObj dxk Y nk) :: R)) := N4
  replace D4 : DJ (LCl L c ++ ((63, tb') :: (dk, accObj dxk Y nk) :: R)) := D4
  have hlcW : (lc, W.listOf (strVals css).toArray nc) ∈ LCl L c ++ ((63, tb') :: (dk, accObj dxk Y nk) :: R) := List.mem_append_right _ (.tail _ (.tail _ hlc))
  have msi : (L + 1 + 1 + 1, c.si) ∈ LCl L c ++ ((63, tb') :: (dk, accObj dxk Y nk) :: R) := .tail _ (.tail _ (.tail _ (.tail _ (.tail _ (.tail _ (.head _))))))
  have mdk2 : (dk, accObj dxk Y nk) ∈ LCl L c ++ ((63, tb') :: (dk, accObj dxk Y nk) :: R) := List.mem_append_right _ (.tail _ (.head _))
  have mdx2 : (dxk, accD w tdk) ∈ LCl L c ++ ((63, tb') :: (dk, accObj dxk Y nk) :: R) := List.mem_append_right _ (.tail _ (.tail _ mdx))
  clear hN F1
  generalize hW0 : LCl L c ++ ((63, tb') :: (dk, accObj dxk Y nk) :: R) = W0 at N4 D4 hlcW msi mdk2 mdx2
  repeat (walk1; try dsimp only)
  unfold Hold
  (rename Fr _ _ _ _ => F5)
  have hcs : (strVals css).toArray.size = css.length := by simp [strVals]
  refine LCg.CompSrc.ledger rfl F5 N4 hlcW (by rw [hcs, sizeLine_eq]; (exact om279 hsl hs9)) ?_
  intro g
  rw [hcs]
  refine CompRest_ind (n := css.length) (fun i ys news => news = W0 ∧ NatsAre ys ((css.take i).map fun c => 1 + c.1.length)) ?step1 ?fin1 _ 0 [] _ (Nat.zero_add _) ⟨rfl, .nil⟩
  case step1 =>
    rintro i ys news v I oI C oC' D' m₂ h' tk' E' hi ⟨rfl, hys⟩ hPv hNs hx F' N' off -
    obtain ⟨⟨px, pt⟩, hp⟩ : ∃ p, css[i]? = some p := ⟨_, List.getElem?_eq_getElem hi⟩
    obtain rfl : Value.str px pt = v := by
      have e : (strVals css).toArray[i]? = some (.str px pt) := by simp [strVals, hp]
      rw [e] at hPv; exact Option.some.inj hPv
    have hpl : px.length ≤ 1000 := hbc (px, pt) (List.mem_of_getElem? hp)
    repeat (walk1; try dsimp only)
    rw [show (1 + ((px.length : Nat) : Int)) = ((1 + px.length : Nat) : Int) by (exact om278)]
    refine LCg.CompEnd.intro F' N' news (fun p hp => hp) off (.inr ⟨_, hlcW, rfl, _, rfl⟩) ⟨rfl, ?_⟩
    rw [List.take_add_one, hp, Option.toList_some, List.map_append]
    exact hys.snoc (1 + px.length) _
  case fin1 =>
    rintro ys news ⟨rfl, hys⟩
    rw [List.take_length] at hys
    intro D h tk F N o1
    repeat (walk1; try dsimp only)
    unfold Hold
    have DD := DJ.cons (p := (D, LCg.lst ys)) (off1_mem o1) D4
    refine LSm.sum_ints F N rfl (isListOf N (.head _)) hys ?_
    intro h5 tk5 t5 F5' N5
    rw [nats_sum, ← hsum]
    repeat (walk1; try dsimp only)
    · rename_i hbad
      exact absurd rfl hbad
    have N6 : News h₀ L h5 news := cb_drop N5 fun p hp => .tail _ hp
    clear N5 N N4
    repeat ((fail_if_success (with_reducible show wpAny _ _ (PySem.getMethod _ _ _) _ _ _)); walk1; try dsimp only)
    (rename Fr _ _ _ _ => F7); (rename News _ _ _ _ => N7)
    refine acc_getMethod_f (dx := dxk) (tk := tdk) (hX.keeps F7.keep) (N7 _ mdk2).1 (N7 _ mdx2).1 (by k_is) (by k_is) (by kernel_rfl) ?_
    repeat (walk1; try dsimp only)
    unfold Hold
    (rename Fr _ _ _ _ => F8); (rename News _ _ _ _ => N8)
    subst hW0
    refine claim_frame (part_count_w dk dxk Y nk rfl rfl) (fun v post extra h => by obtain ⟨-, rfl, rfl⟩ := h; exact ⟨rfl, DJ.nil⟩) (LCl L c ++ [(63, tb')]) [] R (1 + claimMargin + 1) 7 (some []) _ _ _ _ _ _ callerA base h₀ _ _ _ _ _ hB F8 hX N8 D4 ⟨tdk, List.mem_append_right _ mdx⟩ hT rfl (law_room (by decide)) (law_units (by decide)) ?_
    rintro v6 post6 extra6 h6 tk6 - F6 N6' D6 ⟨⟨tp, rfl⟩, rfl, rfl⟩
    rw [hcY.length, hcl]
    clear N8
    replace N6' : News h₀ L h6 (LCl L c ++ ((63, tb') :: (dk, accObj dxk Y nk) :: R)) := N6'
    generalize hW1 : LCl L c ++ ((63, tb') :: (dk, accObj dxk Y nk) :: R) = W1 at N6' msi
    repeat (walk1; try dsimp only)
    · rename_i hbad
      exact absurd rfl hbad
    repeat (walk1; try dsimp only)
    (rename Fr _ _ _ _ => FZ); (rename News _ _ _ _ => NZ)
    subst hW1
    (try dsimp only)
    repeat (walk1; try dsimp only)
    exact hret _ _ gs4 tb' hG4 htb' FZ NZ D4
end

section
open PySem PySem.W PyProof.Rows PySem.Calls PySem.Spec Builtin Builtin.ObjectAttr Builtin.Str
set_option maxHeartbeats 3000000
variable {w : World} {mean : ExcName → Option Value} {mg mb : Str → Option Value}
/-- what the first places tell of place k, the figures below j taken -/
noncomputable def toldP (qs : List Nat) (k : Nat) : Nat → Nat
  | 0 => qs.getD 0 0
  | j + 1 => if k / 2 ^ j % 2 = 1 then toldP qs k j ^^^ (qs.getD 0 0 ^^^ qs.getD (2 ^ j) 0) else toldP qs k j
theorem xor8 (a b : Nat) (ha : a < 8) (hb : b < 8) : Builtin.bitXor (a : Int) (b : Int) = ((a ^^^ b : Nat) : Int) ∧ a ^^^ b < 8 := by
  have : ∀ a : Nat, a < 8 → ∀ b : Nat, b < 8 → Builtin.bitXor (a : Int) (b : Int) = ((a ^^^ b : Nat) : Int) ∧ a ^^^ b < 8 := by decide +kernel
  exact this a ha b hb
theorem and8 (a : Nat) (ha : a < 8) : Builtin.bitAnd (a : Int) 1 = ((a % 2 : Nat) : Int) := by
  have : ∀ a : Nat, a < 8 → Builtin.bitAnd (a : Int) 1 = ((a % 2 : Nat) : Int) := by decide +kernel
  exact this a ha
theorem getD8 {qs : List Nat} (h : ∀ q ∈ qs, q < 8) (i : Nat) : qs.getD i 0 < 8 := by
  rw [List.getD_eq_getElem?_getD]
  cases e : qs[i]? with
  | none => decide
  | some q => exact h q (List.mem_of_getElem? e)
theorem told8 {qs : List Nat} (h : ∀ q ∈ qs, q < 8) (k : Nat) : ∀ j, toldP qs k j < 8
  | 0 => getD8 h 0
  | j + 1 => by
    rw [toldP]
    split
    · exact (xor8 _ _ (told8 h k j) (xor8 _ _ (getD8 h 0) (getD8 h (2 ^ j))).2).2
    · exact told8 h k j
theorem NatsAre.getD {vs : List Value} {ps : List Nat} (h : NatsAre vs ps) {i : Nat} (hi : i < ps.length) : ∃ t, vs[i]? = some (.int (ps.getD i 0 : Nat) t) := by
  have e : ps[i]? = some (ps.getD i 0) := by rw [List.getD_eq_getElem?_getD, List.getElem?_eq_getElem hi]; rfl
  exact h.item e
theorem law13 (ls lk : Addr) (vs kvs : List Value) (ns nk size f : Nat) (qs : List Nat) (t1 t2 : Tok) (hsf : (size = 4 ∧ f = 2) ∨ (size = 8 ∧ f = 3)) (hql : qs.length = size) (hq8 : ∀ q ∈ qs, q < 8) (hvs : NatsAre vs qs) (hkv : NatsAre kvs qs) (htold : ∀ k, k < size → toldP qs k f = qs.getD k 0) : PySem.Challenge.rw_xj0013_01 = PySem.Challenge.rw_xj0013_01 → hd.heap_1 = hd.heap_1 →
  ∀ (base h₀ : Heap) (L : Addr) (m : Str → Option Value) (R : Led) (c : Cs) (s : Shared) (Q : Flow → Shared → Prop) (E : Value → Shared → Prop),
    Below callerA base [] h₀ → Fr h₀ L s.heap m → (hd.heap_1 w.params).In h₀ → News h₀ L s.heap (LCl L c ++ R) → DJ (LCl L c ++ R) → Tp mean mg mb h₀ →
    m (Str.ofString "seen") = some (.ref ls) → (ls, W.listOf vs.toArray ns) ∈ R → (lk, W.listOf kvs.toArray nk) ∈ R → c.si.data = .cell (some (.int size t1)) → c.fi.data = .cell (some (.int f t2)) → c.kn.data = .cell (some (.ref lk)) →
    (∀ (h' : Heap) (tk' : Nat) (m' : Str → Option Value), (∀ y, y ≠ Str.ofString "k" → y ≠ Str.ofString "told" → y ≠ Str.ofString "figure" → m' y = m y) → Fr h₀ L h' m' → News h₀ L h' (LCl L c ++ R) →
      Q .next { s with heap := h', toks := tk' }) →
    wpAny (model PySem.Challenge.pw_xj0013_01 w) (callerA.deeper (lawEnv w L)) (execs [lawStmt w.params 19] (lawEnv w L)) Q E s := by
  k_fill; intro _ _ base h₀ L m R c s Q E hB hF hX hN hD hT hms hls hlk d1 d2 d3 hret
  have eS19 : lawStmt w.params 19 = lawStmt w.params 19 := rfl
  conv at eS19 => rhs; whnf
  have e2 : fnScope w.params 225 = fnScope w.params 225 := rfl
  conv at e2 => rhs; whnf
  unfold lawEnv at *
  rw [eS19, e2]
  clear eS19 e2
  have msi : (L + 1 + 1 + 1, c.si) ∈ LCl L c ++ R := .tail _ (.tail _ (.tail _ (.tail _ (.tail _ (.tail _ (.head _))))))
  have mfi : (L + 1 + 1, c.fi) ∈ LCl L c ++ R := .tail _ (.tail _ (.tail _ (.tail _ (.tail _ (.tail _ (.tail _ (.head _)))))))
  have mkn : (L + 1 + 1 + 1 + 1 + 1 + 1, c.kn) ∈ LCl L c ++ R := .tail _ (.tail _ (.tail _ (.head _)))
  generalize hW0 : LCl L c ++ R = W0 at *
  have hlsW : (ls, W.listOf vs.toArray ns) ∈ W0 := by rw [← hW0]; exact List.mem_append_right _ hls
  have hlkW : (lk, W.listOf kvs.toArray nk) ∈ W0 := by rw [← hW0]; exact List.mem_append_right _ hlk
  clear hW0
  repeat ((fail_if_success (with_reducible show wpAny _ _ (PySem.exec (Stmt.For _ _ _ _ _) _) _ _ _)); walk1; try dsimp only)
  refine wpAny_For ?_ (by intro _; rfl)
  repeat ((fail_if_success (with_reducible show wpAny _ _ (pyIter _) _ _ _)); walk1; try dsimp only)
  (rename IsRange _ _ _ _ _ _ _ _ => hR2); (rename Fr _ _ _ _ => F2); (rename News _ _ _ _ => N2)
  refine pyIter_rangeJ rfl hR2 (by (exact om368 hsf)) F2 N2 (fun i m' news' => news' = W0 ∧ ∀ y, y ≠ Str.ofString "k" → y ≠ Str.ofString "told" → y ≠ Str.ofString "figure" → m' y = m y) ⟨rfl, fun y _ _ _ => rfl⟩ ?_ ?_
  · rintro k t m₁ news₁ h₁ tk₁ I it hk ⟨rfl, hm⟩ F₁ N₁ hI K KE hK _hV
    have hk8 : k < 8 := by (exact om294 hsf hk)
    have hms1 : m₁ (Str.ofString "seen") = some (.ref ls) := by rw [hm _ (by decide +kernel) (by decide +kernel) (by decide +kernel)]; exact hms
    have msi1 := List.Mem.tail (I, it) msi
    have mfi1 := List.Mem.tail (I, it) mfi
    have mkn1 := List.Mem.tail (I, it) mkn
    have hls1 := List.Mem.tail (I, it) hlsW
    have hlk1 := List.Mem.tail (I, it) hlkW
    obtain ⟨t0, v0⟩ := hvs.getD (i := 0) (by (exact om293 hsf hql))
    repeat ((fail_if_success (with_reducible show wpAny _ _ (subscriptTail _ _ _ _) _ _ _)); walk1; try dsimp only)
    (rename News _ _ _ _ => N3)
    refine list_item (isListOf N3 hls1) (by decide) (by decide) v0 ?_
    repeat ((fail_if_success (with_reducible show wpAny _ _ (PySem.exec (Stmt.For _ _ _ _ _) _) _ _ _)); walk1; try dsimp only)
    refine wpAny_For ?_ (by intro _; rfl)
    repeat ((fail_if_success (with_reducible show wpAny _ _ (pyIter _) _ _ _)); walk1; try dsimp only)
    (rename IsRange _ _ _ _ _ _ _ _ => hR4); (rename Fr _ _ _ _ => F4); (rename News _ _ _ _ => N4)
    refine pyIter_rangeJ rfl hR4 (by (exact om367 hsf)) F4 N4 (fun j m'' news'' => news'' = (I, it) :: news₁ ∧ (∃ tt, m'' (Str.ofString "told") = some (.int (toldP qs k j : Nat) tt)) ∧ (∃ tk, m'' (Str.ofString "k") = some (.int (k : Nat) tk)) ∧ ∀ y, y ≠ Str.ofString "k" → y ≠ Str.ofString "told" → y ≠ Str.ofString "figure" → m'' y = m₁ y) ⟨rfl, ⟨_, rfl⟩, ⟨_, rfl⟩, fun y h1 h2 _ => by rw [if_neg h2, if_neg h1]⟩ ?_ ?_
    · rintro j t' m₂ news₂ h₂ tk₂ I2 it2 hj ⟨rfl, ⟨tt, hto⟩, ⟨tk', hkk⟩, hm2⟩ F₂ N₂ hI2 K2 KE2 hK2 _hV2
      have hms2 : m₂ (Str.ofString "seen") = some (.ref ls) := by rw [hm2 _ (by decide +kernel) (by decide +kernel) (by decide +kernel)]; exact hms1
      have hls2 := List.Mem.tail (I2, it2) hls1
      have hj3 : j < 3 := by (exact om291 hsf hj)
      have hpj : 2 ^ j < size := by rcases (show j = 0 ∨ j = 1 ∨ j = 2 by (exact om69 hj3)) with rfl | rfl | rfl <;> (first | exact om364 hsf | exact om365 hsf | exact om366 hsf hj)
      obtain ⟨t2', v2⟩ := hvs.getD (i := 2 ^ j) (by (exact om272 hql hpj))
      repeat (walk1; try dsimp only)
      unfold Hold
      refine rshift_w (k : Nat) (j : Nat) tk' t' (Int.natCast_nonneg _) (Int.natCast_nonneg _) (by (exact om288 hj3)) rfl rfl (1 + claimMargin + 1) 7 (some []) _ _ _ _ _ _ callerA base h₀ _ _ _ _ _ _ hB (by assumption) hX (by assumption) hT rfl (law_room (by decide)) (law_units (by decide)) ?_
      intro ta h5 tk5 F5 N5
      have hkd : k / 2 ^ j < 8 := Nat.lt_of_le_of_lt (Nat.div_le_self _ _) hk8
      rw [show Int.fdiv ((k : Nat) : Int) (2 ^ ((j : Nat) : Int).toNat) = ((k / 2 ^ j : Nat) : Int) by rw [Int.toNat_natCast, show ((2 : Int) ^ j) = ((2 ^ j : Nat) : Int) by norm_cast, fdivNat]]
      repeat (walk1; try dsimp only)
      unfold Hold
      refine and_w (k / 2 ^ j : Nat) 1 _ _ rfl rfl (1 + claimMargin + 1) 7 (some []) _ _ _ _ _ _ callerA base h₀ _ _ _ _ _ _ hB (by assumption) hX (by assumption) hT rfl (law_room (by decide)) (law_units (by decide)) ?_
      intro tb h6 tk6 F6 N6
      rw [and8 _ hkd]
      repeat (walk1; try dsimp only)
      · (rename (_ : Int) = 1 => hbit)
        have hb1 : k / 2 ^ j % 2 = 1 := by (exact om287 hbit)
        (rename News _ _ _ _ => N7)
        refine list_item (isListOf N7 hls2) (by decide) (by decide) v0 ?_
        repeat ((fail_if_success (with_reducible show wpAny _ _ (subscriptTail _ _ _ _) _ _ _)); walk1; try dsimp only)
        (rename News _ _ _ _ => N8)
        rw [show ((2 : Int) ^ ((j : Nat) : Int).toNat) = ((2 ^ j : Nat) : Int) by rw [Int.toNat_natCast]; norm_cast]
        refine list_item (isListOf N8 hls2) (Int.natCast_nonneg _) (by (exact om363 hsf hpj)) (by rw [Int.toNat_natCast]; exact v2) ?_
        repeat (walk1; try dsimp only)
        unfold Hold
        refine xor_w (qs.getD 0 0 : Nat) (qs.getD (2 ^ j) 0 : Nat) _ _ rfl rfl (1 + claimMargin + 1) 7 (some []) _ _ _ _ _ _ callerA base h₀ _ _ _ _ _ _ hB (by assumption) hX (by assumption) hT rfl (law_room (by decide)) (law_units (by decide)) ?_
        intro tc h7 tk7 F9 N9
        obtain ⟨x1, x2⟩ := xor8 _ _ (getD8 hq8 0) (getD8 hq8 (2 ^ j))
        rw [x1]
        repeat (walk1; try dsimp only)
        unfold Hold
        refine xor_w (toldP qs k j : Nat) (qs.getD 0 0 ^^^ qs.getD (2 ^ j) 0 : Nat) _ _ rfl rfl (1 + claimMargin + 1) 7 (some []) _ _ _ _ _ _ callerA base h₀ _ _ _ _ _ _ hB (by assumption) hX (by assumption) hT rfl (law_room (by decide)) (law_units (by decide)) ?_
        intro td h8 tk8 F10 N10
        rw [(xor8 _ _ (told8 hq8 k j) x2).1]
        repeat (walk1; try dsimp only)
        (rename Fr _ _ _ _ => FZ); (rename News _ _ _ _ => NZ)
        refine hK2 (.inl rfl) FZ NZ hI2 ⟨rfl, ⟨td, ?_⟩, ⟨tk', ?_⟩, ?_⟩
        · (try dsimp only)
          rw [if_pos rfl, toldP, if_pos hb1]
        · (try dsimp only)
          rw [if_neg (by decide +kernel), if_neg (by decide +kernel)]; exact hkk
        · intro y h1 h2 h3
          (try dsimp only)
          rw [if_neg h2, if_neg h3]; exact hm2 y h1 h2 h3
      · (rename (_ : Int) ≠ 1 => hbit)
        have hb1 : ¬ k / 2 ^ j % 2 = 1 := by (exact om285 hbit)
        repeat (walk1; try dsimp only)
        (rename Fr _ _ _ _ => FZ); (rename News _ _ _ _ => NZ)
        refine hK2 (.inl rfl) FZ NZ hI2 ⟨rfl, ⟨tt, ?_⟩, ⟨tk', ?_⟩, ?_⟩
        · (try dsimp only)
          rw [if_neg (by decide +kernel), toldP, if_neg hb1]; exact hto
        · (try dsimp only)
          rw [if_neg (by decide +kernel)]; exact hkk
        · intro y h1 h2 h3
          (try dsimp only)
          rw [if_neg h3]; exact hm2 y h1 h2 h3
    · rintro h' tk' m' news' F' N' ⟨rfl, ⟨tt, hto⟩, ⟨tk', hkk⟩, hm2⟩
      rw [htold k hk] at hto
      obtain ⟨t3, v3⟩ := hkv.getD (i := k) (by (exact om272 hql hk))
      (try dsimp only)
      repeat ((fail_if_success (with_reducible show wpAny _ _ (subscriptTail _ _ _ _) _ _ _)); walk1; try dsimp only)
      (rename News _ _ _ _ => N7)
      refine list_item (isListOf N7 hlk1) (by (exact om79)) (by (exact om362 hk8)) (by rw [Int.toNat_natCast]; exact v3) ?_
      repeat (walk1; try dsimp only)
      · rename_i hbad
        exact absurd rfl hbad
      repeat (walk1; try dsimp only)
      (rename Fr _ _ _ _ => FZ); (rename News _ _ _ _ => NZ)
      exact hK (.inl rfl) FZ NZ hI ⟨rfl, fun y h1 h2 h3 => by rw [hm2 y h1 h2 h3]; exact hm y h1 h2 h3⟩
  · rintro h' tk' m' news' F' N' ⟨rfl, hm⟩
    (try dsimp only)
    repeat (walk1; try dsimp only)
    (try dsimp only)
    repeat (walk1; try dsimp only)
    exact hret _ _ m' hm F' N'
end

section
open PySem PySem.W PyProof.Rows PySem.Calls PySem.Spec Builtin Builtin.ObjectAttr Builtin.Str
set_option maxHeartbeats 3000000
variable {w : World} {mean : ExcName → Option Value} {mg mb : Str → Option Value}
local macro_rules | `(tactic| walk_at "call builtin:sum") => `(tactic| (k_here; refine Hold.of ?_))
noncomputable def packP (qs : List Nat) (size n : Nat) : List Nat := (List.range n).map fun k => qs.getD k 0 * size ^ k
noncomputable def goalP (goal size n : Nat) : List Nat := (List.range n).map fun k => goal * size ^ k
theorem law14 (lk : Addr) (kvs : List Value) (nk size goal : Nat) (qs : List Nat) (t1 t2 : Tok) (vM : Option Value) (hs : size = 4 ∨ size = 8) (hg : goal < 8) (hql : qs.length = size) (hq8 : ∀ q ∈ qs, q < 8) (hkv : NatsAre kvs qs) : PySem.Challenge.rw_xj0013_01 = PySem.Challenge.rw_xj0013_01 → hd.heap_1 = hd.heap_1 →
  ∀ (base h₀ : Heap) (L : Addr) (m : Str → Option Value) (R : Led) (c : Cs) (s : Shared) (Q : Flow → Shared → Prop) (E : Value → Shared → Prop),
    Below callerA base [] h₀ → Fr h₀ L s.heap m → (hd.heap_1 w.params).In h₀ → News h₀ L s.heap (LCl L c ++ R) → DJ (LCl L c ++ R) → Tp mean mg mb h₀ →
    (lk, W.listOf kvs.toArray nk) ∈ R → c.si.data = .cell (some (.int size t1)) → c.go.data = .cell (some (.int goal t2)) → c.kn.data = .cell (some (.ref lk)) → c.mo.data = .cell vM →
    (∀ (h' : Heap) (tk' : Nat) (o : Obj) (m' : Str → Option Value) (tm : Tok), o.data = .cell (some (.int (Builtin.bitXor ((packP qs size size).sum : Nat) ((goalP goal size size).sum : Nat)) tm)) → (∀ y, y ≠ Str.ofString "packed" → m' y = m y) → Fr h₀ L h' m' → News h₀ L h' (LCl L { c with mo := o } ++ R) → DJ (LCl L { c with mo := o } ++ R) →
      Q .next { s with heap := h', toks := tk' }) →
    wpAny (model PySem.Challenge.pw_xj0013_01 w) (callerA.deeper (lawEnv w L)) (execs [lawStmt w.params 20, lawStmt w.params 21] (lawEnv w L)) Q E s := by
  k_fill; intro _ _ base h₀ L m R c s Q E hB hF hX hN hD hT hlk d1 d2 d3 d4 hret
  have eS20 : lawStmt w.params 20 = lawStmt w.params 20 := rfl
  conv at eS20 => rhs; whnf
  have eS21 : lawStmt w.params 21 = lawStmt w.params 21 := rfl
  conv at eS21 => rhs; whnf
  have e2 : fnScope w.params 225 = fnScope w.params 225 := rfl
  conv at e2 => rhs; whnf
  unfold lawEnv at *
  rw [eS20, eS21, e2]
  clear eS20 eS21 e2
  have msi : (L + 1 + 1 + 1, c.si) ∈ LCl L c ++ R := .tail _ (.tail _ (.tail _ (.tail _ (.tail _ (.tail _ (.head _))))))
  have mgo : (L + 1 + 1 + 1 + 1, c.go) ∈ LCl L c ++ R := .tail _ (.tail _ (.tail _ (.tail _ (.tail _ (.head _)))))
  have mkn : (L + 1 + 1 + 1 + 1 + 1 + 1, c.kn) ∈ LCl L c ++ R := .tail _ (.tail _ (.tail _ (.head _)))
  generalize hW0 : LCl L c ++ R = W0 at *
  have hlkW : (lk, W.listOf kvs.toArray nk) ∈ W0 := by rw [← hW0]; exact List.mem_append_right _ hlk
  repeat (walk1; try dsimp only)
  unfold Hold
  (rename IsRange _ _ _ _ _ _ _ _ => hR2); (rename Fr _ _ _ _ => F2); (rename News _ _ _ _ => N2)
  refine LCg.CompSrc.range rfl F2 N2 hR2 (rng_small _ (by (exact om369 hs))) (rng_size size) (by rw [sizeLine_eq]; (exact om257 hs)) ?_
  intro g2
  refine CompRest_ind (n := size) (fun i ys news => news = W0 ∧ NatsAre ys (packP qs size i)) ?step2 ?fin2 size 0 [] _ (by (exact om215)) ⟨rfl, .nil⟩
  case step2 =>
    rintro i ys news v I oI C oC' D' m₂ h' tk' E' hi ⟨rfl, hys⟩ ⟨t, rfl⟩ hNs hx F' N' off -
    have hi8 := om260 hs hi
    have mm : ∀ {q : Addr × Obj}, q ∈ news → q ∈ (I, oI) :: (C, oC') :: (D', LCg.lst ys) :: news := fun h => .tail _ (.tail _ (.tail _ h))
    have msi2 := mm msi
    have mkn2 := mm mkn
    have hlk2 := mm hlkW
    obtain ⟨tv, hv⟩ := hkv.getD (i := i) (by (exact om272 hql hi))
    rw [show (0 + (i : Int)) = (i : Nat) by (exact om206)] at hx
    repeat ((fail_if_success (with_reducible show wpAny _ _ (subscriptTail _ _ _ _) _ _ _)); walk1; try dsimp only)
    refine list_item (isListOf N' hlk2) (by (exact om79)) (by (exact om372 hs hi)) (by rw [Int.toNat_natCast]; exact hv) ?_
    repeat (walk1; try dsimp only)
    have hg8 := getD8 hq8 i
    refine mul_int ?_ (PySem.IntMulOk.of_left (PySem.intBits_le_64 (by (exact om371)) (by (exact om370 hg8))))
    rw [show ((qs.getD i 0 : Nat) : Int) * (size : Int) ^ ((i : Nat) : Int).toNat = ((qs.getD i 0 * size ^ i : Nat) : Int) by rw [Int.toNat_natCast]; norm_cast]
    repeat (walk1; try dsimp only)
    refine LCg.CompEnd.intro F' N' news (fun p hp => hp) off trivial ⟨rfl, ?_⟩
    rw [show packP qs size (i + 1) = packP qs size i ++ [qs.getD i 0 * size ^ i] by unfold packP; rw [List.range_succ, List.map_append]; rfl]
    exact hys.snoc _ _
  case fin2 =>
    rintro ys news ⟨rfl, hys⟩
    intro D h tk F N o1
    clear F2 N2
    repeat (walk1; try dsimp only)
    unfold Hold
    refine LSm.sum_ints F N rfl (isListOf N (.head _)) hys ?_
    intro h5 tk5 t5 F5 N5
    rw [nats_sum]
    clear F N
    replace N5 : News h₀ L h5 news := cb_drop N5 fun p hp => .tail _ hp
    repeat (walk1; try dsimp only)
    unfold Hold
    (rename IsRange _ _ _ _ _ _ _ _ => hR3); (rename Fr _ _ _ _ => F6); (rename News _ _ _ _ => N6)
    refine LCg.CompSrc.range rfl F6 N6 hR3 (rng_small _ (by (exact om369 hs))) (rng_size size) (by rw [sizeLine_eq]; (exact om257 hs)) ?_
    intro g3
    refine CompRest_ind (n := size) (fun i ys news' => news' = news ∧ NatsAre ys (goalP goal size i)) ?step3 ?fin3 size 0 [] _ (by (exact om215)) ⟨rfl, .nil⟩
    case step3 =>
      rintro i ys news' v I oI C oC' D' m₂ h' tk' E' hi ⟨rfl, hys⟩ ⟨t, rfl⟩ hNs hx F' N' off -
      have hi8 := om260 hs hi
      have mm : ∀ {q : Addr × Obj}, q ∈ news' → q ∈ (I, oI) :: (C, oC') :: (D', LCg.lst ys) :: news' := fun h => .tail _ (.tail _ (.tail _ h))
      have msi2 := mm msi
      have mgo2 := mm mgo
      rw [show (0 + (i : Int)) = (i : Nat) by (exact om206)] at hx
      repeat (walk1; try dsimp only)
      rw [show (goal : Int) * (size : Int) ^ ((i : Nat) : Int).toNat = ((goal * size ^ i : Nat) : Int) by rw [Int.toNat_natCast]; norm_cast]
      refine LCg.CompEnd.intro F' N' news' (fun p hp => hp) off trivial ⟨rfl, ?_⟩
      rw [show goalP goal size (i + 1) = goalP goal size i ++ [goal * size ^ i] by unfold goalP; rw [List.range_succ, List.map_append]; rfl]
      exact hys.snoc _ _
    case fin3 =>
      rintro zs news' ⟨rfl, hzs⟩
      intro D2 h7 tk7 F7 N7 o2
      clear F6 N6
      repeat (walk1; try dsimp only)
      unfold Hold
      refine LSm.sum_ints F7 N7 rfl (isListOf N7 (.head _)) hzs ?_
      intro h8 tk8 t8 F8 N8
      rw [nats_sum]
      clear F7 N7
      replace N8 : News h₀ L h8 news' := cb_drop N8 fun p hp => .tail _ hp
      repeat (walk1; try dsimp only)
      unfold Hold
      refine xor_w ((packP qs size size).sum : Nat) ((goalP goal size size).sum : Nat) _ _ rfl rfl (1 + claimMargin + 1) 7 (some []) _ _ _ _ _ _ callerA base h₀ _ _ _ _ _ _ hB (by assumption) hX (by assumption) hT rfl (law_room (by decide)) (law_units (by decide)) ?_
      intro tm h9 tk9 F9 N9
      subst hW0
      repeat ((fail_if_success (with_reducible show wpAny _ _ (storeName _ _ _) _ _ _)); walk1; try dsimp only)
      k_dflt (refine storeX_D (pre := []) (by assumption) N9 hD rfl d4 ?_)
      intro h10 o10 F10 N10 D10 d10
      replace N10 : News h₀ L h10 (LCl L { c with mo := o10 } ++ R) := N10
      replace D10 : DJ (LCl L { c with mo := o10 } ++ R) := D10
      repeat (walk1; try dsimp only)
      (try dsimp only)
      repeat (walk1; try dsimp only)
      exact hret _ _ o10 _ tm d10 (fun y h => if_neg h) F10 N10 D10
end

section
open PySem PySem.W PyProof.Rows PySem.Calls PySem.Spec Builtin Builtin.ObjectAttr Builtin.Str
set_option maxHeartbeats 3000000
variable {w : World} {mean : ExcName → Option Value} {mg mb : Str → Option Value}
local macro_rules | `(tactic| walk_at "compareOp NotEq ref ref") => `(tactic| (k_here; refine Hold.of ?_))
theorem bitAnd_size (x : Nat) (size : Nat) (hs : size = 4 ∨ size = 8) : Builtin.bitAnd (x : Int) ((size : Nat) - 1 : Int) = ((x % size : Nat) : Int) := by
  rcases hs with rfl | rfl
  · rw [show (((4 : Nat) : Int) - 1) = 3 by rfl, bitAnd_m2]; rfl
  · rw [show (((8 : Nat) : Int) - 1) = 7 by rfl, bitAnd_m3]; rfl
theorem law15 (a0 a1 : Lx) (ok0 : a0.Ok) (ok1 : a1.Ok) (ocr0 ocr1 : Obj) (hcr0 : CodeOk ocr0) (hcr1 : CodeOk ocr1) (hz0 : a0.x.length < 2000) (hz1 : a1.x.length < 2000) (hy0 : 2 ≤ a0.x.length) (hy1 : 2 ≤ a1.x.length)
    (ln0 ln1 : Int) (tl0 tl1 tp0 tp1 : Tok) (n10 n20 n11 n21 p0 p1 : Nat) (dk dxk ll lc lk ls : Addr) (nk nl' nc nkn nsn : Nat) (css : List (Str × Tok)) (Y kvs svs : List Value) (kn sks : List Nat) (half f M : Nat) (tb : Obj) (t1 t2 tm : Tok) (hsf : (half = 2 ∧ f = 2) ∨ (half = 4 ∧ f = 3)) (hcl : css.length = 2 * half) (hkv : NatsAre kvs kn) (hkn : PermP half kn) (hsv : NatsAre svs sks) (hs8 : ∀ k ∈ sks, k < 8) (hs0 : sks ≠ []) (hs9 : sks.length < 20)
    (hbd : ∀ c ∈ css, c.1.length ≤ 1000) (hok : ∀ c ∈ css, PyData.strOk c.1 = true) (htb : TabOk tb) (z0 z1 : List Nat) (hz0' : Yields (remOf a0.x p0) (sks.map (· % 2)) z0) (hz1' : Yields (remOf a1.x p1) (sks.map (· / 2)) z1) (hlast : ∀ k, k < 2 * half → M / 2 ^ (f * k) % (2 * half) = (stepsP half sks kn).getD k 0) : PySem.Challenge.rw_xj0013_01 = PySem.Challenge.rw_xj0013_01 → hd.heap_1 = hd.heap_1 →
  ∀ (base h₀ : Heap) (L : Addr) (m : Str → Option Value) (R : Led) (c : Cs) (s : Shared) (Q : Flow → Shared → Prop) (E : Value → Shared → Prop),
    Below callerA base [] h₀ → Fr h₀ L s.heap m → (hd.heap_1 w.params).In h₀ → News h₀ L s.heap (LCl L c ++ (([(70, tb)] ++ ([(dk, accObj dxk Y nk)] ++ (a0.mut w ln0 tl0 [] n10 p0 tp0 n20 ++ a1.mut w ln1 tl1 [] n11 p1 tp1 n21))) ++ R)) → DJ (LCl L c ++ (([(70, tb)] ++ ([(dk, accObj dxk Y nk)] ++ (a0.mut w ln0 tl0 [] n10 p0 tp0 n20 ++ a1.mut w ln1 tl1 [] n11 p1 tp1 n21))) ++ R)) → Tp mean mg mb h₀ →
    AllBare s.gens → m (Str.ofString "deck") = some (.ref dk) → m (Str.ofString "lexers") = some (.ref ll) → m (Str.ofString "cards") = some (.ref lc) → m (Str.ofString "straight") = some (.ref ls) → c.si.data = .cell (some (.int (2 * half : Nat) t1)) → c.fi.data = .cell (some (.int f t2)) → c.kn.data = .cell (some (.ref lk)) → c.mo.data = .cell (some (.int M tm)) →
    (∀ q ∈ a0.imm w, q ∈ R) → (a0.cr, ocr0) ∈ R → (∀ q ∈ a1.imm w, q ∈ R) → (a1.cr, ocr1) ∈ R → (∃ tk, (dxk, accD w tk) ∈ R) → (ll, W.listOf [.ref a0.ix, .ref a1.ix].toArray nl') ∈ R → (lc, W.listOf (strVals css).toArray nc) ∈ R → (lk, W.listOf kvs.toArray nkn) ∈ R → (ls, W.listOf svs.toArray nsn) ∈ R → Cards R Y (orderP (css.map (·.1)) kn) →
    (∀ (h' : Heap) (tk' : Nat) (gs' : Array GenState) (m' : Str → Option Value) (tb' : Obj) (Y' : List Value) (nk' : Nat) (ln0' ln1' : Int) (tl0' tl1' tp0' tp1' : Tok) (n10' n20' n11' n21' p0' p1' : Nat) (X : Led), AllBare gs' → TabOk tb' → remOf a0.x p0' = z0 → remOf a1.x p1' = z1 → ln0' + nl z0 = ln0 + nl (remOf a0.x p0) → ln1' + nl z1 = ln1 + nl (remOf a1.x p1) → (∀ y, y ≠ Str.ofString "last" → m' y = m y) →
      Fr h₀ L h' m' → News h₀ L h' (LCl L c ++ (([(70, tb')] ++ ([(dk, accObj dxk Y' nk')] ++ (a0.mut w ln0' tl0' [] n10' p0' tp0' n20' ++ a1.mut w ln1' tl1' [] n11' p1' tp1' n21'))) ++ (X ++ R))) → DJ (LCl L c ++ (([(70, tb')] ++ ([(dk, accObj dxk Y' nk')] ++ (a0.mut w ln0' tl0' [] n10' p0' tp0' n20' ++ a1.mut w ln1' tl1' [] n11' p1' tp1' n21'))) ++ (X ++ R))) →
      Q .next { s with heap := h', toks := tk', gens := gs' }) →
    wpAny (model PySem.Challenge.pw_xj0013_01 w) (callerA.deeper (lawEnv w L)) (execs [lawStmt w.params 22, lawStmt w.params 23] (lawEnv w L)) Q E s := by
  k_fill; intro _ _ base h₀ L m R c s Q E hB hF hX hN hD hT hG hmd hml hmc hms d1 d2 d3 d4 him0 hcm0 him1 hcm1 hdx hll hlc hlk hls hY hret
  have eS22 : lawStmt w.params 22 = lawStmt w.params 22 := rfl
  conv at eS22 => rhs; whnf
  have eS23 : lawStmt w.params 23 = lawStmt w.params 23 := rfl
  conv at eS23 => rhs; whnf
  have e2 : fnScope w.params 225 = fnScope w.params 225 := rfl
  conv at e2 => rhs; whnf
  unfold lawEnv at *
  rw [eS22, eS23, e2]
  clear eS22 eS23 e2
  have mkn : (L + 1 + 1 + 1 + 1 + 1 + 1, c.kn) ∈ LCl L c ++ (([(70, tb)] ++ ([(dk, accObj dxk Y nk)] ++ (a0.mut w ln0 tl0 [] n10 p0 tp0 n20 ++ a1.mut w ln1 tl1 [] n11 p1 tp1 n21))) ++ R) := .tail _ (.tail _ (.tail _ (.head _)))
  generalize hW0 : LCl L c ++ (([(70, tb)] ++ ([(dk, accObj dxk Y nk)] ++ (a0.mut w ln0 tl0 [] n10 p0 tp0 n20 ++ a1.mut w ln1 tl1 [] n11 p1 tp1 n21))) ++ R) = W0 at hN mkn
  repeat (walk1; try dsimp only)
  unfold Hold
  have hhalf : half = 2 ∨ half = 4 := by (exact om302 hsf)
  (rename Fr _ _ _ _ => F1); (rename News _ _ _ _ => N1)
  subst hW0
  have mR : ∀ {q : Addr × Obj}, q ∈ R → q ∈ LCl L c ++ ([] ++ R) := fun h => List.mem_append_right _ h
  obtain ⟨tkd, hdx⟩ := hdx
  refine claimG_frame (run_w a0 a1 ok0 ok1 ocr0 ocr1 hcr0 hcr1 hz0 hz1 hy0 hy1 ln0 ln1 tl0 tl1 tp0 tp1 n10 n20 n11 n21 p0 p1 dk dxk ll lc lk ls nk nl' nc nkn nsn css kvs Y svs kn sks half tb hhalf hcl hkv hkn hsv hs8 hs0 hs9 hbd hok htb z0 z1 hz0' hz1' rfl rfl) ?hp (LCl L c) [] R (1 + claimMargin + 1) 7 (some []) _ _ _ _ _ _ callerA base h₀ _ _ _ _ _ hB F1 hX N1 hD ?hR hT rfl hG (law_room (by decide)) (law_units (by decide)) ?_
  case hp =>
    rintro v post extra ⟨lp', vs', Y', np', nk', tb', ln0', ln1', tl0', tl1', tp0', tp1', n10', n20', n11', n21', p0', p1', -, rfl, -, hDX, -⟩
    exact ⟨rfl, hDX⟩
  case hR =>
    exact ⟨hD.perm (perm3 (LCl L c) _ [] R), fun q hq => mR (him0 q hq), mR hcm0, fun q hq => mR (him1 q hq), mR hcm1, ⟨tkd, mR hdx⟩, mR hll, mR hlc, mR hlk, mR hls, hY.mono fun p hp => mR hp⟩
  rintro v post X h2 tk2 gs2 - hG2 F2 N2 D2 ⟨lq, lvs, Y', nq, nk', tb', ln0', ln1', tl0', tl1', tp0', tp1', n10', n20', n11', n21', p0', p1', rfl, rfl, htb', hDX, hlq, hlv, hcY', hq0, hq1, hK0, hK1⟩
  clear N1 F1
  replace N2 : News h₀ L h2 (LCl L c ++ (([(70, tb')] ++ ([(dk, accObj dxk Y' nk')] ++ (a0.mut w ln0' tl0' [] n10' p0' tp0' n20' ++ a1.mut w ln1' tl1' [] n11' p1' tp1' n21'))) ++ (X ++ R))) := N2
  replace D2 : DJ (LCl L c ++ (([(70, tb')] ++ ([(dk, accObj dxk Y' nk')] ++ (a0.mut w ln0' tl0' [] n10' p0' tp0' n20' ++ a1.mut w ln1' tl1' [] n11' p1' tp1' n21'))) ++ (X ++ R))) := D2
  have hlqW : (lq, W.listOf lvs.toArray nq) ∈ LCl L c ++ (([(70, tb')] ++ ([(dk, accObj dxk Y' nk')] ++ (a0.mut w ln0' tl0' [] n10' p0' tp0' n20' ++ a1.mut w ln1' tl1' [] n11' p1' tp1' n21'))) ++ (X ++ R)) := List.mem_append_right _ (List.mem_append_right _ (List.mem_append_left _ hlq))
  have msi : (L + 1 + 1 + 1, c.si) ∈ LCl L c ++ (([(70, tb')] ++ ([(dk, accObj dxk Y' nk')] ++ (a0.mut w ln0' tl0' [] n10' p0' tp0' n20' ++ a1.mut w ln1' tl1' [] n11' p1' tp1' n21'))) ++ (X ++ R)) := .tail _ (.tail _ (.tail _ (.tail _ (.tail _ (.tail _ (.head _))))))
  have mfi : (L + 1 + 1, c.fi) ∈ LCl L c ++ (([(70, tb')] ++ ([(dk, accObj dxk Y' nk')] ++ (a0.mut w ln0' tl0' [] n10' p0' tp0' n20' ++ a1.mut w ln1' tl1' [] n11' p1' tp1' n21'))) ++ (X ++ R)) := .tail _ (.tail _ (.tail _ (.tail _ (.tail _ (.tail _ (.tail _ (.head _)))))))
  have mmo : (L + 1 + 1 + 1 + 1 + 1 + 1 + 1 + 1 + 1, c.mo) ∈ LCl L c ++ (([(70, tb')] ++ ([(dk, accObj dxk Y' nk')] ++ (a0.mut w ln0' tl0' [] n10' p0' tp0' n20' ++ a1.mut w ln1' tl1' [] n11' p1' tp1' n21'))) ++ (X ++ R)) := .head _
  generalize hW3 : LCl L c ++ (([(70, tb')] ++ ([(dk, accObj dxk Y' nk')] ++ (a0.mut w ln0' tl0' [] n10' p0' tp0' n20' ++ a1.mut w ln1' tl1' [] n11' p1' tp1' n21'))) ++ (X ++ R)) = W3 at N2 msi mfi mmo hlqW
  repeat (walk1; try dsimp only)
  unfold Hold
  (rename IsRange _ _ _ _ _ _ _ _ => hR2); (rename Fr _ _ _ _ => F3); (rename News _ _ _ _ => N3)
  refine LCg.CompSrc.range rfl F3 N3 hR2 (rng_small _ (by (exact om359 hhalf))) (rng_size (2 * half)) (by rw [sizeLine_eq]; (exact om208 hhalf)) ?_
  intro g2
  have hst := PermP.steps hhalf hs8 hkn
  refine CompRest_ind (n := 2 * half) (fun i ys news => news = W3 ∧ NatsAre ys ((stepsP half sks kn).take i)) ?step2 ?fin2 (2 * half) 0 [] _ (by (exact om207)) ⟨rfl, .nil⟩
  case step2 =>
    rintro i ys news v I oI C oC' D' m₂ h' tk' E' hi ⟨rfl, hys⟩ ⟨t, rfl⟩ hNs hx F' N' off -
    have mm : ∀ {q : Addr × Obj}, q ∈ news → q ∈ (I, oI) :: (C, oC') :: (D', LCg.lst ys) :: news := fun h => .tail _ (.tail _ (.tail _ h))
    have msi2 := mm msi
    have mfi2 := mm mfi
    have mmo2 := mm mmo
    rw [show (0 + (i : Int)) = (i : Nat) by (exact om206)] at hx
    repeat (walk1; try dsimp only)
    unfold Hold
    have hfi : f * i < 100 := by rcases hsf with ⟨_, rfl⟩ | ⟨_, rfl⟩ <;> (first | exact om300 hi (by assumption) | exact om301 hi (by assumption))
    rw [show ((f : Int) * (i : Int)) = ((f * i : Nat) : Int) from (Int.natCast_mul _ _).symm]
    refine rshift_w (M : Nat) (f * i : Nat) tm _ (Int.natCast_nonneg _) (Int.natCast_nonneg _) (by (exact om299 hfi)) rfl rfl (1 + claimMargin + 1) 7 (some []) _ _ _ _ _ _ callerA base h₀ _ _ _ _ _ _ hB (by assumption) hX (by assumption) hT rfl (law_room (by decide)) (law_units (by decide)) ?_
    intro ta h5 tk5 F5 N5
    rw [show Int.fdiv ((M : Nat) : Int) (2 ^ ((f * i : Nat) : Int).toNat) = ((M / 2 ^ (f * i) : Nat) : Int) by rw [Int.toNat_natCast, show ((2 : Int) ^ (f * i)) = ((2 ^ (f * i) : Nat) : Int) by norm_cast, fdivNat]]
    repeat (walk1; try dsimp only)
    unfold Hold
    refine and_w (M / 2 ^ (f * i) : Nat) (((2 * half : Nat) : Int) - 1) _ _ rfl rfl (1 + claimMargin + 1) 7 (some []) _ _ _ _ _ _ callerA base h₀ _ _ _ _ _ _ hB (by assumption) hX (by assumption) hT rfl (law_room (by decide)) (law_units (by decide)) ?_
    intro tb2 h6 tk6 F6 N6
    rw [bitAnd_size _ (2 * half) (by (exact om298 hhalf)), hlast i hi]
    refine LCg.CompEnd.intro F6 N6 news (fun p hp => hp) off trivial ⟨rfl, ?_⟩
    have hgi : (stepsP half sks kn)[i]? = some ((stepsP half sks kn).getD i 0) := by
      rw [List.getD_eq_getElem?_getD, List.getElem?_eq_getElem (by rw [hst.len]; exact hi)]; rfl
    rw [List.take_add_one, hgi, Option.toList_some]
    exact hys.snoc _ _
  case fin2 =>
    rintro ys news ⟨rfl, hys⟩
    rw [List.take_of_length_le (by rw [hst.len]; (exact om297))] at hys
    intro D h tk F N o1
    clear F3 N3
    repeat (walk1; try dsimp only)
    unfold Hold
    obtain ⟨as1, r1⟩ := nats_reads (N _ (.tail _ hlqW)).1 hlv
    obtain ⟨as2, r2⟩ := nats_reads (N _ (.head _)).1 hys
    refine SeqAt.compareNe_reads r1 r2 (natsD_can _) (natsD_can _) ?hu ?_
    case hu =>
      rw [natsD_depth]
      exact (show 7 + min 1 1 < cLine by decide)
    rw [SeqAt.eqv_refl _ (natsD_can _)]
    repeat (walk1; try dsimp only)
    (rename Fr _ _ _ _ => FZ); (rename News _ _ _ _ => NZ)
    subst hW3
    (try dsimp only)
    repeat (walk1; try dsimp only)
    exact hret _ _ gs2 _ tb' Y' nk' ln0' ln1' tl0' tl1' tp0' tp1' n10' n20' n11' n21' p0' p1' X hG2 htb' hq0 hq1 hK0 hK1 (fun y h => if_neg h) FZ (cb_drop NZ fun p hp => .tail _ hp) D2
end

section
open PySem PySem.W PyProof.Rows PySem.Calls PySem.Spec Builtin Builtin.ObjectAttr Builtin.Str
set_option maxHeartbeats 3000000
variable {w : World} {mean : ExcName → Option Value} {mg mb : Str → Option Value}
theorem get_token_end (a : Lx) (ok : a.Ok) (ocr : Obj) (hcr : CodeOk ocr) (hz : a.x.length < 2000) (hz2 : 2 ≤ a.x.length) (ln : Int) (tl : Tok) (n1 p : Nat) (tp : Tok) (n2 : Nat) (he : tokS (remOf a.x p) = ([], [])) : PySem.Challenge.rw_xj0013_01 = PySem.Challenge.rw_xj0013_01 → hd.heap_1 = hd.heap_1 →
    ClaimL w mean mg mb 2 (.ref 133) [.ref a.ix] (a.mut w ln tl [] n1 p tp n2) (fun rest => (∀ q ∈ a.imm w, q ∈ rest) ∧ (a.cr, ocr) ∈ rest)
    (fun v' post extra => ∃ t tl' p' tp' n2', v' = .str ⟨#[]⟩ t ∧ post = a.mut w (ln + nl (remOf a.x p)) tl' [] n1 (p' : Nat) tp' n2' ∧ extra = []) := by
  intro r1 r2 dp un gd cn cs b ccd cl outer A₀ base h₀ L m rest s Q E hB hF hX hN hO hR hT hk hdp hun hret
  refine wpAny_call (get_token_t0 a ok ocr hcr hz hz2 ln tl n1 p tp n2 r1 r2 dp un gd cn cs b ccd cl outer A₀ base h₀ L m rest s _ 0 hB hF hX hN hO hR hT hk hdp hun (Nat.zero_le _) ?_)
  rintro v post extra h' tk' F N O1 O2 ⟨t, tl', p', tp', n2', -, rfl, hp', rfl, rfl⟩
  rw [he] at hp' ⊢
  have e : ln + nl (remOf a.x p) - nl (remOf a.x p') = ln + nl (remOf a.x p) := by
    rw [hp']; show ln + nl (remOf a.x p) - 0 = _; (exact om303)
  rw [e] at N O1
  (try dsimp only)
  repeat (walk1; try dsimp only)
  exact hret _ _ _ _ _ F N O1 O2 ⟨t, tl', p', tp', n2', rfl, rfl, rfl⟩
noncomputable def EndJ (w : World) (L : Addr) (c : Cs) (R : Led) (a0 a1 : Lx) (ln0 ln1 : Int) (tl0 tl1 tp0 tp1 : Tok) (n10 n20 n11 n21 p0 p1 : Nat) (i : Nat) (ys : List Value) (news : Led) : Prop := match i with
  | 0 => ys = [] ∧ news = LCl L c ++ ((a0.mut w ln0 tl0 [] n10 p0 tp0 n20 ++ a1.mut w ln1 tl1 [] n11 p1 tp1 n21) ++ R) ∧ DJ news
  | 1 => ∃ (tA tl0' tp0' : Tok) (n20' p0' : Nat), ys = [.str ⟨#[]⟩ tA] ∧ news = LCl L c ++ ((a0.mut w (ln0 + nl (remOf a0.x p0)) tl0' [] n10 p0' tp0' n20' ++ a1.mut w ln1 tl1 [] n11 p1 tp1 n21) ++ R) ∧ DJ news
  | _ => ∃ (tA tB tl0' tp0' tl1' tp1' : Tok) (n20' p0' n21' p1' : Nat), ys = [.str ⟨#[]⟩ tA, .str ⟨#[]⟩ tB] ∧ news = LCl L c ++ ((a0.mut w (ln0 + nl (remOf a0.x p0)) tl0' [] n10 p0' tp0' n20' ++ a1.mut w (ln1 + nl (remOf a1.x p1)) tl1' [] n11 p1' tp1' n21') ++ R) ∧ DJ news
theorem law16 (a0 a1 : Lx) (ok0 : a0.Ok) (ok1 : a1.Ok) (ocr0 ocr1 : Obj) (hcr0 : CodeOk ocr0) (hcr1 : CodeOk ocr1) (hz0 : a0.x.length < 2000) (hz1 : a1.x.length < 2000) (hy0 : 2 ≤ a0.x.length) (hy1 : 2 ≤ a1.x.length)
    (ln0 ln1 : Int) (tl0 tl1 tp0 tp1 : Tok) (n10 n20 n11 n21 p0 p1 : Nat) (ll : Addr) (nl' : Nat) (he0 : tokS (remOf a0.x p0) = ([], [])) (he1 : tokS (remOf a1.x p1) = ([], [])) : PySem.Challenge.rw_xj0013_01 = PySem.Challenge.rw_xj0013_01 → hd.heap_1 = hd.heap_1 →
  ∀ (base h₀ : Heap) (L : Addr) (m : Str → Option Value) (R : Led) (c : Cs) (s : Shared) (Q : Flow → Shared → Prop) (E : Value → Shared → Prop),
    Below callerA base [] h₀ → Fr h₀ L s.heap m → (hd.heap_1 w.params).In h₀ → News h₀ L s.heap (LCl L c ++ ((a0.mut w ln0 tl0 [] n10 p0 tp0 n20 ++ a1.mut w ln1 tl1 [] n11 p1 tp1 n21) ++ R)) → DJ (LCl L c ++ ((a0.mut w ln0 tl0 [] n10 p0 tp0 n20 ++ a1.mut w ln1 tl1 [] n11 p1 tp1 n21) ++ R)) → Tp mean mg mb h₀ →
    m (Str.ofString "lexers") = some (.ref ll) → (ll, W.listOf [.ref a0.ix, .ref a1.ix].toArray nl') ∈ R → (∀ q ∈ a0.imm w, q ∈ R) → (a0.cr, ocr0) ∈ R → (∀ q ∈ a1.imm w, q ∈ R) → (a1.cr, ocr1) ∈ R →
    (∀ (h' : Heap) (tk' : Nat) (le : Addr) (ne : Nat) (tA tB tl0' tp0' tl1' tp1' : Tok) (n20' p0' n21' p1' : Nat), Fr h₀ L h' (fun y => if y = Str.ofString "ends" then some (.ref le) else m y) → News h₀ L h' ((le, W.listOf [Value.str ⟨#[]⟩ tA, .str ⟨#[]⟩ tB].toArray ne) :: (LCl L c ++ ((a0.mut w (ln0 + nl (remOf a0.x p0)) tl0' [] n10 p0' tp0' n20' ++ a1.mut w (ln1 + nl (remOf a1.x p1)) tl1' [] n11 p1' tp1' n21') ++ R))) → DJ ((le, W.listOf [Value.str ⟨#[]⟩ tA, .str ⟨#[]⟩ tB].toArray ne) :: (LCl L c ++ ((a0.mut w (ln0 + nl (remOf a0.x p0)) tl0' [] n10 p0' tp0' n20' ++ a1.mut w (ln1 + nl (remOf a1.x p1)) tl1' [] n11 p1' tp1' n21') ++ R))) →
      Q .next { s with heap := h', toks := tk' }) →
    wpAny (model PySem.Challenge.pw_xj0013_01 w) (callerA.deeper (lawEnv w L)) (execs [lawStmt w.params 24] (lawEnv w L)) Q E s := by
  k_fill; intro _ _ base h₀ L m R c s Q E hB hF hX hN hD hT hml hll him0 hcm0 him1 hcm1 hret
  have eS24 : lawStmt w.params 24 = lawStmt w.params 24 := rfl
  conv at eS24 => rhs; whnf
  have e2 : fnScope w.params 225 = fnScope w.params 225 := rfl
  conv at e2 => rhs; whnf
  unfold lawEnv at *
  rw [eS24, e2]
  clear eS24 e2
  have hll' : (ll, W.listOf [.ref a0.ix, .ref a1.ix].toArray nl') ∈ LCl L c ++ ((a0.mut w ln0 tl0 [] n10 p0 tp0 n20 ++ a1.mut w ln1 tl1 [] n11 p1 tp1 n21) ++ R) := List.mem_append_right _ (List.mem_append_right _ hll)
  repeat (walk1; try dsimp only)
  unfold Hold
  (rename Fr _ _ _ _ => F2); (rename News _ _ _ _ => N2)
  refine LCg.CompSrc.ledger rfl F2 N2 hll' (show 2 ≤ sizeLine by decide) ?_
  intro g2
  refine CompRest_ind (n := 2) (EndJ w L c R a0 a1 ln0 ln1 tl0 tl1 tp0 tp1 n10 n20 n11 n21 p0 p1) ?step2 ?fin2 2 0 [] _ (by (exact om263)) ⟨rfl, rfl, hD⟩
  case step2 =>
    rintro i ys news v I oI C oC' D' m₂ h' tk' E' hi hJ hPv hNs hx F' N' off ne
    rcases (show i = 0 ∨ i = 1 by (exact om115 hi)) with rfl | rfl
    · obtain ⟨rfl, rfl, hDn⟩ := hJ
      obtain rfl : Value.ref a0.ix = v := Option.some.inj hPv
      have D1 := DJ.comp (oi := oI) (oc := oC') (od := LCg.lst []) ne (fun p hp => LCg.Off3.mem off p hp) hDn
      have hix : (a0.ix, instObj 143 a0.dix) ∈ (I, oI) :: (C, oC') :: (D', LCg.lst []) :: (LCl L c ++ ((a0.mut w ln0 tl0 [] n10 p0 tp0 n20 ++ a1.mut w ln1 tl1 [] n11 p1 tp1 n21) ++ R)) := .tail _ (.tail _ (.tail _ (List.mem_append_right _ (List.mem_append_right _ (him0 _ (.head _))))))
      have hdi : (a0.dix, netD w a0.t1 a0.t2 a0.t3 a0.t4 tl0 a0.tw ln0 a0.sf a0.pb) ∈ (I, oI) :: (C, oC') :: (D', LCg.lst []) :: (LCl L c ++ ((a0.mut w ln0 tl0 [] n10 p0 tp0 n20 ++ a1.mut w ln1 tl1 [] n11 p1 tp1 n21) ++ R)) := .tail _ (.tail _ (.tail _ (List.mem_append_right _ (.head _))))
      have hCm : (C, oC') ∈ (I, oI) :: (C, oC') :: (D', LCg.lst []) :: (LCl L c ++ ((a0.mut w ln0 tl0 [] n10 p0 tp0 n20 ++ a1.mut w ln1 tl1 [] n11 p1 tp1 n21) ++ R)) := .tail _ (.head _)
      have N'' := N'
      generalize hWW : (I, oI) :: (C, oC') :: (D', LCg.lst []) :: (LCl L c ++ ((a0.mut w ln0 tl0 [] n10 p0 tp0 n20 ++ a1.mut w ln1 tl1 [] n11 p1 tp1 n21) ++ R)) = WW at N'' hix hdi hCm
      clear N'
      repeat (walk1; try dsimp only)
      unfold Hold
      subst hWW
      (rename Fr _ _ _ _ => F5); (rename News _ _ _ _ => N5)
      refine claim_frame (get_token_end a0 ok0 ocr0 hcr0 hz0 hy0 ln0 tl0 n10 p0 tp0 n20 he0 rfl rfl) (fun v post extra h => ?_) ((I, oI) :: (C, oC') :: (D', LCg.lst []) :: LCl L c) (a1.mut w ln1 tl1 [] n11 p1 tp1 n21) R (1 + claimMargin + 1) 7 (some []) _ _ _ _ _ _ callerA base h₀ _ _ _ _ _ hB F5 hX N5 D1 ⟨fun q hq => List.mem_append_right _ (List.mem_append_right _ (him0 q hq)), List.mem_append_right _ (List.mem_append_right _ hcm0)⟩ hT rfl (law_room (by decide)) (law_units (by decide)) ?_
      · obtain ⟨_, _, _, _, _, -, rfl, rfl⟩ := h
        exact ⟨rfl, DJ.nil⟩
      rintro v6 post6 extra6 h6 tk6 - F6 N6 D6 ⟨tA, tl0', p0', tp0', n20', rfl, rfl, rfl⟩
      have D7 : DJ (LCl L c ++ ((a0.mut w (ln0 + nl (remOf a0.x p0)) tl0' [] n10 p0' tp0' n20' ++ a1.mut w ln1 tl1 [] n11 p1 tp1 n21) ++ R)) := DJ.right (a := [_, _, _]) D6
      have o1 := DJ.off (a := [_]) D6 _ (.head _)
      have o2 := DJ.off (a := [_]) (DJ.right (a := [_]) D6) _ (.head _)
      have o3 := DJ.off (a := [_]) (DJ.right (a := [_, _]) D6) _ (.head _)
      refine LCg.CompEnd.intro F6 N6 (LCl L c ++ ((a0.mut w (ln0 + nl (remOf a0.x p0)) tl0' [] n10 p0' tp0' n20' ++ a1.mut w ln1 tl1 [] n11 p1 tp1 n21) ++ R)) (fun p hp => hp) (LCg.Off3.of fun p hp => ⟨o1 p (.tail _ (.tail _ hp)), o2 p (.tail _ hp), o3 p hp⟩) (.inr ⟨_, List.mem_append_right _ (List.mem_append_right _ hll), rfl, _, rfl⟩) ⟨tA, tl0', tp0', n20', p0', rfl, rfl, D7⟩
    · obtain ⟨tA, tl0', tp0', n20', p0', rfl, rfl, hDn⟩ := hJ
      obtain rfl : Value.ref a1.ix = v := Option.some.inj hPv
      have D1 := DJ.comp (oi := oI) (oc := oC') (od := LCg.lst [Value.str ⟨#[]⟩ tA]) ne (fun p hp => LCg.Off3.mem off p hp) hDn
      have hix : (a1.ix, instObj 143 a1.dix) ∈ (I, oI) :: (C, oC') :: (D', LCg.lst [Value.str ⟨#[]⟩ tA]) :: (LCl L c ++ ((a0.mut w (ln0 + nl (remOf a0.x p0)) tl0' [] n10 p0' tp0' n20' ++ a1.mut w ln1 tl1 [] n11 p1 tp1 n21) ++ R)) := .tail _ (.tail _ (.tail _ (List.mem_append_right _ (List.mem_append_right _ (him1 _ (.head _))))))
      have hdi : (a1.dix, netD w a1.t1 a1.t2 a1.t3 a1.t4 tl1 a1.tw ln1 a1.sf a1.pb) ∈ (I, oI) :: (C, oC') :: (D', LCg.lst [Value.str ⟨#[]⟩ tA]) :: (LCl L c ++ ((a0.mut w (ln0 + nl (remOf a0.x p0)) tl0' [] n10 p0' tp0' n20' ++ a1.mut w ln1 tl1 [] n11 p1 tp1 n21) ++ R)) := .tail _ (.tail _ (.tail _ (List.mem_append_right _ (List.mem_append_left _ (List.mem_append_right _ (.head _))))))
      have hCm : (C, oC') ∈ (I, oI) :: (C, oC') :: (D', LCg.lst [Value.str ⟨#[]⟩ tA]) :: (LCl L c ++ ((a0.mut w (ln0 + nl (remOf a0.x p0)) tl0' [] n10 p0' tp0' n20' ++ a1.mut w ln1 tl1 [] n11 p1 tp1 n21) ++ R)) := .tail _ (.head _)
      have N'' := N'
      generalize hWW : (I, oI) :: (C, oC') :: (D', LCg.lst [Value.str ⟨#[]⟩ tA]) :: (LCl L c ++ ((a0.mut w (ln0 + nl (remOf a0.x p0)) tl0' [] n10 p0' tp0' n20' ++ a1.mut w ln1 tl1 [] n11 p1 tp1 n21) ++ R)) = WW at N'' hix hdi hCm
      clear N'
      repeat (walk1; try dsimp only)
      unfold Hold
      subst hWW
      (rename Fr _ _ _ _ => F5); (rename News _ _ _ _ => N5)
      refine claim_frame (get_token_end a1 ok1 ocr1 hcr1 hz1 hy1 ln1 tl1 n11 p1 tp1 n21 he1 rfl rfl) (fun v post extra h => ?_) ((I, oI) :: (C, oC') :: (D', LCg.lst [Value.str ⟨#[]⟩ tA]) :: (LCl L c ++ a0.mut w (ln0 + nl (remOf a0.x p0)) tl0' [] n10 p0' tp0' n20')) [] R (1 + claimMargin + 1) 7 (some []) _ _ _ _ _ _ callerA base h₀ _ _ _ _ _ hB F5 hX N5 D1 ⟨fun q hq => List.mem_append_right _ (him1 q hq), List.mem_append_right _ hcm1⟩ hT rfl (law_room (by decide)) (law_units (by decide)) ?_
      · obtain ⟨_, _, _, _, _, -, rfl, rfl⟩ := h
        exact ⟨rfl, DJ.nil⟩
      rintro v6 post6 extra6 h6 tk6 - F6 N6 D6 ⟨tB, tl1', p1', tp1', n21', rfl, rfl, rfl⟩
      have D7 : DJ (LCl L c ++ ((a0.mut w (ln0 + nl (remOf a0.x p0)) tl0' [] n10 p0' tp0' n20' ++ a1.mut w (ln1 + nl (remOf a1.x p1)) tl1' [] n11 p1' tp1' n21') ++ R)) := DJ.right (a := [_, _, _]) D6
      have o1 := DJ.off (a := [_]) D6 _ (.head _)
      have o2 := DJ.off (a := [_]) (DJ.right (a := [_]) D6) _ (.head _)
      have o3 := DJ.off (a := [_]) (DJ.right (a := [_, _]) D6) _ (.head _)
      refine LCg.CompEnd.intro F6 N6 (LCl L c ++ ((a0.mut w (ln0 + nl (remOf a0.x p0)) tl0' [] n10 p0' tp0' n20' ++ a1.mut w (ln1 + nl (remOf a1.x p1)) tl1' [] n11 p1' tp1' n21') ++ R)) (fun p hp => hp) (LCg.Off3.of fun p hp => ⟨o1 p (.tail _ (.tail _ hp)), o2 p (.tail _ hp), o3 p hp⟩) (.inr ⟨_, List.mem_append_right _ (List.mem_append_right _ hll), rfl, _, rfl⟩) ⟨tA, tB, tl0', tp0', tl1', tp1', n20', p0', n21', p1', rfl, rfl, D7⟩
  case fin2 =>
    rintro ys news ⟨tA, tB, tl0', tp0', tl1', tp1', n20', p0', n21', p1', rfl, rfl, hD2⟩
    intro D h tk F N o1
    (try dsimp only)
    repeat (walk1; try dsimp only)
    exact hret _ _ D _ tA tB tl0' tp0' tl1' tp1' n20' p0' n21' p1' F N (DJ.cons (off1_mem o1) hD2)
end

section
open PySem PySem.W PyProof.Rows PySem.Calls PySem.Spec Builtin Builtin.ObjectAttr Builtin.Str
set_option maxHeartbeats 3000000
variable {w : World} {mean : ExcName → Option Value} {mg mb : Str → Option Value}
local macro_rules | `(tactic| walk_at "compareOp Eq ref ref") => `(tactic| (k_here; refine Hold.of ?_))
theorem law17 (a0 a1 : Lx) (tl0 tl1 tp0 tp1 : Tok) (n10 n20 n11 n21 k0 k1 : Nat) (p0 p1 : Int) (ll le lf : Addr) (nl' ne nf : Nat) (tA tB tf0 tf1 : Tok) (f0 f1 : Str) (hc0 : 1 + Txt.count f0 (Str.ofString "\n") = ((k0 : Nat) : Int)) (hc1 : 1 + Txt.count f1 (Str.ofString "\n") = ((k1 : Nat) : Int)) : PySem.Challenge.rw_xj0013_01 = PySem.Challenge.rw_xj0013_01 → hd.heap_1 = hd.heap_1 →
  ∀ (base h₀ : Heap) (L : Addr) (m : Str → Option Value) (R : Led) (c : Cs) (s : Shared) (Q : Flow → Shared → Prop) (E : Value → Shared → Prop),
    Below callerA base [] h₀ → Fr h₀ L s.heap m → (hd.heap_1 w.params).In h₀ → News h₀ L s.heap (LCl L c ++ ((a0.mut w (k0 : Nat) tl0 [] n10 p0 tp0 n20 ++ a1.mut w (k1 : Nat) tl1 [] n11 p1 tp1 n21) ++ R)) → DJ (LCl L c ++ ((a0.mut w (k0 : Nat) tl0 [] n10 p0 tp0 n20 ++ a1.mut w (k1 : Nat) tl1 [] n11 p1 tp1 n21) ++ R)) → Tp mean mg mb h₀ →
    m (Str.ofString "lexers") = some (.ref ll) → m (Str.ofString "ends") = some (.ref le) → m (Str.ofString "files") = some (.ref lf) → (ll, W.listOf [.ref a0.ix, .ref a1.ix].toArray nl') ∈ R → (le, W.listOf [Value.str ⟨#[]⟩ tA, .str ⟨#[]⟩ tB].toArray ne) ∈ R → (lf, W.listOf [Value.str f0 tf0, .str f1 tf1].toArray nf) ∈ R → (∀ q ∈ a0.imm w, q ∈ R) → (∀ q ∈ a1.imm w, q ∈ R) →
    (∀ (h' : Heap) (tk' : Nat), Fr h₀ L h' m → News h₀ L h' R → Q (.ret (.bool true)) { s with heap := h', toks := tk' }) →
    wpAny (model PySem.Challenge.pw_xj0013_01 w) (callerA.deeper (lawEnv w L)) (execs [lawStmt w.params 25] (lawEnv w L)) Q E s := by
  k_fill; intro _ _ base h₀ L m R c s Q E hB hF hX hN hD hT hml hme hmf hll hle hlf him0 him1 hret
  have eS25 : lawStmt w.params 25 = lawStmt w.params 25 := rfl
  conv at eS25 => rhs; whnf
  have e2 : fnScope w.params 225 = fnScope w.params 225 := rfl
  conv at e2 => rhs; whnf
  unfold lawEnv at *
  rw [eS25, e2]
  clear eS25 e2
  have mR : ∀ {q : Addr × Obj}, q ∈ R → q ∈ LCl L c ++ ((a0.mut w (k0 : Nat) tl0 [] n10 p0 tp0 n20 ++ a1.mut w (k1 : Nat) tl1 [] n11 p1 tp1 n21) ++ R) := fun h => List.mem_append_right _ (List.mem_append_right _ h)
  have hll' := mR hll
  have hle' := mR hle
  have hlf' := mR hlf
  have hix0 := mR (him0 _ (.head _))
  have hix1 := mR (him1 _ (.head _))
  have hd0 : (a0.dix, netD w a0.t1 a0.t2 a0.t3 a0.t4 tl0 a0.tw (k0 : Nat) a0.sf a0.pb) ∈ LCl L c ++ ((a0.mut w (k0 : Nat) tl0 [] n10 p0 tp0 n20 ++ a1.mut w (k1 : Nat) tl1 [] n11 p1 tp1 n21) ++ R) := List.mem_append_right _ (.head _)
  have hd1 : (a1.dix, netD w a1.t1 a1.t2 a1.t3 a1.t4 tl1 a1.tw (k1 : Nat) a1.sf a1.pb) ∈ LCl L c ++ ((a0.mut w (k0 : Nat) tl0 [] n10 p0 tp0 n20 ++ a1.mut w (k1 : Nat) tl1 [] n11 p1 tp1 n21) ++ R) := List.mem_append_right _ (List.mem_append_left _ (List.mem_append_right _ (.head _)))
  have hsub : ∀ p ∈ R, p ∈ LCl L c ++ ((a0.mut w (k0 : Nat) tl0 [] n10 p0 tp0 n20 ++ a1.mut w (k1 : Nat) tl1 [] n11 p1 tp1 n21) ++ R) := fun p hp => mR hp
  generalize LCl L c ++ ((a0.mut w (k0 : Nat) tl0 [] n10 p0 tp0 n20 ++ a1.mut w (k1 : Nat) tl1 [] n11 p1 tp1 n21) ++ R) = W0 at hN hD hll' hle' hlf' hix0 hix1 hd0 hd1 hsub
  clear mR
  repeat (walk1; try dsimp only)
  unfold Hold
  (rename Fr _ _ _ _ => F1); (rename News _ _ _ _ => N1)
  refine SeqAt.compareEq_reads (da := .list [.str ⟨#[]⟩, .str ⟨#[]⟩]) (db := .list [.str (Str.ofString ""), .str (Str.ofString "")]) (.list (N1 _ (.tail _ hle')).1 rfl rfl (.cons (.str _ _) (.cons (.str _ _) .nil))) (.list (N1 _ (.head _)).1 rfl rfl (.cons (.str _ _) (.cons (.str _ _) .nil))) (by decide +kernel) (by decide +kernel) ?hu ?_
  case hu => exact (show 7 + min (PyData.depth (.list [.str ⟨#[]⟩, .str ⟨#[]⟩])) (PyData.depth (.list [.str (Str.ofString ""), .str (Str.ofString "")])) < cLine by decide +kernel)
  rw [show PyData.eqv (.list [.str ⟨#[]⟩, .str ⟨#[]⟩]) (.list [.str (Str.ofString ""), .str (Str.ofString "")]) = true by decide +kernel]
  have N2 := cb_drop N1 fun p hp => .tail _ hp
  clear N1
  repeat (walk1; try dsimp only)
  unfold Hold
  (rename Fr _ _ _ _ => F2)
  refine LCg.CompSrc.ledger rfl F2 N2 hll' (show 2 ≤ sizeLine by decide) ?_
  intro g2
  refine CompRest_ind (n := 2) (fun i ys news => news = W0 ∧ NatsAre ys ([k0, k1].take i)) ?step2 ?fin2 2 0 [] _ (by (exact om263)) ⟨rfl, .nil⟩
  case step2 =>
    rintro i ys news v I oI C oC' D' m₂ h' tk' E' hi ⟨rfl, hys⟩ hPv hNs hx F' N' off -
    have mm : ∀ {q : Addr × Obj}, q ∈ news → q ∈ (I, oI) :: (C, oC') :: (D', LCg.lst ys) :: news := fun h => .tail _ (.tail _ (.tail _ h))
    have i0 := mm hix0
    have i1 := mm hix1
    have j0 := mm hd0
    have j1 := mm hd1
    rcases (show i = 0 ∨ i = 1 by (exact om115 hi)) with rfl | rfl
    · obtain rfl : Value.ref a0.ix = v := Option.some.inj hPv
      repeat (walk1; try dsimp only)
      exact LCg.CompEnd.intro F' N' news (fun p hp => hp) off (.inr ⟨_, hll', rfl, _, rfl⟩) ⟨rfl, hys.snoc k0 tl0⟩
    · obtain rfl : Value.ref a1.ix = v := Option.some.inj hPv
      repeat (walk1; try dsimp only)
      exact LCg.CompEnd.intro F' N' news (fun p hp => hp) off (.inr ⟨_, hll', rfl, _, rfl⟩) ⟨rfl, hys.snoc k1 tl1⟩
  case fin2 =>
    rintro ys news ⟨rfl, hys⟩
    intro D h tk F N o1
    clear F2 N2
    have hlf2 := List.Mem.tail (D, LCg.lst ys) hlf'
    repeat (walk1; try dsimp only)
    unfold Hold
    (rename Fr _ _ _ _ => F3); (rename News _ _ _ _ => N3)
    refine LCg.CompSrc.ledger rfl F3 N3 hlf2 (show 2 ≤ sizeLine by decide) ?_
    intro g3
    refine CompRest_ind (n := 2) (fun i zs news' => news' = (D, LCg.lst ys) :: news ∧ NatsAre zs ([k0, k1].take i)) ?step3 ?fin3 2 0 [] _ (by (exact om263)) ⟨rfl, .nil⟩
    case step3 =>
      rintro i zs news' v I oI C oC' D' m₂ h' tk' E' hi ⟨rfl, hzs⟩ hPv hNs hx F' N' off -
      rcases (show i = 0 ∨ i = 1 by (exact om115 hi)) with rfl | rfl
      · obtain rfl : Value.str f0 tf0 = v := Option.some.inj hPv
        repeat (walk1; try dsimp only)
        rw [hc0]
        exact LCg.CompEnd.intro F' N' ((D, LCg.lst ys) :: news) (fun p hp => hp) off (.inr ⟨_, hlf2, rfl, _, rfl⟩) ⟨rfl, hzs.snoc k0 _⟩
      · obtain rfl : Value.str f1 tf1 = v := Option.some.inj hPv
        repeat (walk1; try dsimp only)
        rw [hc1]
        exact LCg.CompEnd.intro F' N' ((D, LCg.lst ys) :: news) (fun p hp => hp) off (.inr ⟨_, hlf2, rfl, _, rfl⟩) ⟨rfl, hzs.snoc k1 _⟩
    case fin3 =>
      rintro zs news' ⟨rfl, hzs⟩
      intro D2 h2 tk2 F4 N4 o2
      obtain ⟨as1, r1⟩ := nats_reads (N4 _ (.tail _ (.head _))).1 hys
      obtain ⟨as2, r2⟩ := nats_reads (N4 _ (.head _)).1 hzs
      repeat (walk1; try dsimp only)
      unfold Hold
      refine SeqAt.compareEq_reads r1 r2 (natsD_can _) (natsD_can _) ?hu ?_
      case hu =>
        rw [natsD_depth]
        exact (show 7 + min 1 1 < cLine by decide)
      rw [SeqAt.eqv_refl _ (natsD_can _)]
      repeat (walk1; try dsimp only)
      (rename Fr _ _ _ _ => FZ); (rename News _ _ _ _ => NZ)
      (try dsimp only)
      repeat (walk1; try dsimp only)
      exact hret _ _ FZ (cb_drop NZ fun p hp => .tail _ (.tail _ (hsub p hp)))
end

section
open PySem PySem.W PyProof.Rows PySem.Calls PySem.Spec Builtin Builtin.ObjectAttr Builtin.Str
set_option maxHeartbeats 2000000
theorem xor_add (a : Nat) : ∀ b, (a ^^^ b) + 2 * (a &&& b) = a + b := by
  induction a using Nat.strongRecOn with
  | ind a ih =>
    intro b
    by_cases h : a = 0
    · subst h; simp
    · have h1 := ih (a / 2) (by (exact om309 h)) (b / 2)
      have e1 : (a ^^^ b) / 2 = (a / 2) ^^^ (b / 2) := Nat.xor_div_two
      have e2 : (a &&& b) / 2 = (a / 2) &&& (b / 2) := Nat.and_div_two
      rw [← e1, ← e2] at h1
      have e3 := @Nat.xor_mod_two_eq_one a b
      have e4 := @Nat.and_mod_two_eq_one a b
      (exact om308 h1 e3 e4)
theorem bitXor_nat (a b : Nat) : Builtin.bitXor (a : Int) (b : Int) = ((a ^^^ b : Nat) : Int) := by
  rw [bitXor_and]
  have e : Builtin.bitAnd (a : Int) (b : Int) = ((a &&& b : Nat) : Int) := by
    unfold Builtin.bitAnd
    rw [decide_eq_true (Int.natCast_nonneg a), decide_eq_true (Int.natCast_nonneg b)]
    rfl
  rw [e]
  have := xor_add a b
  (exact om307 this)
/-- the digits of a number written to a base -/
noncomputable def digSum (base : Nat) : List Nat → Nat
  | [] => 0
  | d :: r => d + base * digSum base r
theorem digSum_at (base : Nat) (hb : 0 < base) : ∀ (ds : List Nat) (k : Nat), (∀ d ∈ ds, d < base) → digSum base ds / base ^ k % base = ds.getD k 0
  | [], k, _ => by simp [digSum]
  | d :: r, 0, h => by
    have := h d (.head _)
    simp [digSum, Nat.add_mul_mod_self_left, Nat.mod_eq_of_lt this]
  | d :: r, k + 1, h => by
    have hd := h d (.head _)
    rw [Nat.pow_succ, Nat.mul_comm, ← Nat.div_div_eq_div_mul, digSum, Nat.add_mul_div_left _ _ hb, Nat.div_eq_of_lt hd, Nat.zero_add]
    rw [digSum_at base hb r k fun x hx => h x (.tail _ hx)]
    rfl
theorem sum_shift (base : Nat) (g : Nat → Nat) : ∀ n, ((List.range n).map fun k => g (k + 1) * base ^ (k + 1)).sum = base * ((List.range n).map fun k => g (k + 1) * base ^ k).sum
  | 0 => by simp
  | n + 1 => by
    rw [List.range_succ, List.map_append, List.map_append, List.sum_append, List.sum_append, sum_shift base g n, Nat.mul_add]
    simp only [List.map_cons, List.map_nil, List.sum_cons, List.sum_nil, Nat.add_zero, Nat.pow_succ]
    rw [← Nat.mul_assoc, Nat.mul_comm _ base]
theorem range_sum_dig (base : Nat) : ∀ (ds : List Nat), ((List.range ds.length).map fun k => ds.getD k 0 * base ^ k).sum = digSum base ds
  | [] => rfl
  | d :: r => by
    have h := range_sum_dig base r
    rw [List.length_cons, List.range_succ_eq_map, List.map_cons, List.sum_cons, List.map_map]
    have e : ((fun k => (d :: r).getD k 0 * base ^ k) ∘ Nat.succ) = fun k => (fun j => (d :: r).getD j 0) (k + 1) * base ^ (k + 1) := rfl
    rw [e, sum_shift base (fun j => (d :: r).getD j 0) r.length]
    have e2 : (fun k => (fun j => (d :: r).getD j 0) (k + 1) * base ^ k) = fun k => r.getD k 0 * base ^ k := by
      funext k
      simp [List.getD_eq_getElem?_getD]
    rw [e2, h, digSum]
    simp [List.getD_eq_getElem?_getD]
end

section
open PySem PySem.W PyProof.Rows PySem.Calls PySem.Spec Builtin Builtin.ObjectAttr Builtin.Str
set_option maxHeartbeats 2000000
theorem replicate_getD (n g k : Nat) (hk : k < n) : (List.replicate n g).getD k 0 = g := by
  rw [List.getD_eq_getElem?_getD, List.getElem?_eq_getElem (by simpa using hk)]
  simp
theorem moved_at (half f goal : Nat) (hsf : (half = 2 ∧ f = 2) ∨ (half = 4 ∧ f = 3)) (qs : List Nat) (hl : qs.length = 2 * half) (hq : ∀ q ∈ qs, q < 2 * half) (hg : goal < 2 * half) (k : Nat) (hk : k < 2 * half) :
    ((packP qs (2 * half) (2 * half)).sum ^^^ (goalP goal (2 * half) (2 * half)).sum) / 2 ^ (f * k) % (2 * half) = qs.getD k 0 ^^^ goal := by
  have hs : 2 * half = 2 ^ f := by rcases hsf with ⟨rfl, rfl⟩ | ⟨rfl, rfl⟩ <;> rfl
  have e1 : (packP qs (2 * half) (2 * half)).sum = digSum (2 * half) qs := by
    unfold packP
    rw [← hl]
    exact range_sum_dig _ _
  have e2 : (goalP goal (2 * half) (2 * half)).sum = digSum (2 * half) (List.replicate (2 * half) goal) := by
    have h := range_sum_dig (2 * half) (List.replicate (2 * half) goal)
    rw [← h]
    unfold goalP
    congr 1
    rw [List.length_replicate]
    apply List.map_congr_left
    intro j hj
    rw [replicate_getD _ _ _ (List.mem_range.mp hj)]
  have a1 := digSum_at (2 * half) (by (exact om311 hk)) qs k hq
  have a2 := digSum_at (2 * half) (by (exact om311 hk)) (List.replicate (2 * half) goal) k fun d hd => by rw [(List.mem_replicate.mp hd).2]; exact hg
  rw [replicate_getD _ _ _ hk] at a2
  rw [e1, e2, Nat.xor_div_two_pow]
  have e3 : (2 * half) ^ k = 2 ^ (f * k) := by rw [hs, Nat.pow_mul]
  rw [e3] at a1 a2
  generalize digSum (2 * half) qs / 2 ^ (f * k) = x at *
  generalize digSum (2 * half) (List.replicate (2 * half) goal) / 2 ^ (f * k) = y at *
  rw [hs] at a1 a2 ⊢
  rw [Nat.xor_mod_two_pow, a1, a2]
/-- where place p comes to by the rounds ks -/
noncomputable def stepF (half : Nat) : List Nat → Nat → Nat
  | [], p => p
  | k :: ks, p => stepF half ks (placeN p half k)
theorem stepsP_map (half : Nat) : ∀ (ks ps : List Nat), stepsP half ks ps = ps.map (stepF half ks)
  | [], ps => (List.map_id ps).symm
  | k :: ks, ps => by
    rw [stepsP, stepsP_map half ks, List.map_map]
    rfl
theorem stepF_lt (half : Nat) (hh : half = 2 ∨ half = 4) : ∀ (ks : List Nat) (p : Nat), (∀ k ∈ ks, k < 8) → p < 2 * half → stepF half ks p < 2 * half
  | [], _, _, h => h
  | k :: ks, p, hk, h => stepF_lt half hh ks _ (fun x hx => hk x (.tail _ hx)) (place_lt half k p hh (hk k (.head _)) h)
noncomputable def AffP (half : Nat) (g : Nat → Nat) : Prop := ∀ a b c, a < 2 * half → b < 2 * half → c < 2 * half → g (a ^^^ b ^^^ c) = g a ^^^ g b ^^^ g c
theorem xor_lt (half a b : Nat) (hh : half = 2 ∨ half = 4) (ha : a < 2 * half) (hb : b < 2 * half) : a ^^^ b < 2 * half := by
  rcases hh with rfl | rfl
  · exact Nat.xor_lt_two_pow (n := 2) ha hb
  · exact Nat.xor_lt_two_pow (n := 3) ha hb
theorem place_aff (half k : Nat) (hh : half = 2 ∨ half = 4) (hk : k < 8) : AffP half (placeN · half k) := by
  intro a b c ha hb hc
  rcases hh with rfl | rfl
  · have : ∀ k : Nat, k < 8 → ∀ a : Nat, a < 4 → ∀ b : Nat, b < 4 → ∀ c : Nat, c < 4 → placeN (a ^^^ b ^^^ c) 2 k = placeN a 2 k ^^^ placeN b 2 k ^^^ placeN c 2 k := by decide +kernel
    exact this k hk a ha b hb c hc
  · have : ∀ k : Nat, k < 8 → ∀ a : Nat, a < 8 → ∀ b : Nat, b < 8 → ∀ c : Nat, c < 8 → placeN (a ^^^ b ^^^ c) 4 k = placeN a 4 k ^^^ placeN b 4 k ^^^ placeN c 4 k := by decide +kernel
    exact this k hk a ha b hb c hc
theorem stepF_aff (half : Nat) (hh : half = 2 ∨ half = 4) : ∀ (ks : List Nat), (∀ k ∈ ks, k < 8) → AffP half (stepF half ks)
  | [], _ => fun _ _ _ _ _ _ => rfl
  | k :: ks, hk => fun a b c ha hb hc => by
    have h1 := stepF_aff half hh ks fun x hx => hk x (.tail _ hx)
    have h8 := hk k (.head _)
    show stepF half ks (placeN (a ^^^ b ^^^ c) half k) = _
    have h2 : placeN (a ^^^ b ^^^ c) half k = placeN a half k ^^^ placeN b half k ^^^ placeN c half k := place_aff half k hh h8 a b c ha hb hc
    rw [h2]
    exact h1 _ _ _ (place_lt half k a hh h8 ha) (place_lt half k b hh h8 hb) (place_lt half k c hh h8 hc)
theorem told_at (half : Nat) (hh : half = 2 ∨ half = 4) (g : Nat → Nat) (hg : AffP half g) (qs : List Nat) (hqs : ∀ p, p < 2 * half → qs.getD p 0 = g p) (k : Nat) (hk : k < 2 * half) : ∀ j, 2 ^ j ≤ 2 * half → toldP qs k j = g (k % 2 ^ j)
  | 0, _ => by
    rw [toldP, hqs 0 (by (exact om375 (by assumption)))]
    simp [Nat.mod_one]
  | j + 1, hj => by
    have hj2 : 2 ^ j < 2 * half := by
      have : 2 ^ (j + 1) = 2 * 2 ^ j := by rw [Nat.pow_succ, Nat.mul_comm]
      have h0 : 0 < 2 ^ j := Nat.two_pow_pos j
      omega
    have ih := told_at half hh g hg qs hqs k hk j (Nat.le_of_lt hj2)
    have hj3 : j < 3 := by
      rcases Nat.lt_or_ge j 3 with h | h
      · exact h
      · have : 2 ^ 3 ≤ 2 ^ j := Nat.pow_le_pow_right (by decide) h
        omega
    have hk8 : k < 8 := by (exact om205 hh hk)
    have hbit : ∀ k : Nat, k < 8 → ∀ j : Nat, j < 3 → (if k / 2 ^ j % 2 = 1 then k % 2 ^ j ^^^ 0 ^^^ 2 ^ j else k % 2 ^ j) = k % 2 ^ (j + 1) := by decide +kernel
    have hb := hbit k hk8 j hj3
    rw [toldP]
    split
    · rename_i hc
      rw [if_pos hc] at hb
      have hkm : k % 2 ^ j < 2 * half := Nat.lt_of_le_of_lt (Nat.mod_le _ _) hk
      rw [← hb, hg _ 0 _ hkm (by (exact om311 hkm)) hj2, ih, hqs 0 (by (exact om311 hkm)), hqs _ hj2, Nat.xor_assoc]
    · rename_i hc
      rw [if_neg hc] at hb
      rw [ih, hb]
theorem straight_at (half f goal p : Nat) (hsf : (half = 2 ∧ f = 2) ∨ (half = 4 ∧ f = 3)) (hg : goal < 2 * half) (hp : p < 2 * half) : stepF half (straightP f goal) p = p ^^^ goal := by
  rcases hsf with ⟨rfl, rfl⟩ | ⟨rfl, rfl⟩
  · have : ∀ goal : Nat, goal < 4 → ∀ p : Nat, p < 4 → stepF 2 (straightP 2 goal) p = p ^^^ goal := by decide +kernel
    exact this goal hg p hp
  · have : ∀ goal : Nat, goal < 8 → ∀ p : Nat, p < 8 → stepF 4 (straightP 3 goal) p = p ^^^ goal := by decide +kernel
    exact this goal hg p hp
theorem straight8 (f goal : Nat) : ∀ k ∈ straightP f goal, k < 8 := by
  intro k hk
  obtain ⟨j, -, rfl⟩ := List.mem_map.mp hk
  have : goal / 2 ^ (f - 1 - j) % 2 < 2 := Nat.mod_lt _ (by decide)
  (exact om310 this)
theorem steps_range (half : Nat) (ks : List Nat) (p : Nat) (hp : p < 2 * half) : (stepsP half ks (List.range (2 * half))).getD p 0 = stepF half ks p := by
  rw [stepsP_map, List.getD_eq_getElem?_getD, List.getElem?_map, List.getElem?_range hp]
  rfl
end

section
open PySem PySem.W PyProof.Rows PySem.Calls PySem.Spec Builtin Builtin.ObjectAttr Builtin.Str
set_option maxHeartbeats 2000000
theorem fold_glue : ∀ (rest : List Str) (acc : Array Nat), (rest.foldl (fun acc p => acc ++ mt.cps ++ p.cps) acc).toList = acc.toList ++ rest.flatMap fun x => x.cps.toList
  | [], acc => by simp
  | p :: rest, acc => by
    have hm : mt.cps = #[] := by decide +kernel
    rw [List.foldl_cons, fold_glue rest, List.flatMap_cons, hm]
    simp
theorem join_toList (xs : List Str) : (Txt.join mt xs).cps.toList = xs.flatMap fun x => x.cps.toList := by
  show (Builtin.Str.glued mt xs).cps.toList = _
  unfold Builtin.Str.glued
  cases xs with
  | nil => rfl
  | cons x r =>
    show ((r.foldl (fun acc p => acc ++ mt.cps ++ p.cps) x.cps)).toList = _
    rw [fold_glue, List.flatMap_cons]
theorem cat_toList (cds : List (Str × Str)) : (Txt.join mt (catOf cds)).cps.toList = cds.flatMap fun c => c.1.cps.toList ++ c.2.cps.toList := by
  rw [join_toList]
  unfold catOf
  rw [List.flatMap_map]
  congr 1
  funext c
  rw [join2]
  show (c.1.cps ++ c.2.cps).toList = _
  simp
noncomputable def deckT (n2 n3 : Nat) (is : List Nat) : List Nat := is.flatMap fun i => 32 :: cardP n2 n3 i
theorem deckT_toks (n2 n3 : Nat) : ∀ is : List Nat, Toks (deckT n2 n3 is) (is.map (nameP n2))
  | [] => by simp [deckT, Toks, tokS]
  | i :: is => by
    have ih := deckT_toks n2 n3 is
    have e : deckT n2 n3 (i :: is) = 32 :: (cardP n2 n3 i ++ deckT n2 n3 is) := by
      unfold deckT
      rw [List.flatMap_cons]
      rfl
    rw [e, List.map_cons]
    refine Toks.congr (tokS_w (show isW 32 = true by decide)).symm ?_
    refine toks_written (Nat.mod_lt _ (by decide)) (by simp [nameP]) ?_ ih
    cases is with
    | nil => exact .inl rfl
    | cons j r => exact .inr ⟨32, _, by decide, by unfold deckT; rw [List.flatMap_cons]; rfl⟩
theorem card_facts (n2 n3 k : Nat) (hk : k < 8) : (cardP n2 n3 k).length ≤ 6 ∧ ∀ c ∈ cardP n2 n3 k, c < 128 := by
  unfold cardP nameP
  have hj : (n2 / 8 + k) % 6 < 6 := Nat.mod_lt _ (by decide)
  have hw : (n3 / 16 + k) % 3 < 3 := Nat.mod_lt _ (by decide)
  generalize (n2 / 8 + k) % 6 = j at *
  generalize (n3 / 16 + k) % 3 = way at *
  have : ∀ k : Nat, k < 8 → ∀ j : Nat, j < 6 → ∀ way : Nat, way < 3 → (writtenV way [97 + k, signP j]).length ≤ 6 ∧ ∀ c ∈ writtenV way [97 + k, signP j], c < 128 := by decide +kernel
  exact this k hk j hj way hw
theorem deckT_len (n2 n3 : Nat) : ∀ is : List Nat, (∀ i ∈ is, i < 8) → (deckT n2 n3 is).length ≤ 7 * is.length ∧ is.length ≤ (deckT n2 n3 is).length
  | [], _ => by simp [deckT]
  | i :: is, h => by
    have ih := deckT_len n2 n3 is fun x hx => h x (.tail _ hx)
    have hc := (card_facts n2 n3 i (h i (.head _))).1
    have e : deckT n2 n3 (i :: is) = 32 :: (cardP n2 n3 i ++ deckT n2 n3 is) := by
      unfold deckT
      rw [List.flatMap_cons]
      rfl
    rw [e]
    simp only [List.length_cons, List.length_append]
    (exact om316 ih hc)
theorem deck_text (n2 n3 half : Nat) (kn : List Nat) (hkn : PermP half kn) : (Txt.join mt (catOf (orderP (cardsP n2 n3 (2 * half)) kn))).cps.toList = deckT n2 n3 ((List.range (2 * half)).map fun q => kn.idxOf q) := by
  rw [cat_toList]
  unfold orderP deckT
  rw [List.flatMap_map, List.flatMap_map, hkn.len]
  rw [List.flatMap_def, List.flatMap_def]
  congr 1
  apply List.map_congr_left
  intro q hq
  have hi : kn.idxOf q < 2 * half := by
    rw [← hkn.len]
    exact List.idxOf_lt_length_iff.mpr (hkn.mem q (List.mem_range.mp hq))
  have e : (cardsP n2 n3 (2 * half)).getD (kn.idxOf q) default = ⟨(cardP n2 n3 (kn.idxOf q)).toArray⟩ := by
    rw [List.getD_eq_getElem?_getD, cardsP_at hi]
    rfl
  have e2 : (Str.ofString " ").cps.toList = [32] := by decide +kernel
  dsimp only
  rw [e, e2]
  simp
theorem strOk_card (n2 n3 k : Nat) (hk : k < 8) : PyData.strOk ⟨(cardP n2 n3 k).toArray⟩ = true := by
  unfold PyData.strOk
  have h := (card_facts n2 n3 k hk).2
  rw [show (⟨(cardP n2 n3 k).toArray⟩ : Str).cps = (cardP n2 n3 k).toArray from rfl, List.all_toArray, List.all_eq_true]
  intro c hc
  have := h c hc
  simp
  (exact om315 this)
theorem cards_mem {n2 n3 half : Nat} (hh : half = 2 ∨ half = 4) {x : Str} (hx : x ∈ cardsP n2 n3 (2 * half)) : x.length ≤ 6 ∧ PyData.strOk x = true := by
  unfold cardsP at hx
  obtain ⟨k, hk, rfl⟩ := List.mem_map.mp hx
  have hk8 : k < 8 := by have := List.mem_range.mp hk; (exact om205 hh this)
  refine ⟨?_, strOk_card n2 n3 k hk8⟩
  show (cardP n2 n3 k).toArray.size ≤ 6
  rw [List.size_toArray]
  exact (card_facts n2 n3 k hk8).1
theorem steps_nodup {half : Nat} (hh : half = 2 ∨ half = 4) : ∀ (ks ps : List Nat), (∀ k ∈ ks, k < 8) → PermP half ps → ps.Nodup → (stepsP half ks ps).Nodup
  | [], _, _, _, h => h
  | k :: ks, ps, hk, hp, h => by
    have h8 := hk k (.head _)
    refine steps_nodup hh ks _ (fun x hx => hk x (.tail _ hx)) (hp.step hh h8) ?_
    rw [List.nodup_iff_pairwise_ne, List.pairwise_map]
    refine List.Pairwise.imp_of_mem ?_ (List.nodup_iff_pairwise_ne.mp h)
    intro a b ha hb hab e
    exact hab (place_inj half k a b hh h8 (hp.lt a ha) (hp.lt b hb) e)
theorem nodup_inj {kn : List Nat} (hn : kn.Nodup) {i j : Nat} (hi : i < kn.length) (hj : j < kn.length) (e : kn[i] = kn[j]) : i = j := by
  rw [List.nodup_iff_pairwise_ne, List.pairwise_iff_getElem] at hn
  rcases Nat.lt_trichotomy i j with h | h | h
  · exact absurd e (hn i j hi hj h)
  · exact h
  · exact absurd e.symm (hn j i hj hi h)
theorem idx_of_at {kn : List Nat} (hn : kn.Nodup) {i q : Nat} (h : kn[i]? = some q) : kn.idxOf q = i := by
  obtain ⟨hi, e⟩ := List.getElem?_eq_some_iff.mp h
  have h1 : kn.idxOf q < kn.length := List.idxOf_lt_length_iff.mpr (e ▸ List.getElem_mem hi)
  have h2 := List.getElem_idxOf h1
  exact nodup_inj hn h1 hi (h2.trans e.symm)
theorem idx_perm {half : Nat} {kn : List Nat} (hp : PermP half kn) (hn : kn.Nodup) : ((List.range (2 * half)).map fun q => kn.idxOf q).Perm (List.range (2 * half)) := by
  have hinj : ∀ a, a < 2 * half → ∀ b, b < 2 * half → kn.idxOf a = kn.idxOf b → a = b := by
    intro a ha b hb e
    have h1 := List.getElem_idxOf (List.idxOf_lt_length_iff.mpr (hp.mem a ha))
    have h2 := List.getElem_idxOf (List.idxOf_lt_length_iff.mpr (hp.mem b hb))
    rw [← h1, ← h2]
    congr 1
  rw [List.perm_ext_iff_of_nodup]
  · intro i
    constructor
    · intro h
      obtain ⟨q, hq, rfl⟩ := List.mem_map.mp h
      rw [List.mem_range, ← hp.len]
      exact List.idxOf_lt_length_iff.mpr (hp.mem q (List.mem_range.mp hq))
    · intro h
      have hi : i < kn.length := by rw [hp.len]; exact List.mem_range.mp h
      exact List.mem_map.mpr ⟨kn[i], List.mem_range.mpr (hp.lt _ (List.getElem_mem hi)), idx_of_at hn (List.getElem?_eq_getElem hi)⟩
  · rw [List.nodup_iff_pairwise_ne, List.pairwise_map]
    refine List.Pairwise.imp_of_mem ?_ (List.nodup_iff_pairwise_ne.mp List.nodup_range)
    intro a b ha hb hab e
    exact hab (hinj a (List.mem_range.mp ha) b (List.mem_range.mp hb) e)
  · exact List.nodup_range
end

section
open PySem PySem.W PyProof.Rows PySem.Calls PySem.Spec Builtin Builtin.ObjectAttr Builtin.Str
set_option maxHeartbeats 2000000
theorem sumLen_order (n2 n3 half : Nat) (css : List (Str × Tok)) (hcs : css.map (·.1) = cardsP n2 n3 (2 * half)) (kn : List Nat) (hp : PermP half kn) (hn : kn.Nodup) : sumLen (orderP (css.map (·.1)) kn) = (css.map fun c => 1 + c.1.length).sum := by
  have hl : css.length = 2 * half := by
    have := congrArg List.length hcs
    simpa [cardsP] using this
  generalize hcc : css.map (fun p : Str × Tok => p.1) = cc at *
  have h1 : sumLen (orderP cc kn) = (((List.range (2 * half)).map fun q => kn.idxOf q).map fun i => 1 + (cc.getD i default).length).sum := by
    unfold sumLen orderP
    rw [List.map_map, List.map_map, hp.len]
    congr 1
  have h2 : (((List.range (2 * half)).map fun q => kn.idxOf q).map fun i => 1 + (cc.getD i default).length).sum = ((List.range (2 * half)).map fun i => 1 + (cc.getD i default).length).sum :=
    ((idx_perm hp hn).map _).sum_nat
  rw [h1, h2, ← hl]
  subst hcc
  congr 1
  apply List.ext_getElem?
  intro i
  by_cases hi : i < css.length
  · rw [List.getElem?_map, List.getElem?_map, List.getElem?_range hi, List.getElem?_eq_getElem hi]
    simp [List.getD_eq_getElem?_getD, List.getElem?_eq_getElem hi]
  · rw [List.getElem?_eq_none (by simp; (exact om270 hi)), List.getElem?_eq_none (by simp; (exact om270 hi))]
theorem name_inj (n2 i j : Nat) (h : (⟨(nameP n2 i).toArray⟩ : Str) = ⟨(nameP n2 j).toArray⟩) : i = j := by
  have e : (nameP n2 i).toArray = (nameP n2 j).toArray := congrArg Str.cps h
  have e2 : nameP n2 i = nameP n2 j := by
    have := congrArg Array.toList e
    simpa using this
  unfold nameP at e2
  injection e2 with e3 _
  (exact om320 e3)
theorem seen_ok (n2 half : Nat) (nss wss : List (Str × Tok)) (kn : List Nat) (hp : PermP half kn) (hn : kn.Nodup) (hns : nss.map (·.1) = namesP n2 (2 * half)) (hws : wss.map (·.1) = wordsS (((List.range (2 * half)).map fun q => kn.idxOf q).map (nameP n2))) :
    ∀ (i q : Nat) (p : Str × Tok), nss[i]? = some p → kn[i]? = some q → (∃ t, wss[q]? = some (p.1, t)) ∧ ∀ (j : Nat) (r : Str × Tok), j < q → wss[j]? = some r → r.1 ≠ p.1 := by
  intro i q p hi hq
  have hil : i < 2 * half := by
    have h1 := (List.getElem?_eq_some_iff.mp hq).1
    rw [hp.len] at h1
    exact h1
  have hql : q < 2 * half := hp.lt q (List.mem_of_getElem? hq)
  have hpn : p.1 = ⟨(nameP n2 i).toArray⟩ := by
    have h := congrArg (fun l => l[i]?) hns
    rw [List.getElem?_map, hi, namesP_at hil] at h
    exact Option.some.inj h
  have hword : ∀ j, j < 2 * half → (wss.map (·.1))[j]? = some ⟨(nameP n2 (kn.idxOf j)).toArray⟩ := by
    intro j hj
    rw [hws]
    unfold wordsS
    rw [List.getElem?_map, List.getElem?_map, List.getElem?_map, List.getElem?_range hj]
    rfl
  constructor
  · have h := hword q hql
    rw [idx_of_at hn hq, List.getElem?_map] at h
    cases e : wss[q]? with
    | none => rw [e] at h; cases h
    | some r =>
      rw [e] at h
      have h2 : r.1 = ⟨(nameP n2 i).toArray⟩ := Option.some.inj h
      exact ⟨r.2, by rw [hpn, ← h2]⟩
  · intro j r hj hr e
    have hjl : j < 2 * half := by (exact om319 hql hj)
    have h := hword j hjl
    rw [List.getElem?_map, hr] at h
    have h2 : r.1 = ⟨(nameP n2 (kn.idxOf j)).toArray⟩ := Option.some.inj h
    rw [h2, hpn] at e
    have e2 := name_inj n2 _ _ e
    have h3 := List.getElem_idxOf (List.idxOf_lt_length_iff.mpr (hp.mem j hjl))
    have h4 : kn[i]? = some j := by
      rw [← e2, List.getElem?_eq_getElem (List.idxOf_lt_length_iff.mpr (hp.mem j hjl)), h3]
    rw [hq] at h4
    have := Option.some.inj h4
    (exact om318 hj this)
theorem cnt_nl : ∀ l : List Nat, PyProof.Rows.cnt 10 l = nl l
  | [] => rfl
  | c :: l => by rw [PyProof.Rows.cnt_cons, cnt_nl l, nl_cons]
theorem count_nl (l : List Nat) : Txt.count ⟨l.toArray⟩ (Str.ofString "\n") = nl l := by
  rw [show Str.ofString "\n" = ⟨#[10]⟩ by decide +kernel, count_cnt]
  exact cnt_nl l
theorem file_len (way : Nat) : ∀ (os : List Nat) (k : Nat), (fileL way k os).length ≤ 5 * os.length ∧ os.length ≤ (fileL way k os).length
  | [], _ => by simp [fileL]
  | o :: os, k => by
    have ih := file_len way os (k + 1)
    have hw := writtenV_len ((way + k) % 3) (sg o)
    rw [fileL]
    simp only [List.length_append, List.length_cons]
    (exact om317 ih hw)
end

end

section
open PySem PySem.W PyProof.Rows PySem.Calls PySem.Spec Builtin Builtin.ObjectAttr Builtin.Str
set_option maxHeartbeats 20000000
variable {w : World} {mean : ExcName → Option Value} {mg mb : Str → Option Value}
local macro_rules | `(tactic| ktr_room) => `(tactic| skip)
theorem law_body : fnBody w.params 225 = [lawStmt w.params 0, lawStmt w.params 1, lawStmt w.params 2, lawStmt w.params 3] ++ ([lawStmt w.params 4, lawStmt w.params 5] ++ ([lawStmt w.params 6] ++ ([lawStmt w.params 7] ++ ([lawStmt w.params 8] ++ ([lawStmt w.params 9] ++ ([lawStmt w.params 10, lawStmt w.params 11] ++ ([lawStmt w.params 12, lawStmt w.params 13] ++ ([lawStmt w.params 14] ++ ([lawStmt w.params 15] ++ ([lawStmt w.params 16] ++ ([lawStmt w.params 17] ++ ([lawStmt w.params 18] ++ ([lawStmt w.params 19] ++ ([lawStmt w.params 20, lawStmt w.params 21] ++ ([lawStmt w.params 22, lawStmt w.params 23] ++ ([lawStmt w.params 24] ++ [lawStmt w.params 25])))))))))))))))) := rfl
section
variable {α : Type}
theorem pk4 (LC C B T63 T70 T184 : List α) : (LC ++ (C ++ (B ++ (T63 ++ (T70 ++ T184))))).Perm (C ++ (T184 ++ ((LC ++ B) ++ (T63 ++ T70)))) := by
  classical
  rw [List.perm_iff_count]; intro a; simp only [List.count_append]; (exact om348)
theorem pk7 (DK O DX C LL T184 M1 I1 M0 I0 CC A6 T63 T70 : List α) : (DK ++ (O ++ (DX ++ (C ++ (LL ++ (T184 ++ ((M1 ++ I1) ++ ((M0 ++ ((I0 ++ CC))) ++ (A6 ++ (T63 ++ T70)))))))))).Perm (C ++ ((T70 ++ (DK ++ (M0 ++ M1))) ++ (T184 ++ (T63 ++ (O ++ (DX ++ (LL ++ (I1 ++ (I0 ++ (CC ++ A6)))))))))) := by
  classical
  rw [List.perm_iff_count]; intro a; simp only [List.count_append]; (exact om347)
theorem pk8 (C T70 DK M0 M1 X T184 T63 B : List α) : (C ++ ((T70 ++ (DK ++ (M0 ++ M1))) ++ (X ++ (T184 ++ (T63 ++ B))))).Perm (C ++ (T70 ++ (T184 ++ (DK ++ (M0 ++ (M1 ++ (T63 ++ (X ++ B)))))))) := by
  classical
  rw [List.perm_iff_count]; intro a; simp only [List.count_append]; (exact om346)
theorem pk9 (C T70 T184 MR IR DK M0 M1 T63 B : List α) : (C ++ (T70 ++ (T184 ++ ((MR ++ IR) ++ (DK ++ (M0 ++ (M1 ++ (T63 ++ B)))))))).Perm (C ++ (MR ++ (DK ++ (M0 ++ (M1 ++ (T63 ++ (T70 ++ (T184 ++ (IR ++ B))))))))) := by
  classical
  rw [List.perm_iff_count]; intro a; simp only [List.count_append]; (exact om345)
theorem pk11 (LS C MR LW DK M0 M1 T63 T70 B : List α) : (LS ++ (C ++ (MR ++ (LW ++ (DK ++ (M0 ++ (M1 ++ (T63 ++ (T70 ++ B))))))))).Perm (C ++ (MR ++ (DK ++ (M0 ++ (M1 ++ (T63 ++ (T70 ++ (LS ++ (LW ++ B))))))))) := by
  classical
  rw [List.perm_iff_count]; intro a; simp only [List.count_append]; (exact om344)
theorem pk12 (C MR DK M0 M1 T63 T70 B : List α) : (C ++ (MR ++ (DK ++ (M0 ++ (M1 ++ (T63 ++ (T70 ++ B))))))).Perm (C ++ (T63 ++ (DK ++ (T70 ++ (M0 ++ (M1 ++ (MR ++ B))))))) := by
  classical
  rw [List.perm_iff_count]; intro a; simp only [List.count_append]; (exact om343)
theorem pk15 (C T63 DK T70 M0 M1 B : List α) : (C ++ (T63 ++ (DK ++ (T70 ++ (M0 ++ (M1 ++ B)))))).Perm (C ++ ((T70 ++ (DK ++ (M0 ++ M1))) ++ (T63 ++ B))) := by
  classical
  rw [List.perm_iff_count]; intro a; simp only [List.count_append]; (exact om342)
theorem pk16 (C T70 DK M0 M1 X T63 B : List α) : (C ++ ((T70 ++ (DK ++ (M0 ++ M1))) ++ (X ++ (T63 ++ B)))).Perm (C ++ ((M0 ++ M1) ++ (T70 ++ (DK ++ (X ++ (T63 ++ B)))))) := by
  classical
  rw [List.perm_iff_count]; intro a; simp only [List.count_append]; (exact om341)
theorem pk17 (LE C MM R : List α) : (LE ++ (C ++ (MM ++ R))).Perm (C ++ (MM ++ (LE ++ R))) := by
  classical
  rw [List.perm_iff_count]; intro a; simp only [List.count_append]; (exact om190)
end
theorem orderP_mem {cs : List Str} {ps : List Nat} {c : Str × Str} (h : c ∈ orderP cs ps) : c.1 = Str.ofString " " ∧ (c.2 ∈ cs ∨ c.2 = default) := by
  unfold orderP at h
  obtain ⟨q, -, rfl⟩ := List.mem_map.mp h
  refine ⟨rfl, ?_⟩
  show cs.getD (ps.idxOf q) default ∈ cs ∨ cs.getD (ps.idxOf q) default = default
  rw [List.getD_eq_getElem?_getD]
  cases e : cs[ps.idxOf q]? with
  | none => exact .inr rfl
  | some x => exact .inl (List.mem_of_getElem? e)
theorem orderP_len (cs : List Str) (ps : List Nat) : (orderP cs ps).length = ps.length := by
  unfold orderP; rw [List.length_map, List.length_range]
theorem orderP_bd {cs : List Str} (hb : ∀ x ∈ cs, x.length ≤ 6) {ps : List Nat} : ∀ c ∈ orderP cs ps, c.1.length ≤ 1000 ∧ c.2.length ≤ 1000 := by
  intro c hc
  obtain ⟨h1, h2⟩ := orderP_mem hc
  refine ⟨by rw [h1]; decide +kernel, ?_⟩
  rcases h2 with h | h
  · have := hb _ h; (exact om331 this)
  · rw [h]; decide +kernel
theorem ln_end {z y F l1 l2 : Int} {n : Nat} (h1 : l2 + y = l1 + z) (h2 : l1 + z = 1 + F) (hF : F = n) : l2 + y = ((1 + n : Nat) : Int) := by (exact om340 h1 h2 hF)
theorem ln_c {F : Int} {n : Nat} (hF : F = n) : 1 + F = ((1 + n : Nat) : Int) := by (exact om339 hF)
theorem asG {P : Prop} (h : ∀ G : Prop, (P → G) → G) : P := h P id
theorem law_all (la : Addr) (sv : List Value) (sn : List Int) (hsv : IntsAre sv sn) (hlen : sn.length < 1000) : PySem.Challenge.rw_xj0013_01 = PySem.Challenge.rw_xj0013_01 → hd.heap_1 = hd.heap_1 →
  ∀ (base h₀ : Heap) (L : Addr) (m : Str → Option Value) (c : Cs) (s : Shared) (Q : Flow → Shared → Prop) (E : Value → Shared → Prop),
    Below callerA base [] h₀ → Fr h₀ L s.heap m → (hd.heap_1 w.params).In h₀ → News h₀ L s.heap (LCl L c ++ [(63, tabObj #[]), (70, tabObj #[]), (184, tabObj #[])]) → DJ (LCl L c ++ [(63, tabObj #[]), (70, tabObj #[]), (184, tabObj #[])]) → Tp mean mg mb h₀ → AllBare s.gens → 0 < s.toks →
    m (Str.ofString "script") = some (.ref la) → h₀.IsList la sv.toArray → c.nu.data = .cell none → c.fi.data = .cell none → c.si.data = .cell none → c.go.data = .cell none → c.na.data = .cell none → c.kn.data = .cell none → c.re.data = .cell none → c.wo.data = .cell none → c.mo.data = .cell none →
    (∀ (h' : Heap) (tk' : Nat) (gs' : Array GenState) (m' : Str → Option Value) (news : Led) (q63 q70 q184 : Array Value), AllBare gs' → Fr h₀ L h' m' → News h₀ L h' news → (63, tabObj q63) ∈ news → (70, tabObj q70) ∈ news → (184, tabObj q184) ∈ news → Q (.ret (.bool true)) { s with heap := h', toks := tk', gens := gs' }) →
    wpAny (model PySem.Challenge.pw_xj0013_01 w) (callerA.deeper (lawEnv w L)) (execs (fnBody w.params 225) (lawEnv w L)) Q E s := by
  intro r1 r2 base h₀ L m c s Q E hB hF hX hN hD hT hG hTk hsc hla d1 d2 d3 d4 d5 d6 d7 d8 d9 hret
  rw [law_body]
  refine seqs (law0 la sv sn hsv hlen r1 r2 base h₀ L m _ c s _ _ hB hF hX hN hD hT hsc hla d1 d2 d3 d4 ?_)
  intro h1 tk1 o1 o2 o3 o4 ln vs n0 n1 n2 n3 nn t1 t2 t3 b0 b1 b2 b3 hns F1 N1 D1 e1 e2 e3 e4 hle1
  refine ⟨rfl, ?_⟩
  refine asG ?_; intro GG hGG
  clear hN hD hF
  obtain ⟨half, f, hf, hsz, hsf⟩ : ∃ half f, 2 + n3 % 2 = f ∧ 2 ^ f = 2 * half ∧ ((half = 2 ∧ f = 2) ∨ (half = 4 ∧ f = 3)) := by
    rcases (show n3 % 2 = 0 ∨ n3 % 2 = 1 by (exact om240)) with h | h
    · exact ⟨2, 2, by (exact om338 h), rfl, .inl ⟨rfl, rfl⟩⟩
    · exact ⟨4, 3, by (exact om337 h), rfl, .inr ⟨rfl, rfl⟩⟩
  have hhalf : half = 2 ∨ half = 4 := by (exact om302 hsf)
  rw [hf] at e2
  rw [hf, hsz] at e3 e4
  have hgl : n3 / 2 % (2 * half) < 2 * half := Nat.mod_lt _ (by (exact om336 hhalf))
  generalize n3 / 2 % (2 * half) = goal at e4 hgl
  -- drawn, straight
  refine hGG ?_; clear hGG GG
  refine seqs (law1 ln vs n0 n1 n2 n3 nn f goal t1 t3 hns (by (exact om335 hsf)) (by (exact om205 hhalf hgl)) r1 r2 base h₀ L m _ _ _ _ _ hB F1 hX N1 D1 hT (.head _) e1 e2 e4 ?_)
  intro h2 tk2 ld ls dvs svs nd ns hdv hsvv F2 N2 D2 hle2
  refine ⟨rfl, ?_⟩
  refine asG ?_; intro GG hGG
  clear F1 N1 D1
  obtain ⟨m1, F2', md1, ms1⟩ : ∃ m1, Fr h₀ L h2 m1 ∧ m1 (Str.ofString "drawn") = some (.ref ld) ∧ m1 (Str.ofString "straight") = some (.ref ls) := ⟨_, F2, by rw [if_neg (by decide +kernel), if_pos rfl], if_pos rfl⟩
  clear F2
  have P2 := pw1 [(ls, W.listOf svs.toArray ns), (ld, W.listOf dvs.toArray nd)] (LCl L { c with nu := o1, fi := o2, si := o3, go := o4 }) ((ln, W.listOf vs.toArray nn) :: [(63, tabObj #[]), (70, tabObj #[]), (184, tabObj #[])])
  have N2' := cb_drop N2 fun p hp => P2.mem_iff.mpr hp
  have D2' := D2.perm P2
  clear N2 D2 P2
  have hd8 : ∀ k ∈ [n0 % 8, n1 % 8, n2 % 8], k < 8 := by
    intro k hk
    simp only [List.mem_cons, List.not_mem_nil, or_false] at hk
    (exact om334 hk)
  have hs8 := straight8 f goal
  have hsl : (straightP f goal).length = f := by simp [straightP]
  -- files
  refine hGG ?_; clear hGG GG
  refine seqs (law2 ln ld ls vs dvs svs n0 n1 n2 n3 nn nd ns [n0 % 8, n1 % 8, n2 % 8] (straightP f goal) hns b0 b1 hdv hsvv rfl (by (exact om333 hsf hsl)) (fun k hk => (List.mem_append.mp hk).elim (hd8 k) (hs8 k)) r1 r2 base h₀ L m1 _ _ _ _ _ hB F2' hX N2' D2' hT md1 ms1 (.tail _ (.tail _ (.head _))) (.tail _ (.head _)) (.head _) e1 ?_)
  intro h3 tk3 lf tf0 tf1 nf F3 N3 D3 hle3
  refine ⟨rfl, ?_⟩
  refine asG ?_; intro GG hGG
  clear F2' N2' D2'
  obtain ⟨m2, F3', md2, ms2, mf2⟩ : ∃ m2, Fr h₀ L h3 m2 ∧ m2 (Str.ofString "drawn") = some (.ref ld) ∧ m2 (Str.ofString "straight") = some (.ref ls) ∧ m2 (Str.ofString "files") = some (.ref lf) := ⟨_, F3, by rw [if_neg (by decide +kernel)]; exact md1, by rw [if_neg (by decide +kernel)]; exact ms1, if_pos rfl⟩
  clear F3 md1 ms1
  -- the files' tokens
  have hT0 := toks_file (n0 / 8) (([n0 % 8, n1 % 8, n2 % 8] ++ straightP f goal).map (· % 2)) 0
  have hT1 := toks_file (n1 / 8) (([n0 % 8, n1 % 8, n2 % 8] ++ straightP f goal).map (· / 2)) 0
  have hl0 := file_len (n0 / 8) (([n0 % 8, n1 % 8, n2 % 8] ++ straightP f goal).map (· % 2)) 0
  have hl1 := file_len (n1 / 8) (([n0 % 8, n1 % 8, n2 % 8] ++ straightP f goal).map (· / 2)) 0
  rw [List.length_map, List.length_append, hsl] at hl0 hl1
  have hdl : ([n0 % 8, n1 % 8, n2 % 8] : List Nat).length = 3 := rfl
  have hdne : ([n0 % 8, n1 % 8, n2 % 8] : List Nat) ≠ [] := List.cons_ne_nil _ _
  generalize [n0 % 8, n1 % 8, n2 % 8] = dks at hT0 hT1 hl0 hl1 hdl hd8 hdv N3 D3 hdne
  generalize hsks : straightP f goal = sks at hT0 hT1 hl0 hl1 hsl hs8 hsvv N3 D3
  generalize fileL (n0 / 8) 0 ((dks ++ sks).map (· % 2)) = f0 at hT0 hl0 N3 D3
  generalize fileL (n1 / 8) 0 ((dks ++ sks).map (· / 2)) = f1 at hT1 hl1 N3 D3
  rw [List.map_append, List.map_append] at hT0 hT1
  obtain ⟨z0, hz0, hz0t⟩ := Yields.of_toks _ hT0
  obtain ⟨z1, hz1, hz1t⟩ := Yields.of_toks _ hT1
  obtain ⟨y0, hy0, hy0t⟩ := Yields.of_toks (sks.map (· % 2)) (ts := []) (by rw [List.append_nil]; exact hz0t)
  obtain ⟨y1, hy1, hy1t⟩ := Yields.of_toks (sks.map (· / 2)) (ts := []) (by rw [List.append_nil]; exact hz1t)
  -- names
  have P3 := pw1 [(lf, W.listOf [Value.str ⟨f0.toArray⟩ tf0, .str ⟨f1.toArray⟩ tf1].toArray nf)] (LCl L { c with nu := o1, fi := o2, si := o3, go := o4 }) ([(ls, W.listOf svs.toArray ns), (ld, W.listOf dvs.toArray nd)] ++ ((ln, W.listOf vs.toArray nn) :: [(63, tabObj #[]), (70, tabObj #[]), (184, tabObj #[])]))
  have N3' := cb_drop N3 fun p hp => P3.mem_iff.mpr hp
  have D3' := D3.perm P3
  clear N3 D3 P3
  have hk3 : 0 < tk3 := Nat.lt_of_lt_of_le hTk (Nat.le_trans hle1 (Nat.le_trans hle2 hle3))
  refine hGG ?_; clear hGG GG
  refine seqs (law3 ln vs n0 n1 n2 n3 nn (2 * half) t2 none hns b2 (by (exact om298 hhalf)) r1 r2 base h₀ L m2 _ _ _ _ _ hB F3' hX N3' D3' hT (.tail _ (.tail _ (.tail _ (.head _)))) e1 e3 d5 hk3 ?_)
  intro h4 tk4 o5 lm nss nl hnss hnt e5 F4 N4 D4 hle4
  refine ⟨rfl, ?_⟩
  refine asG ?_; intro GG hGG
  clear F3' N3' D3'
  -- cards
  refine hGG ?_; clear hGG GG
  refine seqs (law4 ln lm vs nss n0 n1 n2 n3 nn nl (2 * half) t2 hns hnss (by (exact om298 hhalf)) r1 r2 base h₀ L m2 _ _ _ _ _ hB F4 hX N4 D4 hT (.tail _ (.tail _ (.tail _ (.tail _ (.head _))))) (.head _) e1 e3 e5 ?_)
  intro h5 tk5 lc css nc hcss F5 N5 D5 hle5
  refine ⟨rfl, ?_⟩
  refine asG ?_; intro GG hGG
  clear F4 N4 D4
  obtain ⟨m3, F5', md3, ms3, mf3, mc3⟩ : ∃ m3, Fr h₀ L h5 m3 ∧ m3 (Str.ofString "drawn") = some (.ref ld) ∧ m3 (Str.ofString "straight") = some (.ref ls) ∧ m3 (Str.ofString "files") = some (.ref lf) ∧ m3 (Str.ofString "cards") = some (.ref lc) := ⟨_, F5, by rw [if_neg (by decide +kernel)]; exact md2, by rw [if_neg (by decide +kernel)]; exact ms2, by rw [if_neg (by decide +kernel)]; exact mf2, if_pos rfl⟩
  clear F5 md2 ms2 mf2
  have hcl : css.length = 2 * half := by rw [← List.length_map (f := (·.1)), hcss]; simp [cardsP]
  have hnl : nss.length = 2 * half := by rw [← List.length_map (f := (·.1)), hnss]; simp [namesP]
  have hcm : ∀ x ∈ css.map (·.1), x.length ≤ 6 ∧ PyData.strOk x = true := by rw [hcss]; exact fun x hx => cards_mem hhalf hx
  have P4 := pk4 [(lc, W.listOf (strVals css).toArray nc)] (LCl L { c with nu := o1, fi := o2, si := o3, go := o4, na := o5 }) [(lm, W.listOf (strVals nss).toArray nl), (lf, W.listOf [Value.str ⟨f0.toArray⟩ tf0, .str ⟨f1.toArray⟩ tf1].toArray nf), (ls, W.listOf svs.toArray ns), (ld, W.listOf dvs.toArray nd), (ln, W.listOf vs.toArray nn)] [(63, tabObj #[])] [(70, tabObj #[])] [(184, tabObj #[])]
  have N5' := cb_drop N5 fun p hp => P4.mem_iff.mpr hp
  have D5' := D5.perm P4
  clear N5 D5 P4
  obtain ⟨A, N5, D5, alc, alm, alf, als, ald⟩ : ∃ A : Led, News h₀ L h5 (LCl L { c with nu := o1, fi := o2, si := o3, go := o4, na := o5 } ++ ((184, tabObj #[]) :: (A ++ [(63, tabObj #[]), (70, tabObj #[])]))) ∧ DJ (LCl L { c with nu := o1, fi := o2, si := o3, go := o4, na := o5 } ++ ((184, tabObj #[]) :: (A ++ [(63, tabObj #[]), (70, tabObj #[])]))) ∧ (lc, W.listOf (strVals css).toArray nc) ∈ A ∧ (lm, W.listOf (strVals nss).toArray nl) ∈ A ∧ (lf, W.listOf [Value.str ⟨f0.toArray⟩ tf0, .str ⟨f1.toArray⟩ tf1].toArray nf) ∈ A ∧ (ls, W.listOf svs.toArray ns) ∈ A ∧ (ld, W.listOf dvs.toArray nd) ∈ A := ⟨_, N5', D5', .head _, .tail _ (.head _), .tail _ (.tail _ (.head _)), .tail _ (.tail _ (.tail _ (.head _))), .tail _ (.tail _ (.tail _ (.tail _ (.head _))))⟩
  clear N5' D5'
  obtain ⟨c5, N5', D5', u1, u2, u3, u4, u5, u6, u7, u8, u9⟩ : ∃ c5 : Cs, News h₀ L h5 (LCl L c5 ++ ((184, tabObj #[]) :: (A ++ [(63, tabObj #[]), (70, tabObj #[])]))) ∧ DJ (LCl L c5 ++ ((184, tabObj #[]) :: (A ++ [(63, tabObj #[]), (70, tabObj #[])]))) ∧ c5.nu.data = .cell (some (.ref ln)) ∧ c5.fi.data = .cell (some (.int f t1)) ∧ c5.si.data = .cell (some (.int (2 * half : Nat) t2)) ∧ c5.go.data = .cell (some (.int goal t3)) ∧ c5.na.data = .cell (some (.ref lm)) ∧ c5.kn.data = .cell none ∧ c5.re.data = .cell none ∧ c5.wo.data = .cell none ∧ c5.mo.data = .cell none := ⟨_, N5, D5, e1, e2, e3, e4, e5, d6, d7, d8, d9⟩
  clear N5 D5
  -- lexers
  refine hGG ?_; clear hGG GG
  refine seqs (law5 lf ⟨f0.toArray⟩ ⟨f1.toArray⟩ tf0 tf1 nf r1 r2 base h₀ L m3 _ c5 _ _ _ hB F5' hX N5' D5' hT mf3 (List.mem_append_left _ alf) ?_)
  intro h6 tk6 ll nll a0 a1 cs ocr ocs tl0 tp0 tl1 tp1 ok0 hx0 hcr ok1 hx1 hcre F6 N6 D6 hle6
  refine ⟨rfl, ?_⟩
  refine asG ?_; intro GG hGG
  clear F5' N5' D5'
  obtain ⟨m4, F6', md4, ms4, mf4, mc4, ml4⟩ : ∃ m4, Fr h₀ L h6 m4 ∧ m4 (Str.ofString "drawn") = some (.ref ld) ∧ m4 (Str.ofString "straight") = some (.ref ls) ∧ m4 (Str.ofString "files") = some (.ref lf) ∧ m4 (Str.ofString "cards") = some (.ref lc) ∧ m4 (Str.ofString "lexers") = some (.ref ll) := ⟨_, F6, by rw [if_neg (by decide +kernel)]; exact md3, by rw [if_neg (by decide +kernel)]; exact ms3, by rw [if_neg (by decide +kernel)]; exact mf3, by rw [if_neg (by decide +kernel)]; exact mc3, if_pos rfl⟩
  clear F6 md3 ms3 mf3 mc3
  have P6 := pw1 [(ll, W.listOf [Value.ref a0.ix, .ref a1.ix].toArray nll)] (LCl L c5) ([(184, lexTab a0.cr cs)] ++ ((a1.mut w 1 tl1 [] 0 0 tp1 0 ++ a1.imm w) ++ ((a0.mut w 1 tl0 [] 0 0 tp0 0 ++ (a0.imm w ++ [(a0.cr, ocr), (cs, ocs)])) ++ (A ++ [(63, tabObj #[]), (70, tabObj #[])]))))
  have N6' := cb_drop N6 fun p hp => P6.mem_iff.mpr hp
  have D6' := D6.perm P6
  clear N6 D6 P6
  refine hGG ?_; clear hGG GG
  refine seqs (law6 lc css nc (by (exact om228 hhalf hcl)) r1 r2 base h₀ L m4 _ c5 _ _ _ hB F6' hX N6' D6' hT mc4 (List.mem_append_right _ (List.mem_append_right _ (List.mem_append_right _ (List.mem_append_right _ (List.mem_append_left _ alc))))) ?_)
  intro h7 tk7 m5 dk dxk tkd Y nk O' hY md5k hmE F7 N7 D7 hle7
  refine ⟨rfl, ?_⟩
  refine asG ?_; intro GG hGG
  clear F6' N6' D6'
  have md5 := (hmE _ (by decide +kernel) (by decide +kernel)).trans md4
  have ms5 := (hmE _ (by decide +kernel) (by decide +kernel)).trans ms4
  have mf5 := (hmE _ (by decide +kernel) (by decide +kernel)).trans mf4
  have mc5 := (hmE _ (by decide +kernel) (by decide +kernel)).trans mc4
  have ml5 := (hmE _ (by decide +kernel) (by decide +kernel)).trans ml4
  clear hmE md4 ms4 mf4 mc4 ml4
  have P7 := pk7 [(dk, accObj dxk Y nk)] O' [(dxk, accD w tkd)] (LCl L c5) [(ll, W.listOf [Value.ref a0.ix, .ref a1.ix].toArray nll)] [(184, lexTab a0.cr cs)] (a1.mut w 1 tl1 [] 0 0 tp1 0) (a1.imm w) (a0.mut w 1 tl0 [] 0 0 tp0 0) (a0.imm w) [(a0.cr, ocr), (cs, ocs)] A [(63, tabObj #[])] [(70, tabObj #[])]
  have N7' := cb_drop N7 fun p hp => P7.mem_iff.mpr hp
  have D7' := D7.perm P7
  clear N7 D7 P7
  obtain ⟨B, hBB⟩ : ∃ B : Led, O' ++ ((dxk, accD w tkd) :: (ll, W.listOf [Value.ref a0.ix, .ref a1.ix].toArray nll) :: (a1.imm w ++ (a0.imm w ++ ((a0.cr, ocr) :: (cs, ocs) :: A)))) = B := ⟨_, rfl⟩
  have bY : Cards B Y (deck0 css) := hBB ▸ hY.mono fun p hp => List.mem_append_left _ hp
  have bdx : (dxk, accD w tkd) ∈ B := hBB ▸ List.mem_append_right _ (.head _)
  have bll : (ll, W.listOf [Value.ref a0.ix, .ref a1.ix].toArray nll) ∈ B := hBB ▸ List.mem_append_right _ (.tail _ (.head _))
  have b1i : ∀ q ∈ a1.imm w, q ∈ B := fun q hq => hBB ▸ List.mem_append_right _ (.tail _ (.tail _ (List.mem_append_left _ hq)))
  have b0i : ∀ q ∈ a0.imm w, q ∈ B := fun q hq => hBB ▸ List.mem_append_right _ (.tail _ (.tail _ (List.mem_append_right _ (List.mem_append_left _ hq))))
  have bcr : (a0.cr, ocr) ∈ B := hBB ▸ List.mem_append_right _ (.tail _ (.tail _ (List.mem_append_right _ (List.mem_append_right _ (.head _)))))
  have bA : ∀ q ∈ A, q ∈ B := fun q hq => hBB ▸ List.mem_append_right _ (.tail _ (.tail _ (List.mem_append_right _ (List.mem_append_right _ (.tail _ (.tail _ hq))))))
  replace N7' : News h₀ L h7 (LCl L c5 ++ (([(70, tabObj #[])] ++ ([(dk, accObj dxk Y nk)] ++ (a0.mut w 1 tl0 [] 0 0 tp0 0 ++ a1.mut w 1 tl1 [] 0 0 tp1 0))) ++ ((184, lexTab a0.cr cs) :: (63, tabObj #[]) :: B))) := hBB ▸ N7'
  replace D7' : DJ (LCl L c5 ++ (([(70, tabObj #[])] ++ ([(dk, accObj dxk Y nk)] ++ (a0.mut w 1 tl0 [] 0 0 tp0 0 ++ a1.mut w 1 tl1 [] 0 0 tp1 0))) ++ ((184, lexTab a0.cr cs) :: (63, tabObj #[]) :: B))) := hBB ▸ D7'
  clear hBB hY
  replace alc := bA _ alc
  replace alm := bA _ alm
  replace alf := bA _ alf
  replace als := bA _ als
  replace ald := bA _ ald
  have bcr1 : (a1.cr, ocr) ∈ B := hcre ▸ bcr
  clear bA
  -- the drawn shuffles
  have hL0 : a0.x.length = f0.length := by rw [hx0]; exact List.size_toArray
  have hL1 : a1.x.length = f1.length := by rw [hx1]; exact List.size_toArray
  have hr0 : remOf a0.x 0 = f0 := by rw [hx0]; rfl
  have hr1 : remOf a1.x 0 = f1 := by rw [hx1]; rfl
  have hf3 : f ≤ 3 := by (exact om332 hsf)
  have htab0 : TabOk (tabObj #[]) := ⟨#[], rfl, trivial⟩
  have hbd : ∀ p ∈ css, p.1.length ≤ 1000 := fun p hp => by
    have := (hcm p.1 (List.mem_map_of_mem hp)).1
    (exact om331 this)
  have hok : ∀ p ∈ css, PyData.strOk p.1 = true := fun p hp => (hcm p.1 (List.mem_map_of_mem hp)).2
  have hA0 : a0.x.length < 2000 := by (exact om330 hdl hl0 hL0 hf3)
  have hA1 : a1.x.length < 2000 := by (exact om330 hdl hl1 hL1 hf3)
  have hA2 : 2 ≤ a0.x.length := by (exact om329 hdl hl0 hL0)
  have hA3 : 2 ≤ a1.x.length := by (exact om329 hdl hl1 hL1)
  refine hGG ?_; clear hGG GG
  refine seqs (law7 a0 a1 ok0 ok1 ocr ocr hcr hcr hA0 hA1 hA2 hA3 1 1 tl0 tl1 tp0 tp1 0 0 0 0 0 0 dk dxk ll lc ld nk nll nc nd css Y dvs dks half (tabObj #[]) t2 none hhalf hcl hdv hd8 hdne (by (exact om328 hdl)) hbd hok htab0 z0 z1 (by rw [hr0]; exact hz0) (by rw [hr1]; exact hz1) r1 r2 base h₀ L m5 _ c5 _ _ _ hB F7 hX N7' D7' hT hG md5k ml5 mc5 md5 u3 u6 (fun q hq => .tail _ (.tail _ (b0i q hq))) (.tail _ (.tail _ bcr)) (fun q hq => .tail _ (.tail _ (b1i q hq))) (.tail _ (.tail _ bcr1)) ⟨tkd, .tail _ (.tail _ bdx)⟩ (.tail _ (.tail _ bll)) (.tail _ (.tail _ alc)) (.tail _ (.tail _ ald)) (bY.mono fun p hp => .tail _ (.tail _ hp)) ?_)
  intro h8 tk8 gs8 o6 tb8 lk kvs Y8 nkv nk8 ln08 ln18 tl08 tl18 tp08 tp18 n108 n208 n118 n218 p08 p18 X8 hG8 htb8 e6 hlk hkv hY8 hr08 hr18 hn08 hn18 F8 N8 D8 hle8
  refine ⟨rfl, ?_⟩
  refine asG ?_; intro GG hGG
  clear F7 N7' D7' bY hG
  rw [hr0] at hn08
  rw [hr1] at hn18
  have hkp : PermP half (stepsP half dks (List.range (2 * half))) := PermP.steps hhalf hd8 (PermP.start half)
  have hkd := steps_nodup hhalf dks _ hd8 (PermP.start half) List.nodup_range
  have hka : ∀ p, p < 2 * half → (stepsP half dks (List.range (2 * half))).getD p 0 = stepF half dks p := fun p hp => steps_range half dks p hp
  generalize stepsP half dks (List.range (2 * half)) = kn at hkp hkd hka hkv hY8
  have P8 := pk8 (LCl L { c5 with kn := o6 }) [(70, tb8)] [(dk, accObj dxk Y8 nk8)] (a0.mut w ln08 tl08 [] n108 p08 tp08 n208) (a1.mut w ln18 tl18 [] n118 p18 tp18 n218) X8 [(184, lexTab a0.cr cs)] [(63, tabObj #[])] B
  have N8' := cb_drop N8 fun p hp => P8.mem_iff.mpr hp
  have D8' := D8.perm P8
  clear N8 D8 P8
  obtain ⟨B2, hBB⟩ : ∃ B2 : Led, X8 ++ B = B2 := ⟨_, rfl⟩
  have bk : ∀ p ∈ B, p ∈ B2 := fun p hp => hBB ▸ List.mem_append_right _ hp
  replace hlk : (lk, W.listOf kvs.toArray nkv) ∈ B2 := hBB ▸ List.mem_append_left _ hlk
  replace hY8 : Cards B2 Y8 (orderP (css.map (·.1)) kn) := hBB ▸ hY8.mono fun p hp => List.mem_append_left _ hp
  replace N8' : News h₀ L h8 (LCl L { c5 with kn := o6 } ++ ((70, tb8) :: (184, lexTab a0.cr cs) :: ((dk, accObj dxk Y8 nk8) :: (a0.mut w ln08 tl08 [] n108 p08 tp08 n208 ++ (a1.mut w ln18 tl18 [] n118 p18 tp18 n218 ++ ((63, tabObj #[]) :: B2)))))) := hBB ▸ N8'
  replace D8' : DJ (LCl L { c5 with kn := o6 } ++ ((70, tb8) :: (184, lexTab a0.cr cs) :: ((dk, accObj dxk Y8 nk8) :: (a0.mut w ln08 tl08 [] n108 p08 tp08 n208 ++ (a1.mut w ln18 tl18 [] n118 p18 tp18 n218 ++ ((63, tabObj #[]) :: B2)))))) := hBB ▸ D8'
  clear hBB
  replace alc := bk _ alc
  replace alm := bk _ alm
  replace alf := bk _ alf
  replace als := bk _ als
  replace bdx := bk _ bdx
  replace bll := bk _ bll
  replace bcr := bk _ bcr
  replace bcr1 := bk _ bcr1
  replace b0i : ∀ q ∈ a0.imm w, q ∈ B2 := fun q hq => bk q (b0i q hq)
  replace b1i : ∀ q ∈ a1.imm w, q ∈ B2 := fun q hq => bk q (b1i q hq)
  clear bk ald
  have hol : (orderP (css.map (·.1)) kn).length = 2 * half := by rw [orderP_len, hkp.len]
  have hob := orderP_bd (cs := css.map (·.1)) (fun x hx => (hcm x hx).1) (ps := kn)
  -- the reader
  refine hGG ?_; clear hGG GG
  refine seqs (law8 dk dxk a0.cr cs nk8 tkd Y8 (orderP (css.map (·.1)) kn) tb8 none htb8 (by (exact om228 hhalf hol)) hob r1 r2 base h₀ L m5 _ _ _ _ _ hB F8 hX N8' D8' hT hG8 md5k (.head _) (.tail _ (List.mem_append_right _ (List.mem_append_right _ (.tail _ bdx)))) (hY8.mono fun p hp => .tail _ (List.mem_append_right _ (List.mem_append_right _ (.tail _ hp)))) u7 ?_)
  intro h9 tk9 gs9 o7 tb9 rd tlr tpr hG9 htb9 okr hrx hrc e7 F9 N9 D9 hle9
  refine ⟨rfl, ?_⟩
  refine asG ?_; intro GG hGG
  clear F8 N8' D8' hG8
  have P9 := pk9 (LCl L { { c5 with kn := o6 } with re := o7 }) [(70, tb9)] [(184, lexTab a0.cr cs)] (rd.mut w 1 tlr [] 0 0 tpr 0) (rd.imm w) [(dk, accObj dxk Y8 nk8)] (a0.mut w ln08 tl08 [] n108 p08 tp08 n208) (a1.mut w ln18 tl18 [] n118 p18 tp18 n218) [(63, tabObj #[])] B2
  have N9' := cb_drop N9 fun p hp => P9.mem_iff.mpr hp
  have D9' := D9.perm P9
  clear N9 D9 P9
  obtain ⟨B3, hBB⟩ : ∃ B3 : Led, (184, lexTab a0.cr cs) :: (rd.imm w ++ B2) = B3 := ⟨_, rfl⟩
  have bk : ∀ p ∈ B2, p ∈ B3 := fun p hp => hBB ▸ .tail _ (List.mem_append_right _ hp)
  have bri : ∀ q ∈ rd.imm w, q ∈ B3 := fun p hp => hBB ▸ .tail _ (List.mem_append_left _ hp)
  have b184 : (184, lexTab a0.cr cs) ∈ B3 := hBB ▸ .head _
  replace N9' : News h₀ L h9 (LCl L { { c5 with kn := o6 } with re := o7 } ++ (rd.mut w 1 tlr [] 0 0 tpr 0 ++ ((dk, accObj dxk Y8 nk8) :: (a0.mut w ln08 tl08 [] n108 p08 tp08 n208 ++ (a1.mut w ln18 tl18 [] n118 p18 tp18 n218 ++ ((63, tabObj #[]) :: (70, tb9) :: B3)))))) := hBB ▸ N9'
  replace D9' : DJ (LCl L { { c5 with kn := o6 } with re := o7 } ++ (rd.mut w 1 tlr [] 0 0 tpr 0 ++ ((dk, accObj dxk Y8 nk8) :: (a0.mut w ln08 tl08 [] n108 p08 tp08 n208 ++ (a1.mut w ln18 tl18 [] n118 p18 tp18 n218 ++ ((63, tabObj #[]) :: (70, tb9) :: B3)))))) := hBB ▸ D9'
  clear hBB
  replace alc := bk _ alc
  replace alm := bk _ alm
  replace alf := bk _ alf
  replace als := bk _ als
  replace bdx := bk _ bdx
  replace bll := bk _ bll
  replace bcr := bk _ bcr
  replace bcr1 := bk _ bcr1
  replace b0i : ∀ q ∈ a0.imm w, q ∈ B3 := fun q hq => bk q (b0i q hq)
  replace b1i : ∀ q ∈ a1.imm w, q ∈ B3 := fun q hq => bk q (b1i q hq)
  replace hlk := bk _ hlk
  replace hY8 := hY8.mono bk
  clear bk
  have bcrr : (rd.cr, ocr) ∈ B3 := hrc ▸ bcr
  -- the words
  have hrt : remOf rd.x 0 = deckT n2 n3 ((List.range (2 * half)).map fun q => kn.idxOf q) := by
    rw [hrx, hcss, ← deck_text n2 n3 half kn hkp]
    rfl
  have hrl := deckT_len n2 n3 ((List.range (2 * half)).map fun q => kn.idxOf q) (by
    intro i hi
    have := List.mem_range.mp ((idx_perm hkp hkd).mem_iff.mp hi)
    (exact om205 hhalf this))
  rw [← hrt, List.length_map, List.length_range] at hrl
  have hrl' : rd.x.length = (remOf rd.x 0).length := rfl
  have hwsl : (((List.range (2 * half)).map fun q => kn.idxOf q).map (nameP n2)).length = nss.length := by rw [List.length_map, List.length_map, List.length_range, hnl]
  refine hGG ?_; clear hGG GG
  refine seqs (law9 rd okr ocr hcr (by (exact om327 hhalf hrl hrl')) (by (exact om326 hgl hrl hrl')) lm nss nl tlr tpr (((List.range (2 * half)).map fun q => kn.idxOf q).map (nameP n2)) none hwsl (by (exact om228 hhalf hnl)) (by rw [hrt]; exact deckT_toks n2 n3 _) r1 r2 base h₀ L m5 _ _ _ _ _ hB F9 hX N9' D9' hT (fun q hq => .tail _ (List.mem_append_right _ (List.mem_append_right _ (.tail _ (.tail _ (bri q hq)))))) (.tail _ (List.mem_append_right _ (List.mem_append_right _ (.tail _ (.tail _ bcrr))))) (.tail _ (List.mem_append_right _ (List.mem_append_right _ (.tail _ (.tail _ alm))))) e7 u5 u8 ?_)
  intro h10 tk10 o8 lw wss nw lnr tlr2 tpr2 pr nr2 e8 hwss hwt hend F10 N10 D10 hle10
  refine ⟨rfl, ?_⟩
  refine asG ?_; intro GG hGG
  clear F9 N9' D9'
  have hwl : wss.length = 2 * half := by rw [← List.length_map (f := (·.1)), hwss]; simp [wordsS]
  obtain ⟨c8, N10', D10', v1, v2, v3, v4, v5, v6, v7, v8⟩ : ∃ c8 : Cs, News h₀ L h10 (LCl L c8 ++ (rd.mut w lnr tlr2 [] 0 pr tpr2 nr2 ++ ((lw, W.listOf (strVals wss).toArray nw) :: (dk, accObj dxk Y8 nk8) :: (a0.mut w ln08 tl08 [] n108 p08 tp08 n208 ++ (a1.mut w ln18 tl18 [] n118 p18 tp18 n218 ++ ((63, tabObj #[]) :: (70, tb9) :: B3)))))) ∧ DJ (LCl L c8 ++ (rd.mut w lnr tlr2 [] 0 pr tpr2 nr2 ++ ((lw, W.listOf (strVals wss).toArray nw) :: (dk, accObj dxk Y8 nk8) :: (a0.mut w ln08 tl08 [] n108 p08 tp08 n208 ++ (a1.mut w ln18 tl18 [] n118 p18 tp18 n218 ++ ((63, tabObj #[]) :: (70, tb9) :: B3)))))) ∧ c8.fi.data = .cell (some (.int f t1)) ∧ c8.si.data = .cell (some (.int (2 * half : Nat) t2)) ∧ c8.go.data = .cell (some (.int goal t3)) ∧ c8.na.data = .cell (some (.ref lm)) ∧ c8.kn.data = .cell (some (.ref lk)) ∧ c8.re.data = .cell (some (.ref rd.ix)) ∧ c8.wo.data = .cell (some (.ref lw)) ∧ c8.mo.data = .cell none := ⟨_, N10, D10, u2, u3, u4, u5, e6, e7, e8, u9⟩
  clear N10 D10 u1 u2 u3 u4 u5 u6 u7 u8 u9
  -- seen
  have hle49 : tk4 ≤ tk9 := Nat.le_trans hle5 (Nat.le_trans hle6 (Nat.le_trans hle7 (Nat.le_trans hle8 hle9)))
  refine hGG ?_; clear hGG GG
  refine seqs (law10 lm lw nss wss nl nw tk9 kn (by (exact om228 hhalf hnl)) (by (exact om228 hhalf hwl)) (by rw [hkp.len, hnl]) (fun p hp => ⟨(hnt p hp).1, Nat.lt_of_lt_of_le (hnt p hp).2 hle49⟩) hwt (seen_ok n2 half nss wss kn hkp hkd hnss hwss) r1 r2 base h₀ L m5 _ c8 _ _ _ hB F10 hX N10' D10' hT (List.mem_append_right _ (.tail _ (.tail _ (List.mem_append_right _ (List.mem_append_right _ (.tail _ (.tail _ alm))))))) (List.mem_append_right _ (.head _)) v4 v7 ?_)
  intro h11 tk11 lse svl nse hse F11 N11 D11 hle11
  refine ⟨rfl, ?_⟩
  refine asG ?_; intro GG hGG
  clear F10 N10' D10'
  obtain ⟨m6, F11', md6, ms6, mf6, mc6, ml6, me6⟩ : ∃ m6, Fr h₀ L h11 m6 ∧ m6 (Str.ofString "deck") = some (.ref dk) ∧ m6 (Str.ofString "straight") = some (.ref ls) ∧ m6 (Str.ofString "files") = some (.ref lf) ∧ m6 (Str.ofString "cards") = some (.ref lc) ∧ m6 (Str.ofString "lexers") = some (.ref ll) ∧ m6 (Str.ofString "seen") = some (.ref lse) := ⟨_, F11, by rw [if_neg (by decide +kernel)]; exact md5k, by rw [if_neg (by decide +kernel)]; exact ms5, by rw [if_neg (by decide +kernel)]; exact mf5, by rw [if_neg (by decide +kernel)]; exact mc5, by rw [if_neg (by decide +kernel)]; exact ml5, if_pos rfl⟩
  clear F11 md5k md5 ms5 mf5 mc5 ml5
  have P11 := pk11 [(lse, W.listOf svl.toArray nse)] (LCl L c8) (rd.mut w lnr tlr2 [] 0 pr tpr2 nr2) [(lw, W.listOf (strVals wss).toArray nw)] [(dk, accObj dxk Y8 nk8)] (a0.mut w ln08 tl08 [] n108 p08 tp08 n208) (a1.mut w ln18 tl18 [] n118 p18 tp18 n218) [(63, tabObj #[])] [(70, tb9)] B3
  have N11' := cb_drop N11 fun p hp => P11.mem_iff.mpr hp
  have D11' := D11.perm P11
  clear N11 D11 P11
  obtain ⟨B4, hBB⟩ : ∃ B4 : Led, (lse, W.listOf svl.toArray nse) :: (lw, W.listOf (strVals wss).toArray nw) :: B3 = B4 := ⟨_, rfl⟩
  have bk : ∀ p ∈ B3, p ∈ B4 := fun p hp => hBB ▸ .tail _ (.tail _ hp)
  have bse : (lse, W.listOf svl.toArray nse) ∈ B4 := hBB ▸ .head _
  replace N11' : News h₀ L h11 (LCl L c8 ++ (rd.mut w lnr tlr2 [] 0 pr tpr2 nr2 ++ ((dk, accObj dxk Y8 nk8) :: (a0.mut w ln08 tl08 [] n108 p08 tp08 n208 ++ (a1.mut w ln18 tl18 [] n118 p18 tp18 n218 ++ ((63, tabObj #[]) :: (70, tb9) :: B4)))))) := hBB ▸ N11'
  replace D11' : DJ (LCl L c8 ++ (rd.mut w lnr tlr2 [] 0 pr tpr2 nr2 ++ ((dk, accObj dxk Y8 nk8) :: (a0.mut w ln08 tl08 [] n108 p08 tp08 n208 ++ (a1.mut w ln18 tl18 [] n118 p18 tp18 n218 ++ ((63, tabObj #[]) :: (70, tb9) :: B4)))))) := hBB ▸ D11'
  clear hBB
  replace alc := bk _ alc
  replace alf := bk _ alf
  replace als := bk _ als
  replace bdx := bk _ bdx
  replace bll := bk _ bll
  replace bcr := bk _ bcr
  replace bcr1 := bk _ bcr1
  replace bcrr := bk _ bcrr
  replace b184 := bk _ b184
  replace b0i : ∀ q ∈ a0.imm w, q ∈ B4 := fun q hq => bk q (b0i q hq)
  replace b1i : ∀ q ∈ a1.imm w, q ∈ B4 := fun q hq => bk q (b1i q hq)
  replace bri : ∀ q ∈ rd.imm w, q ∈ B4 := fun q hq => bk q (bri q hq)
  replace hlk := bk _ hlk
  replace hY8 := hY8.mono bk
  clear bk alm
  -- the ends of the reader
  refine hGG ?_; clear hGG GG
  refine seqs (law11 rd okr ocr hcr (by (exact om327 hhalf hrl hrl')) (by (exact om326 hgl hrl hrl')) lnr tlr2 tpr2 pr nr2 lse lk svl kvs nse nkv kn hse hkv hend r1 r2 base h₀ L m6 _ c8 _ _ _ hB F11' hX N11' D11' hT me6 (.tail _ (List.mem_append_right _ (List.mem_append_right _ (.tail _ (.tail _ bse))))) (.tail _ (List.mem_append_right _ (List.mem_append_right _ (.tail _ (.tail _ hlk))))) (fun q hq => .tail _ (List.mem_append_right _ (List.mem_append_right _ (.tail _ (.tail _ (bri q hq)))))) (.tail _ (List.mem_append_right _ (List.mem_append_right _ (.tail _ (.tail _ bcrr))))) v5 v6 ?_)
  intro h12 tk12 lnr3 tlr3 tpr3 pr3 nr3 F12 N12 D12 hle12
  refine ⟨rfl, ?_⟩
  refine asG ?_; intro GG hGG
  clear F11' N11' D11'
  have P12 := pk12 (LCl L c8) (rd.mut w lnr3 tlr3 [] 0 pr3 tpr3 nr3) [(dk, accObj dxk Y8 nk8)] (a0.mut w ln08 tl08 [] n108 p08 tp08 n208) (a1.mut w ln18 tl18 [] n118 p18 tp18 n218) [(63, tabObj #[])] [(70, tb9)] B4
  have N12' := cb_drop N12 fun p hp => P12.mem_iff.mpr hp
  have D12' := D12.perm P12
  clear N12 D12 P12
  obtain ⟨B5, hBB⟩ : ∃ B5 : Led, rd.mut w lnr3 tlr3 [] 0 pr3 tpr3 nr3 ++ B4 = B5 := ⟨_, rfl⟩
  have bk : ∀ p ∈ B4, p ∈ B5 := fun p hp => hBB ▸ List.mem_append_right _ hp
  replace N12' : News h₀ L h12 (LCl L c8 ++ ((63, tabObj #[]) :: (dk, accObj dxk Y8 nk8) :: (70, tb9) :: (a0.mut w ln08 tl08 [] n108 p08 tp08 n208 ++ (a1.mut w ln18 tl18 [] n118 p18 tp18 n218 ++ B5)))) := hBB ▸ N12'
  replace D12' : DJ (LCl L c8 ++ ((63, tabObj #[]) :: (dk, accObj dxk Y8 nk8) :: (70, tb9) :: (a0.mut w ln08 tl08 [] n108 p08 tp08 n208 ++ (a1.mut w ln18 tl18 [] n118 p18 tp18 n218 ++ B5)))) := hBB ▸ D12'
  clear hBB
  replace alc := bk _ alc
  replace alf := bk _ alf
  replace als := bk _ als
  replace bdx := bk _ bdx
  replace bll := bk _ bll
  replace bcr := bk _ bcr
  replace bcr1 := bk _ bcr1
  replace b184 := bk _ b184
  replace bse := bk _ bse
  replace b0i : ∀ q ∈ a0.imm w, q ∈ B5 := fun q hq => bk q (b0i q hq)
  replace b1i : ∀ q ∈ a1.imm w, q ∈ B5 := fun q hq => bk q (b1i q hq)
  replace hlk := bk _ hlk
  replace hY8 := hY8.mono bk
  clear bk bri bcrr
  -- the deck's length
  refine hGG ?_; clear hGG GG
  refine seqs (law12 dk dxk lc nk8 nc (2 * half) tkd t2 Y8 (orderP (css.map (·.1)) kn) css (tabObj #[]) htab0 hol hcl (by (exact om325 hhalf)) hob hbd (sumLen_order n2 n3 half css hcss kn hkp hkd) r1 r2 base h₀ L m6 _ c8 _ _ _ hB F12 hX N12' D12' hT hG9 md6 mc6 (.tail _ (List.mem_append_right _ (List.mem_append_right _ bdx))) (hY8.mono fun p hp => .tail _ (List.mem_append_right _ (List.mem_append_right _ hp))) (.tail _ (List.mem_append_right _ (List.mem_append_right _ alc))) v2 ?_)
  intro h13 tk13 gs13 tb13 hG13 htb13 F13 N13 D13 hle13
  refine ⟨rfl, ?_⟩
  refine asG ?_; intro GG hGG
  clear F12 N12' D12' hG9
  -- told
  refine hGG ?_; clear hGG GG
  refine seqs (law13 lse lk svl kvs nse nkv (2 * half) f kn t2 t1 (by (exact om324 hsf)) hkp.len (fun q hq => by have := hkp.lt q hq; (exact om205 hhalf this)) hse hkv (fun k hk => by
      rw [told_at half hhalf (stepF half dks) (stepF_aff half hhalf dks hd8) kn hka k hk f (by (exact om323 hsz)), hka k hk, Nat.mod_eq_of_lt (by (exact om202 hsz hk))]) r1 r2 base h₀ L m6 _ c8 _ _ _ hB F13 hX N13 D13 hT me6 (.tail _ (.tail _ (.tail _ (List.mem_append_right _ (List.mem_append_right _ bse))))) (.tail _ (.tail _ (.tail _ (List.mem_append_right _ (List.mem_append_right _ hlk))))) v2 v1 v5 ?_)
  intro h14 tk14 m7 hmE F14 N14 hle14
  refine ⟨rfl, ?_⟩
  refine asG ?_; intro GG hGG
  clear F13 N13
  have md7 := (hmE _ (by decide +kernel) (by decide +kernel) (by decide +kernel)).trans md6
  have ms7 := (hmE _ (by decide +kernel) (by decide +kernel) (by decide +kernel)).trans ms6
  have mf7 := (hmE _ (by decide +kernel) (by decide +kernel) (by decide +kernel)).trans mf6
  have mc7 := (hmE _ (by decide +kernel) (by decide +kernel) (by decide +kernel)).trans mc6
  have ml7 := (hmE _ (by decide +kernel) (by decide +kernel) (by decide +kernel)).trans ml6
  clear hmE md6 ms6 mf6 mc6 ml6 me6
  -- packed and moved
  refine hGG ?_; clear hGG GG
  refine seqs (law14 lk kvs nkv (2 * half) goal kn t2 t3 none (by (exact om298 hhalf)) (by (exact om205 hhalf hgl)) hkp.len (fun q hq => by have := hkp.lt q hq; (exact om205 hhalf this)) hkv r1 r2 base h₀ L m7 _ c8 _ _ _ hB F14 hX N14 D13 hT (.tail _ (.tail _ (.tail _ (List.mem_append_right _ (List.mem_append_right _ hlk))))) v2 v3 v5 v8 ?_)
  intro h15 tk15 o9 m8 tm e9 hmE F15 N15 D15 hle15
  refine ⟨rfl, ?_⟩
  refine asG ?_; intro GG hGG
  clear F14 N14 D13
  have md8 := (hmE _ (by decide +kernel)).trans md7
  have ms8 := (hmE _ (by decide +kernel)).trans ms7
  have mf8 := (hmE _ (by decide +kernel)).trans mf7
  have mc8 := (hmE _ (by decide +kernel)).trans mc7
  have ml8 := (hmE _ (by decide +kernel)).trans ml7
  clear hmE md7 ms7 mf7 mc7 ml7
  have P15 := pk15 (LCl L { c8 with mo := o9 }) [(63, tb13)] [(dk, accObj dxk Y8 nk8)] [(70, tb9)] (a0.mut w ln08 tl08 [] n108 p08 tp08 n208) (a1.mut w ln18 tl18 [] n118 p18 tp18 n218) B5
  have N15' := cb_drop N15 fun p hp => P15.mem_iff.mpr hp
  have D15' := D15.perm P15
  clear N15 D15 P15
  have e9' : o9.data = .cell (some (.int (((packP kn (2 * half) (2 * half)).sum ^^^ (goalP goal (2 * half) (2 * half)).sum : Nat) : Int) tm)) := by rw [e9, bitXor_nat]
  have hlast : ∀ k, k < 2 * half → ((packP kn (2 * half) (2 * half)).sum ^^^ (goalP goal (2 * half) (2 * half)).sum) / 2 ^ (f * k) % (2 * half) = (stepsP half sks kn).getD k 0 := by
    intro k hk
    rw [moved_at half f goal hsf kn hkp.len hkp.lt hgl k hk, stepsP_map]
    have hk2 : k < kn.length := by rw [hkp.len]; exact hk
    have hb : kn[k] < 2 * half := hkp.lt _ (List.getElem_mem hk2)
    rw [List.getD_eq_getElem?_getD, List.getD_eq_getElem?_getD, List.getElem?_map, List.getElem?_eq_getElem hk2]
    show kn[k] ^^^ goal = stepF half sks kn[k]
    rw [← hsks, straight_at half f goal _ hsf hgl hb]
  generalize (packP kn (2 * half) (2 * half)).sum ^^^ (goalP goal (2 * half) (2 * half)).sum = M at e9' hlast
  clear e9
  have hsne : sks ≠ [] := by
    intro h
    rw [h] at hsl
    simp only [List.length_nil] at hsl
    (exact om322 hsf hsl)
  -- the straight shuffles
  refine hGG ?_; clear hGG GG
  refine seqs (law15 a0 a1 ok0 ok1 ocr ocr hcr hcr hA0 hA1 hA2 hA3 ln08 ln18 tl08 tl18 tp08 tp18 n108 n208 n118 n218 p08 p18 dk dxk ll lc lk ls nk8 nll nc nkv ns css Y8 kvs svs kn sks half f M tb9 t2 t1 tm hsf hcl hkv hkp hsvv hs8 hsne (by (exact om321 hsf hsl)) hbd hok htb9 y0 y1 (by rw [hr08]; exact hy0) (by rw [hr18]; exact hy1) hlast r1 r2 base h₀ L m8 _ _ _ _ _ hB F15 hX N15' D15' hT hG13 md8 ml8 mc8 ms8 v2 v1 v5 e9' (fun q hq => .tail _ (b0i q hq)) (.tail _ bcr) (fun q hq => .tail _ (b1i q hq)) (.tail _ bcr1) ⟨tkd, .tail _ bdx⟩ (.tail _ bll) (.tail _ alc) (.tail _ hlk) (.tail _ als) (hY8.mono fun p hp => .tail _ hp) ?_)
  intro h16 tk16 gs16 m9 tb16 Y16 nk16 ln09 ln19 tl09 tl19 tp09 tp19 n109 n209 n119 n219 p09 p19 X16 hG16 htb16 hr09 hr19 hn09 hn19 hmE F16 N16 D16 hle16
  refine ⟨rfl, ?_⟩
  refine asG ?_; intro GG hGG
  clear F15 N15' D15' hG13
  have mf9 := (hmE _ (by decide +kernel)).trans mf8
  have ml9 := (hmE _ (by decide +kernel)).trans ml8
  clear hmE md8 ms8 mf8 mc8 ml8
  have P16 := pk16 (LCl L { c8 with mo := o9 }) [(70, tb16)] [(dk, accObj dxk Y16 nk16)] (a0.mut w ln09 tl09 [] n109 p09 tp09 n209) (a1.mut w ln19 tl19 [] n119 p19 tp19 n219) X16 [(63, tb13)] B5
  have N16' := cb_drop N16 fun p hp => P16.mem_iff.mpr hp
  have D16' := D16.perm P16
  clear N16 D16 P16
  obtain ⟨B6, hBB⟩ : ∃ B6 : Led, (dk, accObj dxk Y16 nk16) :: (X16 ++ ((63, tb13) :: B5)) = B6 := ⟨_, rfl⟩
  have bk : ∀ p ∈ B5, p ∈ B6 := fun p hp => hBB ▸ .tail _ (List.mem_append_right _ (.tail _ hp))
  have b63 : (63, tb13) ∈ B6 := hBB ▸ .tail _ (List.mem_append_right _ (.head _))
  replace N16' : News h₀ L h16 (LCl L { c8 with mo := o9 } ++ ((a0.mut w ln09 tl09 [] n109 p09 tp09 n209 ++ a1.mut w ln19 tl19 [] n119 p19 tp19 n219) ++ ((70, tb16) :: B6))) := hBB ▸ N16'
  replace D16' : DJ (LCl L { c8 with mo := o9 } ++ ((a0.mut w ln09 tl09 [] n109 p09 tp09 n209 ++ a1.mut w ln19 tl19 [] n119 p19 tp19 n219) ++ ((70, tb16) :: B6))) := hBB ▸ D16'
  clear hBB
  replace alf := bk _ alf
  replace bll := bk _ bll
  replace bcr := bk _ bcr
  replace bcr1 := bk _ bcr1
  replace b184 := bk _ b184
  replace b0i : ∀ q ∈ a0.imm w, q ∈ B6 := fun q hq => bk q (b0i q hq)
  replace b1i : ∀ q ∈ a1.imm w, q ∈ B6 := fun q hq => bk q (b1i q hq)
  clear bk alc als bdx bse hlk hY8
  -- the ends
  refine hGG ?_; clear hGG GG
  refine seqs (law16 a0 a1 ok0 ok1 ocr ocr hcr hcr hA0 hA1 hA2 hA3 ln09 ln19 tl09 tl19 tp09 tp19 n109 n209 n119 n219 p09 p19 ll nll (by rw [hr09]; exact hy0t) (by rw [hr19]; exact hy1t) r1 r2 base h₀ L m9 _ _ _ _ _ hB F16 hX N16' D16' hT ml9 (.tail _ bll) (fun q hq => .tail _ (b0i q hq)) (.tail _ bcr) (fun q hq => .tail _ (b1i q hq)) (.tail _ bcr1) ?_)
  intro h17 tk17 le ne tA tB tl0a tp0a tl1a tp1a n20a p0a n21a p1a F17 N17 D17 hle17
  refine ⟨rfl, ?_⟩
  refine asG ?_; intro GG hGG
  clear F16 N16' D16'
  obtain ⟨ma, F17', mla, mea, mfa⟩ : ∃ ma, Fr h₀ L h17 ma ∧ ma (Str.ofString "lexers") = some (.ref ll) ∧ ma (Str.ofString "ends") = some (.ref le) ∧ ma (Str.ofString "files") = some (.ref lf) := ⟨_, F17, by rw [if_neg (by decide +kernel)]; exact ml9, if_pos rfl, by rw [if_neg (by decide +kernel)]; exact mf9⟩
  clear F17 ml9 mf9
  rw [hr08] at hn09
  rw [hr18] at hn19
  have hk0 : ln09 + Mine.nl (remOf a0.x p09) = ((1 + (f0.filter (· == 10)).length : Nat) : Int) := by rw [hr09]; exact ln_end hn09 hn08 rfl
  have hk1 : ln19 + Mine.nl (remOf a1.x p19) = ((1 + (f1.filter (· == 10)).length : Nat) : Int) := by rw [hr19]; exact ln_end hn19 hn18 rfl
  have hc0 : 1 + Txt.count ⟨f0.toArray⟩ (Str.ofString "\n") = ((1 + (f0.filter (· == 10)).length : Nat) : Int) := by rw [count_nl]; exact ln_c rfl
  have hc1 : 1 + Txt.count ⟨f1.toArray⟩ (Str.ofString "\n") = ((1 + (f1.filter (· == 10)).length : Nat) : Int) := by rw [count_nl]; exact ln_c rfl
  rw [hk0, hk1] at N17 D17
  have P17 := pk17 [(le, W.listOf [Value.str ⟨#[]⟩ tA, .str ⟨#[]⟩ tB].toArray ne)] (LCl L { c8 with mo := o9 }) (a0.mut w ((1 + (f0.filter (· == 10)).length : Nat) : Int) tl0a [] n109 p0a tp0a n20a ++ a1.mut w ((1 + (f1.filter (· == 10)).length : Nat) : Int) tl1a [] n119 p1a tp1a n21a) ((70, tb16) :: B6)
  have N17' := cb_drop N17 fun p hp => P17.mem_iff.mpr hp
  have D17' := D17.perm P17
  clear N17 D17 P17
  obtain ⟨q184, hq184⟩ : ∃ q, lexTab a0.cr cs = tabObj q := ⟨_, rfl⟩
  obtain ⟨q63, h63, -⟩ := htb13
  rw [h63] at b63
  obtain ⟨q70, h70, -⟩ := htb16
  refine hGG ?_; clear hGG GG
  refine law17 a0 a1 tl0a tl1a tp0a tp1a n109 n20a n119 n21a _ _ p0a p1a ll le lf nll ne nf tA tB tf0 tf1 ⟨f0.toArray⟩ ⟨f1.toArray⟩ hc0 hc1 r1 r2 base h₀ L ma _ _ _ _ _ hB F17' hX N17' D17' hT mla mea mfa (.tail _ (.tail _ bll)) (.head _) (.tail _ (.tail _ alf)) (fun q hq => .tail _ (.tail _ (b0i q hq))) (fun q hq => .tail _ (.tail _ (b1i q hq))) ?_
  intro h18 tk18 F18 N18
  exact hret h18 tk18 gs16 ma _ q63 q70 q184 hG16 F18 N18 (.tail _ (.tail _ b63)) (h70 ▸ .tail _ (.head _)) (.tail _ (.tail _ (hq184 ▸ b184)))
end

section
open PySem PySem.W PyProof.Rows PySem.Calls PySem.Spec
set_option maxHeartbeats 8000000
section
variable {prog : Program} {w : World} {A : Around} {s : Shared} {R : Result → Shared → Prop}
theorem newEnv_T {M : Model} {E : Value → Shared → Prop} {scope : Scope} {globals : Addr} {n : Str} {v : Value} {qual : Str} {func : Option Addr} {code : Value} {builtins : Addr} {Q : Env → Shared → Prop}
    (hk : scope.kind = .function) (hl : scope.names.lookup n = some .local)
    (hQ : ∀ env, env = newEnv scope s.heap.objs.size globals (cellsFrom (s.heap.objs.size + 1) scope.names []) qual func code none builtins →
      ∀ s', 0 < s'.toks → InCallC s env.locals (fun y => if y = n then some v else none) env.cells (fun _ => none) s' → Q env s') :
    wpAny M A (newFunctionEnv scope globals [] [(n, v)] qual func code none builtins) Q E s := by
  simp only [newFunctionEnv, Option.isSome_none, Bool.false_eq_true, if_false]
  refine wpAny_bind (wpAny_alloc ?_)
  refine wpAny_bind (wpAny_layCells _ (fun name kind cells => by cases hkc : kind == NameKind.cell <;> simp [hkc]) _ _ _ _ ?_)
  have ok := cellsFrom_ok scope.names (s.heap.push { cls := .type "frame", data := .dict #[] }) (s.heap.objs.size + 1) [] ⟨fun _ _ hm => (nomatch hm), List.Pairwise.nil⟩ (by rw [Heap.size_push]; exact Nat.le_refl _)
  rw [Heap.size_push] at ok
  rw [show ({ s with heap := s.heap.push { cls := .type "frame", data := .dict #[] } } : Shared).heap.objs.size = s.heap.objs.size + 1 from Heap.size_push ..]
  rw [List.forIn_cons]
  have x : InCallC s (newEnv scope s.heap.objs.size globals (cellsFrom (s.heap.objs.size + 1) scope.names []) qual func code none builtins).locals (fun _ => none) (newEnv scope s.heap.objs.size globals (cellsFrom (s.heap.objs.size + 1) scope.names []) qual func code none builtins).cells (fun _ => none) { s with heap := pushCells (s.heap.push { cls := .type "frame", data := .dict #[] }) scope.names } :=
    ⟨⟨⟨_, _, rfl⟩, (Heap.Ns.new s.heap (.type "frame")).keeps (pushCells_keeps _ _), fun b o e => pushCells_keeps _ _ b o (Heap.get?_push_of_some _ e), Nat.le_refl _⟩,
      fun n c hc => (ok.empty n c (mem_of_lookup hc)).1, ok.apart, fun n c hm => (ok.empty n c hm).2⟩
  refine wpAny_bind (wpAny_bind (wpAny_bind (wpAny_storeName_local hl x.toInCall.ns (fun h' hn' hs' => ?_) (by show (scope.kind == .class || (scope.kind == .module && _)) = false; rw [hk]; rfl))))
  refine wpAny_pure (by dsimp only; rw [List.forIn_nil]; exact wpAny_pure (wpAny_pure (hQ _ rfl _ (Nat.succ_pos _) ⟨⟨⟨_, _, rfl⟩, hn', fun b o e => hs'.extBut b o (Nat.ne_of_lt (Nat.lt_of_lt_of_le (Heap.lt_size e) x.toInCall.fresh)) (x.toInCall.keep b o e), x.toInCall.fresh⟩, fun k c hc => (x.cell k c hc).sameBut hs' (Nat.ne_of_gt (x.above k c (mem_of_lookup hc))), x.apart, x.above⟩)))
theorem callTop {name qual n : Str} {v : Value} {params : Arguments} {body : List Stmt} {scope : Scope} {dV kV doc pm cdv ct : Value} {an : Option Addr} {fo : Obj} {f : Addr} {args : Args} {h₀ : Heap}
    (ho : s.heap.get? f = some fo) (hd : fo.data = .func (fnX name qual params body scope [] dV kV doc pm an cdv ct)) (hcd : s.heap.CodeRec cdv qual) (hroom : A.depth < recursionLimit) (hlim : s.heap.NoLimit)
    (hbind : BindsTo s (fnX name qual params body scope [] dV kV doc pm an cdv ct) args [(n, v)]) (hl : scope.names.lookup n = some .local) (hnd : ((cellsFrom 0 scope.names []).map (·.1)).Nodup)
    (hst : ∀ b o, h₀.get? b = some o → s.heap.get? b = some o) (hsz : h₀.objs.size = s.heap.objs.size)
    (h : ∀ h₁ tk cells, 0 < tk → Fr h₀ s.heap.objs.size h₁ (fun y => if y = n then some v else none) → News h₀ s.heap.objs.size h₁ cells → CellsAre (fun _ => none) (cellsFrom (s.heap.objs.size + 1) scope.names []) cells → (∀ b o, s.heap.get? b = some o → h₁.get? b = some o) →
      wpAny (model prog w) (A.deeper (envOfC qual scope s.heap.objs.size f cdv)) (execs body (envOfC qual scope s.heap.objs.size f cdv))
        (fun fl s' => R (.ok (.ret (match fl with | .ret v => v | _ => .none))) s')
        (fun e s' => wpAny (model prog w) (A.deeper (envOfC qual scope s.heap.objs.size f cdv)) (leaving (envOfC qual scope s.heap.objs.size f cdv) e) (fun _ s'' => R (.error e) s'') (fun e' s'' => R (.error e') s'') s')
        { s with heap := h₁, toks := tk })
    (hco : scope.isCoroutine = false := by rfl) (hgen : scope.isGenerator = false := by rfl) (hk : scope.kind = .function := by rfl) : codeAny (model prog w) A (.call (.ref f) args) R s := by
  refine codeAny_call_function hroom ho hd hco hgen rfl hcd (hbind _ _ _ _ ?_)
  refine newEnv_T hk hl fun env' he s' htk x => ?_
  subst he
  refine ⟨hlim.keeps x.toInCall.keep, codeAny_func ?_⟩
  obtain ⟨h₁, tk, rfl, _⟩ := x.done
  have hk₁ := x.toInCall.keep
  obtain ⟨cells, NC, Y⟩ := Cl.news (h₀ := h₀) (L := s.heap.objs.size) (Nat.le_of_eq hsz) fun n c hm => ⟨x.cell n c (lookup_of_mem_nodup (cellsFrom_names scope.names 0 (s.heap.objs.size + 1) [] [] rfl ▸ hnd) hm), x.above n c hm⟩
  exact h h₁ tk cells htk ⟨x.toInCall.ns, fun b o e => hk₁ b o (hst b o e), Nat.le_of_eq hsz⟩ NC Y hk₁
end
theorem post_law {M : Model} {A : Around} {cd : Code} {s s₁ : Shared} {cw : ClaimW} {cl : Str → Option Addr} {mean : ExcName → Option Value} {args : List WData} {tabs : List (Addr × Addr)} {v : Value} {d : WData} (hT : TabsAt tabs s₁.heap) (hr : ∀ a x, cw.raises a x = false)
    (hrd : ∀ h, ReadsW cw.records cl h v d []) (hp : cw.post args d args = true)
    (h : codeAny M A cd (fun r s' => (r = .ok (.ret v)) ∧ (∀ b o, (ghostOf s₁.heap tabs).get? b = some o → s'.heap.get? b = some o) ∧ s'.os = s₁.os ∧ AllBare s'.gens ∧ GrownAll tabs s'.heap) s) : codeAny M A cd (GoodWG cw cl mean args s₁) s :=
  codeAny_mono h fun r s' ⟨hc, hk, hos, hg, hgr⟩ => by
    have keep : ∀ b o, b ∉ tabs.map (·.2) → s₁.heap.get? b = some o → s'.heap.get? b = some o := fun b o hb e => hk b o (ghost_ne e hb)
    have grown : ∀ b o, b ∈ tabs.map (·.2) → s₁.heap.get? b = some o → isCodeTable s₁.heap b ∧ o = tabObj #[] ∧ ∃ ps, s'.heap.get? b = some (tabObj ps) := fun b o hb e => by
      obtain ⟨q, hq, rfl⟩ := List.mem_map.mp hb
      have e2 := (hT q hq).2
      rw [e] at e2
      exact ⟨((hT q hq).1.tab (hT q hq).2).isCodeTable, Option.some.inj e2, hgr.get q hq⟩
    refine ⟨.inl ⟨v, d, [], hc, fun x => hr _ x, hrd _, hp, fun _ => ⟨List.nodup_nil, fun a ha => nomatch ha⟩⟩, ⟨fun b o e => ?_, fun b o e => ?_⟩, hos, hg⟩
    · by_cases hb : b ∈ tabs.map (·.2)
      · obtain ⟨ht, rfl, ps, hP⟩ := grown b o hb e
        exact .inr (.inl ⟨ht, rfl, #[], ps, rfl, by rw [Array.empty_append]; exact hP⟩)
      · exact .inl (keep b o hb e)
    · by_cases hb : b ∈ tabs.map (·.2)
      · obtain ⟨_, _, ps, hP⟩ := grown b o hb e
        exact ⟨_, hP⟩
      · exact ⟨o, keep b o hb e⟩
end

section
open PySem PySem.W PyProof.Rows PySem.Calls PySem.Spec
set_option maxHeartbeats 8000000
variable {w : World} {mean : ExcName → Option Value} {mg mb : Str → Option Value}
noncomputable abbrev TB : List (Addr × Addr) := [(67, 63), (74, 70), (188, 184)]
theorem cellsOne {n : Str} {c : Addr} {l : List (Str × Addr)} {cells : List (Addr × Obj)} (x : CellsAre (fun _ => none) ((n, c) :: l) cells) {G : Prop} (h : ∀ o r, o.data = .cell none → CellsAre (fun _ => none) l r → cells = (c, o) :: r → G) : G := by
  cases x with | cons d r => exact h _ _ d r rfl
theorem cells9 {n1 n2 n3 n4 n5 n6 n7 n8 n9 : Str} {c1 c2 c3 c4 c5 c6 c7 c8 c9 : Addr} {cells : List (Addr × Obj)} (x : CellsAre (fun _ => none) [(n1, c1), (n2, c2), (n3, c3), (n4, c4), (n5, c5), (n6, c6), (n7, c7), (n8, c8), (n9, c9)] cells) {G : Prop}
    (h : ∀ o1 o2 o3 o4 o5 o6 o7 o8 o9 : Obj, cells = [(c1, o1), (c2, o2), (c3, o3), (c4, o4), (c5, o5), (c6, o6), (c7, o7), (c8, o8), (c9, o9)] → o1.data = .cell none → o2.data = .cell none → o3.data = .cell none → o4.data = .cell none → o5.data = .cell none → o6.data = .cell none → o7.data = .cell none → o8.data = .cell none → o9.data = .cell none → G) : G :=
  cellsOne x fun o1 r1 d1 x2 e1 => cellsOne x2 fun o2 r2 d2 x3 e2 => cellsOne x3 fun o3 r3 d3 x4 e3 => cellsOne x4 fun o4 r4 d4 x5 e4 => cellsOne x5 fun o5 r5 d5 x6 e5 => cellsOne x6 fun o6 r6 d6 x7 e6 => cellsOne x7 fun o7 r7 d7 x8 e7 => cellsOne x8 fun o8 r8 d8 x9 e8 => cellsOne x9 fun o9 r9 d9 x10 e9 => by cases x10; exact h o1 o2 o3 o4 o5 o6 o7 o8 o9 (by rw [e1, e2, e3, e4, e5, e6, e7, e8, e9]) d1 d2 d3 d4 d5 d6 d7 d8 d9
theorem law_call (s₁ : Shared) (la : Addr) (sv : List Value) (sn : List Int) (hsv : IntsAre sv sn) (hlen : sn.length < 1000) : PySem.Challenge.rw_xj0013_01 = PySem.Challenge.rw_xj0013_01 → hd.heap_1 = hd.heap_1 →
    Tp mean mg mb (ghostOf s₁.heap TB) → (hd.heap_1 w.params).In s₁.heap → TabsAt TB s₁.heap → s₁.heap.IsList la sv.toArray → AllBare s₁.gens →
    codeAny (model PySem.Challenge.pw_xj0013_01 w) callerA (.call (.ref 225) { pos := [.ref la] }) (fun r s' => (r = .ok (.ret (.bool true))) ∧ (∀ b o, (ghostOf s₁.heap TB).get? b = some o → s'.heap.get? b = some o) ∧ s'.os = s₁.os ∧ AllBare s'.gens ∧ GrownAll TB s'.heap) s₁ := by
  k_fill
  intro r1 r2 hT KX hT9 hL hG
  have st : ∀ b o, (ghostOf s₁.heap TB).get? b = some o → s₁.heap.get? b = some o := fun b o e => of_hideAll _ e
  refine' callTop (n := Str.ofString "script") (v := .ref la) (h₀ := ghostOf s₁.heap TB) (KX 225 _ rfl) rfl (codeRec_of KX ?k7) (by decide) (hT.nolimit.keeps st) (BindsTo.of_eq rfl) ?l ?nd st (hideAll_size _ _) ?_ ?c2 ?c3 ?c4
  (case k7 => k_is); (case l => exact rfl); (case nd => decide); (case c2 => exact rfl); (case c3 => exact rfl); (case c4 => exact rfl)
  intro h₁ tk cells htk F N CA hk
  have lt63 : 63 < s₁.heap.objs.size := Heap.lt_size (hT9 (67, 63) (.head _)).2
  have lt70 : 70 < s₁.heap.objs.size := Heap.lt_size (hT9 (74, 70) (.tail _ (.head _))).2
  have lt184 : 184 < s₁.heap.objs.size := Heap.lt_size (hT9 (188, 184) (.tail _ (.tail _ (.head _)))).2
  have NT : News (ghostOf s₁.heap TB) s₁.heap.objs.size h₁ [(63, tabObj #[]), (70, tabObj #[]), (184, tabObj #[])] := by
    refine List.forall_mem_cons.mpr ⟨⟨hk _ _ (hT9 (67, 63) (.head _)).2, Nat.ne_of_lt lt63, hideAll_none _ (.head _)⟩, List.forall_mem_cons.mpr ⟨⟨hk _ _ (hT9 (74, 70) (.tail _ (.head _))).2, Nat.ne_of_lt lt70, hideAll_none _ (.tail _ (.head _))⟩, List.forall_mem_cons.mpr ⟨⟨hk _ _ (hT9 (188, 184) (.tail _ (.tail _ (.head _)))).2, Nat.ne_of_lt lt184, hideAll_none _ (.tail _ (.tail _ (.head _)))⟩, fun _ h => nomatch h⟩⟩⟩
  generalize s₁.heap.objs.size = L at F N CA NT lt63 lt70 lt184 ⊢
  refine cells9 CA fun om ow or ok on og os of ou eC dm dw dr dk dn dg ds df du => ?_
  subst eC
  have N2 : News (ghostOf s₁.heap TB) L h₁ (LCl L ⟨ou, of, os, og, on, ok, or, ow, om⟩ ++ [(63, tabObj #[]), (70, tabObj #[]), (184, tabObj #[])]) := fun p hp => (List.mem_append.mp hp).elim (N p) (NT p)
  have D2 : DJ (LCl L ⟨ou, of, os, og, on, ok, or, ow, om⟩ ++ [(63, tabObj #[]), (70, tabObj #[]), (184, tabObj #[])]) := by
    show [L + 1 + 1 + 1 + 1 + 1 + 1 + 1 + 1 + 1, L + 1 + 1 + 1 + 1 + 1 + 1 + 1 + 1, L + 1 + 1 + 1 + 1 + 1 + 1 + 1, L + 1 + 1 + 1 + 1 + 1 + 1, L + 1 + 1 + 1 + 1 + 1, L + 1 + 1 + 1 + 1, L + 1 + 1 + 1, L + 1 + 1, L + 1, (63 : Nat), 70, 184].Nodup
    exact nodup_up (a := 63) (l := [70, 184, L + 1, L + 1 + 1, L + 1 + 1 + 1, L + 1 + 1 + 1 + 1, L + 1 + 1 + 1 + 1 + 1, L + 1 + 1 + 1 + 1 + 1 + 1, L + 1 + 1 + 1 + 1 + 1 + 1 + 1, L + 1 + 1 + 1 + 1 + 1 + 1 + 1 + 1, L + 1 + 1 + 1 + 1 + 1 + 1 + 1 + 1 + 1])
      ⟨Nat.le_of_ble_eq_true rfl, Nat.le_of_ble_eq_true rfl, Nat.lt_succ_of_lt lt184, Nat.lt_succ_self _, Nat.lt_succ_self _, Nat.lt_succ_self _, Nat.lt_succ_self _, Nat.lt_succ_self _, Nat.lt_succ_self _, Nat.lt_succ_self _, Nat.lt_succ_self _, trivial⟩ [11, 10, 9, 8, 7, 6, 5, 4, 3, 0, 1, 2] rfl (by decide)
  refine law_all la sv sn hsv hlen r1 r2 _ _ L _ ⟨ou, of, os, og, on, ok, or, ow, om⟩ _ _ _ (below_caller _) F (ghost_K hT9 KX (by kernel_rfl)) N2 D2 hT hG htk (if_pos rfl) (ghost_list hT9 hL) du df ds dg dn dk dr dw dm ?_
  intro h' tk' gs' m' news q63 q70 q184 hG' F' N' b63 b70 b184
  exact ⟨rfl, fun b o e => F'.keep b o e, rfl, hG', GrownAt.of N' b63, GrownAt.of N' b70, GrownAt.of N' b184, trivial⟩
end

end Mine

open PySem PySem.W PyProof.Rows PySem.Calls PySem.Spec
set_option maxHeartbeats 8000000
namespace Mine
theorem foo21.tw10140748999909582150 : True := trivial
theorem foo21.tw10249078756728519146 : True := trivial
theorem foo21.tw10307059649453811798 : True := trivial
theorem foo21.tw10307721093341697812 : True := trivial
theorem foo21.tw10364673503590055869 : True := trivial
theorem foo21.tw10391625447513325897 : True := trivial
theorem foo21.tw10560842329517551019 : True := trivial
theorem foo21.tw10645196644772374723 : True := trivial
theorem foo21.tw1069601937400198078 : True := trivial
theorem foo21.tw10705149433422757089 : True := trivial
theorem foo21.tw1081872813927515943 : True := trivial
theorem foo21.tw10853286416776309685 : True := trivial
theorem foo21.tw10933823848883890776 : True := trivial
theorem foo21.tw10976471223130692054 : True := trivial
theorem foo21.tw10978895805491753021 : True := trivial
theorem foo21.tw11069588518374934226 : True := trivial
theorem foo21.tw11121586479876418048 : True := trivial
theorem foo21.tw11279137471404497883 : True := trivial
theorem foo21.tw11303579734310028857 : True := trivial
theorem foo21.tw11383226673173576773 : True := trivial
theorem foo21.tw11386378045324509851 : True := trivial
theorem foo21.tw11456910605455833574 : True := trivial
theorem foo21.tw11489332190549973686 : True := trivial
theorem foo21.tw11789904268775157659 : True := trivial
theorem foo21.tw11812377389335865264 : True := trivial
theorem foo21.tw11892560273639410723 : True := trivial
theorem foo21.tw11914131065213997592 : True := trivial
theorem foo21.tw11970906731890468526 : True := trivial
theorem foo21.tw12148278313592301644 : True := trivial
theorem foo21.tw12174446637839345928 : True := trivial
theorem foo21.tw12215922406647860896 : True := trivial
theorem foo21.tw12335890073832650555 : True := trivial
theorem foo21.tw12356979562634174369 : True := trivial
theorem foo21.tw12431026236158791385 : True := trivial
theorem foo21.tw12472915729605888363 : True := trivial
theorem foo21.tw12863829597384910530 : True := trivial
theorem foo21.tw1290101036408960219 : True := trivial
theorem foo21.tw12908400662499688687 : True := trivial
theorem foo21.tw12987794125544349221 : True := trivial
theorem foo21.tw13069878111254388339 : True := trivial
theorem foo21.tw13167241366424695295 : True := trivial
theorem foo21.tw13346828836982997413 : True := trivial
theorem foo21.tw1339962429250360464 : True := trivial
theorem foo21.tw13455930806907109577 : True := trivial
theorem foo21.tw13479484281532824030 : True := trivial
theorem foo21.tw13760394439823715368 : True := trivial
theorem foo21.tw13850064406374894878 : True := trivial
theorem foo21.tw13985338576447274102 : True := trivial
theorem foo21.tw13998596072274668143 : True := trivial
theorem foo21.tw14006588147047026526 : True := trivial
theorem foo21.tw14177757237820352264 : True := trivial
theorem foo21.tw142020776079813924 : True := trivial
theorem foo21.tw14284439054455364804 : True := trivial
theorem foo21.tw14285156651529854509 : True := trivial
theorem foo21.tw14363518593826721125 : True := trivial
theorem foo21.tw14518519262525109835 : True := trivial
theorem foo21.tw1467743909653120527 : True := trivial
theorem foo21.tw14730778557585622598 : True := trivial
theorem foo21.tw14790843225925104914 : True := trivial
theorem foo21.tw14910719386762253754 : True := trivial
theorem foo21.tw15016711556622114468 : True := trivial
theorem foo21.tw15115396483359691585 : True := trivial
theorem foo21.tw15132269784092355383 : True := trivial
theorem foo21.tw15238704223968523489 : True := trivial
theorem foo21.tw15244510414306309230 : True := trivial
theorem foo21.tw1534848884707736683 : True := trivial
theorem foo21.tw15362946471101167238 : True := trivial
theorem foo21.tw15561123295678231498 : True := trivial
theorem foo21.tw15643093856416230455 : True := trivial
theorem foo21.tw15692532525144983335 : True := trivial
theorem foo21.tw15750601599985155862 : True := trivial
theorem foo21.tw16031118167819646021 : True := trivial
theorem foo21.tw1617407162704227750 : True := trivial
theorem foo21.tw16293470695427023240 : True := trivial
theorem foo21.tw164029321552128850 : True := trivial
theorem foo21.tw16517050167119214721 : True := trivial
theorem foo21.tw16539590128989158306 : True := trivial
theorem foo21.tw16607221280262403805 : True := trivial
theorem foo21.tw16639034709577022594 : True := trivial
theorem foo21.tw16791586129029370797 : True := trivial
theorem foo21.tw16892342361387789341 : True := trivial
theorem foo21.tw16979676508734113281 : True := trivial
theorem foo21.tw16983372638986446585 : True := trivial
theorem foo21.tw16984384415872056111 : True := trivial
theorem foo21.tw17037484014878025888 : True := trivial
theorem foo21.tw17040485628457067695 : True := trivial
theorem foo21.tw17046778759578154952 : True := trivial
theorem foo21.tw17077694235813630860 : True := trivial
theorem foo21.tw17144872447215452724 : True := trivial
theorem foo21.tw17165831228528195238 : True := trivial
theorem foo21.tw17278960559285468173 : True := trivial
theorem foo21.tw17282386847130723630 : True := trivial
theorem foo21.tw17321354545707976787 : True := trivial
theorem foo21.tw17609805168887645282 : True := trivial
theorem foo21.tw17654962688048719985 : True := trivial
theorem foo21.tw17684329634029014998 : True := trivial
theorem foo21.tw17767303965478800752 : True := trivial
theorem foo21.tw17823585639581916247 : True := trivial
theorem foo21.tw17925163915006388050 : True := trivial
theorem foo21.tw18001340770235690297 : True := trivial
theorem foo21.tw18066214392094931180 : True := trivial
theorem foo21.tw18149762842298510381 : True := trivial
theorem foo21.tw1816678333695737118 : True := trivial
theorem foo21.tw18378876931508030557 : True := trivial
theorem foo21.tw1894296154021340678 : True := trivial
theorem foo21.tw1978379107926450484 : True := trivial
theorem foo21.tw2007861518810277829 : True := trivial
theorem foo21.tw2106850292786022196 : True := trivial
theorem foo21.tw215049116093749905 : True := trivial
theorem foo21.tw2173046333699956026 : True := trivial
theorem foo21.tw2194871493500931524 : True := trivial
theorem foo21.tw2219777940582685849 : True := trivial
theorem foo21.tw2228703787246811977 : True := trivial
theorem foo21.tw2354508270270779223 : True := trivial
theorem foo21.tw2383261199617183980 : True := trivial
theorem foo21.tw2431539321380949964 : True := trivial
theorem foo21.tw2498207058034167430 : True := trivial
theorem foo21.tw2551285672573373349 : True := trivial
theorem foo21.tw27027247184933226 : True := trivial
theorem foo21.tw2794521534715424691 : True := trivial
theorem foo21.tw2890377103680284723 : True := trivial
theorem foo21.tw2915120024949815441 : True := trivial
theorem foo21.tw2948965239954393488 : True := trivial
theorem foo21.tw3189224403203563343 : True := trivial
theorem foo21.tw325139518413547482 : True := trivial
theorem foo21.tw3355237109915826614 : True := trivial
theorem foo21.tw3443960090758714305 : True := trivial
theorem foo21.tw3474503635608051696 : True := trivial
theorem foo21.tw3562556220315478235 : True := trivial
theorem foo21.tw357486453476387696 : True := trivial
theorem foo21.tw3581972775706582133 : True := trivial
theorem foo21.tw3598558550723894609 : True := trivial
theorem foo21.tw3605989635400522563 : True := trivial
theorem foo21.tw3641863635490956329 : True := trivial
theorem foo21.tw3660734489072313447 : True := trivial
theorem foo21.tw3662668476691638978 : True := trivial
theorem foo21.tw3852583849638539839 : True := trivial
theorem foo21.tw3992682830003990626 : True := trivial
theorem foo21.tw4145028005214501054 : True := trivial
theorem foo21.tw4173104127718072449 : True := trivial
theorem foo21.tw4311547694558930621 : True := trivial
theorem foo21.tw4353195785110264472 : True := trivial
theorem foo21.tw4365288696583130290 : True := trivial
theorem foo21.tw4419794415378619915 : True := trivial
theorem foo21.tw4557857418638791897 : True := trivial
theorem foo21.tw4567626219536985929 : True := trivial
theorem foo21.tw4810686985241341126 : True := trivial
theorem foo21.tw487363324187023906 : True := trivial
theorem foo21.tw5107063034308160520 : True := trivial
theorem foo21.tw5252749429707511288 : True := trivial
theorem foo21.tw543338910092699274 : True := trivial
theorem foo21.tw5506752155401297849 : True := trivial
theorem foo21.tw558950356324839177 : True := trivial
theorem foo21.tw5655887262581884130 : True := trivial
theorem foo21.tw5688984507500682319 : True := trivial
theorem foo21.tw5758443768388858210 : True := trivial
theorem foo21.tw5814282340130161822 : True := trivial
theorem foo21.tw5904150333887875385 : True := trivial
theorem foo21.tw5915301951387080901 : True := trivial
theorem foo21.tw6024657865957213347 : True := trivial
theorem foo21.tw6264697281385795261 : True := trivial
theorem foo21.tw6355458750750205862 : True := trivial
theorem foo21.tw6376427185933207943 : True := trivial
theorem foo21.tw640718521281190389 : True := trivial
theorem foo21.tw661007806950355680 : True := trivial
theorem foo21.tw6613133750478640063 : True := trivial
theorem foo21.tw6614236206155681051 : True := trivial
theorem foo21.tw6831158024708665956 : True := trivial
theorem foo21.tw690791307093010086 : True := trivial
theorem foo21.tw6981221214199833646 : True := trivial
theorem foo21.tw7039322733949051980 : True := trivial
theorem foo21.tw7052850195435876571 : True := trivial
theorem foo21.tw7154721420407350736 : True := trivial
theorem foo21.tw7344059746103799322 : True := trivial
theorem foo21.tw7350123625690155103 : True := trivial
theorem foo21.tw7440943417832288248 : True := trivial
theorem foo21.tw7496680253873251747 : True := trivial
theorem foo21.tw7512680722786197699 : True := trivial
theorem foo21.tw7560907988118076089 : True := trivial
theorem foo21.tw7659808504786905249 : True := trivial
theorem foo21.tw7940460530252292078 : True := trivial
theorem foo21.tw8118606774759823296 : True := trivial
theorem foo21.tw825215204506629869 : True := trivial
theorem foo21.tw8257898934344183994 : True := trivial
theorem foo21.tw8280691988212826294 : True := trivial
theorem foo21.tw8311526888106815700 : True := trivial
theorem foo21.tw8403274832542879504 : True := trivial
theorem foo21.tw8412244816458145425 : True := trivial
theorem foo21.tw8582766455935298387 : True := trivial
theorem foo21.tw8662302212614534596 : True := trivial
theorem foo21.tw881500516500553780 : True := trivial
theorem foo21.tw8834508072956628049 : True := trivial
theorem foo21.tw8866271248904568042 : True := trivial
theorem foo21.tw8984152382209422288 : True := trivial
theorem foo21.tw905043856291274979 : True := trivial
theorem foo21.tw9160261966434330976 : True := trivial
theorem foo21.tw9181818914019798988 : True := trivial
theorem foo21.tw9248435624829322056 : True := trivial
theorem foo21.tw931032096145676658 : True := trivial
theorem foo21.tw9343093874068020567 : True := trivial
theorem foo21.tw9470811809142755396 : True := trivial
theorem foo21.tw9553692057181717312 : True := trivial
theorem foo21.tw9823154275918038853 : True := trivial
theorem foo21.tw983596244170965080 : True := trivial
theorem foo21.tw9843422563901919571 : True := trivial
theorem foo21.tw995529260541909614 : True := trivial
theorem foo21.tw9997208044568808898 : True := trivial
set_option Elab.async true in
theorem foo21 : PySem.Challenge.rw_xj0013_01.Holds := by
  w_on
  o_law
  o_head HH
  (case hw => w_witness2)
  k_fill
  intro w s₀ s₁ mg mb G Y fa o pm cd doc dV kV ho hd hcd hD hmg hg args vals as hpre hlay hrd hwl hlo
  have KX := km_in_of Y
  km_tabs Y
  have X := (Ground.X G).1
  have V := (Ground.X G).2
  refine Ground.open G ?_
  intro T B D TE TW
  try (refine guard_noD D (by decide +kernel) ?_; clear D)
  have hT9 : TabsAt Mine.TB _ := List.forall_mem_cons.mpr ⟨⟨codeHd_of_K (c := 67) (P := 63) KX (by kernel_rfl), hT8 63 (by k_mem)⟩, List.forall_mem_cons.mpr ⟨⟨codeHd_of_K (c := 74) (P := 70) KX (by kernel_rfl), hT8 70 (by k_mem)⟩, List.forall_mem_cons.mpr ⟨⟨codeHd_of_K (c := 188) (P := 184) KX (by kernel_rfl), hT8 184 (by k_mem)⟩, fun _ h => nomatch h⟩⟩⟩
  have e225 := mg_of (n := Str.ofString "law") (v := .ref 225) KX (Top.g T) (by kernel_rfl)
  have efa : fa = 225 := by
    have e : mg (Str.ofString "law") = some (.ref fa) := hmg
    rw [e225] at e
    cases e
    rfl
  clear hmg
  wrow_args hpre hlay hrd hwl hlo
  all_goals (
    first | refine callC_kw (enter_call ?_) | refine enter_call ?_
    w_top on
    refine Mine.post_law (d := .bool true) (v := .bool true) hT9 (fun _ _ => rfl) (fun _ => .bool true) ?post ?_
    (case post => wrow_post)
    subst efa
    (rename Heap.IsList _ _ _ => hIL); (rename IntsAre _ _ => hIA)
    refine Mine.law_call (mean := ExcName.means s₀.heap) (mg := mg) (mb := mb) _ _ _ _ hIA ?len rfl rfl ?top KX hT9 hIL ?bare
    (case len => omega)
    (case bare => exact AllBare.of_eq hg)
    (case top =>
      have T' := ghost_top hT9 T
      refine Eq.mp (congrArg (fun l => Top topProg l (ExcName.means s₀.heap) mg mb (ghostOf s₁.heap Mine.TB)) ?eL) T'
      (case eL => kernel_rfl)))
end Mine
theorem PySem.Challenge.cw_xj0013_01_holds : PySem.Challenge.rw_xj0013_01.Holds := by
  exact Mine.foo21
