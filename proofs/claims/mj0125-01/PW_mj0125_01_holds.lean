import PyProof.Rows.All
import Wide.All
import OpenK.AllK
import Wide.FinOn
import PySem.Challenge.RW_mj0125_01
set_option Elab.async false
set_option autoImplicit false
set_option maxRecDepth 100000
set_option linter.unusedVariables false
set_option linter.unusedSimpArgs false
/-! Small facts of order, each stated once (printed by a program of ours from the uses). -/
namespace Mine
theorem ar0 {x0 : Nat} (h1 : (¬ (((63 : Nat) : Int) < ((x0 : Nat) : Int)))) : (x0 ≤ 63) := Int.ofNat_le.mp (Int.not_lt.mp h1)
theorem ar1 {x0 : Nat} : (x0 ≤ (x0 + 1)) := Nat.le_add_right x0 1
theorem ar2 {x0 x1 x2 x3 : Nat} (h1 : (x0 = x1)) (h2 : (x2 = x3)) (h3 : ((x1 + x3) ≤ 1000)) : ((x0 + x2) ≤ 16777216) := by lia
theorem ar3 {x0 : Nat} (h1 : (x0 ≤ 100)) : (x0 ≤ 1000000) := Nat.le_trans h1 (Nat.le_of_ble_eq_true rfl)
theorem ar4 {x0 x1 : Nat} (h1 : (x0 ≤ x1)) : ((x0 + 1) ≤ (x1 + 1)) := Nat.add_le_add_right h1 1
theorem ar5 {x0 x1 : Nat} (h1 : (x0 = x1)) (h2 : (0 < x1)) : ((1 : Int) ≤ ((x0 : Nat) : Int)) := Nat.ToInt.of_le rfl (congrArg NatCast.natCast (id (Eq.symm h1))) h2
theorem ar6 {x0 x1 : Nat} (h1 : (x0 = x1)) : ((Int.toNat ((-(1 : Int)) + ((x0 : Nat) : Int))) = (x1 - 1)) := by lia
theorem ar7 {x0 : Nat} (h1 : (x0 ≤ 1000)) : (x0 ≤ 16777216) := Nat.le_trans h1 (Nat.le_of_ble_eq_true rfl)
theorem ar8 {x0 x1 : Nat} (h1 : ((((0 : Int) ≤ ((x0 : Nat) : Int)) ∧ (x0 < x1)) ∧ (x1 ≤ 1000))) : (x0 ≤ 16777216) := by lia
theorem ar9 {x0 x1 x2 : Nat} (h1 : (x0 = x1)) (h2 : ((((0 : Int) ≤ ((x2 : Nat) : Int)) ∧ (x2 < x1)) ∧ (x1 ≤ 1000))) : (x2 < x0) := by simp_all
theorem ar10 {x0 x1 : Nat} (h1 : (x0 = x1)) (h2 : (x1 ≤ 1000)) : (x0 ≤ 16777216) := h1 ▸ Nat.le_trans h2 (by decide)
theorem ar11 {x0 x1 : Nat} (h1 : (x0 < x1)) : (x0 ≠ x1) := Nat.ne_of_lt h1
theorem ar12 {x0 : Nat} : ((Int.toNat ((0 : Int) + (((x0 : Nat) : Int) * (1 : Int)))) = (0 + x0)) := by simp_all
theorem ar13 : ((1 : Int) > (0 : Int)) := Int.one_pos
theorem ar14 {x0 : Nat} : (¬ (((x0 : Nat) : Int) < (0 : Int))) := Int.not_ofNat_neg x0
theorem ar15 : (¬ ((1 : Int) < (0 : Int))) := by decide
theorem ar16 {x0 x1 : Nat} (h1 : (x0 ≤ 1000)) (h2 : (x1 = x0)) : (x1 ≤ 16777216) := h2 ▸ Nat.le_trans h1 (by decide)
theorem ar17 {x0 x1 : Nat} (h1 : (x0 ≤ 1000)) (h2 : (x1 = x0)) : (((x1 : Nat) : Int) < (9223372036854775808 : Int)) := by lia
theorem ar18 {x0 x1 : Nat} (h1 : ((x0 - x1) = 0)) : (x0 ≤ x1) := Nat.le_of_sub_eq_zero h1
theorem ar19 : (((0 : Nat) : Int) ≤ (0 : Int)) := Int.natCast_nonpos_iff.mpr rfl
theorem ar20 {x0 : Nat} : (((((x0 + 1) : Nat) : Int) - (1 : Int)) = ((x0 : Nat) : Int)) := Int.sub_eq_iff_eq_add.mpr rfl
theorem ar21 {x0 : Nat} : ((0 : Int) < (((x0 + 1) : Nat) : Int)) := Int.ofNat_succ_pos x0
theorem ar22 {x0 : Nat} : (((0 : Int) + ((((x0 : Nat) : Int) - (1 : Int)) * (1 : Int))) = (((x0 : Nat) : Int) - (1 : Int))) := by simp_all
theorem ar23 {x0 : Nat} : ((((((x0 + 1) : Nat) : Int) - (1 : Int)) + (-(1 : Int))) = (((x0 : Nat) : Int) - (1 : Int))) := by lia
theorem ar24 {x0 : Nat} : ((((x0 + 1) : Nat) : Int) = (((x0 : Nat) : Int) + (1 : Int))) := by rfl
theorem ar25 {x0 : Int} (h1 : (((0 : Int) ≤ x0) ∧ (x0 ≤ (1000 : Int)))) : ((Int.toNat x0) ≤ 1000) := by simp_all
theorem ar26 {x0 : Int} (h1 : (((0 : Int) ≤ x0) ∧ (x0 ≤ (1000 : Int)))) : (x0 = (((Int.toNat x0) : Nat) : Int)) := by lia
theorem ar27 {x0 x1 x2 x3 x4 x5 x6 : Nat} (h1 : ((x0 + x1) ≤ 1000)) (h2 : (x0 = x2)) (h3 : ((x3 + (x4 + x5)) = (x2 + x1))) (h4 : ((x0 + x6) = x3)) : (((x0 + x6) + x4) ≤ 1000) := by lia
theorem ar28 {x0 x1 : Nat} (h1 : (¬ (x0 < x1))) (h2 : (x0 ≤ x1)) : (x0 = x1) := Nat.le_antisymm h2 (Nat.le_of_not_lt h1)
theorem ar29 {x0 x1 : Nat} (h1 : (x0 < x1)) : ((x0 + (x1 - x0)) = x1) := Nat.add_sub_of_le (Nat.le_of_lt h1)
theorem ar30 {x0 x1 x2 : Nat} (h1 : (x0 ≤ x1)) (h2 : (x2 < (x1 + 1))) (h3 : (¬ (x2 = x0))) (h4 : (¬ ((x0 < x2) ∧ (x2 ≤ x1)))) : (x2 < x1) := Nat.lt_of_lt_of_le (Nat.lt_of_le_of_ne (Nat.le_of_not_lt fun q => h4 ⟨q, Nat.le_of_lt_succ h2⟩) h3) h1
theorem ar31 {x0 x1 x2 : Nat} (h1 : ((x0 < x1) ∧ (x1 ≤ x2))) : ((x1 - 1) < x2) := Nat.lt_of_lt_of_le (Nat.sub_one_lt_of_lt h1.1) h1.2
theorem ar32 {x0 x1 x2 x3 : Nat} (h1 : (x0 < x1)) (h2 : (¬ (x0 = x2))) (h3 : (¬ ((x2 < x0) ∧ (x0 ≤ x3)))) (h4 : ((x2 < x1) ∧ (x1 ≤ x3))) : (x0 < (x1 - 1)) := Nat.lt_of_lt_of_le (Nat.lt_of_le_of_ne (Nat.le_of_not_lt fun q => h3 ⟨q, Nat.le_trans (Nat.le_of_lt h1) h4.2⟩) h2) (Nat.le_sub_one_of_lt h4.1)
theorem ar33 {x0 x1 x2 x3 : Nat} (h1 : (x0 < (x1 + 1))) (h2 : ((x2 < x3) ∧ (x3 ≤ x1))) : ((x0 - 1) < x1) := Nat.lt_of_le_of_lt (Nat.sub_le_sub_right (Nat.le_of_lt_succ h1) 1) (Nat.sub_one_lt_of_lt (Nat.lt_of_lt_of_le h2.1 h2.2))
theorem ar34 {x0 x1 x2 x3 : Nat} (h1 : (x0 < x1)) (h2 : ((x2 < x0) ∧ (x0 ≤ x3))) : ((x0 - 1) < (x1 - 1)) := Nat.lt_of_lt_of_le (Nat.sub_one_lt_of_lt h2.1) (Nat.le_sub_one_of_lt h1)
theorem ar35 {x0 x1 x2 x3 : Nat} (h1 : (x0 < x1)) (h2 : (x1 < (x2 + 1))) (h3 : ((x3 < x0) ∧ (x0 ≤ x2))) : ((x3 < x1) ∧ (x1 ≤ x2)) := ⟨Nat.lt_trans h3.1 h1, Nat.le_of_lt_succ h2⟩
theorem ar36 {x2 x3 : Nat} {x0 x1 : Int} (h1 : (x0 ≤ x1)) (h2 : (x2 < x3)) : ((x0 < x1) ∨ ((x0 = x1) ∧ (x2 < x3))) := (Int.lt_or_eq_of_le h1).imp id fun e => ⟨e, h2⟩
theorem ar37 {x0 x1 x2 : Nat} (h1 : (x0 < x1)) (h2 : (x1 < (x2 + 1))) : (x0 < x2) := Nat.lt_of_lt_of_le h1 (Nat.le_of_lt_succ h2)
theorem ar38 {x0 x1 x2 : Nat} (h1 : (x0 < x1)) (h2 : (x1 = x2)) : (x0 < x2) := Nat.lt_of_lt_of_eq h1 h2
theorem ar39 {x0 x1 x2 x3 : Nat} (h1 : (x0 < x1)) (h2 : (x1 = x2)) : (¬ ((x2 < x0) ∧ (x0 ≤ x3))) := fun q => Nat.lt_asymm (h2 ▸ h1) q.1
theorem ar40 {x0 x1 x2 : Nat} (h1 : (x0 < x1)) (h2 : (x1 < (x2 + 1))) : ((x1 - 1) < x2) := Nat.lt_of_lt_of_le (Nat.sub_one_lt_of_lt h1) (Nat.le_of_lt_succ h2)
theorem ar41 {x0 x1 x2 : Nat} (h1 : (x0 < x1)) (h2 : (x0 = x2)) : (x2 ≤ (x1 - 1)) := h2 ▸ Nat.le_sub_one_of_lt h1
theorem ar42 {x0 x1 x2 x3 : Nat} (h1 : (x0 < x1)) (h2 : (x1 < (x2 + 1))) (h3 : (x0 = x3)) : ((x3 < x1) ∧ (x1 ≤ x2)) := ⟨h3 ▸ h1, Nat.le_of_lt_succ h2⟩
theorem ar43 {x0 x1 x2 : Nat} (h1 : (x0 < x1)) (h2 : (x0 = x2)) : (¬ (x1 = x2)) := fun e => absurd (h2.trans e.symm) (Nat.ne_of_lt h1)
theorem ar44 {x0 x1 : Nat} (h1 : (x0 < x1)) : (x0 < (x1 + 1)) := Nat.lt_add_right 1 h1
theorem ar45 {x0 x1 : Nat} (h1 : ((x0 + 1) ≤ x1)) : (x0 ≤ x1) := Nat.le_of_succ_le h1
theorem ar46 {x0 x1 x2 : Nat} (h1 : ((x0 + 1) ≤ x1)) : (¬ ((x2 < x1) ∧ (x1 ≤ x0))) := fun q => Nat.lt_irrefl x0 (Nat.lt_of_lt_of_le h1 q.2)
theorem ar47 {x0 x1 x2 : Nat} (h1 : (x0 ≤ x1)) (h2 : ((x1 + 1) ≤ x2)) : (¬ (x2 = x0)) := fun e => Nat.lt_irrefl x1 (Nat.lt_of_lt_of_le h2 (e ▸ h1))
theorem ar48 {x0 x1 x2 : Nat} (h1 : ((x0 + (x1 + 1)) = x2)) : (((x0 + 1) + x1) = x2) := (Nat.add_right_comm x0 1 x1).trans h1
theorem ar49 {x0 x1 x2 : Nat} (h1 : ((x0 + (x1 + 1)) = x2)) : ((x0 + 1) ≤ x2) := h1 ▸ Nat.add_le_add_left (Nat.le_add_left 1 x1) x0
theorem ar50 {x0 x1 x2 : Nat} (h1 : ((x0 + (x1 + 1)) = x2)) : (x0 < x2) := h1 ▸ Nat.add_le_add_left (Nat.le_add_left 1 x1) x0
theorem ar51 {x0 x1 : Nat} {x2 x3 : Int} (h1 : (x0 ≤ x1)) (h2 : (x1 < x0)) : (x2 < x3) := absurd h2 (Nat.not_lt.mpr h1)
theorem ar52 {x0 : Nat} {x1 x2 : Int} (h1 : (x0 < 0)) : (x1 ≤ x2) := absurd h1 (Nat.not_lt_zero _)
theorem ar53 {x0 : Nat} : ((x0 - 0) ≤ x0) := Nat.sub_le x0 0
theorem ar54 {x0 x1 : Nat} (h1 : ((x0 + 0) = x1)) : (x0 = x1) := by omega
theorem ar55 {x0 x1 x2 : Int} (h1 : (¬ (x0 < x1))) (h2 : (x2 ≤ x1)) : (x2 ≤ x0) := Int.le_trans h2 (Int.not_lt.mp h1)
theorem ar56 {x0 x1 x2 : Nat} (h1 : (x0 ≤ x1)) (h2 : (¬ (x2 ≥ x0))) : (((x2 + x0) / 2) < x1) := Nat.lt_of_lt_of_le (Nat.div_lt_of_lt_mul (by rw [Nat.two_mul]; exact Nat.add_lt_add_right (Nat.lt_of_not_le h2) _)) h1
theorem ar57 {x0 x1 x2 : Nat} (h1 : (x0 < (((x1 + x2) / 2) + 1))) : (x0 ≤ ((x1 + x2) / 2)) := Nat.le_of_lt_succ h1
theorem ar58 {x0 x1 x2 : Nat} (h1 : ((x0 - x1) ≤ (x2 + 1))) : ((x0 - (((x1 + x0) / 2) + 1)) ≤ x2) := by omega
theorem ar59 {x0 x1 : Nat} (h1 : (¬ (x0 ≥ x1))) : ((((x0 + x1) / 2) + 1) ≤ x1) := Nat.div_lt_of_lt_mul (by rw [Nat.two_mul]; exact Nat.add_lt_add_right (Nat.lt_of_not_le h1) _)
theorem ar60 {x0 x1 x2 : Int} (h1 : (x0 < x1)) (h2 : (x1 ≤ x2)) : (x0 < x2) := Int.lt_of_lt_of_le h1 h2
theorem ar61 {x0 x1 x2 : Nat} (h1 : ((x0 - x1) ≤ (x2 + 1))) : ((((x1 + x0) / 2) - x1) ≤ x2) := by omega
theorem ar62 {x0 x1 x2 : Nat} (h1 : (x0 ≤ x1)) (h2 : (¬ (x2 ≥ x0))) : (((x2 + x0) / 2) ≤ x1) := Nat.le_of_lt (Nat.lt_of_lt_of_le (Nat.div_lt_of_lt_mul (by rw [Nat.two_mul]; exact Nat.add_lt_add_right (Nat.lt_of_not_le h2) _)) h1)
theorem ar63 {x0 x1 : Nat} (h1 : (¬ (x0 ≥ x1))) : (x0 ≤ ((x0 + x1) / 2)) := (Nat.le_div_iff_mul_le Nat.zero_lt_two).mpr (by rw [Nat.mul_two]; exact Nat.add_le_add_left (Nat.le_of_not_le h1) _)
theorem ar64 {x0 x1 x2 : Nat} (h1 : (x0 ≥ x1)) (h2 : (x0 ≤ x2)) : (x1 ≤ x2) := Nat.le_trans h1 h2
theorem ar65 {x0 x1 x2 : Nat} (h1 : (x0 ≤ x1)) (h2 : (x1 ≤ x2)) : (x0 ≤ x2) := Nat.le_trans h1 h2
theorem ar66 {x0 x1 : Nat} (h1 : (x0 ≤ x1)) (h2 : (¬ (x0 = x1))) : (x0 < x1) := Nat.lt_of_le_of_ne h1 h2
theorem ar67 {x0 : Int} : (x0 ≤ x0) := Int.le_refl x0
theorem ar68 {x0 x1 x2 : Nat} (h1 : ((x0 - x1) ≤ 0)) (h2 : (x1 ≤ x2)) : (x0 ≤ x2) := Nat.le_trans (Nat.le_of_sub_eq_zero (Nat.le_zero.mp h1)) h2
theorem ar69 {x0 x1 : Nat} (h1 : (x0 < x1)) (h2 : (x1 < 1)) : False := Nat.not_lt_zero x0 (Nat.lt_of_lt_of_le h1 (Nat.le_of_lt_succ h2))
theorem ar70 {x0 : Nat} (h1 : (1 ≤ x0)) (h2 : (¬ (x0 > 1))) : (x0 = 1) := Nat.le_antisymm (Nat.le_of_not_lt h2) h1
theorem ar71 {x0 x1 x2 : Int} (h1 : (x0 < x1)) (h2 : (¬ (x2 < x1))) : (x0 < x2) := Int.lt_of_lt_of_le h1 (Int.not_lt.mp h2)
theorem ar72 {x0 : Nat} : ((((0 + x0) - 1) - (x0 - 1)) = 0) := by simp_all
theorem ar73 {x0 : Nat} (h1 : (x0 > 1)) : ((x0 - 1) < x0) := Nat.sub_one_lt_of_lt h1
theorem ar74 {x0 : Nat} : (0 ≤ (x0 - 1)) := Nat.zero_le (x0 - 1)
theorem ar75 {x0 : Nat} (h1 : (x0 > 1)) : ((0 ≤ (x0 - 1)) ∧ ((x0 - 1) < x0)) := ⟨Nat.zero_le _, Nat.sub_one_lt_of_lt h1⟩
theorem ar76 {x0 : Nat} : (¬ ((0 ≤ x0) ∧ (x0 < x0))) := by simp_all
theorem ar77 {x0 x1 x2 : Nat} (h1 : (x0 < x1)) : ((((0 + x1) - 1) - x2) < x1) := Nat.lt_of_le_of_lt (Nat.sub_le _ _) (by rw [Nat.zero_add]; exact Nat.sub_one_lt_of_lt h1)
theorem ar78 {x0 x1 x2 : Nat} (h1 : (x0 < x1)) (h2 : (x1 < x2)) : ((((0 + x2) - 1) - x1) < (((0 + x2) - 1) - x0)) := by omega
theorem ar79 {x0 x1 x2 : Nat} (h1 : (x0 < x1)) (h2 : (x1 < x2)) : ((0 ≤ x0) ∧ (x0 < x2)) := ⟨Nat.zero_le _, Nat.lt_trans h1 h2⟩
theorem ar80 {x0 x1 : Nat} (h1 : (x0 < x1)) : ((0 ≤ x0) ∧ (x0 < x1)) := ⟨Nat.zero_le _, h1⟩
theorem ar81 {x0 : Nat} (h1 : (1 ≤ x0)) : ((1 + (x0 - 1)) = x0) := Nat.add_sub_of_le h1
theorem ar82 {x0 x1 : Nat} (h1 : (1 ≤ x0)) (h2 : (x1 < 1)) : (x1 < x0) := Nat.lt_of_lt_of_le h2 h1
theorem ar83 {x0 x1 : Nat} (h1 : ((x0 + 1) ≤ x1)) : (1 ≤ x1) := Nat.one_le_of_lt h1
theorem ar84 {x0 : Nat} (h1 : (¬ (x0 > 0))) : (x0 = 0) := Nat.eq_zero_of_not_pos h1
theorem ar85 {x0 x1 : Nat} (h1 : (x0 < x1)) : (((x0 + 1) + (x1 - (x0 + 1))) = x1) := Nat.add_sub_of_le h1
theorem ar86 {x0 x1 : Nat} (h1 : (1 ≤ x0)) (h2 : (x0 ≤ x1)) : (1 ≤ x1) := Nat.le_trans h1 h2
theorem ar87 {x0 x1 : Nat} (h1 : (x0 ≤ x1)) : ((x0 + (x1 - x0)) = x1) := Nat.add_sub_of_le h1
theorem ar88 {x0 x1 : Nat} (h1 : (x0 < (x1 + 1))) (h2 : (¬ (x0 = x1))) : (x0 < x1) := Nat.lt_of_le_of_ne (Nat.le_of_lt_succ h1) h2
theorem ar89 {x0 x1 x2 : Nat} (h1 : (((x0 + 1) - ((x1 + 1) + 1)) ≤ x2)) : ((x0 - (x1 + 1)) ≤ x2) := by simp_all
theorem ar90 {x0 x1 : Nat} (h1 : (x0 < x1)) : ((x1 - 1) < x1) := Nat.sub_one_lt_of_lt h1
theorem ar91 {x0 x1 : Nat} (h1 : (x0 < x1)) (h2 : (¬ (x0 = (x1 - 1)))) : (x0 < (x1 - 1)) := Nat.lt_of_le_of_ne (Nat.le_sub_one_of_lt h1) h2
theorem ar92 {x0 x1 : Nat} (h1 : (x0 < x1)) : (x0 < x1) := by omega
theorem ar93 {x0 x1 x2 : Nat} (h1 : (x0 < ((x1 + 1) - ((x2 + 1) + 1)))) : (x0 < (x1 - (x2 + 1))) := by simp_all
theorem ar94 {x0 x1 x2 : Nat} (h1 : (x0 < ((x1 + 1) - ((x2 + 1) + 1)))) : ((x1 - 1) < x1) := Nat.sub_one_lt_of_lt (Nat.lt_of_lt_of_le h1 (Nat.le_trans (Nat.le_of_eq (Nat.add_sub_add_right x1 1 (x2 + 1))) (Nat.sub_le _ _)))
theorem ar95 {x0 x1 : Nat} : ((x0 - (x1 + 1)) ≤ (x0 - 1)) := Nat.sub_le_sub_left (Nat.le_add_left 1 x1) x0
theorem ar96 {x0 x1 : Nat} (h1 : ((x0 + 1) ≤ x1)) : (((x0 + 1) + 1) ≤ (x1 + 1)) := Nat.add_le_add_right h1 1
theorem ar97 {x0 x1 : Int} (h1 : (¬ (x0 < x1))) (h2 : (¬ (x1 < x0))) : (x0 = x1) := Int.le_antisymm (Int.not_lt.mp h2) (Int.not_lt.mp h1)
theorem ar98 {x0 : Nat} (h1 : ((0 + 1) ≤ x0)) : (1 ≤ x0) := by omega
theorem ar99 {x0 x1 x2 : Int} (h1 : (x0 < x1)) (h2 : (x2 = x1)) : (x0 < x2) := lt_of_lt_of_eq h1 (id (Eq.symm h2))
theorem ar100 {x0 x1 : Nat} (h1 : ((x0 + 1) ≤ x1)) : ((x1 - 1) < x1) := Nat.sub_one_lt_of_lt h1
theorem ar101 {x0 x1 : Nat} (h1 : ((x0 + 1) ≤ x1)) (h2 : (x0 > 0)) : (((((x1 - (x0 + 1)) + x1) - 1) - (x1 - 1)) < (x1 - 1)) := by omega
theorem ar102 {x0 x1 : Nat} : ((x0 - (x1 + 1)) ≤ ((((x0 - (x1 + 1)) + x0) - 1) - (x0 - 1))) := by omega
theorem ar103 {x0 x1 : Nat} (h1 : ((x0 + 1) ≤ x1)) : (((x1 - (x0 + 1)) ≤ (x1 - 1)) ∧ ((x1 - 1) < x1)) := ⟨Nat.sub_le_sub_left (Nat.le_add_left 1 x0) x1, Nat.sub_one_lt_of_lt h1⟩
theorem ar104 {x0 x1 : Nat} : (¬ (((x0 - (x1 + 1)) ≤ x0) ∧ (x0 < x0))) := by simp_all
theorem ar105 {x0 x1 x2 x5 x6 : Nat} {x3 x4 : Int} (h1 : (((x0 + 1) - (0 + 1)) ≤ x1)) (h2 : (x1 < x2)) (h3 : (x2 < (x0 + 1))) : ((x3 = x4) ∧ (x5 < x6)) := by grind
theorem ar106 {x0 x1 : Nat} (h1 : (x0 < ((x1 + 1) - (0 + 1)))) : ((x1 - 1) < x1) := Nat.sub_one_lt_of_lt h1
theorem ar107 {x0 x1 : Nat} (h1 : (x0 < ((x1 + 1) - (0 + 1)))) (h2 : (¬ (x0 = (x1 - 1)))) : (x0 < (x1 - 1)) := Nat.lt_of_le_of_ne (Nat.le_sub_one_of_lt h1) h2
theorem ar108 {x0 x1 : Nat} (h1 : (((x0 + 1) - (0 + 1)) ≤ x1)) (h2 : (x1 < (x0 + 1))) : (x1 = x0) := Nat.eq_of_le_of_lt_succ h1 h2
theorem ar109 {x0 x1 : Nat} (h1 : (x0 < ((x1 + 1) - (0 + 1)))) : (x0 < x1) := h1
theorem ar110 {x0 : Nat} : ((0 + 1) ≤ (x0 + 1)) := Nat.le_add_left (0 + 1) x0
theorem ar111 {x0 x1 x2 : Nat} (h1 : ((x0 + 1) ≤ x1)) (h2 : (¬ (x2 < (x1 - (x0 + 1))))) : (((((x1 - (x0 + 1)) + x1) - 1) - x2) < x1) := by omega
theorem ar112 {x0 x1 x2 x3 : Nat} (h1 : (x0 < x1)) (h2 : (x1 < x2)) : (((((x2 - (x3 + 1)) + x2) - 1) - x1) < ((((x2 - (x3 + 1)) + x2) - 1) - x0)) := by omega
theorem ar113 {x0 x1 x2 : Nat} (h1 : (x0 < x1)) : ((x1 - (x2 + 1)) ≤ ((((x1 - (x2 + 1)) + x1) - 1) - x0)) := by omega
theorem ar114 {x0 x1 x2 x3 : Nat} (h1 : (x0 < x1)) (h2 : (x1 < x2)) (h3 : (¬ (x0 < (x2 - (x3 + 1))))) : (((x2 - (x3 + 1)) ≤ x0) ∧ (x0 < x2)) := ⟨Nat.le_of_not_lt h3, Nat.lt_trans h1 h2⟩
theorem ar115 {x0 x1 x2 x3 : Nat} (h1 : (¬ (x0 < (x1 - (x2 + 1))))) (h2 : (x3 < (x1 - (x2 + 1)))) : (((((x1 - (x2 + 1)) + x1) - 1) - x0) < x1) := by omega
theorem ar116 {x0 x1 x2 : Nat} (h1 : (x0 < (x1 - (x2 + 1)))) : (¬ (((x1 - (x2 + 1)) ≤ x0) ∧ (x0 < x1))) := fun q => Nat.not_lt_of_le q.1 h1
theorem ar117 {x0 x1 x2 : Nat} (h1 : (x0 < x1)) (h2 : (¬ (x0 < (x1 - (x2 + 1))))) : (((x1 - (x2 + 1)) ≤ x0) ∧ (x0 < x1)) := ⟨Nat.le_of_not_lt h2, h1⟩
theorem ar118 {x0 x1 x2 x3 : Nat} (h1 : (x0 < x1)) (h2 : (x1 < (x2 - (x3 + 1)))) : (¬ (((x2 - (x3 + 1)) ≤ x0) ∧ (x0 < x2))) := fun q => Nat.not_lt_of_le q.1 (Nat.lt_trans h1 h2)
theorem ar119 {x0 x1 : Nat} (h1 : (¬ (x0 < (x1 - 1)))) : ((x1 - (0 + 1)) ≤ x0) := Nat.le_of_not_lt h1
theorem ar120 {x0 x1 x2 : Nat} (h1 : (x0 < x1)) (h2 : (x1 < x2)) : (x0 < (x2 - (0 + 1))) := Nat.lt_of_lt_of_le h1 (Nat.le_sub_one_of_lt h2)
theorem ar121 {x0 : Nat} : (1 ≤ (x0 + 1)) := Nat.le_add_left 1 x0
theorem ar122 {x2 x3 : Nat} {x0 x1 x4 : Int} (h1 : (¬ (x0 < x1))) (h2 : (x2 < x3)) (h3 : (x4 ≤ x1)) : ((x4 < x0) ∨ ((x4 = x0) ∧ (x2 < x3))) := by lia
theorem ar123 {x0 x1 : Nat} {x2 x3 : Int} (h1 : ((x0 + 0) = x1)) (h2 : (x0 < x1)) : (x2 < x3) := absurd (h1 ▸ h2) (Nat.lt_irrefl _)
theorem ar124 {x0 x1 x2 x3 : Nat} (h1 : (x0 ≤ x1)) (h2 : ((x2 ≤ x3) ∧ (x3 < x0))) : ((((x2 + x0) - 1) - x3) < x1) := by omega
theorem ar125 {x0 x1 x2 x3 : Nat} (h1 : (x0 ≤ x1)) (h2 : (x2 = x3)) (h3 : (x1 ≤ x3)) : (x0 ≤ x2) := h2 ▸ Nat.le_trans h1 h3
theorem ar126 {x0 x1 x2 x3 : Nat} (h1 : (x0 ≤ x1)) (h2 : (x1 ≤ x2)) : (¬ ((x3 ≤ x2) ∧ (x2 < x0))) := fun q => Nat.lt_irrefl x2 (Nat.lt_of_lt_of_le q.2 (Nat.le_trans h1 h2))
theorem ar127 {x0 : Nat} : (x0 < (x0 + 1)) := Nat.lt_add_one x0
theorem ar128 {x0 x1 : Nat} (h1 : (x0 ≤ x1)) : ((x1 - (x1 - x0)) = x0) := Nat.sub_sub_self h1
theorem ar129 {x0 x1 : Nat} : ((x0 - x1) ≤ x0) := Nat.sub_le x0 x1
theorem ar130 {x0 x1 : Int} (h1 : (x0 = x1)) : (¬ (x1 < x0)) := by simp_all
theorem ar131 {x0 x1 : Nat} (h1 : (x0 < x1)) (h2 : (x1 < x0)) : False := Nat.lt_asymm h1 h2
theorem ar132 {x0 x1 : Nat} (h1 : (x0 ≤ x1)) : (¬ (((x1 : Nat) : Int) < ((x0 : Nat) : Int))) := by simp_all
theorem ar133 {x0 x1 x2 : Nat} (h1 : (x0 < x1)) : (x0 < (x1 + x2)) := Nat.lt_add_right x2 h1
theorem ar134 {x0 x1 : Nat} (h1 : (x0 ≤ x1)) : (x0 < (x1 + 1)) := Nat.lt_succ_of_le h1
theorem ar135 {x0 x1 x2 : Nat} (h1 : (x0 ≤ x1)) : (x0 ≤ (x1 + x2)) := Nat.le_add_right_of_le h1
theorem ar136 {x0 : Nat} (h1 : (2 ≤ x0)) : (1 ≤ x0) := Nat.one_le_of_lt h1
theorem ar137 {x0 x1 x2 : Nat} (h1 : (x0 = x1)) (h2 : (x2 < x1)) : (x2 < x0) := Nat.lt_of_lt_of_eq h2 (id (Eq.symm h1))
theorem ar138 {x0 : Nat} (h1 : (2 ≤ x0)) : (0 < x0) := Nat.lt_of_lt_of_le Nat.zero_lt_two h1
theorem ar139 {x0 x1 : Nat} (h1 : (2 ≤ x0)) (h2 : (x1 = x0)) : (2 ≤ x1) := h2 ▸ h1
theorem ar140 {x0 x1 : Nat} (h1 : (x0 < 64)) (h2 : (x1 = x0)) : (x1 < 64) := lt_of_eq_of_lt h2 h1
theorem ar141 {x0 : Nat} (h1 : (¬ (2 ≤ x0))) : (x0 ≤ 1) := Nat.le_of_not_lt h1
theorem ar142 {x0 x1 x2 : Nat} (h1 : ((x0 + x1) < x2)) : (x0 < x2) := Nat.lt_of_add_right_lt h1
theorem ar143 {x0 x1 : Nat} (h1 : (x0 ≤ 1)) (h2 : (x1 = x0)) : (x1 ≤ 1) := le_of_eq_of_le h2 h1
theorem ar144 {x0 x1 : Nat} (h1 : (x0 ≤ 1)) (h2 : (x1 = x0)) : (x1 ≤ 16777216) := h2 ▸ Nat.le_trans h1 (by decide)
theorem ar145 {x0 : Nat} (h1 : (x0 ≤ 1)) : (x0 ≤ (16777216 + 1)) := Nat.le_add_left_of_le h1
theorem ar146 {x0 x1 : Nat} (h1 : (x0 = x1)) (h2 : (x1 ≤ 1)) : (x0 ≤ 16777216) := h1 ▸ Nat.le_trans h2 (by decide)
theorem ar147 {x0 : Nat} (h1 : (x0 ≤ 1)) : (x0 < 2) := Nat.lt_succ_of_le h1
theorem ar148 {x0 x1 x2 : Nat} (h1 : ((x0 + (200 * (x1 + 1))) < x2)) : ((x0 + 64) < x2) := by lia
theorem ar149 {x1 : Nat} {x0 : Int} (h1 : (x0 = ((x1 : Nat) : Int))) : ((0 : Int) ≤ x0) := by simp_all
theorem ar150 {x0 : Nat} : (x0 ≤ ((x0 - 1) + 1)) := by omega
theorem ar151 {x0 x1 : Nat} (h1 : (x0 = x1)) (h2 : (0 < x1)) : ((x0 - 1) < x0) := by omega
theorem ar152 {x0 x1 : Nat} (h1 : (x0 ≤ (x1 + 1))) : ((x0 + 1) ≤ ((x1 + 1) + 1)) := Nat.add_le_add_right h1 1
theorem ar153 {x0 x1 : Nat} (h1 : (x0 = x1)) : (x1 ≤ x0) := Nat.le_of_eq (id (Eq.symm h1))
theorem ar154 {x0 x1 x2 : Nat} (h1 : ((x0 + (200 * ((x1 + 1) + 1))) < x2)) : ((x0 + (200 * (x1 + 1))) < x2) := by lia
theorem ar155 {x0 x1 x2 : Nat} (h1 : ((x0 + (x1 + 1)) < x2)) : ((x0 + x1) < x2) := Nat.lt_of_succ_lt h1
theorem ar156 {x0 x1 x2 : Nat} (h1 : ((x0 + (200 * ((x1 + 1) + 1))) < x2)) : (((x0 + 3) + (200 * (x1 + 1))) < x2) := by lia
theorem ar157 {x0 x1 x2 : Nat} (h1 : ((x0 + (x1 + 1)) < x2)) : (((x0 + 1) + x1) < x2) := by lia
theorem ar158 {x0 x1 : Int} (h1 : ((x0 < x0) ∨ ((x0 = x0) ∧ (x1 < x1)))) : False := by simp_all
theorem ar159 {x0 x1 x2 x3 x4 x5 : Int} (h1 : ((x0 < x1) ∨ ((x0 = x1) ∧ (x2 < x3)))) (h2 : ((x1 < x4) ∨ ((x1 = x4) ∧ (x3 < x5)))) : ((x0 < x4) ∨ ((x0 = x4) ∧ (x2 < x5))) := by lia
theorem ar160 {x0 x1 : Nat} (h1 : ((x0 + x1) ≤ 900)) : ((x0 + x1) ≤ 1000) := Nat.le_trans h1 (Nat.le_of_ble_eq_true rfl)
theorem ar161 {x0 x1 x2 : Nat} (h1 : ((x0 + (x1 + 1)) ≤ 1000)) (h2 : (x2 ≤ (x0 + 1))) : ((x2 + x1) ≤ 1000) := by lia
theorem ar162 {x0 x1 : Nat} (h1 : ((x0 + (x1 + 1)) ≤ 1000)) : (x0 ≤ 1000) := Nat.le_of_add_right_le h1
theorem ar163 {x0 x1 : Nat} (h1 : ((x0 + x1) ≤ 900)) : (x0 ≤ 1000) := by lia
theorem ar164 {x0 : Int} (h1 : ((0 : Int) ≤ x0)) (h2 : (x0 < (6 : Int))) : ((x0 = (0 : Int)) ∨ ((x0 = (1 : Int)) ∨ ((x0 = (2 : Int)) ∨ ((x0 = (3 : Int)) ∨ ((x0 = (4 : Int)) ∨ (x0 = (5 : Int))))))) := by lia
theorem ar165 {x0 x1 x2 : Int} : (((x0 + x1) + x2) = (x0 + (x1 + x2))) := Int.add_assoc x0 x1 x2
theorem ar166 {x0 x1 : Nat} (h1 : (x0 ≤ 60)) (h2 : (x1 ≤ x0)) : (x1 < 64) := Nat.lt_of_le_of_lt h2 (Nat.lt_of_le_of_lt h1 (by decide))
theorem ar167 {x0 x1 : Nat} (h1 : (x0 ≤ 60)) (h2 : (x1 ≤ x0)) : (x1 ≤ 1000) := Nat.le_trans h2 (Nat.le_trans h1 (by decide))
theorem ar168 {x0 : Nat} (h1 : (x0 ≤ 500)) : (x0 ≤ 1000) := Nat.le_trans h1 (Nat.le_of_ble_eq_true rfl)
theorem ar169 {x0 : Nat} (h1 : (x0 ≤ 500)) : (x0 ≤ 999) := Nat.le_trans h1 (Nat.le_of_ble_eq_true rfl)
theorem ar170 {x0 : Nat} : (((x0 - 1) + 1) ≤ (x0 + 1)) := Nat.sub_lt_succ x0 1
theorem ar171 {x0 x1 : Nat} (h1 : (x0 ≤ 6)) (h2 : (x1 ≤ 6)) : ((x0 + x1) ≤ 900) := by lia
theorem ar172 {x0 x1 : Nat} (h1 : (x0 ≤ (x1 - 1))) (h2 : (0 < x1)) : ((x0 + 1) ≤ x1) := Nat.add_le_of_le_sub h2 h1
theorem ar173 {x0 x1 x2 : Nat} : ((x0 + ((x1 + 1) + x2)) = ((x0 + (x1 + x2)) + 1)) := by lia
theorem ar174 {x0 x1 : Nat} (h1 : ((x0 + x1) ≤ 400)) : (x0 ≤ 400) := Nat.le_of_add_right_le h1
theorem ar175 {x0 : Nat} (h1 : (x0 ≤ 2)) : (x0 ≤ 2) := by omega
theorem ar176 {x0 : Nat} (h1 : (x0 ≤ 3)) : (x0 ≤ 1000) := Nat.le_trans h1 (Nat.le_of_ble_eq_true rfl)
theorem ar177 {x1 : Nat} {x0 : Int} (h1 : (((Int.toNat x0) + 1) < x1)) : ((x0 + (1 : Int)) < ((x1 : Nat) : Int)) := by lia
theorem ar178 {x0 : Int} (h1 : ((0 : Int) ≤ x0)) : ((Int.toNat (x0 + (1 : Int))) = ((Int.toNat x0) + 1)) := by lia
theorem ar179 {x0 : Nat} {x1 : Int} (h1 : (x0 ≤ 500)) (h2 : (((Int.toNat x1) + 1) < x0)) : ((x1 + (1 : Int)) < (1000 : Int)) := by lia
theorem ar180 {x0 : Int} (h1 : ((0 : Int) ≤ x0)) : ((0 : Int) ≤ (x0 + (1 : Int))) := Int.le_add_one h1
theorem ar181 {x1 : Nat} {x0 : Int} (h1 : ((0 : Int) ≤ x0)) (h2 : (x1 = ((Int.toNat x0) + 1))) : (¬ ((x0 + (1 : Int)) < ((x1 : Nat) : Int))) := by lia
theorem ar182 {x1 : Nat} {x0 : Int} (h1 : ((Int.toNat x0) < x1)) (h2 : (x1 ≤ ((Int.toNat x0) + 1))) : (x1 = ((Int.toNat x0) + 1)) := Eq.symm (Nat.le_antisymm h1 h2)
theorem ar183 {x0 : Nat} (h1 : (x0 ≤ 400)) : (x0 ≤ 500) := Nat.le_trans h1 (Nat.le_of_ble_eq_true rfl)
theorem ar184 {x0 : Nat} {x1 : Int} (h1 : (x0 ≤ 500)) (h2 : ((Int.toNat x1) < x0)) : (x1 < (1000 : Int)) := Int.lt_of_le_of_lt (Int.self_le_toNat x1) (Int.ofNat_lt.mpr (Nat.lt_of_lt_of_le h2 (Nat.le_trans h1 (by decide))))
theorem ar185 {x0 x1 : Int} (h1 : (x0 < x1)) (h2 : (x0 = x1)) : False := by simp_all
theorem ar186 {x0 : Nat} (h1 : (x0 ≤ 90)) : ((0 + x0) ≤ 400) := by lia
theorem ar187 {x0 : Nat} (h1 : (x0 ≤ 90)) : (x0 < 100) := Nat.lt_of_le_of_lt h1 (by decide)
theorem ar188 {x0 x1 : Nat} (h1 : (x0 ≤ 90)) (h2 : ((x1 + 1) ≤ x0)) : ((x1 + 1) ≤ 1000) := Nat.le_trans h2 (Nat.le_trans h1 (by decide))
theorem ar189 {x0 : Nat} (h1 : (x0 ≤ 3)) : (x0 ≤ 3) := by omega
theorem ar190 {x0 x1 : Nat} (h1 : (x0 < x1)) : (((x0 : Nat) : Int) < ((x1 : Nat) : Int)) := Int.ofNat_lt.mpr h1
theorem ar191 {x0 x1 : Nat} (h1 : (x0 ≤ 90)) (h2 : (x1 ≤ x0)) : (x1 ≤ 500) := Nat.le_trans h2 (Nat.le_trans h1 (by decide))
theorem ar192 : ((0 : Int) ≤ (0 : Int)) := Int.zero_le_ofNat 0
theorem ar193 {x0 x1 : Nat} (h1 : (x0 ≤ 3)) (h2 : (x1 < x0)) : (((x1 : Nat) : Int) < (1000 : Int)) := by lia
theorem ar194 {x0 : Nat} : ((0 : Int) ≤ ((x0 : Nat) : Int)) := Int.natCast_nonneg x0
theorem ar195 {x0 x1 : Nat} (h1 : (x0 ≤ 20)) (h2 : (x1 ≤ (3 * x0))) : (x1 ≤ 60) := by lia
theorem ar196 {x0 x1 x2 : Nat} (h1 : ((x0 + (x1 + 1)) ≤ 900)) (h2 : (x2 ≤ 1)) : (((x0 + x2) + x1) ≤ 900) := by lia
theorem ar197 {x0 x1 : Nat} (h1 : ((x0 + (x1 + 1)) ≤ 900)) : (x0 ≤ 900) := Nat.le_of_add_right_le h1
theorem ar198 {x0 : Nat} (h1 : (x0 ≤ 900)) : (x0 ≤ 1000) := Nat.le_trans h1 (Nat.le_of_ble_eq_true rfl)
theorem ar199 {x0 x1 x2 : Nat} (h1 : (x0 ≤ 60)) (h2 : (x1 ≤ (6 * x0))) (h3 : (x2 ≤ (0 + x1))) : (x2 ≤ 1000) := by lia
theorem ar200 {x0 x1 : Nat} (h1 : (x0 ≤ 60)) (h2 : (x1 ≤ (6 * x0))) : (x1 ≤ 1000) := by lia
theorem ar201 {x0 : Nat} (h1 : (x0 ≤ 60)) : (x0 ≤ 1000) := Nat.le_trans h1 (Nat.le_of_ble_eq_true rfl)
theorem ar202 {x0 x1 : Nat} (h1 : (x0 ≤ 60)) (h2 : (x1 ≤ (6 * x0))) : ((0 + x1) ≤ 1000) := by lia
theorem ar203 {x0 x1 x2 x3 : Nat} (h1 : (x0 ≤ (x1 + x2))) (h2 : (x1 ≤ (x3 + 1))) : (x0 ≤ (x3 + (x2 + 1))) := by lia
theorem ar204 {x0 x1 : Nat} (h1 : (x0 ≤ 20)) (h2 : (x1 ≤ (3 * x0))) : (x1 ≤ 1000) := by lia
theorem ar205 {x0 x1 x2 : Nat} (h1 : (x0 ≤ (6 * x1))) (h2 : (x2 ≤ 6)) : ((x2 + x0) ≤ (6 * (x1 + 1))) := by lia
theorem ar206 {x0 x1 x2 x3 : Nat} (h1 : (x0 ≤ x1)) (h2 : (x2 ≤ x1)) (h3 : (x3 ≤ x1)) : ((x0 + (x2 + (x3 + 0))) ≤ (3 * x1)) := by lia
theorem ar207 {x0 x1 x2 : Int} : (((x0 + x1) + x2) = (x1 + (x0 + x2))) := by lia
theorem ar208 {x0 x1 : Nat} : ((x0 + (x1 + 1)) = ((x0 + 1) + x1)) := Eq.symm (Nat.succ_add_eq_add_succ x0 x1)
theorem ar209 {x0 : Int} : (((0 : Int) + x0) = x0) := Int.zero_add x0
theorem ar210 {x0 : Int} : ((x0 + (0 : Int)) = x0) := Int.add_zero x0
theorem ar211 {x0 : Nat} (h1 : (x0 ≤ 10)) : (x0 ≤ 20) := Nat.le_trans h1 (Nat.le_of_ble_eq_true rfl)
theorem ar212 {x0 x1 : Nat} (h1 : (x0 ≤ 10)) (h2 : (x1 ≤ x0)) : (x1 ≤ 1000) := Nat.le_trans h2 (Nat.le_trans h1 (by decide))
theorem ar213 {x0 : Nat} (h1 : (x0 ≤ 6)) : (x0 ≤ 1000) := Nat.le_trans h1 (Nat.le_of_ble_eq_true rfl)
theorem ar214 {x0 : Nat} (h1 : (x0 ≤ 10)) : (x0 ≤ 60) := Nat.le_trans h1 (Nat.le_of_ble_eq_true rfl)
theorem ar215 {x0 : Nat} (h1 : (x0 ≤ 6)) : (x0 ≤ 40) := Nat.le_trans h1 (Nat.le_of_ble_eq_true rfl)
theorem ar216 {x0 x1 : Nat} (h1 : (x0 ≤ 10)) (h2 : (x1 ≤ x0)) : (x1 ≤ 40) := Nat.le_trans h2 (Nat.le_trans h1 (by decide))
theorem ar217 {x0 x1 : Nat} (h1 : (x0 ≤ 40)) (h2 : (x1 ≤ 40)) : ((x0 + (x1 + 0)) ≤ 90) := by lia
theorem ar218 {x0 x1 x2 x3 : Nat} (h1 : (x0 ≤ 10)) (h2 : (x1 ≤ x0)) (h3 : (x2 ≤ x0)) (h4 : (x3 ≤ x0)) : ((x1 + (x2 + (x3 + 0))) ≤ 90) := by lia
theorem ar219 {x0 : Nat} (h1 : (x0 ≤ 20)) : (x0 ≤ 60) := Nat.le_trans h1 (Nat.le_of_ble_eq_true rfl)
theorem ar220 {x0 x1 : Nat} (h1 : (x0 ≤ 20)) (h2 : (x1 ≤ x0)) : (x1 ≤ 1000) := Nat.le_trans h2 (Nat.le_trans h1 (by decide))
theorem ar221 {x0 : Nat} (h1 : (x0 ≤ 63)) : (x0 ≤ 1000) := Nat.le_trans h1 (Nat.le_of_ble_eq_true rfl)
end Mine

namespace Mine
open PySem

/-- plain data -/
inductive D where
  | none
  | bool (b : Bool)
  | int (i : Int)
  | str (x : Str)
  | tuple (ds : List D)
  | list (ds : List D)
  | dict (kv : List (Str × Int))

inductive B where
  | unb
  | val (d : D)
  | own (d : D)

noncomputable abbrev Rho := List (Str × B)

noncomputable def rset : Rho → Str → B → Rho
  | [], _, _ => []
  | (y, c) :: r, x, b => if x == y then (y, b) :: r else (y, c) :: rset r x b

noncomputable def obind {α β : Type} (o : Option α) (k : α → Option β) : Option β := match o with
  | none => none
  | some a => k a
noncomputable def ocond {β : Type} (b : Bool) (x y : Option β) : Option β := match b with
  | true => x
  | false => y
theorem nn {α : Type} {G : Prop} {a : α} (h : (none : Option α) = some a) : G := nomatch h
theorem obind_s {α β : Type} (a : α) (k : α → Option β) : obind (some a) k = k a := rfl
theorem ocond_t {β : Type} (x y : Option β) : ocond true x y = x := rfl
theorem ocond_f {β : Type} (x y : Option β) : ocond false x y = y := rfl
theorem obind_some {α β : Type} {o : Option α} {k : α → Option β} {b : β} (h : obind o k = some b) : ∃ a, o = some a ∧ k a = some b := by
  cases o with
  | none => first | exact nn h | cases h
  | some a => exact ⟨a, rfl, h⟩
theorem obind_of {α β : Type} {o : Option α} {k : α → Option β} {a : α} {b : Option β} (h : o = some a) (hk : k a = b) : obind o k = b := by subst h; exact hk
theorem ocond_some {β : Type} {b : Bool} {x y : Option β} {r : β} (h : ocond b x y = some r) : (b = true ∧ x = some r) ∨ (b = false ∧ y = some r) := by
  cases b with
  | true => exact .inl ⟨rfl, h⟩
  | false => exact .inr ⟨rfl, h⟩
theorem ocond_if {β : Type} {b : Bool} {x : Option β} {r : β} (h : ocond b x none = some r) : b = true ∧ x = some r := by
  cases b with
  | true => exact ⟨rfl, h⟩
  | false => first | exact nn h | cases h
theorem ite_some {β : Type} {b : Bool} {x : Option β} {r : β} (h : (if b = true then x else none) = some r) : b = true ∧ x = some r := by
  cases b with
  | true => exact ⟨rfl, h⟩
  | false => first | exact nn h | cases h
theorem ite_none {β : Type} {b : Bool} {x : Option β} {r : β} (h : (if b = true then none else x) = some r) : b = false ∧ x = some r := by
  cases b with
  | true => first | exact nn h | cases h
  | false => exact ⟨rfl, h⟩
theorem ite_or {β : Type} {b : Bool} {x y : Option β} {r : β} (h : (if b = true then x else y) = some r) : (b = true ∧ x = some r) ∨ (b = false ∧ y = some r) := by
  cases b with
  | true => exact .inl ⟨rfl, h⟩
  | false => exact .inr ⟨rfl, h⟩
theorem ite_t {β : Type} {b : Bool} {x y : β} (h : b = true) : (if b = true then x else y) = x := if_pos h
theorem ite_f {β : Type} {b : Bool} {x y : β} (h : b = false) : (if b = true then x else y) = y := by subst h; rfl
theorem dec_t {p : Prop} [Decidable p] (h : decide p = true) : p := of_decide_eq_true h

theorem isEmpty_inv {α : Type} {l : List α} (h : l.isEmpty = true) : l = [] := by
  cases l with
  | nil => rfl
  | cons _ _ => first | exact nn h | cases h
noncomputable def ownL : Option B → Option (List D)
  | some (.own (.list ds)) => some ds
  | _ => none
noncomputable def ownK : Option B → Option (List (Str × Int))
  | some (.own (.dict kv)) => some kv
  | _ => none
noncomputable def intOf : D → Option Int
  | .int i => some i
  | _ => none
noncomputable def strOf : D → Option Str
  | .str y => some y
  | _ => none
noncomputable def valI : Option B → Option Int
  | some (.val d) => intOf d
  | _ => none
noncomputable def isNone : D → Option Unit
  | .none => some ()
  | _ => none
theorem ownL_inv {o : Option B} {ds : List D} (h : ownL o = some ds) : o = some (.own (.list ds)) := by
  cases o with
  | none => exact nn h
  | some b => cases b with
    | own d => cases d with
      | list l => exact congrArg (fun l => some (B.own (D.list l))) (Option.some.inj h)
      | _ => exact nn h
    | _ => exact nn h
theorem ownK_inv {o : Option B} {kv : List (Str × Int)} (h : ownK o = some kv) : o = some (.own (.dict kv)) := by
  cases o with
  | none => exact nn h
  | some b => cases b with
    | own d => cases d with
      | dict l => exact congrArg (fun l => some (B.own (D.dict l))) (Option.some.inj h)
      | _ => exact nn h
    | _ => exact nn h
theorem intOf_inv {d : D} {i : Int} (h : intOf d = some i) : d = .int i := by
  cases d with
  | int j => exact congrArg D.int (Option.some.inj h)
  | _ => exact nn h
theorem strOf_inv {d : D} {i : Str} (h : strOf d = some i) : d = .str i := by
  cases d with
  | str j => exact congrArg D.str (Option.some.inj h)
  | _ => exact nn h
theorem valI_inv {o : Option B} {i : Int} (h : valI o = some i) : o = some (.val (.int i)) := by
  cases o with
  | none => exact nn h
  | some b => cases b with
    | val d => exact congrArg (fun d => some (B.val d)) (intOf_inv h)
    | _ => exact nn h

/-- a name that an expression is -/
noncomputable def isNm : Expr → Option Str
  | .Name x _ => some x
  | _ => none

noncomputable def one {α : Type} : List α → Option α
  | [a] => some a
  | _ => none
noncomputable def unc {α : Type} : List α → Option (α × List α)
  | a :: r => some (a, r)
  | [] => none
theorem one_inv {α : Type} {l : List α} {a : α} (h : one l = some a) : l = [a] := by
  cases l with
  | nil => exact nn h
  | cons b r => cases r with
    | nil => exact congrArg (fun a => [a]) (Option.some.inj h)
    | cons _ _ => exact nn h
theorem unc_inv {α : Type} {l : List α} {p : α × List α} (h : unc l = some p) : l = p.1 :: p.2 := by
  cases l with
  | nil => exact nn h
  | cons b r => exact congrArg (fun p : α × List α => p.1 :: p.2) (Option.some.inj h)
theorem isNm_inv {e : Expr} {x : Str} (h : isNm e = some x) : ∃ p, e = .Name x p := by
  cases e with
  | Name y p => cases h; exact ⟨p, rfl⟩
  | _ => first | exact nn h | cases h
noncomputable def listOf : D → Option (List D)
  | .list ds => some ds
  | _ => none
noncomputable def tupOf : D → Option (List D)
  | .tuple ds => some ds
  | _ => none
noncomputable def dictOf' : D → Option (List (Str × Int))
  | .dict kv => some kv
  | _ => none
theorem listOf_inv {d : D} {i : List D} (h : listOf d = some i) : d = .list i := by
  cases d with
  | list j => exact congrArg D.list (Option.some.inj h)
  | _ => exact nn h
theorem tupOf_inv {d : D} {i : List D} (h : tupOf d = some i) : d = .tuple i := by
  cases d with
  | tuple j => exact congrArg D.tuple (Option.some.inj h)
  | _ => exact nn h
theorem dictOf_inv {d : D} {i : List (Str × Int)} (h : dictOf' d = some i) : d = .dict i := by
  cases d with
  | dict j => exact congrArg D.dict (Option.some.inj h)
  | _ => exact nn h
noncomputable def valOf : Option B → Option D
  | some (.val d) => some d
  | _ => none
theorem valOf_inv {o : Option B} {d : D} (h : valOf o = some d) : o = some (.val d) := by
  cases o with
  | none => exact nn h
  | some b => cases b with
    | val d => exact congrArg (fun d => some (B.val d)) (Option.some.inj h)
    | _ => exact nn h
noncomputable def anyB : Option B → Option D
  | some (.val d) => some d
  | some (.own d) => some d
  | _ => none
theorem anyB_inv {o : Option B} {d : D} (h : anyB o = some d) : o = some (.val d) ∨ o = some (.own d) := by
  cases o with
  | none => exact nn h
  | some b => cases b with
    | val d => exact .inl (congrArg (fun d => some (B.val d)) (Option.some.inj h))
    | own d => exact .inr (congrArg (fun d => some (B.own d)) (Option.some.inj h))
    | _ => exact nn h
noncomputable def two {α : Type} : List α → Option (α × α)
  | [a, b] => some (a, b)
  | _ => none
theorem two_inv {α : Type} {l : List α} {a : α × α} (h : two l = some a) : l = [a.1, a.2] := by
  cases l with
  | nil => exact nn h
  | cons a r => cases r with
    | nil => exact nn h
    | cons b r => cases r with
      | nil => exact congrArg (fun p : α × α => [p.1, p.2]) (Option.some.inj h)
      | cons _ _ => exact nn h
noncomputable def partI : List D → Option (Option Int)
  | [] => some none
  | d :: r => if r.isEmpty then obind (intOf d) fun i => some (some i) else none
theorem partI_inv {l : List D} {o : Option Int} (h : partI l = some o) : (l = [] ∧ o = none) ∨ ∃ i, l = [.int i] ∧ o = some i := by
  cases l with
  | nil => cases h; exact .inl ⟨rfl, rfl⟩
  | cons d r =>
    obtain ⟨hr, h⟩ := ite_some h
    obtain ⟨i, hi, h⟩ := obind_some h
    cases h
    exact .inr ⟨i, by rw [isEmpty_inv hr, intOf_inv hi], rfl⟩
noncomputable def constI : Expr → Option Int
  | .Constant (.int i) _ _ => some i
  | _ => none
theorem constI_inv {e : Expr} {i : Int} (h : constI e = some i) : ∃ k p, e = .Constant (.int i) k p := by
  cases e with
  | Constant c k p => cases c with
    | int j => cases h; exact ⟨k, p, rfl⟩
    | _ => first | exact nn h | cases h
  | _ => first | exact nn h | cases h
noncomputable def isUSub : UnaryOp → Bool
  | .USub => true
  | _ => false
theorem isUSub_inv {o : UnaryOp} (h : isUSub o = true) : o = .USub := by cases o <;> first | rfl | cases h
noncomputable def isAdd : Operator → Bool
  | .Add => true
  | _ => false
theorem isAdd_inv {o : Operator} (h : isAdd o = true) : o = .Add := by cases o <;> first | rfl | exact absurd h Bool.false_ne_true
noncomputable def isMod : Operator → Bool
  | .Mod => true
  | _ => false
theorem isMod_inv {o : Operator} (h : isMod o = true) : o = .Mod := by cases o <;> first | rfl | exact absurd h Bool.false_ne_true
noncomputable def isNot : UnaryOp → Bool
  | .Not => true
  | _ => false
theorem isNot_inv {o : UnaryOp} (h : isNot o = true) : o = .Not := by cases o <;> first | rfl | cases h
noncomputable def isSl : Expr → Option (Option Expr × Option Expr × Option Expr × Pos)
  | .Slice a b c p => some (a, b, c, p)
  | _ => none
theorem isSl_inv {e : Expr} {z : Option Expr × Option Expr × Option Expr × Pos} (h : isSl e = some z) : e = .Slice z.1 z.2.1 z.2.2.1 z.2.2.2 := by
  cases e with
  | Slice a b c p => cases h; rfl
  | _ => first | exact nn h | cases h
noncomputable def isCl : Expr → Option (Expr × List Expr × List Keyword × Pos)
  | .Call f args ks p => some (f, args, ks, p)
  | _ => none
theorem isCl_inv {e : Expr} {z : Expr × List Expr × List Keyword × Pos} (h : isCl e = some z) : e = .Call z.1 z.2.1 z.2.2.1 z.2.2.2 := by
  cases e with
  | Call f args ks p => exact congrArg (fun z : Expr × List Expr × List Keyword × Pos => Expr.Call z.1 z.2.1 z.2.2.1 z.2.2.2) (Option.some.inj h)
  | _ => exact nn h
noncomputable def isAt : Expr → Option (Expr × Str × Pos)
  | .Attribute b nm p => some (b, nm, p)
  | _ => none
theorem isAt_inv {e : Expr} {z : Expr × Str × Pos} (h : isAt e = some z) : e = .Attribute z.1 z.2.1 z.2.2 := by
  cases e with
  | Attribute b nm p => exact congrArg (fun z : Expr × Str × Pos => Expr.Attribute z.1 z.2.1 z.2.2) (Option.some.inj h)
  | _ => exact nn h
/-- b.nm() -/
noncomputable def isMeth0 (e : Expr) : Option (Expr × Str × Pos × Pos) := obind (isCl e) fun c => if c.2.1.isEmpty && c.2.2.1.isEmpty then obind (isAt c.1) fun a => some (a.1, a.2.1, a.2.2, c.2.2.2) else none
theorem isMeth0_inv {e : Expr} {z : Expr × Str × Pos × Pos} (h : isMeth0 e = some z) : e = .Call (.Attribute z.1 z.2.1 z.2.2.1) [] [] z.2.2.2 := by
  obtain ⟨c, hc, h⟩ := obind_some h
  obtain ⟨hk, h⟩ := ite_some h
  obtain ⟨a, ha, h⟩ := obind_some h
  rw [Bool.and_eq_true] at hk
  rw [isCl_inv hc, isEmpty_inv hk.1, isEmpty_inv hk.2, isAt_inv ha, ← Option.some.inj h]
/-- f(a) -/
noncomputable def isCall1 (e : Expr) : Option (Str × Expr) := obind (isCl e) fun c => if c.2.2.1.isEmpty then obind (isNm c.1) fun f => obind (one c.2.1) fun a => some (f, a) else none
theorem isCall1_inv {e : Expr} {z : Str × Expr} (h : isCall1 e = some z) : ∃ p q, e = .Call (.Name z.1 p) [z.2] [] q := by
  obtain ⟨c, hc, h⟩ := obind_some h
  obtain ⟨hk, h⟩ := ite_some h
  obtain ⟨f, hf, h⟩ := obind_some h
  obtain ⟨a, ha, h⟩ := obind_some h
  obtain ⟨p, hp⟩ := isNm_inv hf
  exact ⟨p, c.2.2.2, by rw [isCl_inv hc, isEmpty_inv hk, hp, one_inv ha, ← Option.some.inj h]⟩

noncomputable def mapO {α β : Type} (f : α → Option β) : List α → Option (List β)
  | [] => some []
  | a :: r => match f a with
    | none => none
    | some b => match mapO f r with
      | none => none
      | some bs => some (b :: bs)

mutual
noncomputable def eqD : D → D → Bool
  | .int a, .int b => a == b
  | .str a, .str b => a == b
  | .tuple a, .tuple b => eqDs a b
  | .list a, .list b => eqDs a b
  | _, _ => false
noncomputable def eqDs : List D → List D → Bool
  | [], [] => true
  | a :: as, b :: bs => eqD a b && eqDs as bs
  | _, _ => false
end

/-- data whose == is served: ints, short strs, tuples and lists of such -/
noncomputable def okEq : Nat → D → Bool
  | _, .int _ => true
  | _, .str x => PyData.strOk x
  | n + 1, .tuple ds => ds.all (okEq n)
  | n + 1, .list ds => ds.all (okEq n)
  | _, _ => false

noncomputable def strLt (x y : Str) : Bool := decide (x.cps.toList < y.cps.toList)

noncomputable def tup3 (d : D) : Option (D × D × D) := obind (tupOf d) fun l => obind (unc l) fun x => obind (two x.2) fun y => some (x.1, y.1, y.2)
theorem tup3_inv {d : D} {t : D × D × D} (h : tup3 d = some t) : d = .tuple [t.1, t.2.1, t.2.2] := by
  obtain ⟨l, hl, h⟩ := obind_some h
  obtain ⟨x, hx, h⟩ := obind_some h
  obtain ⟨y, hy, h⟩ := obind_some h
  rw [← Option.some.inj h, tupOf_inv hl, unc_inv hx, two_inv hy]
noncomputable def triD (d : D) : Option (Str × Int × Int) := obind (tup3 d) fun t => obind (strOf t.1) fun s => obind (intOf t.2.1) fun i => obind (intOf t.2.2) fun j => some (s, i, j)
theorem triD_inv {d : D} {t : Str × Int × Int} (h : triD d = some t) : d = .tuple [.str t.1, .int t.2.1, .int t.2.2] := by
  obtain ⟨x, hx, h⟩ := obind_some h
  obtain ⟨s, hs, h⟩ := obind_some h
  obtain ⟨i, hi, h⟩ := obind_some h
  obtain ⟨j, hj, h⟩ := obind_some h
  rw [← Option.some.inj h, tup3_inv hx, strOf_inv hs, intOf_inv hi, intOf_inv hj]
noncomputable def ltT (a b : D) : Option Bool := obind (triD a) fun p => obind (triD b) fun q => some (if p.1 == q.1 then (if p.2.1 == q.2.1 then decide (p.2.2 < q.2.2) else decide (p.2.1 < q.2.1)) else strLt p.1 q.1)
noncomputable def ltD (a b : D) : Option Bool := match a with
  | .int x => obind (intOf b) fun y => some (decide (x < y))
  | a => ltT a b

noncomputable def strsD : List D → Option (List Str)
  | [] => some []
  | .str y :: r => (strsD r).map (y :: ·)
  | _ :: _ => none
noncomputable def inD (x : Str) (ds : List D) : Option Bool := (strsD ds).map fun ss => ss.any (· == x)

noncomputable def keyIn (x : Str) (kv : List (Str × Int)) : Bool := kv.any (·.1 == x)

noncomputable def cmpD (op : CmpOp) (a b : D) : Option Bool := match op with
  | .Eq => if okEq 8 a && okEq 8 b then some (eqD a b) else none
  | .NotEq => if okEq 8 a && okEq 8 b then some (!eqD a b) else none
  | .Lt => ltD a b
  | .Gt => obind (intOf a) fun x => obind (intOf b) fun y => some (decide (y < x))
  | .In => obind (strOf a) fun x => obind (dictOf' b) fun kv => some (keyIn x kv)
  | .NotIn => obind (strOf a) fun x => obind (listOf b) fun ds => obind (inD x ds) fun t => some (!t)
  | _ => none

noncomputable def sliceL {α : Type} (l : List α) (lo hi : Option Int) : List α := (l.drop (PySem.W.kms_lo lo l.length)).take (PySem.W.kms_hi hi l.length - PySem.W.kms_lo lo l.length)

noncomputable def fmtT (f : Str) (d : D) : Option Str := obind (tup3 d) fun t => obind (strOf t.1) fun a => obind (intOf t.2.1) fun n => obind (strOf t.2.2) fun b =>
  if f == Str.ofString "%s:%d(%s)" && decide (0 ≤ n) && decide (n < 100) && decide (a.length ≤ 100) && decide (b.length ≤ 100) then
    some (a ++ Str.ofString ":" ++ Str.ofString (toString n) ++ Str.ofString "(" ++ b ++ Str.ofString ")") else none
noncomputable def fmtD (f : Str) (d : D) : Option Str := match d with
  | .str y => if f == Str.ofString "{%s}" && decide (y.length ≤ 100) then some (Str.ofString "{" ++ y ++ Str.ofString "}") else none
  | d => fmtT f d

noncomputable def smallI (i : Int) : Bool := decide (-1000000 ≤ i) && decide (i ≤ 1000000)

noncomputable def arD (a b : Int) : Operator → Option D
  | .Add => some (.int (a + b))
  | .Sub => some (.int (a - b))
  | .Mult => if smallI a && smallI b then some (.int (a * b)) else none
  | .FloorDiv => if b == 0 || !smallI b then none else some (.int (a.fdiv b))
  | .Mod => if b == 0 then none else some (.int (a.fmod b))
  | .RShift => if b == 1 then some (.int (a.fdiv 2)) else none
  | _ => none
noncomputable def binD (op : Operator) (x y : D) : Option D := match x with
  | .int a => obind (intOf y) fun b => arD a b op
  | .list a => if isAdd op then obind (listOf y) fun b => if decide (a.length + b.length ≤ 1000) then some (.list (a ++ b)) else none else none
  | .str f => if isMod op then obind (fmtD f y) fun r => some (.str r) else none
  | _ => none

noncomputable def itemD : D → Int → Option D
  | .list ds, i => if decide (0 ≤ i) then (if decide (i < 1000) then ds[i.toNat]? else none) else if i == -1 then ds.getLast? else none
  | .tuple ds, i => if decide (0 ≤ i) && decide (i < 1000) then ds[i.toNat]? else none
  | _, _ => none

noncomputable def sliceD : D → Option Int → Option Int → Option D
  | .list ds, lo, hi => if decide (ds.length ≤ 1000) then some (.list (sliceL ds lo hi)) else none
  | .tuple ds, Option.none, some n => if decide (0 ≤ n) && decide (n.toNat < ds.length) && decide (ds.length ≤ 1000) then some (.tuple (ds.take n.toNat)) else none
  | .str x, some i, some j => if decide (x.length ≤ 1000) then some (.str (Txt.slice x (some i) (some j))) else none
  | _, _, _ => none

noncomputable def lenD : D → Option D
  | .list ds => if decide (ds.length ≤ 1000) then some (.int ds.length) else none
  | _ => none

noncomputable def truthD : D → Option Bool
  | .bool b => some b
  | .list ds => if decide (ds.length ≤ 1000) then some (!ds.isEmpty) else none
  | _ => none

noncomputable def intsD : List D → Option (List Int)
  | [] => some []
  | .int i :: r => (intsD r).map (i :: ·)
  | _ :: _ => none

noncomputable def sumD : D → Option D
  | .list ds => match intsD ds with
    | some is => some (.int is.sum)
    | Option.none => none
  | _ => none

noncomputable def pairsD (kv : List (Str × Int)) : List D := kv.map fun p => .tuple [.str p.1, .int p.2]

/-- stable insertion by the first item's text -/
noncomputable def keyD : D → Option Str
  | .tuple (.str x :: _) => some x
  | _ => none
noncomputable def insD (x : Str) (d : D) : List (Str × D) → List (Str × D)
  | [] => [(x, d)]
  | (y, e) :: r => if strLt x y then (x, d) :: (y, e) :: r else (y, e) :: insD x d r
noncomputable def sortP : List (Str × D) → List (Str × D) → List (Str × D)
  | [], acc => acc
  | (x, d) :: r, acc => sortP r (insD x d acc)
noncomputable def sortD : D → Option D
  | .list ds => match mapO keyD ds with
    | some ks => if decide (ds.length < 64) then some (.list ((sortP (ks.zip ds) []).map (·.2))) else none
    | Option.none => none
  | _ => none

/-- the tables of the text's own functions -/
structure Tabs where
  pure : Str → Option (List D → Option D)
  mt : Str → Option (List D → List D → Option (List D × D))
  lam : Bool

structure Ev where
  v : Scope → Rho → Expr → Option D
  t : Scope → Rho → Expr → Option Bool
  it : Scope → Rho → Bool → Expr → Option (List D)

noncomputable def borrow (v : Scope → Rho → Expr → Option D) (sc : Scope) (ρ : Rho) (e : Expr) : Option D :=
  match isNm e with
  | some x => anyB (ρ.lookup x)
  | none => v sc ρ e

noncomputable def isGlob (sc : Scope) (f : Str) : Bool := sc.names.lookup f == some .globalImplicit

noncomputable def bindNames : List Expr → List D → Rho → Option Rho
  | [], [], ρ => some ρ
  | .Name x _ :: es, d :: ds, ρ => bindNames es ds (rset ρ x (.val d))
  | _, _, _ => none
noncomputable def storable (sc : Scope) (x : Str) : Bool := sc.names.lookup x == some .local || sc.names.lookup x == some .cell
noncomputable def namesOk (sc : Scope) : List Expr → Bool
  | [] => true
  | .Name x _ :: es => storable sc x && namesOk sc es
  | _ => false
noncomputable def bindT (sc : Scope) : Expr → D → Rho → Option Rho
  | .Name x _, d, ρ => if storable sc x then some (rset ρ x (.val d)) else none
  | .Tuple es _ _, .tuple ds, ρ => if namesOk sc es && decide (es.length = ds.length) && decide (2 ≤ es.length) then bindNames es ds ρ else none
  | _, _, _ => none

noncomputable def compRho (sc' : Scope) (ρ : Rho) : Rho := sc'.names.filterMap fun p => match p.2 with
  | .local => some (p.1, B.unb)
  | .cell => some (p.1, B.unb)
  | .free => some (p.1, match ρ.lookup p.1 with
    | some (.val d) => .val d
    | _ => .unb)
  | _ => none

noncomputable def unbX (ρ : Rho) (x : Str) : Bool := match ρ.lookup x with
  | some .unb => true
  | none => true
  | _ => false
noncomputable def unbT (ρ : Rho) : Expr → Bool
  | .Name x _ => unbX ρ x
  | .Tuple es _ _ => es.all fun e => match e with
    | .Name x _ => unbX ρ x
    | _ => false
  | _ => false
noncomputable def freeOk (sc sc' : Scope) : Bool := sc'.names.all fun p => p.2 != .free || sc.names.lookup p.1 == some .cell || sc.names.lookup p.1 == some .free

noncomputable def allT (t : Rho → Expr → Option Bool) (ρ : Rho) : List Expr → Option Bool
  | [] => some true
  | e :: es => match t ρ e with
    | some true => allT t ρ es
    | some false => some false
    | none => none

noncomputable def flatO {α β : Type} (f : α → Option (List β)) : List α → Option (List β)
  | [] => some []
  | a :: r => match f a with
    | none => none
    | some bs => match flatO f r with
      | none => none
      | some cs => some (bs ++ cs)

noncomputable def isTup : Expr → Bool
  | .Tuple _ _ _ => true
  | _ => false

/-- the clauses of a comprehension behind the first source -/
noncomputable def compGo (E : Ev) (sc : Scope) (elt : Expr) : List Comprehension → List D → Rho → Option (List D)
  | [], _, _ => none
  | [g], ds, ρ => if unbT ρ g.target then flatO (fun d => match bindT sc g.target d ρ with
      | none => none
      | some ρ' => match allT (E.t sc) ρ' g.ifs with
        | some true => (E.v sc ρ' elt).map fun x => [x]
        | some false => some []
        | none => none) ds else none
  | g :: g' :: gs, ds, ρ => if unbT ρ g.target then flatO (fun d => match bindT sc g.target d ρ with
      | none => none
      | some ρ' => match allT (E.t sc) ρ' g.ifs with
        | some true => match E.it sc ρ' (isTup g'.target) g'.iter with
          | none => none
          | some ds' => compGo E sc elt (g' :: gs) ds' ρ'
        | some false => some []
        | none => none) ds else none

noncomputable def nodupS : List Str → Bool
  | [] => true
  | x :: r => !r.contains x && nodupS r
/-- a scope of a function or of a comprehension that is served -/
noncomputable def scOk (sc : Scope) : Bool := sc.kind == .function && sc.names.all (fun p => p.1 != Str.ofString "__debug__" && p.1 != Str.ofString "__classdict__") && nodupS (sc.names.map (·.1))
noncomputable def isSetE : Expr → Bool
  | .Set _ _ _ => true
  | _ => false
noncomputable def genOk (g : Comprehension) : Bool := g.is_async == 0 && !isSetE g.iter

noncomputable def lamPos : Pos := ⟨90, 76, 90, 98⟩
noncomputable def lamVar : Str := Str.ofString "piece"
noncomputable def lamA (a : Arguments) : Bool := a.posonlyargs.isEmpty && a.vararg.isNone && a.kwonlyargs.isEmpty && a.kw_defaults.isEmpty && a.kwarg.isNone && a.defaults.isEmpty && (match one a.args with
  | some x => x.arg == lamVar && x.annotation.isNone
  | none => false)
noncomputable def lamB : Expr → Bool
  | .Subscript b i _ => isNm b == some lamVar && constI i == some 0
  | _ => false
noncomputable def isKeyLam : Expr → Bool
  | .Lambda a b sc lp => lamA a && lamB b && lp == lamPos && sc.kind == .function && sc.names == [(lamVar, .local)] && !sc.isGenerator && !sc.isCoroutine
  | _ => false

noncomputable def mOk (b : Expr) (ap p : Pos) : Bool := (ap.endLine == p.line) && match b with
  | .Name _ _ => true
  | .Subscript _ _ _ => true
  | _ => false

noncomputable def evListC (E : Ev) (sc : Scope) (ρ : Rho) (a : Expr) : Option D := match isMeth0 a with
  | some z => if z.2.1 == Str.ofString "items" && mOk z.1 z.2.2.1 z.2.2.2 then obind (E.v sc ρ z.1) fun d => obind (dictOf' d) fun kv => if decide (kv.length ≤ 1000) then some (.list (pairsD kv)) else none else none
  | none => obind (E.v sc ρ a) fun d => obind (tupOf d) fun ds => if decide (ds.length ≤ 1000) then some (.list ds) else none
noncomputable def evCall (T : Tabs) (E : Ev) (sc : Scope) (ρ : Rho) (f : Str) (args : List Expr) : Option D :=
  if isGlob sc f then
    if f == Str.ofString "len" then obind (one args) fun a => obind (borrow E.v sc ρ a) lenD
    else if f == Str.ofString "sum" then obind (one args) fun a => obind (E.v sc ρ a) sumD
    else if f == Str.ofString "list" then obind (one args) fun a => evListC E sc ρ a
    else if f == Str.ofString "isinstance" then obind (two args) fun z => obind (isNm z.2) fun c => if c == Str.ofString "tuple" && isGlob sc c then obind (E.v sc ρ z.1) fun d => obind (intOf d) fun _ => some (.bool false) else none
    else obind (T.pure f) fun F => obind (mapO (E.v sc ρ) args) F
  else none

noncomputable def constD : Const → Option D
  | .int i => some (.int i)
  | .str x => some (.str x)
  | .bool b => some (.bool b)
  | _ => none
noncomputable def evSub (E : Ev) (sc : Scope) (ρ : Rho) (b i : Expr) : Option D := match isSl i with
  | some z => if z.2.2.1.isNone then obind (E.v sc ρ b) fun d => obind (mapO (E.v sc ρ) z.1.toList) fun l => obind (mapO (E.v sc ρ) z.2.1.toList) fun h => obind (partI l) fun lo => obind (partI h) fun hi => sliceD d lo hi else none
  | none => obind (borrow E.v sc ρ b) fun d => obind (E.v sc ρ i) fun j => obind (intOf j) fun k => itemD d k
noncomputable def methD (nm x y : Str) : Option D := if nm == Str.ofString "startswith" then some (.bool (Txt.startswith x y)) else if nm == Str.ofString "endswith" then some (.bool (Txt.endswith x y)) else none
noncomputable def evCl (T : Tabs) (E : Ev) (sc : Scope) (ρ : Rho) (args : List Expr) (ks : List Keyword) (p : Pos) : Expr → Option D
  | .Name f _ => if ks.isEmpty then evCall T E sc ρ f args else obind (one args) fun a => obind (one ks) fun kw => obind kw.arg fun k => if isGlob sc f && f == Str.ofString "sorted" && k == Str.ofString "key" && isKeyLam kw.value && T.lam then obind (E.v sc ρ a) sortD else none
  | .Attribute b nm ap => if ks.isEmpty && mOk b ap p then obind (one args) fun a => obind (E.v sc ρ b) fun x => obind (strOf x) fun x => obind (E.v sc ρ a) fun y => obind (strOf y) fun y => methD nm x y else none
  | _ => none

noncomputable def evV (T : Tabs) (E : Ev) (sc : Scope) (ρ : Rho) : Expr → Option D
  | .Constant c _ _ => constD c
  | .Name x _ => valOf (ρ.lookup x)
  | .UnaryOp op x _ => if isUSub op then obind (constI x) fun i => some (.int (-i)) else none
  | .BinOp l op r _ => obind (E.v sc ρ l) fun a => obind (E.v sc ρ r) fun b => binD op a b
  | .Compare l ops rs _ => obind (one ops) fun op => obind (one rs) fun r => obind (E.v sc ρ l) fun a => obind (borrow E.v sc ρ r) fun b => obind (cmpD op a b) fun t => some (.bool t)
  | .Subscript b i _ => evSub E sc ρ b i
  | .Tuple es _ _ => if decide (es.length ≤ 1000) then obind (mapO (E.v sc ρ) es) fun ds => some (.tuple ds) else none
  | .List es _ => if decide (es.length ≤ 1000) then obind (mapO (E.v sc ρ) es) fun ds => some (.list ds) else none
  | .Dict ks vs _ => if ks.isEmpty && vs.isEmpty then some (.dict []) else none
  | .Call f args ks p => evCl T E sc ρ args ks p f
  | .ListComp elt gs sc' _ => obind (unc gs) fun g => if scOk sc' && freeOk sc sc' && gs.all genOk && decide (gs.length ≤ 2) then obind (E.it sc ρ (isTup g.1.target) g.1.iter) fun ds => obind (compGo E sc' elt gs ds (compRho sc' ρ)) fun out => if decide (out.length ≤ 1000) then some (.list out) else none else none
  | _ => none

noncomputable def evAll (E : Ev) (sc : Scope) (ρ : Rho) (op : BoolOp) : List Expr → Option Bool
  | [] => some (op == .And)
  | e :: es => match E.t sc ρ e with
    | none => none
    | some b => match op, b with
      | .And, false => some false
      | .Or, true => some true
      | _, _ => evAll E sc ρ op es

noncomputable def evT (E : Ev) (sc : Scope) (ρ : Rho) : Expr → Option Bool
  | .UnaryOp op x _ => if isNot op then obind (E.t sc ρ x) fun b => some (!b) else none
  | .BoolOp op vs _ => evAll E sc ρ op vs
  | .Compare l ops rs _ => obind (one ops) fun op => obind (one rs) fun r => obind (E.v sc ρ l) fun a => obind (borrow E.v sc ρ r) fun b => cmpD op a b
  | .Name x p => obind (borrow E.v sc ρ (.Name x p)) truthD
  | .Call f as ks p => obind (E.v sc ρ (.Call f as ks p)) truthD
  | _ => none

noncomputable def rangeD (n : Int) : Option (List D) := if decide (0 ≤ n) && decide (n ≤ 1000) then some ((List.range n.toNat).map fun (i : Nat) => D.int (i : Int)) else none

noncomputable def evList (E : Ev) (sc : Scope) (ρ : Rho) (e : Expr) : Option (List D) := obind (borrow E.v sc ρ e) listOf

noncomputable def evItCall (E : Ev) (sc : Scope) (ρ : Rho) (tt : Bool) (f : Str) (a e : Expr) : Option (List D) :=
  if isGlob sc f && f == Str.ofString "range" then obind (E.v sc ρ a) fun d => obind (intOf d) rangeD
  else if isGlob sc f && f == Str.ofString "enumerate" && tt then obind (E.v sc ρ a) fun d => obind (listOf d) fun ds => some ((List.range ds.length).zip ds |>.map fun (p : Nat × D) => D.tuple [.int (p.1 : Int), p.2])
  else if isGlob sc f && f == Str.ofString "reversed" then obind (isCall1 a) fun z => if z.1 == Str.ofString "range" && isGlob sc z.1 then obind (E.v sc ρ z.2) fun d => obind (intOf d) fun n => obind (rangeD n) fun l => some l.reverse else none
  else evList E sc ρ e

noncomputable def evIt (E : Ev) (sc : Scope) (ρ : Rho) (tt : Bool) (e : Expr) : Option (List D) := match isCall1 e with
  | some z => evItCall E sc ρ tt z.1 z.2 e
  | none => match isMeth0 e with
    | some z => if mOk z.1 z.2.2.1 z.2.2.2 then obind (E.v sc ρ z.1) fun d => obind (dictOf' d) fun kv => if z.2.1 == Str.ofString "items" then some (pairsD kv) else if z.2.1 == Str.ofString "values" then some (kv.map fun p => .int p.2) else none else none
    | none => evList E sc ρ e

noncomputable def evN (T : Tabs) : Nat → Ev
  | 0 => ⟨fun _ _ _ => none, fun _ _ _ => none, fun _ _ _ _ => none⟩
  | n + 1 => ⟨evV T (evN T n), evT (evN T n), evIt (evN T n)⟩


inductive R where
  | next
  | brk
  | cont
  | ret (d : D)

noncomputable def freeze (ρ : Rho) : Rho := ρ.map fun p => (p.1, match p.2 with
  | .own d => .val d
  | b => b)
noncomputable def strip (ρ : Rho) : Rho := ρ.map fun p => (p.1, match p.2 with
  | .own _ => .unb
  | b => b)

noncomputable def putKey (x : Str) (i : Int) : List (Str × Int) → List (Str × Int)
  | [] => [(x, i)]
  | (y, j) :: r => if y == x then (y, i) :: r else (y, j) :: putKey x i r

noncomputable def isFresh : Expr → Bool
  | .List [] _ => true
  | .Dict [] [] _ => true
  | .ListComp _ _ _ _ => true
  | _ => false

noncomputable def forGo (bd : Rho → Option (Rho × R)) (bind : D → Rho → Option Rho) : List D → Rho → Option (Rho × R)
  | [], ρ => some (ρ, .next)
  | d :: ds, ρ => match bind d ρ with
    | none => none
    | some ρ₁ => match bd ρ₁ with
      | some (ρ₂, .next) => forGo bd bind ds ρ₂
      | some (ρ₂, .cont) => forGo bd bind ds ρ₂
      | some (ρ₂, .brk) => some (ρ₂, .next)
      | some (ρ₂, .ret r) => some (ρ₂, .ret r)
      | none => none

noncomputable def whileGo (t : Rho → Option Bool) (bd : Rho → Option (Rho × R)) : Nat → Rho → Option (Rho × R)
  | 0, _ => none
  | n + 1, ρ => match t ρ with
    | none => none
    | some false => some (ρ, .next)
    | some true => match bd ρ with
      | some (ρ₂, .next) => whileGo t bd n ρ₂
      | some (ρ₂, .cont) => whileGo t bd n ρ₂
      | some (ρ₂, .brk) => some (ρ₂, .next)
      | some (ρ₂, .ret r) => some (ρ₂, .ret r)
      | none => none

noncomputable def callM (T : Tabs) (E : Ev) (sc : Scope) (ρ : Rho) (f y : Str) (args : List Expr) : Option (Rho × D) :=
  if isGlob sc f then obind (T.mt f) fun F => obind (ownL (ρ.lookup y)) fun ds => obind (mapO (E.v sc ρ) args) fun as => obind (F ds as) fun z => some (rset ρ y (.own (.list z.1)), z.2) else none

noncomputable def asgRest (E : Ev) (ow : Str → Bool) (sc : Scope) (ρ : Rho) (x : Str) (value : Expr) : Option (Rho × R) :=
  obind (E.v sc ρ value) fun d => some (rset ρ x (if ow x && isFresh value then .own d else .val d), .next)
/-- y.pop(), with its name and its positions -/
noncomputable def isPop (e : Expr) : Option (Str × Expr × Pos × Pos) := obind (isMeth0 e) fun z => obind (isNm z.1) fun y => if z.2.1 == Str.ofString "pop" && mOk z.1 z.2.2.1 z.2.2.2 then some (y, z.1, z.2.2.1, z.2.2.2) else none
noncomputable def isMt (e : Expr) : Option (Str × Str × List Expr) := obind (isCl e) fun c => if c.2.2.1.isEmpty then obind (isNm c.1) fun f => obind (unc c.2.1) fun a => obind (isNm a.1) fun y => some (f, y, a.2) else none
noncomputable def asgName (T : Tabs) (E : Ev) (ow : Str → Bool) (sc : Scope) (ρ : Rho) (x : Str) (value : Expr) : Option (Rho × R) :=
  match isPop value with
  | some z => obind (ownL (ρ.lookup z.1)) fun ds => if decide (ds.length ≤ 1000) then obind ds.getLast? fun d => some (rset (rset ρ z.1 (.own (.list ds.dropLast))) x (.val d), .next) else none
  | none => match isMt value with
    | some z => if (T.mt z.1).isSome then obind (callM T E sc ρ z.1 z.2.1 z.2.2) fun y => some (rset y.1 x (.val y.2), .next) else asgRest E ow sc ρ x value
    | none => asgRest E ow sc ρ x value
theorem isPop_inv {e : Expr} {z : Str × Expr × Pos × Pos} (h : isPop e = some z) : ∃ q, z.2.1 = .Name z.1 q ∧ mOk (.Name z.1 q) z.2.2.1 z.2.2.2 = true ∧ e = .Call (.Attribute (.Name z.1 q) (Str.ofString "pop") z.2.2.1) [] [] z.2.2.2 := by
  obtain ⟨m, hm, h⟩ := obind_some h
  obtain ⟨y, hy, h⟩ := obind_some h
  obtain ⟨hc, h⟩ := ite_some h
  obtain ⟨q, hq⟩ := isNm_inv hy
  rw [Bool.and_eq_true, beq_iff_eq] at hc
  rw [← Option.some.inj h]
  exact ⟨q, hq, hq ▸ hc.2, by rw [isMeth0_inv hm, hc.1, hq]⟩
theorem isMt_inv {e : Expr} {z : Str × Str × List Expr} (h : isMt e = some z) : ∃ p q r, e = .Call (.Name z.1 p) (.Name z.2.1 q :: z.2.2) [] r := by
  obtain ⟨c, hc, h⟩ := obind_some h
  obtain ⟨hk, h⟩ := ite_some h
  obtain ⟨f, hf, h⟩ := obind_some h
  obtain ⟨a, ha, h⟩ := obind_some h
  obtain ⟨y, hy, h⟩ := obind_some h
  obtain ⟨p, hp⟩ := isNm_inv hf
  obtain ⟨q, hq⟩ := isNm_inv hy
  exact ⟨p, q, c.2.2.2, by rw [isCl_inv hc, isEmpty_inv hk, hp, unc_inv ha, hq, ← Option.some.inj h]⟩
noncomputable def isLC : Expr → Bool
  | .ListComp _ _ _ _ => true
  | .SetComp _ _ _ _ => true
  | .DictComp _ _ _ _ _ => true
  | _ => false

noncomputable def tgtOk : Expr → Bool
  | .Name _ _ => true
  | .Tuple _ _ _ => true
  | _ => false

noncomputable def putItem (ρ : Rho) (x : Str) (d : D) : D → Option (Rho × R)
  | .int k => obind (ownL (ρ.lookup x)) fun ds => if decide (0 ≤ k) && decide (k.toNat < ds.length) && decide (ds.length ≤ 1000) then some (rset ρ x (.own (.list (ds.set k.toNat d))), .next) else none
  | .str y => obind (intOf d) fun n => obind (ownK (ρ.lookup x)) fun kv => if decide (kv.length ≤ 1000) then some (rset ρ x (.own (.dict (putKey y n kv))), .next) else none
  | _ => none

noncomputable def exAsg (T : Tabs) (E : Ev) (ow : Str → Bool) (sc : Scope) (ρ : Rho) (value : Expr) : Expr → Option (Rho × R)
  | .Name x _ => if storable sc x then asgName T E ow sc ρ x value else none
  | .Tuple es k p => if isTup value then none else obind (E.v sc ρ value) fun d => obind (bindT sc (.Tuple es k p) d ρ) fun ρ' => some (ρ', .next)
  | .Subscript b i _ => obind (isNm b) fun x => obind (E.v sc ρ value) fun d => obind (E.v sc ρ i) fun j => putItem ρ x d j
  | _ => none
noncomputable def exAug (E : Ev) (sc : Scope) (ρ : Rho) (value : Expr) : Expr → Option (Rho × R)
  | .Name x _ => if storable sc x then obind (valI (ρ.lookup x)) fun a => obind (E.v sc ρ value) fun d => obind (intOf d) fun b => some (rset ρ x (.val (.int (a + b))), .next) else none
  | .Subscript b i _ => obind (isNm b) fun x => obind (ownK (ρ.lookup x)) fun kv => obind (E.v sc ρ i) fun j => obind (strOf j) fun y => obind (E.v sc ρ value) fun d => obind (intOf d) fun b => obind (kv.lookup y) fun a =>
    if decide (kv.length ≤ 1000) then some (rset ρ x (.own (.dict (putKey y (a + b) kv))), .next) else none
  | _ => none
noncomputable def exExpr (T : Tabs) (E : Ev) (sc : Scope) (ρ : Rho) (args : List Expr) (ks : List Keyword) (p : Pos) : Expr → Option (Rho × R)
  | .Attribute b nm ap => if ks.isEmpty then obind (isNm b) fun x => obind (one args) fun a => if nm == Str.ofString "append" && mOk b ap p then obind (E.v sc ρ a) fun d => obind (ownL (ρ.lookup x)) fun ds => if decide (ds.length ≤ 1000) then some (rset ρ x (.own (.list (ds ++ [d]))), .next) else none else none else none
  | .Name f _ => if ks.isEmpty then obind (unc args) fun as => obind (isNm as.1) fun y => obind (callM T E sc ρ f y as.2) fun z => obind (isNone z.2) fun _ => some (z.1, .next) else none
  | _ => none
noncomputable def exCall (T : Tabs) (E : Ev) (sc : Scope) (ρ : Rho) : Expr → Option (Rho × R)
  | .Call f args ks p => exExpr T E sc ρ args ks p f
  | _ => none

noncomputable def exS (T : Tabs) (E : Ev) (X : Bool → Scope → Rho → List Stmt → Option (Rho × R)) (fz : Bool) (ow : Str → Bool) (sc : Scope) (ρ : Rho) : Stmt → Option (Rho × R)
  | .Return e _ => obind e fun e => if fz then obind (E.v sc (freeze ρ) e) fun d => some (freeze ρ, .ret d) else obind (E.v sc ρ e) fun d => some (ρ, .ret d)
  | .Assign ts value _ => obind (one ts) fun t => exAsg T E ow sc ρ value t
  | .AugAssign t op value _ => if isAdd op then exAug E sc ρ value t else none
  | .If test body orelse _ => obind (E.t sc ρ test) fun b => X fz sc ρ (if b = true then body else orelse)
  | .For target iter body o _ => if o.isEmpty then (if isSetE iter || !tgtOk target then none else obind (E.it sc (strip ρ) (isTup target) iter) fun ds => forGo (fun ρ => X false sc ρ body) (fun d ρ => bindT sc target d ρ) ds ρ) else none
  | .While test body o _ => if o.isEmpty then whileGo (fun ρ => E.t sc ρ test) (fun ρ => X fz sc ρ body) 100 ρ else none
  | .Expr e _ => exCall T E sc ρ e
  | .Continue _ => some (ρ, .cont)
  | .Break _ => some (ρ, .brk)
  | _ => none

noncomputable def exGo (f : Rho → Stmt → Option (Rho × R)) : List Stmt → Rho → Option (Rho × R)
  | [], ρ => some (ρ, .next)
  | s :: r, ρ => match f ρ s with
    | some (ρ', .next) => exGo f r ρ'
    | some (ρ', .brk) => some (ρ', .brk)
    | some (ρ', .cont) => some (ρ', .cont)
    | some (ρ', .ret d) => some (ρ', .ret d)
    | none => none

noncomputable def exN (T : Tabs) (E : Ev) (ow : Str → Bool) : Nat → Bool → Scope → Rho → List Stmt → Option (Rho × R)
  | 0, _, _, _, _ => none
  | n + 1, fz, sc, ρ, body => exGo (fun ρ s => exS T E (exN T E ow n) fz ow sc ρ s) body ρ

noncomputable def rho0 (sc : Scope) (binds : List (Str × B)) : Rho := sc.names.filterMap fun p => match p.2 with
  | .local => some (p.1, (binds.lookup p.1).getD .unb)
  | .cell => some (p.1, (binds.lookup p.1).getD .unb)
  | _ => none

end Mine

namespace Mine
open PySem PySem.W PyProof.Rows PySem.Calls

/-- a store of objects that nothing changes any more -/
noncomputable abbrev Z := Addr → Option Obj
noncomputable def Z.on (z : Z) (h : Heap) : Prop := ∀ a o, z a = some o → h.get? a = some o
noncomputable def Z.add (z : Z) (a : Addr) (o : Obj) : Z := fun b => if b = a then some o else z b

inductive IntVals : List (Str × Value) → List (Str × Int) → Prop
  | nil : IntVals [] []
  | cons {x : Str} {i : Int} {t : Tok} {r : List (Str × Value)} {q : List (Str × Int)} : IntVals r q → IntVals ((x, .int i t) :: r) ((x, i) :: q)

noncomputable abbrev lob (vs : List Value) (n : Nat) : Obj := { cls := .type "list", data := .seq vs.toArray n }
noncomputable abbrev tob (vs : List Value) (n : Nat) : Obj := { cls := .type "tuple", data := .seq vs.toArray n }

section
variable (prog : Program) (w : World)
mutual
inductive Rep (z : Z) : Value → D → Prop
  | none : Rep z Value.none D.none
  | bool (b : Bool) : Rep z (Value.bool b) (D.bool b)
  | int (i : Int) (t : Tok) : Rep z (Value.int i t) (D.int i)
  | str (x : Str) (t : Tok) : Rep z (Value.str x t) (D.str x)
  | tuple {a : Addr} {vs : List Value} {n : Nat} {ds : List D} : z a = some (tob vs n) → Reps z vs ds → Rep z (Value.ref a) (D.tuple ds)
  | list {a : Addr} {vs : List Value} {n : Nat} {ds : List D} : z a = some (lob vs n) → Reps z vs ds → Rep z (Value.ref a) (D.list ds)
  | dict {a : Addr} {o : Obj} {kvs : List (Str × Value)} {kv : List (Str × Int)} : z a = some o → (a == sysModules) = false → o.IsDictOf (PySem.strKind prog w) kvs → IntVals kvs kv → Rep z (Value.ref a) (D.dict kv)
inductive Reps (z : Z) : List Value → List D → Prop
  | nil : Reps z [] []
  | cons {v : Value} {d : D} {vs : List Value} {ds : List D} : Rep z v d → Reps z vs ds → Reps z (v :: vs) (d :: ds)
end
end

noncomputable def lamQual : Str := Str.ofString "_law_profiles.<locals>.<lambda>"
/-- the table of the codes made inside _law_profiles -/
noncomputable def TabOk (P : Addr) (z : Z) (h : Heap) : Prop := z P = none ∧ (
  h.get? P = some (tabObj #[]) ∨ ∃ c o vs t, h.get? P = some (tabObj #[rawInt lamPos.line, rawInt lamPos.col, .ref c]) ∧ z c = some o ∧ o.data = .fields vs ∧ vs[1]? = some (.str lamQual t))

structure Grow (P L : Addr) (z : Z) (h : Heap) (z' : Z) (h' : Heap) : Prop where
  le : ∀ a o, z a = some o → z' a = some o
  on : z'.on h'
  keep : ∀ b o, b ≠ L → b ≠ P → h.get? b = some o → h'.get? b = some o
  ns : ∀ m, h.Ns L m → h'.Ns L m
  size : h.objs.size ≤ h'.objs.size
  new : ∀ b o, z' b = some o → z b = some o ∨ h.objs.size ≤ b
  tab : TabOk P z h → TabOk P z' h'

section
variable {prog : Program} {w : World} {P L : Addr} {z z' z'' : Z} {h h' h'' : Heap}

theorem Rep.mono (hs : ∀ a o, z a = some o → z' a = some o) {v : Value} {d : D} (r : Rep prog w z v d) : Rep prog w z' v d :=
  Rep.rec (motive_1 := fun v d _ => Rep prog w z' v d) (motive_2 := fun vs ds _ => Reps prog w z' vs ds) .none .bool .int .str (fun h _ r => .tuple (hs _ _ h) r) (fun h _ r => .list (hs _ _ h) r) (fun h y c e => .dict (hs _ _ h) y c e) .nil (fun _ _ a b => .cons a b) r
theorem Reps.mono (hs : ∀ a o, z a = some o → z' a = some o) {vs : List Value} {ds : List D} (r : Reps prog w z vs ds) : Reps prog w z' vs ds :=
  Reps.rec (motive_1 := fun v d _ => Rep prog w z' v d) (motive_2 := fun vs ds _ => Reps prog w z' vs ds) .none .bool .int .str (fun h _ r => .tuple (hs _ _ h) r) (fun h _ r => .list (hs _ _ h) r) (fun h y c e => .dict (hs _ _ h) y c e) .nil (fun _ _ a b => .cons a b) r

theorem Rep.int_inv {v : Value} {i : Int} (r : Rep prog w z v (.int i)) : ∃ t, v = .int i t := by cases r; exact ⟨_, rfl⟩
theorem Rep.str_inv {v : Value} {x : Str} (r : Rep prog w z v (.str x)) : ∃ t, v = .str x t := by cases r; exact ⟨_, rfl⟩
theorem Rep.bool_inv {v : Value} {b : Bool} (r : Rep prog w z v (.bool b)) : v = .bool b := by cases r; rfl
theorem Rep.list_inv {v : Value} {ds : List D} (r : Rep prog w z v (.list ds)) : ∃ a vs n, v = .ref a ∧ z a = some (lob vs n) ∧ Reps prog w z vs ds := by cases r with | list h r => exact ⟨_, _, _, rfl, h, r⟩
theorem Rep.tuple_inv {v : Value} {ds : List D} (r : Rep prog w z v (.tuple ds)) : ∃ a vs n, v = .ref a ∧ z a = some (tob vs n) ∧ Reps prog w z vs ds := by cases r with | tuple h r => exact ⟨_, _, _, rfl, h, r⟩
/-- eliminators: far smaller in use than the `cases` tactic -/
theorem Rep.int_el {v : Value} {i : Int} {G : Value → Prop} (r : Rep prog w z v (.int i)) (g : ∀ t, G (.int i t)) : G v := let ⟨t, e⟩ := r.int_inv; e ▸ g t
theorem Rep.list_el {v : Value} {ds : List D} {G : Value → Prop} (r : Rep prog w z v (.list ds)) (g : ∀ a vs n, z a = some (lob vs n) → Reps prog w z vs ds → G (.ref a)) : G v := let ⟨a, vs, n, e, h, q⟩ := r.list_inv; e ▸ g a vs n h q
theorem Reps.nil_inv {vs : List Value} (r : Reps prog w z vs []) : vs = [] := by cases r; rfl
theorem Reps.cons_inv {vs : List Value} {d : D} {ds : List D} (r : Reps prog w z vs (d :: ds)) : ∃ v us, vs = v :: us ∧ Rep prog w z v d ∧ Reps prog w z us ds := by cases r with | cons h r => exact ⟨_, _, rfl, h, r⟩

theorem Reps.three_inv {vs : List Value} {a b c : D} (r : Reps prog w z vs [a, b, c]) : ∃ u v x, vs = [u, v, x] ∧ Rep prog w z u a ∧ Rep prog w z v b ∧ Rep prog w z x c := by
  obtain ⟨u, us, e1, h1, r⟩ := r.cons_inv
  obtain ⟨v, vs, e2, h2, r⟩ := r.cons_inv
  obtain ⟨x, xs, e3, h3, r⟩ := r.cons_inv
  exact ⟨u, v, x, by rw [e1, e2, e3, r.nil_inv], h1, h2, h3⟩
theorem Reps.sis_inv {vs : List Value} {a b : Str} {i : Int} (r : Reps prog w z vs [.str a, .int i, .str b]) : ∃ t1 t2 t3, vs = [.str a t1, .int i t2, .str b t3] := by
  obtain ⟨u, v, x, e, h1, h2, h3⟩ := r.three_inv
  obtain ⟨t1, e1⟩ := h1.str_inv
  obtain ⟨t2, e2⟩ := h2.int_inv
  obtain ⟨t3, e3⟩ := h3.str_inv
  exact ⟨t1, t2, t3, by rw [e, e1, e2, e3]⟩
theorem Reps.sii_inv {vs : List Value} {a : Str} {i j : Int} (r : Reps prog w z vs [.str a, .int i, .int j]) : ∃ t1 t2 t3, vs = [.str a t1, .int i t2, .int j t3] := by
  obtain ⟨u, v, x, e, h1, h2, h3⟩ := r.three_inv
  obtain ⟨t1, e1⟩ := h1.str_inv
  obtain ⟨t2, e2⟩ := h2.int_inv
  obtain ⟨t3, e3⟩ := h3.int_inv
  exact ⟨t1, t2, t3, by rw [e, e1, e2, e3]⟩

theorem Reps.length {vs : List Value} {ds : List D} (r : Reps prog w z vs ds) : vs.length = ds.length := by
  induction vs generalizing ds with
  | nil => cases r; rfl
  | cons v vs ih => cases r with
    | cons h r => simp [ih r]
theorem Reps.append {vs us : List Value} {ds es : List D} (r : Reps prog w z vs ds) (q : Reps prog w z us es) : Reps prog w z (vs ++ us) (ds ++ es) := by
  induction vs generalizing ds with
  | nil => cases r; exact q
  | cons v vs ih => cases r with
    | cons h r => exact .cons h (ih r)
theorem Reps.get {vs : List Value} {ds : List D} (r : Reps prog w z vs ds) {i : Nat} {d : D} (e : ds[i]? = some d) : ∃ v, vs[i]? = some v ∧ Rep prog w z v d := by
  induction vs generalizing ds i with
  | nil => cases r; simp at e
  | cons v vs ih => cases r with
    | cons h r => cases i with
      | zero => simp at e; subst e; exact ⟨v, rfl, h⟩
      | succ i => simp at e; simpa using ih r e
theorem Reps.drop {vs : List Value} {ds : List D} (r : Reps prog w z vs ds) : ∀ k : Nat, Reps prog w z (vs.drop k) (ds.drop k) := by
  intro k
  induction k generalizing vs ds with
  | zero => simpa using r
  | succ k ih => cases r with
    | nil => simpa using Reps.nil
    | cons h r => simpa using ih r
theorem Reps.take {vs : List Value} {ds : List D} (r : Reps prog w z vs ds) : ∀ k : Nat, Reps prog w z (vs.take k) (ds.take k) := by
  intro k
  induction k generalizing vs ds with
  | zero => simpa using Reps.nil
  | succ k ih => cases r with
    | nil => simpa using Reps.nil
    | cons h r => simpa using Reps.cons h (ih r)
theorem Reps.set {vs : List Value} {ds : List D} (r : Reps prog w z vs ds) {v : Value} {d : D} (x : Rep prog w z v d) : ∀ k : Nat, Reps prog w z (vs.set k v) (ds.set k d) := by
  intro k
  induction k generalizing vs ds with
  | zero => cases r with
    | nil => simpa using Reps.nil
    | cons h r => simpa using Reps.cons x r
  | succ k ih => cases r with
    | nil => simpa using Reps.nil
    | cons h r => simpa using Reps.cons h (ih r)
theorem Reps.one {v : Value} {d : D} (x : Rep prog w z v d) : Reps prog w z [v] [d] := .cons x .nil

theorem TabOk.get (t : TabOk P z h) : ∃ ps, h.get? P = some (tabObj ps) := by
  rcases t.2 with t | ⟨c, o, vs, tk, t, _⟩ <;> exact ⟨_, t⟩
theorem TabOk.keep (t : TabOk P z h) (hP : ∀ o, h.get? P = some o → h'.get? P = some o) (le : ∀ a o, z a = some o → z' a = some o) (new : ∀ b o, z' b = some o → z b = some o ∨ h.objs.size ≤ b) : TabOk P z' h' := by
  refine ⟨?_, ?_⟩
  · cases e : z' P with
    | none => rfl
    | some o =>
      rcases new _ _ e with q | q
      · rw [t.1] at q; cases q
      · obtain ⟨ps, e⟩ := t.get
        exact absurd (Heap.lt_size e) (Nat.not_lt.mpr q)
  · rcases t.2 with t | ⟨c, o, vs, tk, t, x, y⟩
    · exact .inl (hP _ t)
    · exact .inr ⟨c, o, vs, tk, hP _ t, le _ _ x, y⟩

theorem Grow.refl (on : z.on h) : Grow P L z h z h := ⟨fun _ _ e => e, on, fun _ _ _ _ e => e, fun _ x => x, Nat.le_refl _, fun _ _ e => .inl e, fun t => t⟩
theorem Grow.trans (x : Grow P L z h z' h') (y : Grow P L z' h' z'' h'') : Grow P L z h z'' h'' :=
  ⟨fun a o e => y.le _ _ (x.le _ _ e), y.on, fun b o h1 h2 e => y.keep b o h1 h2 (x.keep b o h1 h2 e), fun m n => y.ns m (x.ns m n), Nat.le_trans x.size y.size,
    fun b o e => (y.new b o e).elim (x.new b o) fun l => .inr (Nat.le_trans x.size l), fun t => y.tab (x.tab t)⟩

/-- all of the heap is kept: nothing new is frozen -/
theorem Grow.kept (on : z.on h) (hk : ∀ b o, h.get? b = some o → h'.get? b = some o) (hz : h.objs.size ≤ h'.objs.size) : Grow P L z h z h' :=
  ⟨fun _ _ e => e, fun a o e => hk a o (on a o e), fun b o _ _ e => hk b o e, fun _ x => x.keeps hk, hz, fun _ _ e => .inl e, fun t => t.keep (fun o e => hk _ o e) (fun _ _ e => e) fun _ _ e => .inl e⟩
theorem Grow.push (on : z.on h) (o : Obj) : Grow P L z h z (h.push o) := .kept on (fun b o' e => Heap.get?_push_of_some o e) (by rw [Heap.size_push]; exact ar1)
theorem Z.add_le {z : Z} {a : Addr} {o : Obj} (hz : z a = none) : ∀ b o', z b = some o' → z.add a o b = some o' := fun b o' e => by
  show (if b = a then some o else z b) = some o'
  split
  · rename_i q; subst q; rw [hz] at e; cases e
  · exact e
/-- freeze a new object -/
theorem Grow.freeze (x : Grow P L z h z' h') {a : Addr} {o : Obj} (ha : h'.get? a = some o) (hn : h.objs.size ≤ a) (hz : z' a = none) : Grow P L z h (z'.add a o) h' where
  le := fun b o' e => by
    have := x.le b o' e
    show (if b = a then some o else z' b) = some o'
    split
    · rename_i q; subst q; rw [hz] at this; cases this
    · exact this
  on := fun b o' e => by
    change (if b = a then some o else z' b) = some o' at e
    split at e
    · rename_i q; subst q; cases e; exact ha
    · exact x.on b o' e
  keep := x.keep
  ns := x.ns
  size := x.size
  new := fun b o' e => by
    change (if b = a then some o else z' b) = some o' at e
    split at e
    · rename_i q; subst q; exact .inr hn
    · exact x.new b o' e
  tab := fun t => by
    obtain ⟨ps, e⟩ := t.get
    refine ⟨?_, ?_⟩
    · show (if P = a then some o else z' P) = none
      rw [if_neg (Nat.ne_of_lt (Nat.lt_of_lt_of_le (Heap.lt_size e) hn))]
      exact (x.tab t).1
    · rcases (x.tab t).2 with t | ⟨c, o, vs, tk, t, q, y⟩
      · exact .inl t
      · exact .inr ⟨c, o, vs, tk, t, Z.add_le hz _ _ q, y⟩
theorem Z.add_self (z : Z) (a : Addr) (o : Obj) : z.add a o a = some o := by simp [Z.add]
theorem Z.on.none_of_size {z : Z} {h : Heap} (on : z.on h) {a : Addr} (ha : h.objs.size ≤ a) : z a = none := by
  cases e : z a with
  | none => rfl
  | some o => exact absurd (Heap.lt_size (on a o e)) (Nat.not_lt.mpr ha)
end

end Mine

namespace Mine
open PySem PySem.W PyProof.Rows PySem.Calls

/-- what stands at the base, for good -/
structure Glo (hb : Heap) (mg mb : Str → Option Value) (c P : Addr) : Prop where
  g : hb.Ns mainGlobals mg
  b : hb.Ns builtinsNs mb
  nolimit : hb.NoLimit
  nodigits : ∃ mc, hb.Ns cStatics mc ∧ mc "sys.int_max_str_digits" = none
  bi : ∀ x : Str, x ≠ "__name__" → mb x = bootBuiltins x
  free : ∀ x : String, x ∈ ["len", "sum", "list", "isinstance", "tuple", "sorted", "range", "enumerate", "reversed"] → mg (Str.ofString x) = none
  bmain : ∃ bm ob, mg "__builtins__" = some (.ref bm) ∧ bm ≠ builtinsNs ∧ bm ≠ P ∧ hb.get? bm = some ob ∧ ob.cls = .type "module" ∧ ob.dict = some builtinsNs ∧ ob.data = .plain
  code : CodeHd hb c P
  none : hb.get? P = none
  mainP : mainGlobals ≠ P

noncomputable def lamEnvQual : Str := Str.ofString "_law_profiles.<locals>."

structure EnvOk (lc : Option Addr) (env : Env) (sc : Scope) : Prop where
  kind : env.scope.kind = .function
  loc : ∀ x, sc.names.lookup x = some .local → env.kindOf x = some .local
  cel : ∀ x, sc.names.lookup x = some .cell → env.kindOf x = some .cell ∧ ∃ a, env.cells.lookup x = some a
  fre : ∀ x, sc.names.lookup x = some .free → (env.kindOf x = some .cell ∨ env.kindOf x = some .free) ∧ ∃ a, env.cells.lookup x = some a
  glo : ∀ x, sc.names.lookup x = some .globalImplicit → env.kindOf x = some .globalImplicit
  globals : env.globals = mainGlobals
  builtins : env.builtins = builtinsNs
  lam : ∀ c, lc = some c → env.code = .ref c ∧ env.qual = lamEnvQual

noncomputable def Loads (env : Env) (h : Heap) (x : Str) (v : Value) : Prop :=
  (env.kindOf x = some .local ∧ ∃ m, h.Ns env.locals m ∧ m x = some v) ∨
  ((env.kindOf x = some .cell ∨ env.kindOf x = some .free) ∧ ∃ a, env.cells.lookup x = some a ∧ h.IsCell a (some v))

section
variable (prog : Program) (w : World)

/-- an object that is still being filled, with its content -/
inductive OwnAt (z : Z) (h : Heap) (a : Addr) : D → Prop
  | list {vs : List Value} {n : Nat} {ds : List D} : h.get? a = some (lob vs n) → Reps prog w z vs ds → OwnAt z h a (.list ds)
  | dict {o : Obj} {kvs : List (Str × Value)} {kv : List (Str × Int)} : h.get? a = some o → (a == sysModules) = false → o.IsDictOf (PySem.strKind prog w) kvs → IntVals kvs kv → OwnAt z h a (.dict kv)

noncomputable def VarIs (P : Addr) (z : Z) (env : Env) (h : Heap) (x : Str) : B → Prop
  | .unb => True
  | .val d => ∃ v, Loads env h x v ∧ Rep prog w z v d
  | .own d => ∃ a, Loads env h x (.ref a) ∧ a ≠ env.locals ∧ a ≠ P ∧ OwnAt prog w z h a d

structure Ok (hb : Heap) (P : Addr) (lc : Option Addr) (z : Z) (env : Env) (sc : Scope) (ρ : Rho) (h : Heap) : Prop where
  on : z.on h
  tab : TabOk P z h
  ns : ∃ m, h.Ns env.locals m
  zL : z env.locals = none
  base : ∀ b o, hb.get? b = some o → z b = some o
  eok : EnvOk lc env sc
  cells : ∀ x a, sc.names.lookup x = some .cell → env.cells.lookup x = some a → (∃ v, h.IsCell a v) ∧ z a = none ∧ ∀ y b, y ≠ x → env.cells.lookup y = some b → b ≠ a
  frees : ∀ x a, sc.names.lookup x = some .free → env.cells.lookup x = some a → ∃ v, h.IsCell a v
  names : ∀ x b, ρ.lookup x = some b → (x == ("__debug__" : Str)) = false ∧ (x == ("__classdict__" : Str)) = false
  vars : ∀ x b, ρ.lookup x = some b → VarIs prog w P z env h x b

/-- goes on with a value that bears d -/
noncomputable def Goes (P L : Addr) (z : Z) (s : Shared) (d : D) (Q : Value → Shared → Prop) : Prop :=
  ∀ v z' h' tk, Grow P L z s.heap z' h' → Rep prog w z' v d → Q v { s with heap := h', toks := tk }

noncomputable def OwnIn (ρ : Rho) : Prop := ∃ x d, ρ.lookup x = some (.own d)

structure Room (k : Nat) (A : Around) : Prop where
  handled : A.handled = none
  depth : A.depth + k < recursionLimit
  units : A.units + 200 * (k + 1) < cLine
end

section
variable {prog : Program} {w : World} {hb : Heap} {P : Addr} {lc : Option Addr} {z z' : Z} {env : Env} {sc : Scope} {ρ : Rho} {h h' : Heap}

theorem cell_keep {L : Addr} {a : Addr} {v : Option Value} (g : Grow P L z h z' h') (t : TabOk P z h) (n : ∃ m, h.Ns L m) (x : h.IsCell a v) : h'.IsCell a v := by
  obtain ⟨o, ho, hd⟩ := x
  refine ⟨o, g.keep a o ?_ ?_ ho, hd⟩
  · rintro rfl
    obtain ⟨m, o', es, ep, e1, e2, _⟩ := n
    rw [ho] at e1; cases e1
    rw [hd] at e2; cases e2
  · rintro rfl
    obtain ⟨ps, e⟩ := t.get
    rw [ho] at e; cases e; cases hd

theorem Loads.grow {x : Str} {v : Value} (l : Loads env h x v) (g : Grow P env.locals z h z' h') (t : TabOk P z h) (n : ∃ m, h.Ns env.locals m) : Loads env h' x v := by
  rcases l with ⟨k, m, e1, e2⟩ | ⟨k, a, e1, e2⟩
  · exact .inl ⟨k, m, g.ns m e1, e2⟩
  · exact .inr ⟨k, a, e1, cell_keep g t n e2⟩

theorem OwnAt.grow {L a : Addr} {d : D} (x : OwnAt prog w z h a d) (g : Grow P L z h z' h') (hL : a ≠ L) (hP : a ≠ P) : OwnAt prog w z' h' a d := by
  cases x with
  | list e1 r => exact .list (g.keep _ _ hL hP e1) (r.mono g.le)
  | dict e1 y e2 r => exact .dict (g.keep _ _ hL hP e1) y e2 r

theorem VarIs.grow {x : Str} {b : B} (l : VarIs prog w P z env h x b) (g : Grow P env.locals z h z' h') (t : TabOk P z h) (n : ∃ m, h.Ns env.locals m) : VarIs prog w P z' env h' x b := by
  cases b with
  | unb => trivial
  | val d => obtain ⟨v, l, r⟩ := l; exact ⟨v, l.grow g t n, r.mono g.le⟩
  | own d => obtain ⟨a, l, h1, h2, r⟩ := l; exact ⟨a, l.grow g t n, h1, h2, r.grow g h1 h2⟩

theorem Ok.grow (k : Ok prog w hb P lc z env sc ρ h) (g : Grow P env.locals z h z' h') : Ok prog w hb P lc z' env sc ρ h' where
  on := g.on
  tab := g.tab k.tab
  ns := let ⟨m, n⟩ := k.ns; ⟨m, g.ns m n⟩
  zL := by
    obtain ⟨m, n⟩ := k.ns
    cases e : z' env.locals with
    | none => rfl
    | some o =>
      rcases g.new _ _ e with q | q
      · rw [k.zL] at q; cases q
      · exact absurd n.lt (Nat.not_lt.mpr q)
  base := fun b o e => g.le b o (k.base b o e)
  eok := k.eok
  cells := fun x a h1 h2 => by
    obtain ⟨⟨v, hv⟩, hz, hd⟩ := k.cells x a h1 h2
    refine ⟨⟨v, cell_keep g k.tab k.ns hv⟩, ?_, hd⟩
    cases e : z' a with
    | none => rfl
    | some o =>
      rcases g.new _ _ e with q | q
      · rw [hz] at q; cases q
      · exact absurd hv.lt (Nat.not_lt.mpr q)
  frees := fun x a h1 h2 => let ⟨v, hv⟩ := k.frees x a h1 h2; ⟨v, cell_keep g k.tab k.ns hv⟩
  names := k.names
  vars := fun x b e => (k.vars x b e).grow g k.tab k.ns

theorem Ok.inb (k : Ok prog w hb P lc z env sc ρ h) : ∀ b o, hb.get? b = some o → h.get? b = some o := fun b o e => k.on b o (k.base b o e)

theorem Goes.here {L : Addr} {s : Shared} {d : D} {Q : Value → Shared → Prop} (g : Goes prog w P L z s d Q) (on : z.on s.heap) {v : Value} {tk : Nat} (r : Rep prog w z v d) : Q v { s with toks := tk } :=
  g v z s.heap tk (.refl on) r

variable {A : Around} {E : Value → Shared → Prop} {s : Shared} {Q : Value → Shared → Prop}

theorem load_var {x : Str} {v : Value} (hk : env.scope.kind = .function) (l : Loads env s.heap x v) (hx : (x == ("__classdict__" : Str)) = false) (h : Q v s) : wpAny (model prog w) A (loadName env x) Q E s := by
  rcases l with ⟨k, m, e1, e2⟩ | ⟨k | k, a, e1, e2⟩
  · exact wpAny_loadName_local hk k e1 e2 h
  · exact wpAny_loadName_cell hk k e1 e2 h
  · exact wpAny_loadName_free hk k e1 e2 h hx

end
end Mine

namespace Mine
open PySem PySem.W PyProof.Rows PySem.Calls

section
variable {prog : Program} {w : World} {P L : Addr} {z : Z} {A : Around} {E : Value → Shared → Prop} {s : Shared} {Q : Value → Shared → Prop}

/-- a new frozen object -/
theorem Goes.fresh {d : D} (g : Goes prog w P L z s d Q) (on : z.on s.heap) {o : Obj} {tk : Nat} (hf : o.isFreed = false) (r : Rep prog w (z.add s.heap.objs.size o) (.ref s.heap.objs.size) d) : Q (.ref s.heap.objs.size) { s with heap := s.heap.push o, toks := tk } :=
  g _ _ _ _ ((Grow.push on o).freeze (Heap.get?_push_size _ hf) (Nat.le_refl _) (on.none_of_size (Nat.le_refl _))) r

theorem repsUp {v : List Value} {d : List D} {a : Addr} {o : Obj} (r : Reps prog w z v d) (hz : z a = none) : Reps prog w (z.add a o) v d := r.mono (Z.add_le hz)

theorem Goes.newList {vs : List Value} {ds : List D} (g : Goes prog w P L z s (.list ds) Q) (on : z.on s.heap) {tk : Nat} (r : Reps prog w z vs ds) : Q (.ref s.heap.objs.size) { s with heap := s.heap.push (lob vs 0), toks := tk } :=
  g.fresh on rfl (.list (Z.add_self ..) (repsUp r (on.none_of_size (Nat.le_refl _))))
theorem Goes.newTuple {vs : List Value} {ds : List D} (g : Goes prog w P L z s (.tuple ds) Q) (on : z.on s.heap) {tk : Nat} (r : Reps prog w z vs ds) : Q (.ref s.heap.objs.size) { s with heap := s.heap.push (tob vs 0), toks := tk } :=
  g.fresh on rfl (.tuple (Z.add_self ..) (repsUp r (on.none_of_size (Nat.le_refl _))))

theorem Goes.of {d d' : D} (e : some d' = some d) (g : Goes prog w P L z s d Q) : Goes prog w P L z s d' Q := Option.some.inj e ▸ g
theorem ar_ok {op : Operator} {a b : Int} {ta tb : Tok} {d : D} (e : arD a b op = some d) (on : z.on s.heap) (hA : A.handled = none) (g : Goes prog w P L z s d Q) : wpAny (model prog w) A (binaryOp op (.int a ta) (.int b tb)) Q E s := by
  cases op with
  | Add => exact PyProof.Rows.add_int ((g.of e).here on (.int _ _))
  | Sub => exact PyProof.Rows.sub_int ((g.of e).here on (.int _ _))
  | Mult =>
    obtain ⟨hs, e⟩ := ite_some e
    rw [smallI, Bool.and_eq_true, Bool.and_eq_true] at hs
    have h1 := dec_t hs.1.1
    have h2 := dec_t hs.1.2
    exact PyProof.Rows.mul_int ((g.of e).here on (.int _ _)) (IntMulOk.of_left (intBits_le_64 (by omega) (by omega)))
  | FloorDiv =>
    obtain ⟨hs, e⟩ := ite_none e
    rw [Bool.or_eq_false_iff, Bool.not_eq_false', smallI, Bool.and_eq_true] at hs
    exact PyProof.Rows.floordiv_int (beq_eq_false_iff_ne.mp hs.1) ((g.of e).here on (.int _ _)) (.inl (PyProof.noPylong_small (by have h1 := dec_t hs.2.1; have h2 := dec_t hs.2.2; omega)))
  | Mod =>
    obtain ⟨hs, e⟩ := ite_none e
    exact mod_int' (beq_eq_false_iff_ne.mp hs) ((g.of e).here on (.int _ _))
  | RShift =>
    obtain ⟨hs, e⟩ := ite_some e
    rw [beq_iff_eq.mp hs]
    exact PyProof.Rows.rshift_int (by decide) ((g.of e).here on (.int _ _))
  | _ => exact nn e
theorem bin_ok {op : Operator} {da db d : D} {va vb : Value} (e : binD op da db = some d) (on : z.on s.heap) (hA : A.handled = none) (ra : Rep prog w z va da) (rb : Rep prog w z vb db)
    (hfmt : ∀ f t, va = .str f t → op = .Mod → wpAny (model prog w) A (binaryOp .Mod va vb) Q E s)
    (g : Goes prog w P L z s d Q) : wpAny (model prog w) A (binaryOp op va vb) Q E s := by
  cases da with
  | int a =>
    obtain ⟨b, hb, e⟩ := obind_some e
    clear hfmt
    refine Rep.int_el (G := fun v => wpAny (model prog w) A (binaryOp op v vb) Q E s) ra fun ta => ?_
    rw [intOf_inv hb] at rb
    refine Rep.int_el (G := fun v => wpAny (model prog w) A (binaryOp op _ v) Q E s) rb fun tb => ?_
    exact ar_ok e on hA g
  | list a =>
    obtain ⟨ho, e⟩ := ite_some e
    obtain ⟨b, hb, e⟩ := obind_some e
    obtain ⟨hs, e⟩ := ite_some e
    clear hfmt
    rw [isAdd_inv ho]
    refine Rep.list_el (G := fun v => wpAny (model prog w) A (binaryOp _ v vb) Q E s) ra fun a1 vs n ha ra => ?_
    rw [listOf_inv hb] at rb
    refine Rep.list_el (G := fun v => wpAny (model prog w) A (binaryOp _ _ v) Q E s) rb fun a2 us m hb rb => ?_
    refine PySem.P.add_list (on _ _ ha) (on _ _ hb) ?_ ?_
    · rw [List.append_toArray]
      exact (g.of e).newList (tk := s.toks) on (ra.append rb)
    · have h1 := ra.length
      have h2 := rb.length
      have hs := dec_t hs
      rw [sizeLine_eq]
      simp
      exact ar2 h1 h2 hs
  | str f =>
    obtain ⟨ho, e⟩ := ite_some e
    obtain ⟨t, hv⟩ := ra.str_inv
    rw [isMod_inv ho]
    exact hfmt f t hv (isMod_inv ho)
  | _ => exact nn e

end
end Mine

set_option maxHeartbeats 4000000
namespace Mine
open PySem PySem.W PyProof.Rows PySem.Calls

theorem fmt3 (a b : Str) (n : Int) (t u v f : Tok) (x : Addr) (h0 : 0 ≤ n) (h1 : n < 10 ^ 10) (ha : a.length ≤ 1000000) (hb : b.length ≤ 1000000) :
    Meets (Builtin.«str.__mod__» ⟨[.str (Str.mk #[37, 115, 58, 37, 100, 40, 37, 115, 41]) f, .ref x], []⟩)
      (fun _ R s => IsTup s.heap x #[.str a t, .int n u, .str b v] ∧ ∀ t' k, R (.ok (.ret (.str (a ++ Str.ofString ":" ++ Str.ofString (toString n) ++ Str.ofString "(" ++ b ++ Str.ofString ")") t'))) { s with toks := k }) := by
  kpt_run

theorem fmt1 (f u : Tok) : ∀ y : Str, y.length ≤ 1000000 →
    Meets (Builtin.«str.__mod__» ⟨[.str (Str.mk #[123, 37, 115, 125]) f, .str y u], []⟩)
      (fun _ R s => ∀ t' k, R (.ok (.ret (.str (Str.ofString "{" ++ y ++ Str.ofString "}") t'))) { s with toks := k }) := by
  kpc_run_s

section
variable {prog : Program} {w : World} {P L : Addr} {z : Z} {A : Around} {E : Value → Shared → Prop} {s : Shared} {Q : Value → Shared → Prop}

theorem fmt_t {f r : Str} {t : Tok} {db : D} {vb : Value} (e : fmtT f db = some r) (on : z.on s.heap) (rb : Rep prog w z vb db) (g : Goes prog w P L z s (.str r) Q) :
    wpAny (model prog w) A (binaryOp .Mod (.str f t) vb) Q E s := by
  obtain ⟨x, hx, e⟩ := obind_some e
  obtain ⟨a, ha, e⟩ := obind_some e
  obtain ⟨n, hn, e⟩ := obind_some e
  obtain ⟨b, hb, e⟩ := obind_some e
  obtain ⟨hs, e⟩ := ite_some e
  rw [Bool.and_eq_true, Bool.and_eq_true, Bool.and_eq_true, Bool.and_eq_true] at hs
  have h0 := dec_t hs.1.1.1.2
  have h1 := dec_t hs.1.1.2
  have h2 := dec_t hs.1.2
  have h3 := dec_t hs.2
  rw [beq_iff_eq.mp hs.1.1.1.1]
  rw [← Option.some.inj e] at g
  rw [tup3_inv hx, strOf_inv ha, intOf_inv hn, strOf_inv hb] at rb
  obtain ⟨y, vs, m, e1, hy, rs⟩ := rb.tuple_inv
  obtain ⟨t1, t2, t3, e2⟩ := rs.sis_inv
  rw [e2] at hy
  rw [e1]
  exact KPt.mod_tuple (h₀ := { objs := #[] }) (L := s.heap.objs.size) (news := [(y, _)]) (n := m) (fun p hp => by
    rw [List.mem_singleton.mp hp]
    exact ⟨on _ _ hy, Nat.ne_of_lt (Heap.lt_size (on _ _ hy)), rfl⟩) (.head _) (by decide +kernel) (fmt3 _ _ _ _ _ _ _ _ h0 (by omega) (by exact ar3 h2) (by exact ar3 h3)) fun t' k => g.here on (.str _ _)
theorem fmt_ok {f r : Str} {t : Tok} {db : D} {vb : Value} (e : fmtD f db = some r) (on : z.on s.heap) (rb : Rep prog w z vb db) (g : Goes prog w P L z s (.str r) Q) :
    wpAny (model prog w) A (binaryOp .Mod (.str f t) vb) Q E s := by
  cases db with
  | str y =>
    obtain ⟨hs, e⟩ := ite_some e
    rw [Bool.and_eq_true] at hs
    have hy := dec_t hs.2
    rw [beq_iff_eq.mp hs.1]
    rw [← Option.some.inj e] at g
    obtain ⟨t1, e1⟩ := rb.str_inv
    rw [e1]
    exact KPc.mod_str (T := fun y => Str.ofString "{" ++ y ++ Str.ofString "}") (by decide +kernel) (by exact ar3 hy) (fmt1 _ _) fun t' k => g.here on (.str _ _)
  | _ => exact fmt_t e on rb g
end
end Mine

namespace Mine
open PySem PySem.W PyProof.Rows PySem.Calls PySem.Spec

mutual
noncomputable def pyD : D → PyData
  | .none => .none
  | .bool b => .bool b
  | .int i => .int i
  | .str x => .str x
  | .tuple ds => .tuple (pyDs ds)
  | .list ds => .list (pyDs ds)
  | .dict _ => .none
noncomputable def pyDs : List D → List PyData
  | [] => []
  | d :: ds => pyD d :: pyDs ds
end

section
variable {prog : Program} {w : World} {z : Z} {h : Heap}
theorem reads_of (on : z.on h) {v : Value} {d : D} (n : Nat) (r : Rep prog w z v d) : okEq n d = true → ∃ as, Reads h v (pyD d) as :=
  Rep.rec (motive_1 := fun v d _ => ∀ n, okEq n d = true → ∃ as, Reads h v (pyD d) as) (motive_2 := fun vs ds _ => ∀ n, (∀ d ∈ ds, okEq n d = true) → ∃ as, ReadsAll h vs (pyDs ds) as)
    (fun _ _ => ⟨_, Reads.none⟩) (fun b _ _ => ⟨_, Reads.bool b⟩) (fun i t _ _ => ⟨_, Reads.int i t⟩) (fun x t _ _ => ⟨_, Reads.str x t⟩)
    (fun hm _ ih n hk => by
      cases n with
      | zero => exact absurd hk Bool.false_ne_true
      | succ n =>
        obtain ⟨as, q⟩ := ih n (List.all_eq_true.mp hk)
        exact ⟨as, reads_tuple_at (on _ _ hm) rfl rfl q⟩)
    (fun hm _ ih n hk => by
      cases n with
      | zero => exact absurd hk Bool.false_ne_true
      | succ n =>
        obtain ⟨as, q⟩ := ih n (List.all_eq_true.mp hk)
        exact ⟨_, reads_list_at (on _ _ hm) rfl rfl q⟩)
    (fun _ _ _ _ n hk => by cases n <;> exact absurd hk Bool.false_ne_true)
    (fun _ _ => ⟨_, ReadsAll.nil⟩)
    (fun _ _ ih1 ih2 n hk =>
      let ⟨_, q⟩ := ih1 n (hk _ (.head _))
      let ⟨_, p⟩ := ih2 n fun d hm => hk d (.tail _ hm)
      ⟨_, ReadsAll.cons q p⟩) r n
theorem reads_all (on : z.on h) {vs : List Value} {ds : List D} (n : Nat) (r : Reps prog w z vs ds) (hk : ∀ d ∈ ds, okEq n d = true) : ∃ as, ReadsAll h vs (pyDs ds) as := by
  induction vs generalizing ds with
  | nil => cases r; exact ⟨_, ReadsAll.nil⟩
  | cons v vs ih => cases r with
    | cons hd r =>
      obtain ⟨as, q⟩ := reads_of on n hd (hk _ (.head _))
      obtain ⟨bs, p⟩ := ih r fun d hm => hk d (.tail _ hm)
      exact ⟨_, ReadsAll.cons q p⟩
end

theorem lay_of : ∀ (n : Nat) (d : D), okEq n d = true → (pyD d).canLay0 = true ∧ (pyD d).depth ≤ n := by
  have all : ∀ (n : Nat), (∀ d, okEq n d = true → (pyD d).canLay0 = true ∧ (pyD d).depth ≤ n) → ∀ ds : List D, (∀ d ∈ ds, okEq n d = true) → PyData.canLayAll0 (pyDs ds) = true ∧ PyData.depthAll (pyDs ds) ≤ n := by
    intro n ih ds
    induction ds with
    | nil => intro _; simp [pyDs, PyData.canLayAll0, PyData.depthAll]
    | cons d ds hi =>
      intro h
      have h1 := ih d (h d (.head _))
      have h2 := hi fun e he => h e (.tail _ he)
      simp only [pyDs, PyData.canLayAll0, PyData.depthAll, h1.1, h2.1, Bool.and_self, true_and]
      have a1 := h1.2
      have a2 := h2.2
      omega
  intro n
  induction n with
  | zero =>
    intro d h
    cases d <;> simp_all [okEq, pyD, PyData.canLay0, PyData.depth]
  | succ n ih =>
    intro d h
    cases d with
    | none => simp [okEq] at h
    | bool b => simp [okEq] at h
    | int i => simp [pyD, PyData.canLay0, PyData.depth]
    | str x => simp [okEq] at h; simp [pyD, PyData.canLay0, PyData.depth, h]
    | dict b => simp [okEq] at h
    | tuple ds =>
      have q := all n ih ds (by simpa [okEq] using h)
      have q2 := q.2
      simp only [pyD, PyData.canLay0, PyData.depth, q.1, true_and]
      exact ar4 q2
    | list ds =>
      have q := all n ih ds (by simpa [okEq] using h)
      have q2 := q.2
      simp only [pyD, PyData.canLay0, PyData.depth, q.1, true_and]
      exact ar4 q2

theorem eqv_of : ∀ (n : Nat) (d e : D) (k : Nat), okEq n d = true → okEq k e = true → PyData.eqv (pyD d) (pyD e) = eqD d e := by
  have all : ∀ (n : Nat), (∀ d e k, okEq n d = true → okEq k e = true → PyData.eqv (pyD d) (pyD e) = eqD d e) → ∀ (k : Nat) (ds es : List D), (∀ d ∈ ds, okEq n d = true) → (∀ d ∈ es, okEq k d = true) →
      PyData.eqvAll (pyDs ds) (pyDs es) = eqDs ds es := by
    intro n ih k ds
    induction ds with
    | nil => intro es _ _; cases es <;> simp [pyDs, PyData.eqvAll, eqDs]
    | cons d ds hi =>
      intro es h1 h2
      cases es with
      | nil => simp [pyDs, PyData.eqvAll, eqDs]
      | cons e es =>
        have q1 := ih d e k (h1 d (.head _)) (h2 e (.head _))
        have q2 := hi es (fun x hx => h1 x (.tail _ hx)) fun x hx => h2 x (.tail _ hx)
        simp only [pyDs, PyData.eqvAll, eqDs, q1, q2]
  intro n
  induction n with
  | zero =>
    intro d e k h1 h2
    cases d <;> cases e <;> cases k <;> simp_all [okEq, pyD, PyData.eqv, eqD]
  | succ n ih =>
    intro d e k h1 h2
    cases d with
    | tuple ds =>
      cases e with
      | tuple es =>
        cases k with
        | zero => simp [okEq] at h2
        | succ k =>
          simp only [pyD, PyData.eqv, eqD]
          exact all n ih k ds es (by simpa [okEq] using h1) (by simpa [okEq] using h2)
      | _ => cases k <;> simp_all [okEq, pyD, PyData.eqv, eqD]
    | list ds =>
      cases e with
      | list es =>
        cases k with
        | zero => simp [okEq] at h2
        | succ k =>
          simp only [pyD, PyData.eqv, eqD]
          exact all n ih k ds es (by simpa [okEq] using h1) (by simpa [okEq] using h2)
      | _ => cases k <;> simp_all [okEq, pyD, PyData.eqv, eqD]
    | _ => cases e <;> cases k <;> simp_all [okEq, pyD, PyData.eqv, eqD]


section
open PySem.MeetsSeq PySem.SeqAt
theorem tuple_lt3 (l b : Addr) (n n2 : Nat) (x y : Str) (a c d e : Int) (t1 t2 t3 u1 u2 u3 : Tok) :
    Meets (Builtin.«tuple.__lt__» ⟨[.ref l, .ref b], []⟩)
      (fun A R s => s.heap.get? l = some (tob [.str x t1, .int a t2, .int c t3] n) ∧ s.heap.get? b = some (tob [.str y u1, .int d u2, .int e u3] n2) ∧
        R (.ok (.ret (.bool (if x == y then (if a == d then decide (c < e) else decide (a < d)) else strLt x y)))) s) :=
  .of_wp fun prog w A R s h => by
    obtain ⟨hp, g, dr, tk, os⟩ := s; obtain ⟨hl, hb, h⟩ := h
    have f2 := AutoSeq1.sub_tuple_tuple
    let S : Shared := ⟨hp, g, dr, tk, os⟩
    wp_walk using wpAny_loadPart' hl, wpAny_loadPart' hb, wpAny_forIn_list _ (fun rest b s' => b.1 = none ∧ s' = S ∧
      (rest = [(.str x t1, .str y u1), (.int a t2, .int d u2), (.int c t3, .int e u3)] ∨ (rest = [(.int a t2, .int d u2), (.int c t3, .int e u3)] ∧ x = y) ∨ (rest = [(.int c t3, .int e u3)] ∧ x = y ∧ a = d) ∨ (rest = [] ∧ x = y ∧ a = d ∧ c = e))) _
    case turn =>
      rintro ⟨p, q⟩ rest b s' ⟨hb', rfl, hz⟩
      rcases hz with hz | ⟨hz, hx⟩ | ⟨hz, hx, ha⟩ | ⟨hz, _⟩
      · injection hz with h1 h2; cases h1; subst h2
        refine wpAny_bind (wpAny_eqBool_str ?_)
        by_cases hxy : x = y
        · rw [decide_eq_true hxy]
          wp_walk
          exact ⟨rfl, rfl, .inr (.inl ⟨rfl, hxy⟩)⟩
        · rw [decide_eq_false hxy]
          refine wpAny_bind (wpAny_rule (wpAny_bind (PyProof.Rows.lt_str ?_)))
          wp_walk
          refine ⟨_, rfl, ?_⟩
          have hb2 : (x == y) = false := by simpa using hxy
          rw [hb2] at h
          exact h
      · injection hz with h1 h2; cases h1; subst h2
        refine wpAny_bind (wpAny_eqBool_int ?_)
        by_cases hxy : a = d
        · rw [show (a == d) = true by simpa using hxy]
          wp_walk
          exact ⟨rfl, rfl, .inr (.inr (.inl ⟨rfl, hx, hxy⟩))⟩
        · rw [show (a == d) = false by simpa using hxy]
          refine wpAny_bind (wpAny_rule (wpAny_bind (PyProof.Rows.lt_int ?_)))
          wp_walk
          refine ⟨_, rfl, ?_⟩
          have hb1 : (x == y) = true := by simpa using hx
          have hb2 : (a == d) = false := by simpa using hxy
          rw [hb1, hb2] at h
          exact h
      · injection hz with h1 h2; cases h1; subst h2
        refine wpAny_bind (wpAny_eqBool_int ?_)
        by_cases hxy : c = e
        · rw [show (c == e) = true by simpa using hxy]
          wp_walk
          exact ⟨rfl, rfl, .inr (.inr (.inr ⟨rfl, hx, ha, hxy⟩))⟩
        · rw [show (c == e) = false by simpa using hxy]
          refine wpAny_bind (wpAny_rule (wpAny_bind (PyProof.Rows.lt_int ?_)))
          wp_walk
          refine ⟨_, rfl, ?_⟩
          have hb1 : (x == y) = true := by simpa using hx
          have hb2 : (a == d) = true := by simpa using ha
          rw [hb1, hb2] at h
          exact h
      · cases hz
    case fin =>
      rintro ⟨b1, b2⟩ s' ⟨hb', rfl, hz⟩
      simp only at hb'
      subst hb'
      rcases hz with hz | ⟨hz, hx⟩ | ⟨hz, hx, ha⟩ | ⟨_, hx, ha, hc⟩
      · cases hz
      · cases hz
      · cases hz
      · wp_walk
        refine ⟨_, rfl, ?_⟩
        have hb1 : (x == y) = true := by simpa using hx
        have hb2 : (a == d) = true := by simpa using ha
        rw [hb1, hb2] at h
        subst hc
        simpa [Builtin.Tuple.tupleCompareSizes] using h
    case h =>
      exact ⟨rfl, rfl, .inl rfl⟩
end
end Mine

namespace Mine
open PySem PySem.W PyProof.Rows PySem.Calls PySem.Spec

noncomputable def Bor (prog : Program) (w : World) (z : Z) (h : Heap) (v : Value) (d : D) : Prop := Rep prog w z v d ∨ ∃ a, v = .ref a ∧ OwnAt prog w z h a d

section
variable {prog : Program} {w : World} {P L : Addr} {z : Z} {A : Around} {E : Value → Shared → Prop} {s : Shared} {Q : Value → Shared → Prop} {h : Heap} {v : Value}

theorem Bor.list {ds : List D} (b : Bor prog w z h v (.list ds)) (on : z.on h) : ∃ a vs n, v = .ref a ∧ h.get? a = some (lob vs n) ∧ Reps prog w z vs ds := by
  rcases b with b | ⟨a, rfl, b⟩
  · cases b with
    | list e r => exact ⟨_, _, _, rfl, on _ _ e, r⟩
  · cases b with
    | list e r => exact ⟨_, _, _, rfl, e, r⟩
theorem Bor.tuple {ds : List D} (b : Bor prog w z h v (.tuple ds)) (on : z.on h) : ∃ a vs n, v = .ref a ∧ h.get? a = some (tob vs n) ∧ Reps prog w z vs ds := by
  rcases b with b | ⟨a, rfl, b⟩
  · cases b with
    | tuple e r => exact ⟨_, _, _, rfl, on _ _ e, r⟩
  · cases b
theorem Bor.dict {kv : List (Str × Int)} (b : Bor prog w z h v (.dict kv)) (on : z.on h) : ∃ a kvs, v = .ref a ∧ (a == sysModules) = false ∧ h.DictOf (PySem.strKind prog w) a kvs ∧ IntVals kvs kv := by
  rcases b with b | ⟨a, rfl, b⟩
  · cases b with
    | dict e y r i => exact ⟨_, _, rfl, y, Heap.dictOf_iff.mpr ⟨_, on _ _ e, r⟩, i⟩
  · cases b with
    | dict e y r i => exact ⟨_, _, rfl, y, Heap.dictOf_iff.mpr ⟨_, e, r⟩, i⟩

theorem reads_bor (on : z.on h) {d : D} (n : Nat) (b : Bor prog w z h v d) (ok : okEq n d = true) : ∃ as, Reads h v (pyD d) as := by
  rcases b with b | ⟨a, rfl, b⟩
  · exact reads_of on n b ok
  · cases b with
    | list e r =>
      cases n with
      | zero => simp [okEq] at ok
      | succ n =>
        obtain ⟨as, q⟩ := reads_all on n r (by simpa [okEq] using ok)
        rw [pyD]
        exact ⟨_, reads_list_at e rfl rfl (by simpa using q)⟩
    | dict => cases n <;> simp [okEq] at ok

theorem valueAt_ints {kvs : List (Str × Value)} {kv : List (Str × Int)} (r : IntVals kvs kv) (x : Str) : (valueAt kvs x).isSome = keyIn x kv := by
  induction r with
  | nil => rfl
  | @cons y i t r q _ ih =>
    unfold keyIn at ih ⊢
    by_cases e : y = x
    · simp [valueAt, List.find?_cons, e]
    · have e' : (y == x) = false := by simpa using e
      simp only [valueAt, List.find?_cons, e, decide_false, List.any_cons, e', Bool.false_or] at ih ⊢
      exact ih

theorem strs_of : ∀ {vs : List Value} {ds : List D} {ss : List Str}, Reps prog w z vs ds → strsD ds = some ss → (∀ y ∈ vs, ∃ u t, y = Value.str u t) ∧ ∀ x, vs.any (fun y => y.isStr x) = ss.any (· == x)
  | _, _, ss, .nil, e => by simp [strsD] at e; subst e; exact ⟨fun _ h => (nomatch h), fun _ => rfl⟩
  | _, _, ss, .cons r rs, e => by
    cases r <;> simp only [strsD] at e <;> try cases e
    rename_i vs ds u t
    obtain ⟨ss', e', rfl⟩ := Option.map_eq_some_iff.mp e
    obtain ⟨h1, h2⟩ := strs_of rs e'
    refine ⟨fun y hy => ?_, fun x => ?_⟩
    · rcases List.mem_cons.mp hy with rfl | hy
      · exact ⟨_, _, rfl⟩
      · exact h1 y hy
    · rw [List.any_cons, List.any_cons, h2]; rfl

theorem notIn_ok {x : Str} {t : Tok} {ds : List D} {b : Bool} (e : inD x ds = some b) (on : z.on s.heap) (rb : Bor prog w z s.heap v (.list ds)) (h : Q (.bool (!b)) s) :
    wpAny (model prog w) A (compareOp .NotIn (.str x t) v) Q E s := by
  obtain ⟨a, vs, n, rfl, ha, r⟩ := rb.list on
  obtain ⟨ss, e', rfl⟩ := Option.map_eq_some_iff.mp e
  obtain ⟨h1, h2⟩ := strs_of r e'
  refine SeqAt.notIn_listAt (fun y => y.isStr x) ⟨_, ha, rfl, _, rfl⟩ (fun y hy => ?_) ?_
  · obtain ⟨u, t', rfl⟩ := h1 y (by simpa using hy)
    exact (eqGives_str u x t' t).at _ _
  · rw [List.any_toArray, h2]; exact h

theorem Bor.flat {d : D} {G : Value → Prop} (b : Bor prog w z h v d) (hl : listOf d = none) (hd : dictOf' d = none) (g : ∀ v, Rep prog w z v d → G v) : G v := by
  rcases b with b | ⟨a, _, b⟩
  · exact g v b
  · cases b with
    | list => exact nn hl.symm
    | dict => exact nn hd.symm
theorem Bor.int_inv {i : Int} (b : Bor prog w z h v (.int i)) : ∃ t, v = .int i t := b.flat (G := fun v => ∃ t, v = .int i t) rfl rfl fun _ r => r.int_inv
theorem notIn_ok' {x : Str} {t : Tok} {ds : List D} {b c : Bool} (e : inD x ds = some c) (hb : (!c) = b) (on : z.on s.heap) (rb : Bor prog w z s.heap v (.list ds)) (h : Q (.bool b) s) : wpAny (model prog w) A (compareOp .NotIn (.str x t) v) Q E s :=
  notIn_ok e on rb (hb ▸ h)
theorem eqs_ok {da db : D} {b : Bool} {va vb : Value} (e : (if (okEq 8 da && okEq 8 db) = true then some (eqD da db) else none) = some b) (on : z.on s.heap) (hu : A.units + 64 < cLine) (ra : Rep prog w z va da) (rb : Bor prog w z s.heap vb db) :
    ∃ as bs, Reads s.heap va (pyD da) as ∧ Reads s.heap vb (pyD db) bs ∧ (pyD da).canLay0 = true ∧ (pyD db).canLay0 = true ∧ A.units + (pyD da).depth + (pyD db).depth + 8 < cLine ∧ PyData.eqv (pyD da) (pyD db) = b := by
  obtain ⟨ok, e⟩ := ite_some e
  rw [Bool.and_eq_true] at ok
  obtain ⟨as, q1⟩ := reads_of on 8 ra ok.1
  obtain ⟨bs, q2⟩ := reads_bor on 8 rb ok.2
  have l1 := lay_of 8 _ ok.1
  have l2 := lay_of 8 _ ok.2
  exact ⟨as, bs, q1, q2, l1.1, l2.1, by omega, (eqv_of 8 _ _ 8 ok.1 ok.2).trans (Option.some.inj e)⟩
theorem lt_ok {da db : D} {b : Bool} {va vb : Value} (e : ltD da db = some b) (on : z.on s.heap) (hu0 : A.units < cLine) (ra : Rep prog w z va da) (rb : Bor prog w z s.heap vb db) (h : Q (.bool b) s) : wpAny (model prog w) A (compareOp .Lt va vb) Q E s := by
  have tri : ∀ {da : D}, Rep prog w z va da → ltT da db = some b → wpAny (model prog w) A (compareOp .Lt va vb) Q E s := fun ra e => by
    obtain ⟨p, hp, e⟩ := obind_some e
    obtain ⟨q, hq, e⟩ := obind_some e
    rw [← Option.some.inj e] at h
    rw [triD_inv hp] at ra
    rw [triD_inv hq] at rb
    obtain ⟨a2, vs2, n2, e2, hb, r2⟩ := rb.tuple on
    rw [e2]
    obtain ⟨a1, vs1, n1, e1, ha, r1⟩ := ra.tuple_inv
    have ha := on _ _ ha
    obtain ⟨_, _, _, e3⟩ := r1.sii_inv
    obtain ⟨_, _, _, e4⟩ := r2.sii_inv
    rw [e3] at ha
    rw [e4] at hb
    rw [e1]
    exact richCompare_meets_room (op := .Lt) ⟨_, ha, rfl⟩ ⟨_, hb, rfl⟩ F.slot_tuple_lt F.entry_tuple_lt (F.args_tuple_lt_2 _ _) (tuple_lt3 _ _ _ _ _ _ _ _ _ _ _ _ _ _ _ _) ⟨ha, hb, (fun x => nomatch x), h⟩ hu0
  cases da with
  | int x =>
    obtain ⟨y, hy, e⟩ := obind_some e
    rw [← Option.some.inj e] at h
    rw [intOf_inv hy] at rb
    obtain ⟨_, e1⟩ := ra.int_inv
    obtain ⟨_, e2⟩ := rb.int_inv
    rw [e1, e2]
    exact PyProof.Rows.lt_int h
  | _ => exact tri ra e

theorem cmp_ok {op : CmpOp} {da db : D} {b : Bool} {va vb : Value} (e : cmpD op da db = some b) (on : z.on s.heap) (hu : A.units + 64 < cLine) (ra : Rep prog w z va da) (rb : Bor prog w z s.heap vb db)
    (h : ∀ tk, Q (.bool b) { s with toks := tk }) : wpAny (model prog w) A (compareOp op va vb) Q E s := by
  have hu0 : A.units < cLine := Nat.lt_of_le_of_lt (Nat.le_add_right _ _) hu
  cases op with
  | Eq =>
    obtain ⟨as, bs, q1, q2, q3, q4, q5, q6⟩ := eqs_ok e on hu ra rb
    exact SeqAt.compareEq_reads q1 q2 q3 q4 (by omega) (q6 ▸ h s.toks)
  | NotEq =>
    have e' : (if (okEq 8 da && okEq 8 db) = true then some (eqD da db) else none) = some (!b) := by
      obtain ⟨ok, e⟩ := ite_some e
      rw [if_pos ok, ← Option.some.inj e, Bool.not_not]
    obtain ⟨as, bs, q1, q2, q3, q4, q5, q6⟩ := eqs_ok e' on hu ra rb
    refine SeqAt.compareNe_reads q1 q2 q3 q4 (by omega) ?_
    rw [q6, Bool.not_not]
    exact h s.toks
  | Lt => exact lt_ok e on hu0 ra rb (h s.toks)
  | Gt =>
    obtain ⟨x, hx, e⟩ := obind_some e
    obtain ⟨y, hy, e⟩ := obind_some e
    rw [← Option.some.inj e] at h
    rw [intOf_inv hx] at ra
    rw [intOf_inv hy] at rb
    obtain ⟨_, e1⟩ := ra.int_inv
    obtain ⟨_, e2⟩ := rb.int_inv
    rw [e1, e2]
    exact PyProof.Rows.gt_int (h s.toks)
  | In =>
    obtain ⟨x, hx, e⟩ := obind_some e
    obtain ⟨kv, hk, e⟩ := obind_some e
    rw [← Option.some.inj e] at h
    rw [dictOf_inv hk] at rb
    obtain ⟨a, kvs, e2, hs, hd, i⟩ := rb.dict on
    rw [e2]
    rw [strOf_inv hx] at ra
    obtain ⟨_, e1⟩ := ra.str_inv
    rw [e1]
    refine wpAny_in_of (knd := PySem.strKind prog w) (strKind_is prog w _ _) hs hd.mapOf ?_
    rw [valueAt_ints i]
    exact h _
  | NotIn =>
    obtain ⟨x, hx, e⟩ := obind_some e
    obtain ⟨ds, hd, e⟩ := obind_some e
    obtain ⟨c, hc, e⟩ := obind_some e
    rw [strOf_inv hx] at ra
    obtain ⟨_, e1⟩ := ra.str_inv
    rw [e1]
    exact notIn_ok' hc (Option.some.inj e) on (listOf_inv hd ▸ rb) (h s.toks)
  | _ => exact nn e
end
end Mine

namespace Mine
open PySem

theorem runs_size {M : Model} {Γ : Ctx} {p : Pos} {t : Sem PySem.Fin} {fs : List Frame} {s s' : Shared} {e : End} (h : Runs M Γ p t fs s e s') : s.heap.objs.size ≤ s'.heap.objs.size := by
  induction h <;> (try simp only [Shared.setGen, Heap.size_push, Heap.size_after_update] at *) <;> omega

theorem wakes_size {M : Model} {Γ : Ctx} {p : Pos} {g : Nat} {r : Resume} {s s' : Shared} {res : GenResult} (h : Wakes M Γ p g r s res s') : s.heap.objs.size ≤ s'.heap.objs.size := by
  unfold Wakes at h
  split at h
  · exact h.elim
  · split at h
    · obtain ⟨e₁, s₁, hr, _, _, rfl⟩ := h; exact (runs_size hr : (s.setGen g .running).heap.objs.size ≤ s₁.heap.objs.size)
    · rw [h.2]; exact Nat.le_refl _
    · rw [h.2]; exact Nat.le_refl _
  · obtain ⟨e₁, s₁, hr, _, _, rfl⟩ := h; exact (runs_size hr : (s.setGen g .running).heap.objs.size ≤ s₁.heap.objs.size)
  · rw [h.2]; exact Nat.le_refl _
  · rw [h.2]; exact Nat.le_refl _

theorem wp_size {α : Type} (M : Model) (Γ : Ctx) (n : Nat) (t : Sem α) : ∀ (Q : α → Pos → Shared → Prop) (E : Value → Pos → Shared → Prop) (p : Pos) (s : Shared), n ≤ s.heap.objs.size → Sem.wp M Γ t Q E p s →
    Sem.wp M Γ t (fun a p' s' => n ≤ s'.heap.objs.size ∧ Q a p' s') (fun e p' s' => n ≤ s'.heap.objs.size ∧ E e p' s') p s := by
  induction t with
  | pure a => intro Q E p s hn h; exact ⟨hn, h⟩
  | raise e => intro Q E p s hn h; exact ⟨hn, h⟩
  | unsupported _ => intro Q E p s _ h; exact h
  | finish _ => intro Q E p s _ h; exact h
  | rule _ k ih => intro Q E p s hn h; exact ih () Q E p s hn h
  | «at» p' k ih => intro Q E p s hn h; exact ih () Q E p' s hn h
  | load a _ k ih => intro Q E p s hn h; obtain ⟨o, ho, h⟩ := h; exact ⟨o, ho, ih o Q E p s hn h⟩
  | update a _ f k ih => intro Q E p s hn h; exact ⟨h.1, ih () Q E p _ (by rw [Heap.size_after_update]; exact hn) h.2⟩
  | loadIfAlive a k ih => intro Q E p s hn h; exact ih _ Q E p s hn h
  | point _ k ih => intro Q E p s hn h; exact ih () Q E p s hn h
  | register _ _ => intro Q E p s _ h; exact h
  | alloc o k ih => intro Q E p s hn h; exact ih _ Q E p _ (by rw [Heap.size_push]; exact Nat.le_succ_of_le hn) h
  | fresh k ih => intro Q E p s hn h; exact ih _ Q E p _ hn h
  | ask k ih => intro Q E p s hn h; exact ih _ Q E p s hn h
  | choose src m k ih => intro Q E p s hn h; exact ⟨h.1, ih _ Q E p _ hn h.2⟩
  | os q _ k ih => intro Q E p s hn h; exact ih _ Q E p _ hn h
  | call c hd _ _ k ih => intro Q E p s hn h; obtain ⟨r, s', hr, h⟩ := h; exact ⟨r, s', hr, ih r Q E p s' (Nat.le_trans hn (runs_size hr)) h⟩
  | handled own k ih => intro Q E p s hn h; exact ih _ Q E p s hn h
  | genState g k ih => intro Q E p s hn h; obtain ⟨st, hs, h⟩ := h; exact ⟨st, hs, ih _ Q E p s hn h⟩
  | newGen c k ih => intro Q E p s hn h; exact ih _ Q E p _ hn h
  | resume g r _ k ih => intro Q E p s hn h; obtain ⟨res, s', hw, h⟩ := h; exact ⟨res, s', hw, ih res Q E p s' (Nat.le_trans hn (wakes_size hw)) h⟩
  | yield _ _ _ _ => intro Q E p s _ h; exact h
  | stack k ih => intro Q E p s hn h; exact ih _ Q E p s hn h
  | fork _ _ => intro Q E p s _ h; exact h
  | thread k ih => intro Q E p s hn h; exact ih _ Q E p s hn h
  | await _ _ _ _ _ => intro Q E p s _ h; exact h

theorem with_size {α : Type} {M : Model} {A : Around} {s : Shared} {t : Sem α} {Q : α → Shared → Prop} {E : Value → Shared → Prop} (h : wpAny M A t (fun a s' => s.heap.objs.size ≤ s'.heap.objs.size → Q a s') E s) : wpAny M A t Q E s :=
  fun Γ p hΓ => Sem.wp_mono M Γ t (fun _ _ _ x => x.2 x.1) (fun _ _ _ x => x.2) p s (wp_size M Γ s.heap.objs.size t _ _ p s (Nat.le_refl _) (h Γ p hΓ))

end Mine

namespace Mine
open PySem PySem.W PyProof.Rows PySem.Calls PySem.Spec

noncomputable def e0 : Heap := { objs := #[] }
noncomputable def allNews (h : Heap) (L : Addr) : List (Addr × Obj) := (List.range h.objs.size).filterMap fun a => if a = L then none else (h.get? a).map fun o => (a, o)
theorem e0_none (a : Addr) : e0.get? a = none := by simp [e0, Heap.get?]
theorem mem_allNews {h : Heap} {L a : Addr} {o : Obj} (e : h.get? a = some o) (hn : a ≠ L) : (a, o) ∈ allNews h L := by
  unfold allNews
  refine List.mem_filterMap.mpr ⟨a, List.mem_range.mpr (Heap.lt_size e), ?_⟩
  rw [if_neg hn, e]; rfl
theorem of_allNews {h : Heap} {L : Addr} {p : Addr × Obj} (m : p ∈ allNews h L) : h.get? p.1 = some p.2 ∧ p.1 ≠ L := by
  unfold allNews at m
  obtain ⟨a, _, e⟩ := List.mem_filterMap.mp m
  split at e
  · cases e
  · rename_i hn
    obtain ⟨o, e1, rfl⟩ := Option.map_eq_some_iff.mp e
    exact ⟨e1, hn⟩
theorem news_all (h : Heap) (L : Addr) : News e0 L h (allNews h L) := fun p hp => ⟨(of_allNews hp).1, (of_allNews hp).2, e0_none _⟩
theorem fr_all {h : Heap} {L : Addr} {m : Str → Option Value} (n : h.Ns L m) : Fr e0 L h m := ⟨n, fun b o e => (by rw [e0_none] at e; cases e), Nat.zero_le _⟩

theorem ns_unique {h : Heap} {L : Addr} {m m' : Str → Option Value} (a : h.Ns L m) (b : h.Ns L m') : m = m' := by
  obtain ⟨o, es, ep, e1, e2, _, e3⟩ := a
  obtain ⟨o', es', ep', f1, f2, _, f3⟩ := b
  rw [e1] at f1; cases f1
  rw [e2] at f2; cases f2
  funext x; rw [← e3, ← f3]

theorem tab_ne {P L : Addr} {z : Z} {h : Heap} (t : TabOk P z h) (n : ∃ m, h.Ns L m) : P ≠ L := by
  rintro rfl
  obtain ⟨ps, e⟩ := t.get
  obtain ⟨m, o, es, ep, e1, e2, _⟩ := n
  rw [e] at e1; cases e1; cases e2

section
variable {prog : Program} {w : World} {P L : Addr} {z : Z} {h h' : Heap}

theorem grow_news {m : Str → Option Value} {news' : List (Addr × Obj)} (on : z.on h) (zL : z L = none) (n : h.Ns L m) (t : TabOk P z h) (F' : Fr e0 L h' m) (N' : News e0 L h' news') (sub : ∀ p ∈ allNews h L, p ∈ news') (sz : h.objs.size ≤ h'.objs.size) : Grow P L z h z h' := by
  have keep : ∀ b o, b ≠ L → h.get? b = some o → h'.get? b = some o := fun b o hb e => (N' _ (sub _ (mem_allNews e hb))).1
  refine ⟨fun _ _ e => e, fun a o e => keep a o (by rintro rfl; rw [zL] at e; cases e) (on a o e), fun b o hb _ e => keep b o hb e, fun m' n' => ns_unique n n' ▸ F'.ns, sz, fun _ _ e => .inl e, fun _ => ?_⟩
  exact t.keep (fun o e => keep _ _ (tab_ne t ⟨m, n⟩) e) (fun _ _ e => e) fun _ _ e => .inl e
end

section
variable {prog : Program} {w : World} {P L : Addr} {z : Z} {A : Around} {E : Value → Shared → Prop} {s : Shared} {Q : Value → Shared → Prop} {v : Value} {value slice : Expr}

theorem item_ok {d r : D} {k : Int} {u : Tok} (e : itemD d k = some r) (on : z.on s.heap) (rb : Bor prog w z s.heap v d)
    (hs : subscripted slice false v (.int k u) = operate [v, .int k u] (getItem v (.int k u))) (h : ∀ x, Rep prog w z x r → Q x s) :
    wpAny (model prog w) A (subscriptTail value slice v (.int k u)) Q E s := by
  unfold itemD at e
  split at e
  · rename_i ds
    obtain ⟨a, vs, n, rfl, ha, rs⟩ := rb.list on
    have hL : s.heap.IsList a vs.toArray := ⟨_, ha, rfl, _, rfl⟩
    split at e
    · rename_i h0
      split at e
      · rename_i h1
        simp only [decide_eq_true_eq] at h0 h1
        obtain ⟨x, e1, e2⟩ := rs.get e
        exact tail_any hL.typeIs slot_list_getitem.lookup (wpAny_getItem_list hL h0 (by omega) (by simpa using e1) (h _ e2)) hs
      · cases e
    · split at e
      · rename_i h1
        obtain rfl : k = -1 := by simpa using h1
        have hl := rs.length
        rw [List.getLast?_eq_getElem?] at e
        obtain ⟨x, e1, e2⟩ := rs.get e
        have hne : 0 < ds.length := by
          cases ds with
          | nil => simp at e
          | cons => simp
        have hj : ((-1 : Int) + (vs.toArray.size : Int)).toNat = ds.length - 1 := by simp; exact ar6 hl
        exact tail_any hL.typeIs slot_list_getitem.lookup (wpAny_getItem_list_neg hL (by decide) (by simp; exact ar5 hl hne) (by decide) (by rw [hj]; simpa using e1) (h _ e2)) hs
      · cases e
  · rename_i ds
    obtain ⟨a, vs, n, rfl, ha, rs⟩ := rb.tuple on
    have hL : IsTup s.heap a vs.toArray := ⟨_, ha, rfl, _, rfl⟩
    split at e
    · rename_i h0
      simp only [Bool.and_eq_true, decide_eq_true_eq] at h0
      obtain ⟨x, e1, e2⟩ := rs.get e
      have hlt : k.toNat < vs.length := by
        rw [List.getElem?_eq_some_iff] at e1
        exact e1.1
      refine tail_any hL.typeIs slot_tuple_getitem.lookup (PyProof.Rows.getItem_tuple (j := k.toNat) hL (by omega) (by omega) ?_ (by simpa using e1) (h _ e2)) hs
      unfold seqIndex?
      simp
      omega
    · cases e
  · cases e
end
end Mine

namespace Mine
open PySem PySem.W PyProof.Rows PySem.Calls PySem.Spec

section
variable {prog : Program} {w : World} {P L : Addr} {z : Z} {A : Around} {E : Value → Shared → Prop} {s : Shared} {v : Value}

theorem adjust_upto (b n : Nat) (hb : b ≤ n) : Builtin.Slice.sliceAdjust none (some (b : Int)) 1 (n : Int) = ((0 : Int), (b : Int)) := by
  unfold Builtin.Slice.sliceAdjust
  have h1 : ¬ ((1 : Int) < 0) := by exact ar15
  have h2 : ¬ ((b : Int) < 0) := by exact ar14
  simp only [h1, h2, if_false]
  congr 1
  omega
theorem places_upto (b : Nat) : Builtin.Slice.slicePlaces (0 : Int) (b : Int) 1 = b := by
  unfold Builtin.Slice.slicePlaces
  have h1 : (1 : Int) > 0 := by exact ar13
  simp only [h1, if_true, Int.ediv_one]
  split <;> omega

theorem sliceApplied_upto {sl : Addr} {b n : Nat} {u : Tok} {Q : Int × Int × Nat → Shared → Prop} (hs : s.heap.IsSliceOf sl .none (.int b u) .none) (hb : b ≤ n) (h : Q ((0 : Int), 1, b) s) :
    wpAny (model prog w) A (Builtin.Slice.sliceApplied (.ref sl) (pure (n : Int))) Q E s := by
  obtain ⟨os, hos, hcs, hds⟩ := id hs
  unfold Builtin.Slice.sliceApplied Builtin.Slice.sliceFields
  refine wpAny_bind (wpAny_bind (wpAny_field hos hds (x := .none) rfl (wpAny_bind (wpAny_field hos hds (x := .int b u) rfl (wpAny_bind (wpAny_field hos hds (x := .none) rfl (wpAny_pure ?_)))))))
  refine wpAny_bind (slicePart_none ?_)
  show wpAny _ _ (if ((1 : Int) == 0) = true then _ else _) _ _ s
  rw [if_neg (by decide)]
  refine wpAny_bind (slicePart_none (wpAny_bind (slicePart_int (wpAny_bind (wpAny_pure ?_)))))
  show wpAny _ _ (match Builtin.Slice.sliceAdjust none (some (b : Int)) 1 (n : Int) with | (lo, hi) => pure (lo, (1 : Int), Builtin.Slice.slicePlaces lo hi 1)) _ _ s
  rw [adjust_upto b n hb]
  show wpAny _ _ (pure ((0 : Int), (1 : Int), Builtin.Slice.slicePlaces (0 : Int) (b : Int) 1)) _ _ s
  rw [places_upto b]
  exact wpAny_pure h

theorem pick_upto (xs : Array Value) (b : Nat) : ((List.range b).filterMap fun (k : Nat) => xs[((0 : Int) + (k : Int) * 1).toNat]?).toArray = (xs.toList.take b).toArray := by
  have e : (fun (k : Nat) => xs[((0 : Int) + (k : Int) * 1).toNat]?) = fun k => xs[0 + k]? := by
    funext k
    have : ((0 : Int) + (k : Int) * 1).toNat = 0 + k := by exact ar12
    rw [this]
  rw [e]
  have := pick_run xs 0 b
  rw [List.filterMap_map] at this
  have e2 : ((fun x => xs[x]?) ∘ fun x => 0 + x) = fun k => xs[0 + k]? := rfl
  rw [e2] at this
  rw [this, List.drop_zero]

theorem getItem_tuple_upto {t sl : Addr} {items : Array Value} {b : Nat} {u : Tok} {Q : Value → Shared → Prop} (ht : IsTup s.heap t items) (hs : s.heap.IsSliceOf sl .none (.int b u) .none) (hb : b < items.size)
    (h : Q (.ref s.heap.objs.size) { s with heap := s.heap.push { cls := .type "tuple", data := .seq (items.toList.take b).toArray } })
    (hsz : b ≤ sizeLine) : wpAny (model prog w) A (getItem (.ref t) (.ref sl)) Q E s := by
  have hdrop : sizeOk (.seq (items.toList.take b).toArray) := by
    show (items.toList.take b).toArray.size ≤ sizeLine
    rw [List.size_toArray, List.length_take]
    omega
  obtain ⟨os, hos, hcs, hds⟩ := id hs
  have hTs : s.TypeIs (.ref sl) "slice" := ⟨os, hos, hcs⟩
  unfold getItem
  try with_reducible refine wpAny_holding ?_
  first | refine wpAny_bind (wpAny_pure ?_) | skip
  refine wpAny_bind (wpAny_sequenceKey ht.typeIs (by decide) ?_)
  refine wpAny_bind (wpAny_callSpecial?_slot (name := Str.ofString "__getitem__") ht.typeIs slot_tuple_getitem
    (wpAny_call_entry slot_tuple_getitem ht.typeIs entry_tuple_getitem ?_ (args_tuple_getitem _ _)))
  show wpAny _ _ (Builtin.Tuple.tupleItemsOf (.ref t) >>= _) _ _ s
  refine wpAny_bind (tupleItemsOf_ ht ?_)
  refine wpAny_bind (wpAny_typeOf hTs ?_)
  rw [if_pos (by decide)]
  refine wpAny_bind (sliceApplied_upto hs (Nat.le_of_lt hb) ?_)
  have hno : ¬ (((0 : Int) == 0 && (1 : Int) == 1 && b == items.size) = true) := by
    have : (b == items.size) = false := by rw [beq_eq_false_iff_ne]; exact ar11 hb
    rw [this]; simp
  show wpAny _ _ (if ((0 : Int) == 0 && (1 : Int) == 1 && b == items.size) = true then _ else _) _ _ s
  rw [if_neg hno, pick_upto items b]
  first
    | exact wpAny_bind (m := Builtin.Tuple.tupleExact _) (wpAny_newObj_type (wpAny_pure ⟨_, rfl, wpAny_pure h⟩) hdrop)
    | exact wpAny_bind (m := Builtin.Tuple.tupleExact _) (wpAny_newObj_type (wpAny_bind (wpAny_pure (wpAny_pure ⟨_, rfl, wpAny_pure h⟩))) hdrop)
    | exact wpAny_bind (wpAny_bind (m := Builtin.Tuple.tupleExact _) (wpAny_newObj_type (wpAny_pure (wpAny_pure ⟨_, rfl, wpAny_pure h⟩)) hdrop))
    | exact wpAny_bind (wpAny_bind (m := Builtin.Tuple.tupleExact _) (wpAny_newObj_type (wpAny_pure ⟨_, rfl, wpAny_pure h⟩) hdrop))

variable {Q : Value → Shared → Prop} {value slice : Expr}

theorem slices_of {vs : List Value} {ds : List D} (r : Reps prog w z vs ds) (lo hi : Option Int) : Reps prog w z (kms_pick vs lo hi) (sliceL ds lo hi) := by
  unfold kms_pick sliceL
  rw [r.length]
  exact (r.drop _).take _

/-- the slice's object was the last that was made -/
theorem slice_ok {d r : D} {lo hi : Option Int} {vl vu : Value} (e : sliceD d lo hi = some r) (on : z.on s.heap) (zL : z L = none) (hns : ∃ m, s.heap.Ns L m) (ht : TabOk P z s.heap) (rb : Rep prog w z v d)
    (pl : IsPart vl lo) (pu : IsPart vu hi) (hvl : lo = none → vl = .none) (hvu : ∀ i, hi = some i → ∃ u, vu = .int i u) (hvl' : ∀ i, lo = some i → ∃ u, vl = .int i u)
    (hs : ∀ i, subscripted slice false v i = operate [i, v] (getItem v i)) (g : Goes prog w P L z s r Q) :
    wpAny (model prog w) A (subscriptTail value slice v (.ref s.heap.objs.size)) Q E { s with heap := s.heap.push { cls := .type "slice", data := .fields #[vl, vu, .none] } } := by
  have on1 : z.on (s.heap.push { cls := .type "slice", data := .fields #[vl, vu, .none] }) := fun a o q => Heap.get?_push_of_some _ (on a o q)
  have g1 : Goes prog w P L z { s with heap := s.heap.push { cls := .type "slice", data := .fields #[vl, vu, .none] } } r Q := fun v z' h' tk gr rr => g v z' h' tk ((Grow.push on _).trans gr) rr
  unfold sliceD at e
  split at e
  · split at e
    · rename_i hl
      cases e
      cases rb with
      | @list a vs n ds ha rs =>
        have ha1 : (s.heap.push { cls := .type "slice", data := .fields #[vl, vu, .none] }).IsList a vs.toArray := ⟨_, on1 _ _ ha, rfl, _, rfl⟩
        have hlen := rs.length
        simp only [decide_eq_true_eq] at hl
        refine tail_any (s := { s with heap := s.heap.push { cls := .type "slice", data := .fields #[vl, vu, .none] } }) ha1.typeIs slot_list_getitem.lookup
          (wpAny_getItem_list_slice ha1 (Heap.IsSliceOf.new ..) pl pu (.none) (by decide) ?_ (by rw [sizeLine_eq]; simp; exact ar10 hlen hl)) (hs _)
        rw [kms_pick_eq]
        exact g1.newList (tk := s.toks) on1 (slices_of rs lo hi)
    · cases e
  · split at e
    · rename_i k hk
      simp only [Bool.and_eq_true, decide_eq_true_eq] at hk
      cases e
      cases rb with
      | @tuple a vs n ds ha rs =>
        have ha1 : IsTup (s.heap.push { cls := .type "slice", data := .fields #[vl, vu, .none] }) a vs.toArray := ⟨_, on1 _ _ ha, rfl, _, rfl⟩
        have hlen := rs.length
        obtain ⟨u, rfl⟩ := hvu _ rfl
        obtain rfl := hvl rfl
        obtain ⟨b, rfl⟩ := Int.eq_ofNat_of_zero_le hk.1.1
        simp only [Int.toNat_natCast] at hk g g1
        refine tail_any (s := { s with heap := s.heap.push { cls := .type "slice", data := .fields #[.none, .int b u, .none] } }) ha1.typeIs slot_tuple_getitem.lookup
          (getItem_tuple_upto ha1 (Heap.IsSliceOf.new ..) (by simp; exact ar9 hlen hk) ?_ (by rw [sizeLine_eq]; exact ar8 hk)) (hs _)
        exact g1.newTuple (tk := s.toks) on1 (rs.take b)
    · cases e
  · split at e
    · rename_i i j hl
      simp only [decide_eq_true_eq] at hl
      cases e
      cases rb with
      | str x t =>
        obtain ⟨ui, rfl⟩ := hvl' _ rfl
        obtain ⟨uj, rfl⟩ := hvu _ rfl
        obtain ⟨m, hm⟩ := hns
        refine with_size (wpAny_mono (Q := fun a s' => s.heap.objs.size ≤ s'.heap.objs.size → Q a s') (slice_strN_ss (fr_all hm) (news_all s.heap L) (fun h' t' k F N sz => ?_) (hs _) (fun r => ?_) (by rw [sizeLine_eq]; exact ar7 hl)) (fun a s' q sz => q (Nat.le_trans (by rw [Heap.size_push]; exact ar1) sz)) fun _ _ x => x)
        · exact g _ z h' k (grow_news on zL hm ht F N (fun _ hp => hp) sz) (.str _ _)
        · cases value <;> rfl
    · cases e
  · cases e
end
end Mine

namespace Mine
open PySem PySem.W PyProof.Rows PySem.Calls PySem.Spec

/-- freeze all that is new -/
noncomputable def zall (z : Z) (h h' : Heap) : Z := fun b => if b < h.objs.size then z b else h'.get? b

section
variable {prog : Program} {w : World} {P L : Addr} {z : Z} {A : Around} {E : Value → Shared → Prop} {s : Shared} {v : Value} {h h' : Heap} {Q : Value → Shared → Prop}

theorem zall_le (on : z.on h) : ∀ a o, z a = some o → zall z h h' a = some o := fun a o e => by
  unfold zall; rw [if_pos (Heap.lt_size (on a o e))]; exact e
theorem zall_new {a : Addr} {o : Obj} (e : h'.get? a = some o) (ha : h.objs.size ≤ a) : zall z h h' a = some o := by
  unfold zall; rw [if_neg (Nat.not_lt.mpr ha)]; exact e
theorem Grow.all (x : Grow P L z h z h') : Grow P L z h (zall z h h') h' where
  le := fun a o e => by
    unfold zall
    split
    · exact e
    · exact x.on a o e
  on := fun a o e => by
    unfold zall at e
    split at e
    · exact x.on a o e
    · exact e
  keep := x.keep
  ns := x.ns
  size := x.size
  new := fun b o e => by
    unfold zall at e
    split at e
    · exact .inl e
    · rename_i q; exact .inr (Nat.not_lt.mp q)
  tab := fun t => by
    obtain ⟨ps, e⟩ := t.get
    refine ⟨?_, ?_⟩
    · unfold zall; rw [if_pos (Heap.lt_size e)]; exact t.1
    · rcases (x.tab t).2 with t | ⟨c, o, vs, tk, t, q, y⟩
      · exact .inl t
      · refine .inr ⟨c, o, vs, tk, t, ?_, y⟩
        unfold zall
        split
        · exact q
        · exact x.on c o q

theorem Goes.all {d : D} (g : Goes prog w P L z s d Q) (on : z.on s.heap) (hk : ∀ b o, s.heap.get? b = some o → h'.get? b = some o) (sz : s.heap.objs.size ≤ h'.objs.size) {tk : Nat} (r : Rep prog w (zall z s.heap h') v d) : Q v { s with heap := h', toks := tk } :=
  g _ _ _ _ (Grow.kept on hk sz).all r

theorem len_ok {d r : D} (e : lenD d = some r) (on : z.on s.heap) (rb : Bor prog w z s.heap v d) (g : Goes prog w P L z s r Q) : wpAny (model prog w) A (call (.builtin "len") [v]) Q E s := by
  unfold lenD at e
  split at e
  · split at e
    · rename_i hl
      cases e
      obtain ⟨a, vs, n, rfl, ha, rs⟩ := rb.list on
      simp only [decide_eq_true_eq] at hl
      have hlen := rs.length
      refine call_len_list ⟨_, ha, rfl, _, rfl⟩ (by simp; exact ar17 hl hlen) ?_
      rw [List.size_toArray, hlen]
      exact g.here on (tk := s.toks + 1 + 1) (Rep.int _ _)
    · cases e
  · cases e

theorem truth_ok {d : D} {b : Bool} {Q : Bool → Shared → Prop} (e : truthD d = some b) (on : z.on s.heap) (rb : Bor prog w z s.heap v d) (h : ∀ tk, Q b { s with toks := tk }) : wpAny (model prog w) A (truthy v) Q E s := by
  unfold truthD at e
  split at e
  · cases e
    rcases rb with rb | ⟨_, _, rb⟩ <;> cases rb
    exact wpAny_truthy_bool (h s.toks)
  · split at e
    · rename_i hl
      cases e
      obtain ⟨a, vs, n, rfl, ha, rs⟩ := rb.list on
      simp only [decide_eq_true_eq] at hl
      have hlen := rs.length
      refine wpAny_truthy_list ⟨_, ha, rfl, _, rfl⟩ (by simp; exact ar17 hl hlen) ?_
      rename_i ds
      have : vs.toArray.isEmpty = ds.isEmpty := by
        cases rs <;> simp
      rw [this]; exact h _
    · cases e
  · cases e

theorem ints_of : ∀ {vs : List Value} {ds : List D} {is : List Int}, Reps prog w z vs ds → intsD ds = some is → is.length = vs.length ∧ ∀ i v, vs[i]? = some v → ∃ t, v = Value.int (is.getD i 0) t
  | _, _, _, .nil, e => by simp [intsD] at e; subst e; simp
  | _, _, _, .cons r rs, e => by
    cases r <;> simp only [intsD] at e <;> try cases e
    obtain ⟨is', e', rfl⟩ := Option.map_eq_some_iff.mp e
    obtain ⟨h1, h2⟩ := ints_of rs e'
    refine ⟨by simp [h1], fun i v hv => ?_⟩
    cases i with
    | zero => simp at hv; subst hv; exact ⟨_, rfl⟩
    | succ i => simp at hv; simpa using h2 i v hv

theorem sum_ok {d r : D} (e : sumD d = some r) (on : z.on s.heap) (hh : A.handled = none) (rb : Rep prog w z v d) (g : Goes prog w P L z s r Q) : wpAny (model prog w) A (call (.builtin "sum") [v]) Q E s := by
  unfold sumD at e
  split at e
  · split at e
    · rename_i is hi
      cases e
      cases rb with
      | @list a vs n ds ha rs =>
        obtain ⟨h1, h2⟩ := ints_of rs hi
        have hl : s.heap.IsList a vs.toArray := ⟨_, on _ _ ha, rfl, _, rfl⟩
        have hne : a ≠ s.heap.objs.size := Nat.ne_of_lt (Heap.lt_size (on _ _ ha))
        refine with_size (call_sum_walkAnyS (wpAny_pyIter_list hl ?_))
        refine ⟨s.heap.objs.size, _, _, _, _, _, _, fun i => is.getD i 0, rfl, (Walks.list (by exact hh) _ a hne vs.toArray).toS, ⟨⟨_, Heap.get?_push_size _ rfl, rfl, rfl⟩, hl.at fun o e => Heap.get?_push_of_some _ e⟩, ?_, ?_, ?_⟩
        · intro b hb
          simp only [List.mem_cons, List.not_mem_nil, or_false] at hb
          rw [Heap.size_push]
          rcases hb with rfl | rfl
          · exact Nat.lt_succ_self _
          · exact Nat.lt_succ_of_lt (Heap.lt_size (on _ _ ha))
        · intro i v hv
          exact h2 i v (by simpa using hv)
        · intro s' t' hm sz
          have e1 : preSum (fun i => is.getD i 0) vs.toArray.size = is.sum := by
            rw [preSum_getD, List.size_toArray, ← h1, List.take_length]
          rw [e1]
          have e2 : s' = { s with heap := s'.heap, toks := s'.toks } := by
            have q1 := hm.gens
            have q2 := hm.drawn
            have q3 := hm.os
            cases s'
            simp only at q1 q2 q3
            subst q1 q2 q3
            rfl
          rw [e2]
          refine g _ z _ _ (.kept on (fun b o e => hm.heap b o ?_ (Heap.get?_push_of_some _ e)) sz) (.int _ _)
          simp only [List.mem_singleton]
          exact Nat.ne_of_lt (Heap.lt_size e)
    · cases e
  · cases e

theorem listOf_ok {ds : List D} (on : z.on s.heap) (rb : Rep prog w z v (.tuple ds)) (hl : ds.length ≤ 1000) (g : Goes prog w P L z s (.list ds) Q) : wpAny (model prog w) A (call (.type "list") [v]) Q E s := by
  cases rb with
  | tuple ha rs =>
    have hlen := rs.length
    refine call_list_seq _ (T := "tuple") (.inr rfl) (on _ _ ha) rfl rfl (fun h' c' hk hn => ?_) (by rw [sizeLine_eq]; simp; exact ar16 hl hlen)
    exact g.all (tk := s.toks) on hk (Nat.le_of_lt (Heap.lt_size hn)) (.list (zall_new hn (Nat.le_refl _)) (rs.mono (zall_le on)))

theorem ints_pairs : ∀ {kvs : List (Str × Value)} {kv : List (Str × Int)}, IntVals kvs kv → ∀ (as : List Addr) (z : Z), as.length = kvs.length → (∀ (j : Nat) (a : Addr), as[j]? = some a → ∃ key k x, kvs[j]? = some (k, x) ∧ (PySem.strKind prog w).is k key = true ∧ ∃ n, z a = some (tob [key, x] n)) →
    Reps prog w z (as.map Value.ref) (pairsD kv)
  | _, _, .nil, as, z, hl, h => by
    have : as = [] := by simpa using hl
    subst this; exact .nil
  | _, _, @IntVals.cons x i t r q hr, as, z, hl, h => by
    cases as with
    | nil => simp at hl
    | cons a as =>
      refine .cons ?_ (ints_pairs hr as z (by simpa using hl) fun j b hb => by simpa using h (j + 1) b (by simpa using hb))
      obtain ⟨key, k, y, e1, e2, n, e3⟩ := h 0 a rfl
      simp at e1
      obtain ⟨rfl, rfl⟩ := e1
      obtain ⟨u, rfl⟩ := Value.isStrOf_shape e2
      exact .tuple e3 (.cons (.str _ _) (.cons (.int _ _) .nil))

theorem intVals_length {kvs : List (Str × Value)} {kv : List (Str × Int)} (hi : IntVals kvs kv) : kvs.length = kv.length := by
  induction hi with
  | nil => rfl
  | cons _ ih => simp [ih]

/-- list(d.items()), the view made -/
theorem items_ok {kv : List (Str × Int)} {kvs : List (Str × Value)} {r a : Addr} (on : z.on s.heap) (hh : A.handled = none) (hv : s.heap.IsItemsView r a) (hd : s.heap.DictOf (PySem.strKind prog w) a kvs) (hi : IntVals kvs kv) (hl : kv.length ≤ 1000) (g : Goes prog w P L z s (.list (pairsD kv)) Q) :
    wpAny (model prog w) A (call (.type "list") [.ref r]) Q E s := by
  obtain ⟨ep, hd⟩ := hd.dictAt
  have hlen : kvs.length = kv.length := intVals_length hi
  refine kdx_call (knd := PySem.strKind prog w) hh hv hd (by rw [sizeLine_eq]; exact ar16 hl hlen) fun h' tk acc c as hk hn hla hG hacc => ?_
  have sz : s.heap.objs.size ≤ h'.objs.size := Nat.le_of_lt (Heap.lt_size hn)
  have hacc' : acc = (as.map Value.ref).toArray := by rw [← hacc]
  subst hacc'
  refine g.all on hk sz (.list (zall_new hn (Nat.le_refl _)) (ints_pairs hi as _ hla fun j b hb => ?_))
  obtain ⟨key, k, x, e1, e2, e3⟩ := hG.pairs j b hb
  exact ⟨key, k, x, e1, e2, 0, zall_new e3 (Nat.le_of_lt (hG.above b (List.mem_of_getElem? hb)))⟩

end
end Mine

namespace Mine
open PySem PySem.W PyProof.Rows PySem.Calls PySem.Spec

/-- what one step of an iterator leaves -/
structure GrowI (wr : List Addr) (z : Z) (h : Heap) (z' : Z) (h' : Heap) : Prop where
  le : ∀ a o, z a = some o → z' a = some o
  on : z'.on h'
  keep : ∀ b o, b ∉ wr → h.get? b = some o → h'.get? b = some o
  size : h.objs.size ≤ h'.objs.size
  new : ∀ b o, z' b = some o → z b = some o ∨ h.objs.size ≤ b

theorem GrowI.same {wr : List Addr} {z : Z} {h h' : Heap} (on : z.on h) (hz : ∀ b ∈ wr, z b = none) (keep : ∀ b o, b ∉ wr → h.get? b = some o → h'.get? b = some o) (size : h.objs.size ≤ h'.objs.size) : GrowI wr z h z h' :=
  ⟨fun _ _ e => e, fun a o e => keep a o (fun m => by rw [hz a m] at e; cases e) (on a o e), keep, size, fun _ _ e => .inl e⟩
theorem GrowI.freeze {wr : List Addr} {z z' : Z} {h h' : Heap} (x : GrowI wr z h z' h') {a : Addr} {o : Obj} (ha : h'.get? a = some o) (hn : h.objs.size ≤ a) (hz : z' a = none) : GrowI wr z h (z'.add a o) h' where
  le := fun b o' e => Z.add_le hz b o' (x.le b o' e)
  on := fun b o' e => by
    change (if b = a then some o else z' b) = some o' at e
    split at e
    · rename_i q; subst q; cases e; exact ha
    · exact x.on b o' e
  keep := x.keep
  size := x.size
  new := fun b o' e => by
    change (if b = a then some o else z' b) = some o' at e
    split at e
    · rename_i q; subst q; exact .inr hn
    · exact x.new b o' e

structure Itr (prog : Program) (w : World) (A : Around) (target : Expr) (I : Addr) (wr fp : List Addr) (J : Z → Heap → List D → Prop) : Prop where
  sub : ∀ b ∈ wr, b ∈ fp
  fields : ∀ {z : Z} {h : Heap} {ds : List D}, J z h ds → ∀ b ∈ wr, ∃ o vs, h.get? b = some o ∧ o.data = .fields vs
  frame : ∀ {z z' : Z} {h h' : Heap} {ds : List D}, J z h ds → (∀ a o, z a = some o → z' a = some o) → z'.on h' → (∀ b ∈ fp, ∀ o, h.get? b = some o → h'.get? b = some o) → J z' h' ds
  next : ∀ {d : D} {ds : List D} {z : Z} {s : Shared} {Q : Value → Shared → Prop} {E : Value → Shared → Prop}, J z s.heap (d :: ds) → z.on s.heap → (∀ b ∈ wr, z b = none) →
    (∀ v z' h' tk, GrowI wr z s.heap z' h' → Rep prog w z' v d → J z' h' ds → Q v { s with heap := h', toks := tk }) →
    wpAny (model prog w) A (pyNext (.ref I)) (fun r s₁ => ∃ v, r = some v ∧ wpAny (model prog w) A (letOwnedTupleGo target (.ref I) v) (fun _ s₂ => Q v s₂) E s₁) E s
  done : ∀ {z : Z} {s : Shared} {Q : Shared → Prop} {E : Value → Shared → Prop}, J z s.heap [] → z.on s.heap → (∀ b ∈ wr, z b = none) →
    (∀ h' tk, GrowI wr z s.heap z h' → Q { s with heap := h', toks := tk }) → wpAny (model prog w) A (pyNext (.ref I)) (fun r s₁ => r = none ∧ Q s₁) E s
  self : ∀ {ds : List D} {z : Z} {s : Shared} {Q : Value → Shared → Prop} {E : Value → Shared → Prop}, J z s.heap ds → Q (.ref I) s → wpAny (model prog w) A (pyIter (.ref I)) Q E s

section
variable {prog : Program} {w : World} {A : Around}

/-- nothing is let go: an iterator that owns no tuple -/
theorem ownedGo_pure {target : Expr} {it v : Value} {s : Shared} {E : Value → Shared → Prop} {Q : Unit → Shared → Prop} {I : Addr} {o : Obj} {n : String} {vs : Array Value} (hit : it = .ref I) (ho : s.heap.get? I = some o) (hc : o.cls = .type n) (hd : o.data = .fields vs)
    (hn : ["enumerate", "zip", "dict_itemiterator", "dict_reverseitemiterator", "odict_iterator", "itertools.zip_longest", "itertools.pairwise"].contains n = false) (h : Q () s) : wpAny (model prog w) A (letOwnedTupleGo target it v) Q E s := by
  subst hit
  have key : ∀ a : Addr, wpAny (model prog w) A (do
      let o ← load I
      match o.cls, o.data with
      | .type n, .fields vs =>
        if ["enumerate", "zip", "dict_itemiterator", "dict_reverseitemiterator", "odict_iterator", "itertools.zip_longest", "itertools.pairwise"].contains n && vs[0]? == some (rawInt a) then
          rule "for.unpacks-the-owned-tuple"
          updateField I 0 .none
      | _, _ => pure ()) Q E s := by
    intro a
    refine wpAny_bind (wpAny_load ho ?_)
    rw [hc, hd]
    show wpAny _ _ (if (_ && _) = true then _ else _) _ _ _
    rw [hn, Bool.false_and, if_neg Bool.false_ne_true]
    exact wpAny_pure h
  unfold letOwnedTupleGo
  split
  · cases v with
    | ref a => exact key a
    | _ => exact wpAny_pure h
  · cases v with
    | ref a => exact key a
    | _ => exact wpAny_pure h
  · exact wpAny_pure h

theorem isListIter_drop {vs : List Value} {i : Nat} {z : Z} {d : D} {ds : List D} (r : Reps prog w z (vs.drop i) (d :: ds)) : ∃ v, vs[i]? = some v ∧ Rep prog w z v d ∧ Reps prog w z (vs.drop (i + 1)) ds := by
  have hlt : i < vs.length := by
    rcases Nat.lt_or_ge i vs.length with h | h
    · exact h
    · rw [List.drop_of_length_le h] at r; cases r
  rw [List.drop_eq_getElem_cons hlt] at r
  cases r with
  | cons r rs => exact ⟨vs[i], List.getElem?_eq_getElem hlt, r, rs⟩

theorem Itr.list (hh : A.handled = none) (target : Expr) (I l : Addr) (hne : l ≠ I) (vs : List Value) (n : Nat) :
    Itr prog w A target I [I] [I, l] (fun z h ds => ∃ i, h.IsListIter I l i ∧ h.get? l = some (lob vs n) ∧ Reps prog w z (vs.drop i) ds) where
  sub := fun b hb => by simp at hb; simp [hb]
  fields := fun ⟨i, ⟨o, h1, h2, h3⟩, _⟩ b hb => by rw [List.mem_singleton.mp hb]; exact ⟨o, _, h1, h3⟩
  frame := fun ⟨i, h1, h2, h3⟩ hz _ hk => ⟨i, h1.at fun o e => hk I (by simp) o e, hk l (by simp) _ h2, h3.mono hz⟩
  next := fun {d ds z s Q E} ⟨i, h1, h2, h3⟩ on hzw hQ => by
    obtain ⟨v, e1, e2, e3⟩ := isListIter_drop h3
    refine wpAny_pyNext_list_item h1 ⟨_, h2, rfl, _, rfl⟩ (x := v) (by simpa using e1) fun h' hit' hs' => ⟨v, rfl, ?_⟩
    obtain ⟨o, ho, hc, hd⟩ := id hit'
    refine ownedGo_pure rfl ho hc hd (by decide) ?_
    have keep : ∀ b o, b ∉ [I] → s.heap.get? b = some o → h'.get? b = some o := fun b o hb e => hs'.extBut b o (fun q => hb (by simp [q])) e
    exact hQ v z h' s.toks (.same on hzw keep (Nat.le_of_eq hs'.1.symm)) e2 ⟨i + 1, hit', keep l _ (by simpa using hne) h2, e3⟩
  done := fun {z s Q E} ⟨i, h1, h2, h3⟩ on hzw hQ => by
    refine with_size (wpAny_pyNext_list_end hh h1 ⟨_, h2, rfl, _, rfl⟩ ?_ fun h' he' sz => ⟨rfl, hQ h' s.toks (.same on hzw (fun b o hb e => he' b o (fun q => hb (by simp [q])) e) sz)⟩)
    have hl := h3.length
    simp at hl
    simp
    exact ar18 hl
  self := fun ⟨i, h1, _, _⟩ hQ => wpAny_pyIter_listiter h1 hQ

/-- the ints of a range that goes by c -/
noncomputable def rangeFrom (x c : Int) : Nat → List D
  | 0 => []
  | n + 1 => .int x :: rangeFrom (x + c) c n

theorem Itr.range (hh : A.handled = none) (target : Expr) (I : Addr) (c : Int) :
    Itr prog w A target I [I] [I] (fun z h ds => ∃ x n, IsRangeIter h I x ((n : Nat) : Int) c ∧ ds = rangeFrom x c n) where
  sub := fun b hb => hb
  fields := fun ⟨x, n, h1, h2⟩ b hb => by rw [List.mem_singleton.mp hb]; exact ⟨_, _, h1, rfl⟩
  frame := fun ⟨x, n, h1, h2⟩ _ _ hk => ⟨x, n, hk I (by simp) _ h1, h2⟩
  next := fun {d ds z s Q E} ⟨x, n, h1, h2⟩ on hzw hQ => by
    cases n with
    | zero => first | exact nn h2 | cases h2
    | succ n =>
      injection h2 with hd hds
      subst hd hds
      refine wpAny_pyNext_range_item h1 (by exact ar21) fun h' hit' hs' => ⟨_, rfl, ?_⟩
      refine ownedGo_pure rfl hit' rfl rfl (by decide) ?_
      refine hQ _ z h' _ (.same on hzw (fun b o hb e => hs'.extBut b o (fun q => hb (by simp [q])) e) (Nat.le_of_eq hs'.1.symm)) (.int _ _) ⟨x + c, n, ?_, rfl⟩
      have : (((n + 1 : Nat) : Int) - 1) = (n : Int) := by exact ar20
      rw [this] at hit'; exact hit'
  done := fun {z s Q E} ⟨x, n, h1, h2⟩ on hzw hQ => by
    cases n with
    | succ n => first | exact nn h2 | cases h2
    | zero => exact with_size (wpAny_pyNext_range_end hh h1 (by exact ar19) fun h' he' sz => ⟨rfl, hQ h' s.toks (.same on hzw (fun b o hb e => he' b o (fun q => hb (by simp [q])) e) sz)⟩)
  self := fun ⟨x, n, h1, _⟩ hQ => wpAny_pyIter_rangeiter h1 hQ

noncomputable def enumFrom : Nat → List D → List D
  | _, [] => []
  | i, d :: ds => .tuple [.int (i : Int), d] :: enumFrom (i + 1) ds

theorem Itr.enum (hh : A.handled = none) (elts : List Expr) (k : Nat) (pos : Pos) (e it l : Addr) (h1 : e ≠ it) (h2 : l ≠ e) (h3 : l ≠ it) (vs : List Value) (n : Nat) :
    Itr prog w A (.Tuple elts k pos) e [e, it] [e, it, l] (fun z h ds => ∃ (i : Nat) (old : Value) (es : List D), IsEnum h e it (i : Int) old ∧ h.IsListIter it l i ∧ h.get? l = some (lob vs n) ∧ Reps prog w z (vs.drop i) es ∧ ds = enumFrom i es) where
  sub := fun b hb => by simp at hb; rcases hb with rfl | rfl <;> simp
  fields := fun ⟨i, old, es, g1, ⟨o, g2, _, g3⟩, _⟩ b hb => by
    rcases List.mem_cons.mp hb with rfl | hb
    · exact ⟨_, _, g1, rfl⟩
    · rw [List.mem_singleton.mp hb]; exact ⟨o, _, g2, g3⟩
  frame := fun ⟨i, old, es, g1, g2, g3, g4, g5⟩ hz _ hk => ⟨i, old, es, hk e (by simp) _ g1, g2.at fun o q => hk it (by simp) o q, hk l (by simp) _ g3, g4.mono hz, g5⟩
  next := fun {d ds z s Q E} ⟨i, old, es, g1, g2, g3, g4, g5⟩ on hzw hQ => by
    cases es with
    | nil => cases g5
    | cons d' es =>
      injection g5 with hd hds
      subst hd hds
      obtain ⟨v, e1, e2, e3⟩ := isListIter_drop g4
      refine wpAny_pyNext_enum_item g1 g2 ⟨_, g3, rfl, _, rfl⟩ (x := v) (by simpa using e1) h1 fun h' q1 q2 q3 q4 q5 => ⟨_, rfl, ?_⟩
      refine wpAny_letOwnedTupleGo_enum q1 fun h'' p1 p2 => ?_
      have ne1 : s.heap.objs.size ≠ e := Nat.ne_of_gt (Heap.lt_size g1)
      have keep : ∀ b o, b ∉ [e, it] → s.heap.get? b = some o → h''.get? b = some o := fun b o hb q => by
        simp only [List.mem_cons, List.not_mem_nil, or_false, not_or] at hb
        exact p2.extBut b o hb.1 (q5 b o hb.1 hb.2 q)
      have q3' := p2.extBut _ _ ne1 q3
      have sz : s.heap.objs.size ≤ h''.objs.size := by rw [p2.1, q4]; exact Nat.le_succ _
      have zn : z s.heap.objs.size = none := on.none_of_size (Nat.le_refl _)
      refine hQ _ _ h'' _ ((GrowI.same on hzw keep sz).freeze q3' (Nat.le_refl _) zn) (.tuple (n := 0) (Z.add_self ..) (.cons (.int _ _) (.cons (e2.mono (Z.add_le zn)) .nil))) ⟨i + 1, _, es, p1, ?_, keep l _ (by simp [h2, h3]) g3, e3.mono (Z.add_le zn), rfl⟩
      exact q2.at fun o q => p2.extBut it o (Ne.symm h1) q
  done := fun {z s Q E} ⟨i, old, es, g1, g2, g3, g4, g5⟩ on hzw hQ => by
    cases es with
    | cons d' es => cases g5
    | nil =>
      refine with_size (wpAny_pyNext_enum_end hh g1 g2 ⟨_, g3, rfl, _, rfl⟩ ?_ fun h' he' sz => ⟨rfl, hQ h' s.toks (.same on hzw (fun b o hb q => he' b o (fun q => hb (by simp [q])) q) sz)⟩)
      have hl := g4.length
      simp at hl
      simp
      exact ar18 hl
  self := fun ⟨i, old, es, g1, g2, g3, g4, g5⟩ hQ => wpAny_pyIter_enum g1 hQ

theorem intVals_drop {kvs : List (Str × Value)} {kv : List (Str × Int)} {i : Nat} {p : Str × Int} (r : IntVals (kvs.drop i) (p :: kv)) : ∃ t, kvs[i]? = some (p.1, .int p.2 t) ∧ IntVals (kvs.drop (i + 1)) kv := by
  have hlt : i < kvs.length := by
    rcases Nat.lt_or_ge i kvs.length with h | h
    · exact h
    · rw [List.drop_of_length_le h] at r; cases r
  rw [List.drop_eq_getElem_cons hlt] at r
  generalize hq : kvs[i] = q at r
  cases r with
  | cons r => exact ⟨_, by rw [List.getElem?_eq_getElem hlt, hq], r⟩

theorem dictAt_of {z : Z} {h : Heap} {d : Addr} {od : Obj} {kvs : List (Str × Value)} {ep : Nat} {es : Array DictEntry} (on : z.on h) (hz : z d = some od) (hx : od.ExactDict ∧ od.data = .dict es ep ∧ KeysOf (PySem.strKind prog w) es ∧ Pairs (PySem.strKind prog w) es.toList kvs ∧ (kvs.map (·.1)).Nodup) : h.DictAt (PySem.strKind prog w) d kvs ep :=
  ⟨od, es, on _ _ hz, hx⟩

theorem itemIter_self {it : Addr} {s : Shared} {E : Value → Shared → Prop} {Q : Value → Shared → Prop} (hT : s.TypeIs (.ref it) "dict_itemiterator") (h : Q (.ref it) s) : wpAny (model prog w) A (pyIter (.ref it)) Q E s := by
  refine wpAny_pyIter_slot hT PySem.F.slot_dict_itemiterator_iter (wpAny_call_entry PySem.F.slot_dict_itemiterator_iter hT kcp_entry ?_ (PySem.F.args_dict_itemiterator_iter_1 _))
  show wpAny _ _ (ret (.ref it)) _ _ s
  exact wpAny_pure ⟨_, rfl, "dict_itemiterator", _, hT, PySem.F.slot_dict_itemiterator_next.lookup, h⟩

theorem Itr.itemsT (hh : A.handled = none) (elts : List Expr) (k : Nat) (pos : Pos) (it d : Addr) (kvs : List (Str × Value)) (ep : Nat) (es : Array DictEntry) (od : Obj) (hx : od.ExactDict ∧ od.data = .dict es ep ∧ KeysOf (PySem.strKind prog w) es ∧ Pairs (PySem.strKind prog w) es.toList kvs ∧ (kvs.map (·.1)).Nodup) :
    Itr prog w A (.Tuple elts k pos) it [it] [it] (fun z h ds => ∃ i ok ov kv, IsItemIter h it d i kvs.length ep ok ov ∧ z d = some od ∧ IntVals (kvs.drop i) kv ∧ ds = pairsD kv) where
  sub := fun b hb => hb
  fields := fun ⟨i, ok, ov, kv, g1, _⟩ b hb => by rw [List.mem_singleton.mp hb]; exact ⟨_, _, g1, rfl⟩
  frame := fun ⟨i, ok, ov, kv, g1, g2, g3, g4⟩ hz _ hk => ⟨i, ok, ov, kv, hk it (by simp) _ g1, hz _ _ g2, g3, g4⟩
  next := fun {d' ds z s Q E} ⟨i, ok, ov, kv, g1, g2, g3, g4⟩ on hzw hQ => by
    cases kv with
    | nil => cases g4
    | cons p kv =>
      injection g4 with hd hds
      subst hd hds
      obtain ⟨t, e1, e2⟩ := intVals_drop g3
      refine wpAny_pyNext_items_item g1 (dictAt_of on g2 hx) e1 fun key h' q0 q1 q3 q4 q5 => ⟨_, rfl, ?_⟩
      refine wpAny_letOwnedTupleGo_items q1 fun h'' p1 p2 => ?_
      obtain ⟨u, rfl⟩ := Value.isStrOf_shape q0
      have ne1 : s.heap.objs.size ≠ it := Nat.ne_of_gt (Heap.lt_size g1)
      have keep : ∀ b o, b ∉ [it] → s.heap.get? b = some o → h''.get? b = some o := fun b o hb q => by
        simp only [List.mem_singleton] at hb
        exact p2.extBut b o hb (q5 b o hb q)
      have q3' := p2.extBut _ _ ne1 q3
      have sz : s.heap.objs.size ≤ h''.objs.size := by rw [p2.1, q4]; exact Nat.le_succ _
      have zn : z s.heap.objs.size = none := on.none_of_size (Nat.le_refl _)
      exact hQ _ _ h'' s.toks ((GrowI.same on hzw keep sz).freeze q3' (Nat.le_refl _) zn) (.tuple (n := 0) (Z.add_self ..) (.cons (.str _ _) (.cons (.int _ _) .nil))) ⟨i + 1, _, _, kv, p1, Z.add_le zn _ _ g2, e2, rfl⟩
  done := fun {z s Q E} ⟨i, ok, ov, kv, g1, g2, g3, g4⟩ on hzw hQ => by
    cases kv with
    | cons d' es => cases g4
    | nil =>
      refine with_size (wpAny_pyNext_items_end hh g1 (dictAt_of on g2 hx) ?_ fun h' he' sz => ⟨rfl, hQ h' s.toks (.same on hzw (fun b o hb q => he' b o (fun q => hb (by simp [q])) q) sz)⟩)
      have hl := intVals_length g3
      simp at hl
      simp
      exact ar18 hl
  self := fun ⟨i, ok, ov, kv, g1, _⟩ hQ => itemIter_self ⟨_, g1, rfl⟩ hQ

theorem Itr.itemsN (hh : A.handled = none) (x : Str) (pos : Pos) (it d : Addr) (kvs : List (Str × Value)) (ep : Nat) (es : Array DictEntry) (od : Obj) (hx : od.ExactDict ∧ od.data = .dict es ep ∧ KeysOf (PySem.strKind prog w) es ∧ Pairs (PySem.strKind prog w) es.toList kvs ∧ (kvs.map (·.1)).Nodup) :
    Itr prog w A (.Name x pos) it [it] [it] (fun z h ds => ∃ i ok ov kv, (IsItemIter h it d i kvs.length ep ok ov ∨ ∃ a f oa, KdxIt h it d i kvs.length ep ok ov a f ∧ z a = some oa ∧ a ≠ it) ∧ z d = some od ∧ IntVals (kvs.drop i) kv ∧ ds = pairsD kv) where
  sub := fun b hb => hb
  fields := fun ⟨i, ok, ov, kv, g1, _⟩ b hb => by
    rw [List.mem_singleton.mp hb]
    rcases g1 with g1 | ⟨a, f, oa, g1, _⟩
    · exact ⟨_, _, g1, rfl⟩
    · exact ⟨_, _, g1, rfl⟩
  frame := fun ⟨i, ok, ov, kv, g1, g2, g3, g4⟩ hz _ hk => ⟨i, ok, ov, kv, g1.imp (fun q => hk it (by simp) _ q) (fun ⟨a, f, oa, q1, q2, q3⟩ => ⟨a, f, oa, hk it (by simp) _ q1, hz _ _ q2, q3⟩), hz _ _ g2, g3, g4⟩
  next := fun {d' ds z s Q E} ⟨i, ok, ov, kv, g1, g2, g3, g4⟩ on hzw hQ => by
    cases kv with
    | nil => cases g4
    | cons p kv =>
      injection g4 with hd hds
      subst hd hds
      obtain ⟨t, e1, e2⟩ := intVals_drop g3
      have zn : z s.heap.objs.size = none := on.none_of_size (Nat.le_refl _)
      have fin : ∀ key h', (PySem.strKind prog w).is p.1 key = true → h'.get? s.heap.objs.size = some { cls := .type "tuple", data := .seq #[key, .int p.2 t] } → h'.objs.size = s.heap.objs.size + 1 → (∀ b o, b ≠ it → s.heap.get? b = some o → h'.get? b = some o) →
          (∃ ok ov, ∃ a f oa, KdxIt h' it d (i + 1) kvs.length ep ok ov a f ∧ (z.add s.heap.objs.size { cls := .type "tuple", data := .seq #[key, .int p.2 t] }) a = some oa ∧ a ≠ it) → Q (.ref s.heap.objs.size) { s with heap := h' } := by
        intro key h' q0 q3 q4 q5 ⟨ok', ov', q6⟩
        obtain ⟨u, rfl⟩ := Value.isStrOf_shape q0
        have keep : ∀ b o, b ∉ [it] → s.heap.get? b = some o → h'.get? b = some o := fun b o hb q => by
          simp only [List.mem_singleton] at hb
          exact q5 b o hb q
        have sz : s.heap.objs.size ≤ h'.objs.size := by rw [q4]; exact Nat.le_succ _
        exact hQ _ _ h' s.toks ((GrowI.same on hzw keep sz).freeze q3 (Nat.le_refl _) zn) (.tuple (n := 0) (Z.add_self ..) (.cons (.str _ _) (.cons (.int _ _) .nil))) ⟨i + 1, ok', ov', kv, .inr q6, Z.add_le zn _ _ g2, e2, rfl⟩
      rcases g1 with g1 | ⟨a, f, oa, g1, ga, gi⟩
      · have ne1 : s.heap.objs.size ≠ it := Nat.ne_of_gt (Heap.lt_size g1)
        exact wpAny_pyNext_items_item g1 (dictAt_of on g2 hx) e1 fun key h' q0 q1 q3 q4 q5 => ⟨_, rfl, wpAny_pure (fin key h' q0 q3 q4 q5 ⟨_, _, _, false, _, q1, Z.add_self .., ne1⟩)⟩
      · exact kdx_next_out g1 (on _ _ ga) gi (dictAt_of on g2 hx) e1 fun key h' q0 q1 q3 q4 q5 => ⟨_, rfl, wpAny_pure (fin key h' q0 q3 q4 q5 ⟨_, _, a, true, oa, q1, Z.add_le zn _ _ ga, gi⟩)⟩
  done := fun {z s Q E} ⟨i, ok, ov, kv, g1, g2, g3, g4⟩ on hzw hQ => by
    cases kv with
    | cons d' es => cases g4
    | nil =>
      have hl := intVals_length g3
      simp at hl
      rcases g1 with g1 | ⟨a, f, oa, g1, ga, gi⟩
      · exact with_size (wpAny_pyNext_items_end hh g1 (dictAt_of on g2 hx) (by simp; exact ar18 hl) fun h' he' sz => ⟨rfl, hQ h' s.toks (.same on hzw (fun b o hb q => he' b o (fun q => hb (by simp [q])) q) sz)⟩)
      · exact with_size (kdx_end_out hh g1 (dictAt_of on g2 hx) (by simp; exact ar18 hl) fun h' he' sz => ⟨rfl, hQ h' s.toks (.same on hzw (fun b o hb q => he' b o (fun q => hb (by simp [q])) q) sz)⟩)
  self := fun ⟨i, ok, ov, kv, g1, _⟩ hQ => by
    rcases g1 with g1 | ⟨a, f, oa, g1, _⟩
    · exact itemIter_self ⟨_, g1, rfl⟩ hQ
    · exact itemIter_self ⟨_, g1, rfl⟩ hQ

theorem Itr.values (hh : A.handled = none) (target : Expr) (it d : Addr) (kvs : List (Str × Value)) (ep : Nat) (es : Array DictEntry) (od : Obj) (hx : od.ExactDict ∧ od.data = .dict es ep ∧ KeysOf (PySem.strKind prog w) es ∧ Pairs (PySem.strKind prog w) es.toList kvs ∧ (kvs.map (·.1)).Nodup) :
    Itr prog w A target it [it] [it] (fun z h ds => ∃ i kv, h.IsValIter it d i kvs.length ep ∧ z d = some od ∧ IntVals (kvs.drop i) kv ∧ ds = kv.map fun p => .int p.2) where
  sub := fun b hb => hb
  fields := fun ⟨i, kv, ⟨o, g1, _, g2⟩, _⟩ b hb => by rw [List.mem_singleton.mp hb]; exact ⟨o, _, g1, g2⟩
  frame := fun ⟨i, kv, g1, g2, g3, g4⟩ hz _ hk => ⟨i, kv, let ⟨o, ho, r⟩ := g1; ⟨o, hk it (by simp) _ ho, r⟩, hz _ _ g2, g3, g4⟩
  next := fun {d' ds z s Q E} ⟨i, kv, g1, g2, g3, g4⟩ on hzw hQ => by
    cases kv with
    | nil => cases g4
    | cons p kv =>
      injection g4 with hd hds
      subst hd hds
      obtain ⟨t, e1, e2⟩ := intVals_drop g3
      refine wpAny_pyNext_values_item g1 (dictAt_of on g2 hx) e1 fun h' q1 q2 => ⟨_, rfl, ?_⟩
      obtain ⟨o, ho, hc, hd⟩ := id q1
      refine ownedGo_pure rfl ho hc hd (by decide) ?_
      exact hQ _ z h' s.toks (.same on hzw (fun b o hb e => q2.extBut b o (fun q => hb (by simp [q])) e) (Nat.le_of_eq q2.1.symm)) (.int _ _) ⟨i + 1, kv, q1, g2, e2, rfl⟩
  done := fun {z s Q E} ⟨i, kv, g1, g2, g3, g4⟩ on hzw hQ => by
    cases kv with
    | cons d' es => cases g4
    | nil =>
      refine with_size (wpAny_pyNext_values_end hh g1 (dictAt_of on g2 hx) ?_ fun h' he' sz => ⟨rfl, hQ h' s.toks (.same on hzw (fun b o hb q => he' b o (fun q => hb (by simp [q])) q) sz)⟩)
      have hl := intVals_length g3
      simp at hl
      simp
      exact ar18 hl
  self := fun ⟨i, kv, g1, _⟩ hQ => wpAny_pyIter_valiter g1 hQ
end
end Mine

namespace Mine
open PySem PySem.W PyProof.Rows PySem.Calls PySem.Spec

section
variable (prog : Program) (w : World) (hb : Heap) (mg : Str → Option Value) (P : Addr) (k : Nat)

/-- a function of the text, by the function that it computes -/
noncomputable def FnOk (f : Str) (F : List D → Option D) : Prop :=
  ∃ a o fd, mg f = some (.ref a) ∧ (f == ("__debug__" : Str)) = false ∧ hb.get? a = some o ∧ o.data = .func fd ∧
    ∀ (A : Around) (s : Shared) (z : Z) (vs : List Value) (ds : List D) (d : D) (Q : Value → Shared → Prop) (E : Value → Shared → Prop), Room k A → z.on s.heap → TabOk P z s.heap → (∀ b o, hb.get? b = some o → z b = some o) →
      Reps prog w z vs ds → F ds = some d → Goes prog w P P z s d Q → wpAny (model prog w) A (call (.ref a) vs) Q E s

/-- goes on with an iterator -/
noncomputable def ItGoes (ρ : Rho) (A : Around) (target : Expr) (L : Addr) (z : Z) (s : Shared) (ds : List D) (Q : Value → Shared → Prop) : Prop :=
  ∀ I wr fp J z' h' tk, Grow P L z s.heap z' h' → Itr prog w A target I wr fp J → J z' h' ds → (∀ b ∈ wr, s.heap.objs.size ≤ b ∧ z' b = none) → (∀ b ∈ fp, b < h'.objs.size ∧ b ≠ L ∧ b ≠ P ∧ (s.heap.objs.size ≤ b ∨ (∃ o, z' b = some o) ∨ OwnIn ρ)) → Q (.ref I) { s with heap := h', toks := tk }

structure EvOk (lc : Option Addr) (E : Ev) : Prop where
  v : ∀ {sc : Scope} {ρ : Rho} {e : Expr} {d : D}, E.v sc ρ e = some d → ∀ {A : Around} {env : Env} {s : Shared} {z : Z} {Q : Value → Shared → Prop} {Ex : Value → Shared → Prop}, Room k A → Ok prog w hb P lc z env sc ρ s.heap →
    Goes prog w P env.locals z s d Q → wpAny (model prog w) A (eval e env) Q Ex s
  t : ∀ {sc : Scope} {ρ : Rho} {e : Expr} {b : Bool}, E.t sc ρ e = some b → ∀ {A : Around} {env : Env} {s : Shared} {z : Z} {Q : Bool → Shared → Prop} {Ex : Value → Shared → Prop}, Room k A → Ok prog w hb P lc z env sc ρ s.heap →
    (∀ z' h' tk, Grow P env.locals z s.heap z' h' → Q b { s with heap := h', toks := tk }) → wpAny (model prog w) A (isTrue e env (eval e env)) Q Ex s
  it : ∀ {sc : Scope} {ρ : Rho} {target e : Expr} {ds : List D}, E.it sc ρ (isTup target) e = some ds → ∀ {A : Around} {env : Env} {s : Shared} {z : Z} {Q : Value → Shared → Prop} {Ex : Value → Shared → Prop}, Room k A → Ok prog w hb P lc z env sc ρ s.heap →
    (∃ x p, target = .Name x p) ∨ (∃ es n p, target = .Tuple es n p) → ItGoes prog w P ρ A target env.locals z s ds Q →
    wpAny (model prog w) A (eval e env) (fun x s₁ => wpAny (model prog w) A (pyIter x) Q Ex s₁) Ex s
  noStar : ∀ sc ρ e p, E.v sc ρ (.Starred e p) = none
  noSet : ∀ sc ρ es n p, E.v sc ρ (.Set es n p) = none
  noSlice : ∀ sc ρ a b c p, E.v sc ρ (.Slice a b c p) = none
end

section
variable {prog : Program} {w : World} {hb : Heap} {mg mb : Str → Option Value} {c P : Addr} {k : Nat} {lc : Option Addr} {E : Ev} {sc : Scope} {ρ : Rho} {A : Around} {env : Env} {s : Shared} {z : Z} {Q : Value → Shared → Prop} {Ex : Value → Shared → Prop}

theorem Grow.exact {L : Addr} {z z' : Z} {h h' : Heap} (g : Grow P P z h z' h') (t : TabOk P z h) : Grow P L z h z' h' where
  le := g.le
  on := g.on
  keep := fun b o _ hp e => g.keep b o hp hp e
  ns := fun m n => by
    obtain ⟨o, es, ep, e1, e2, r⟩ := n
    refine ⟨o, es, ep, g.keep _ _ ?_ ?_ e1, e2, r⟩ <;>
    · rintro rfl
      obtain ⟨ps, e⟩ := t.get
      rw [e] at e1; cases e1; cases e2
  size := g.size
  new := g.new
  tab := g.tab
theorem Goes.exact {L : Addr} {d : D} (g : Goes prog w P L z s d Q) (t : TabOk P z s.heap) : Goes prog w P P z s d Q := fun v z' h' tk gr r => g v z' h' tk (gr.exact t) r

/-- after a step -/
theorem Goes.after {L : Addr} {d : D} {z' : Z} {h' : Heap} {tk : Nat} (g : Goes prog w P L z s d Q) (gr : Grow P L z s.heap z' h') : Goes prog w P L z' { s with heap := h', toks := tk } d Q :=
  fun v z'' h'' tk' gr' r => g v z'' h'' tk' (gr.trans gr') r

theorem glob_ok {x : Str} {v : Value} {pos : Pos} (G : Glo hb mg mb c P) (ok : Ok prog w hb P lc z env sc ρ s.heap) (hx : sc.names.lookup x = some .globalImplicit) (hv : mg x = some v) (hd : (x == ("__debug__" : Str)) = false) (h : Q v s) :
    wpAny (model prog w) A (eval (.Name x pos) env) Q Ex s :=
  Name_function_global ok.eok.kind (ok.eok.glo x hx) (loadGlobal_global (by rw [ok.eok.globals]; exact G.g.keeps ok.inb) hv h) hd

theorem bi_ok {x : Str} {v : Value} {pos : Pos} (G : Glo hb mg mb c P) (ok : Ok prog w hb P lc z env sc ρ s.heap) (hx : sc.names.lookup x = some .globalImplicit) (hf : mg x = none) (hn : x ≠ "__name__") (hv : bootBuiltins x = some v) (hd : (x == ("__debug__" : Str)) = false) (h : Q v s) :
    wpAny (model prog w) A (eval (.Name x pos) env) Q Ex s :=
  Name_function_global ok.eok.kind (ok.eok.glo x hx) (loadGlobal_builtin (by rw [ok.eok.globals]; exact G.g.keeps ok.inb) hf (by rw [ok.eok.builtins]; exact G.b.keeps ok.inb) ((G.bi x hn).trans hv) h) hd

theorem exprs_ok (O : EvOk prog w hb P k lc E) (hA : Room k A) {pos : Pos} : ∀ {es : List Expr} {ds : List D} {s : Shared} {z : Z} {Q : List Value → Shared → Prop}, mapO (E.v sc ρ) es = some ds → Ok prog w hb P lc z env sc ρ s.heap →
    (∀ vs z' h' tk, Grow P env.locals z s.heap z' h' → Reps prog w z' vs ds → Q vs { s with heap := h', toks := tk }) → wpAny (model prog w) A (spliced (backTo pos (starEach es env))) Q Ex s
  | [], ds, s, z, Q, e, ok, h => by
    simp [mapO] at e; subst e
    exact wpAny_items_nil (h [] z s.heap s.toks (.refl ok.on) .nil)
  | x :: es, ds, s, z, Q, e, ok, h => by
    simp only [mapO] at e
    split at e
    · cases e
    · rename_i d hd
      split at e
      · cases e
      · rename_i ds' hds
        cases e
        refine wpAny_items_cons (O.v hd hA ok fun v z' h' tk g r => ?_) ?_
        · exact exprs_ok O hA (s := { s with heap := h', toks := tk }) hds (ok.grow g) fun vs z'' h'' tk' g' rs => h _ z'' h'' tk' (g.trans g') (.cons (r.mono g'.le) rs)
        · cases x <;> first | rfl | (rw [O.noStar] at hd; cases hd)


/-- the arguments of a call -/
theorem args_ok (O : EvOk prog w hb P k lc E) (hA : Room k A) {pos : Pos} {f : Value} {es : List Expr} {ds : List D} {Q : Args → Shared → Prop} (e : mapO (E.v sc ρ) es = some ds) (ok : Ok prog w hb P lc z env sc ρ s.heap)
    (h : ∀ vs z' h' tk, Grow P env.locals z s.heap z' h' → Reps prog w z' vs ds → Q ⟨vs, []⟩ { s with heap := h', toks := tk }) : wpAny (model prog w) A (evalArgs f true (backTo pos (starEach es env)) []) Q Ex s := by
  cases es with
  | nil =>
    simp [mapO] at e; subst e
    exact PySem.evalArgs_none (h [] z s.heap s.toks (.refl ok.on) .nil)
  | cons x es =>
    have hs := exprs_ok (Ex := Ex) (pos := pos) O hA e ok (Q := fun vs s' => Q ⟨vs, []⟩ s') h
    have : starEach (x :: es) env = (false, eval x env) :: starEach es env := by
      simp only [mapO] at e
      split at e
      · cases e
      · rename_i d hd
        cases x <;> first | rfl | (rw [O.noStar] at hd; cases hd)
    rw [this] at hs ⊢
    exact evalArgs_plain hs

theorem fn_ok (G : Glo hb mg mb c P) (O : EvOk prog w hb P k lc E) (hA : Room k A) (ok : Ok prog w hb P lc z env sc ρ s.heap) {f : Str} {F : List D → Option D} {args : List Expr} {ds : List D} {d : D} {p pos : Pos} (hF : FnOk prog w hb mg P k f F)
    (hg : sc.names.lookup f = some .globalImplicit) (ha : mapO (E.v sc ρ) args = some ds) (hr : F ds = some d) (g : Goes prog w P env.locals z s d Q) :
    wpAny (model prog w) A (eval (.Call (.Name f p) args [] pos) env) Q Ex s := by
  obtain ⟨a, o, fd, h1, h2, h3, h4, spec⟩ := hF
  show wpAny _ _ (eval (.Name f p) env >>= fun v => callWith pos v [] (backTo pos (starEach args env)) (backToKw pos (keywordEach [] env))) _ _ _
  refine wpAny_bind (glob_ok G ok hg h1 h2 ?_)
  refine callWith_function (o := o) (fd := fd) (args_ok O hA ha ok fun vs z' h' tk gr rs => ⟨⟨(ok.grow gr).inb _ _ h3, h4⟩, ?_⟩)
  exact spec A { s with heap := h', toks := tk } z' vs ds d Q Ex hA gr.on (gr.tab ok.tab) (ok.grow gr).base rs hr ((g.after gr).exact (gr.tab ok.tab))
end
end Mine

namespace Mine
open PySem PySem.W PyProof.Rows PySem.Calls PySem.Spec

theorem rangeFrom_up : ∀ (n : Nat) (x : Nat), rangeFrom (x : Int) 1 n = (List.range' x n).map fun (i : Nat) => D.int (i : Int)
  | 0, x => rfl
  | n + 1, x => by
    rw [rangeFrom, List.range'_succ, List.map_cons]
    have := rangeFrom_up n (x + 1)
    rw [show ((x + 1 : Nat) : Int) = (x : Int) + 1 by exact ar24] at this
    rw [this]
theorem rangeFrom_down : ∀ (n : Nat), rangeFrom ((n : Int) - 1) (-1) n = ((List.range n).map fun (i : Nat) => D.int (i : Int)).reverse
  | 0 => rfl
  | n + 1 => by
    rw [rangeFrom, List.range_succ, List.map_append, List.reverse_append]
    have := rangeFrom_down n
    rw [show (((n + 1 : Nat) : Int) - 1 + -1) = (n : Int) - 1 by exact ar23, this, show (((n + 1 : Nat) : Int) - 1) = (n : Int) by exact ar20]
    rfl
theorem enumFrom_zip : ∀ (ds : List D) (i : Nat), enumFrom i ds = ((List.range' i ds.length).zip ds).map fun (p : Nat × D) => D.tuple [.int (p.1 : Int), p.2]
  | [], i => rfl
  | d :: ds, i => by rw [enumFrom, List.length_cons, List.range'_succ, List.zip_cons_cons, List.map_cons, enumFrom_zip ds (i + 1)]

section
variable {prog : Program} {w : World} {A : Around} {E : Value → Shared → Prop} {s : Shared}

theorem sub_ri_reversed : isSubtype (.type "range_iterator") (.type "reversed") = pure false := by rw [isSubtype_type]; kernel_rfl

theorem rangeSize_up (n : Nat) : Builtin.Range.rangeSize 0 (n : Int) 1 = (n : Int) := by rw [rangeSize_one]; split <;> omega

theorem call_range_reversed {r : Addr} {n : Nat} {t u v : Tok} {Q : Value → Shared → Prop} (hr : IsRange s.heap r 0 (n : Int) 1 t u v) (hn : n ≤ 1000)
    (h : Q (.ref s.heap.objs.size) { s with heap := s.heap.push { cls := .type "range_iterator", data := .fields #[rawInt ((n : Int) - 1), rawInt n, rawInt (-1)] } }) : wpAny (model prog w) A (call (.builtin "range.__reversed__") [.ref r]) Q E s := by
  refine wpAny_call_entry PySem.F.slot_range_reversed ⟨_, hr, rfl⟩ PySem.F.entry_range_reversed ?_ (PySem.F.args_range_reversed_1 _)
  unfold Builtin.«range.__reversed__»
  refine wpAny_bind (wpAny_of_eq (a := Value.ref r) rfl ?_)
  refine wpAny_bind ?_
  have hf : wpAny (model prog w) A.in1 (Builtin.Range.rangeFields (.ref r)) (fun x s' => x = ((0 : Int), (n : Int), (1 : Int)) ∧ s' = s) E s := by
    unfold Builtin.Range.rangeFields
    refine wpAny_bind (wpAny_field hr rfl (x := .int 0 t) rfl (wpAny_bind (wpAny_pure ?_)))
    refine wpAny_bind (wpAny_field hr rfl (x := .int n u) rfl (wpAny_bind (wpAny_pure ?_)))
    refine wpAny_bind (wpAny_field hr rfl (x := .int 1 v) rfl (wpAny_bind (wpAny_pure ?_)))
    exact wpAny_pure ⟨rfl, rfl⟩
  refine wpAny_mono hf (fun x s' hx => ?_) fun _ _ e => e
  obtain ⟨rfl, rfl⟩ := hx
  have hz := rangeSize_up n
  show wpAny _ _ (if (!(Builtin.Range.rangeFitsLong 0 && Builtin.Range.rangeFitsLong n && Builtin.Range.rangeFitsLong 1 && Builtin.Range.rangeFitsLong (-1) && Builtin.Range.rangeFitsLong (0 - 1) && Builtin.Range.rangeFitsLong (Builtin.Range.rangeSize 0 n 1))) = true then _ else _) _ _ _
  have hs : (Builtin.Range.rangeFitsLong 0 && Builtin.Range.rangeFitsLong n && Builtin.Range.rangeFitsLong 1 && Builtin.Range.rangeFitsLong (-1) && Builtin.Range.rangeFitsLong (0 - 1) && Builtin.Range.rangeFitsLong (Builtin.Range.rangeSize 0 n 1)) = true := by
    rw [hz]
    simp only [Builtin.Range.rangeFitsLong, Bool.and_eq_true, decide_eq_true_eq]
    omega
  rw [hs, if_neg (by decide)]
  refine wpAny_bind ?_
  rw [hz, if_pos rfl]
  refine wpAny_newObj_type (wpAny_pure ⟨_, rfl, ?_⟩)
  have e : (0 : Int) + ((n : Int) - 1) * 1 = (n : Int) - 1 := by exact ar22
  rw [e]
  exact h

theorem code_reversed_new' {r : Addr} {n : Nat} {t u v : Tok} {Q₁ : Value → Shared → Prop} (hr : IsRange s.heap r 0 (n : Int) 1 t u v) (hn : n ≤ 1000)
    (h : Q₁ (.ref s.heap.objs.size) { s with heap := s.heap.push { cls := .type "range_iterator", data := .fields #[rawInt ((n : Int) - 1), rawInt n, rawInt (-1)] } }) :
    codeAny (model prog w) A (.call (.builtin "reversed.__new__") ⟨[.type "reversed", .ref r], []⟩) (wants Q₁ E) s := by
  have hT : s.TypeIs (.ref r) "range" := ⟨_, hr, rfl⟩
  refine codeAny_of_tree ?_
  show wpAny _ A.in1 (do checkBuiltinCall "reversed.__new__" ⟨[.type "reversed", .ref r], []⟩; again (.builtin "reversed.__new__" ⟨[.type "reversed", .ref r], []⟩)) _ _ s
  refine wpAny_bind (wpAny_of_eq (PySem.F.newCall_reversed_1 _) (wpAny_pure ⟨plainId_quiet PySem.F.plain_reversed_new _, codeAny_builtin PySem.F.entry_reversed_new ?_⟩))
  rw [Around.under_plainId PySem.F.plain_reversed_new _]
  unfold Builtin.«reversed.__new__»
  refine wpAny_bind (wpAny_of_eq (newClass_reversed _) ?_)
  try dsimp only
  refine wpAny_bind (wpAny_of_eq (a := ()) (by first | rfl | kernel_rfl) ?_)
  refine wpAny_bind (wpAny_of_eq (a := ()) (by first | rfl | kernel_rfl) ?_)
  try dsimp only
  refine wpAny_bind (wpAny_specialOf hT PySem.F.slot_range_reversed.lookup ?_)
  try dsimp only
  refine wpAny_bind (wpAny_of_eq (PySem.F.slot_range_reversed.bind _) ?_)
  try dsimp only
  first
  | rw [if_neg (show ¬ ((Value.builtin "range.__reversed__" == Value.none) = true) from Bool.false_ne_true)]
  | (show wpAny _ _ (if (Value.builtin "range.__reversed__" == Value.none) = true then _ else _) _ _ _; rw [if_neg (show ¬ ((Value.builtin "range.__reversed__" == Value.none) = true) from Bool.false_ne_true)])
  refine wpAny_bind (wpAny_rule ?_)
  refine wpAny_bind (m := runValue (.call (.builtin "range.__reversed__") ⟨[.ref r], []⟩)) (show wpAny _ _ (call (.builtin "range.__reversed__") [.ref r]) _ _ _ from call_range_reversed hr hn ?_)
  first
  | exact wpAny_pure h
  | exact wpAny_bind (wpAny_pure (wpAny_pure h))

theorem call_reversed_range {r : Addr} {n : Nat} {t u v : Tok} {Q : Value → Shared → Prop} (hr : IsRange s.heap r 0 (n : Int) 1 t u v) (hn : n ≤ 1000)
    (h : Q (.ref s.heap.objs.size) { s with heap := s.heap.push { cls := .type "range_iterator", data := .fields #[rawInt ((n : Int) - 1), rawInt n, rawInt (-1)] } }) : wpAny (model prog w) A (call (.type "reversed") [.ref r]) Q E s := by
  refine callType_other (U := "range_iterator") (Q₁ := fun obj s₁ => obj = .ref s.heap.objs.size ∧ s₁ = { s with heap := s.heap.push { cls := .type "range_iterator", data := .fields #[rawInt ((n : Int) - 1), rawInt n, rawInt (-1)] } }) (by decide +kernel) PySem.F.create_reversed ⟨_, _, PySem.F.mro_reversed⟩ PySem.F.made_reversed sub_ri_reversed (PySem.F.typeCall_reversed_1 _) (code_reversed_new' hr hn ⟨rfl, rfl⟩) ?_
  rintro obj s₁ ⟨rfl, rfl⟩
  exact ⟨⟨_, Heap.get?_push_size _ rfl, rfl⟩, h⟩
end
end Mine

namespace Mine
open PySem PySem.W PyProof.Rows PySem.Calls PySem.Spec

section
variable {prog : Program} {w : World} {hb : Heap} {mg mb : Str → Option Value} {c P : Addr} {k : Nat} {lc : Option Addr} {E : Ev} {sc : Scope} {ρ : Rho} {A : Around} {env : Env} {s : Shared} {z : Z} {Q : Value → Shared → Prop} {Ex : Value → Shared → Prop}

theorem name_ok {x : Str} {p : Pos} {d : D} (ok : Ok prog w hb P lc z env sc ρ s.heap) (hx : ρ.lookup x = some (.val d)) (g : Goes prog w P env.locals z s d Q) : wpAny (model prog w) A (eval (.Name x p) env) Q Ex s := by
  obtain ⟨v, l, r⟩ := ok.vars x _ hx
  exact wpAny_Name (load_var ok.eok.kind l (ok.names x _ hx).2 (g.here ok.on (tk := s.toks) r)) (ok.names x _ hx).1

theorem borrow_ok2 (O : EvOk prog w hb P k lc E) (hA : Room k A) {e : Expr} {d : D} (h : borrow E.v sc ρ e = some d) (ok : Ok prog w hb P lc z env sc ρ s.heap)
    (hQ : ∀ v z' h' tk, Grow P env.locals z s.heap z' h' → Bor prog w z' h' v d → (Rep prog w z' v d ∨ OwnIn ρ) → Q v { s with heap := h', toks := tk }) : wpAny (model prog w) A (eval e env) Q Ex s := by
  have gen : E.v sc ρ e = some d → wpAny (model prog w) A (eval e env) Q Ex s := fun h => O.v h hA ok fun v z' h' tk g r => hQ v z' h' tk g (.inl r) (.inl r)
  unfold borrow at h
  cases he : isNm e with
  | some x =>
    rw [he] at h
    obtain ⟨p, rfl⟩ := isNm_inv he
    rcases anyB_inv h with hx | hx
    · exact name_ok ok hx fun v z' h' tk g r => hQ v z' h' tk g (.inl r) (.inl r)
    · obtain ⟨a, l, h1, h2, r⟩ := ok.vars x _ hx
      exact wpAny_Name (load_var ok.eok.kind l (ok.names x _ hx).2 (hQ _ z s.heap s.toks (.refl ok.on) (.inr ⟨a, rfl, r⟩) (.inr ⟨x, _, hx⟩))) (ok.names x _ hx).1
  | none =>
    rw [he] at h
    exact gen h
theorem borrow_ok (O : EvOk prog w hb P k lc E) (hA : Room k A) {e : Expr} {d : D} (h : borrow E.v sc ρ e = some d) (ok : Ok prog w hb P lc z env sc ρ s.heap)
    (hQ : ∀ v z' h' tk, Grow P env.locals z s.heap z' h' → Bor prog w z' h' v d → Q v { s with heap := h', toks := tk }) : wpAny (model prog w) A (eval e env) Q Ex s :=
  borrow_ok2 O hA h ok fun v z' h' tk g r _ => hQ v z' h' tk g r

theorem borrow_star (O : EvOk prog w hb P k lc E) {e : Expr} {d : D} (h : borrow E.v sc ρ e = some d) : starEach [e] env = [(false, eval e env)] := by
  cases e <;> first | rfl | (have h : E.v sc ρ _ = some d := h; rw [O.noStar] at h; cases h)
theorem v_star (O : EvOk prog w hb P k lc E) {e : Expr} {d : D} (h : E.v sc ρ e = some d) : starEach [e] env = [(false, eval e env)] := by
  cases e <;> first | rfl | (rw [O.noStar] at h; cases h)

theorem call1_b {f : Str} {id : String} {a : Expr} {p pos : Pos} (G : Glo hb mg mb c P) (ok : Ok prog w hb P lc z env sc ρ s.heap) (hx : sc.names.lookup f = some .globalImplicit) (hf : mg f = none) (hn : f ≠ "__name__") (hv : bootBuiltins f = some (.builtin id)) (hd : (f == ("__debug__" : Str)) = false)
    (hs : starEach [a] env = [(false, eval a env)]) (h : wpAny (model prog w) A (eval a env) (fun v s₁ => wpAny (model prog w) A (call (.builtin id) [v]) Q Ex s₁) Ex s) :
    wpAny (model prog w) A (eval (.Call (.Name f p) [a] [] pos) env) Q Ex s := by
  show wpAny _ _ (eval (.Name f p) env >>= fun v => callWith pos v [] (backTo pos (starEach [a] env)) (backToKw pos (keywordEach [] env))) _ _ _
  refine wpAny_bind (bi_ok G ok hx hf hn hv hd ?_)
  rw [hs]
  exact callWith_builtin rfl (evalArgs_plain (spliced_cons (wpAny_mono h (fun v s₁ h₁ => spliced_nil h₁) fun _ _ e => e)))
theorem call1_t {f : Str} {T : String} {a : Expr} {p pos : Pos} (G : Glo hb mg mb c P) (ok : Ok prog w hb P lc z env sc ρ s.heap) (hx : sc.names.lookup f = some .globalImplicit) (hf : mg f = none) (hn : f ≠ "__name__") (hv : bootBuiltins f = some (.type T)) (hd : (f == ("__debug__" : Str)) = false)
    (hs : starEach [a] env = [(false, eval a env)]) (h : wpAny (model prog w) A (eval a env) (fun v s₁ => wpAny (model prog w) A (call (.type T) [v]) Q Ex s₁) Ex s) :
    wpAny (model prog w) A (eval (.Call (.Name f p) [a] [] pos) env) Q Ex s := by
  show wpAny _ _ (eval (.Name f p) env >>= fun v => callWith pos v [] (backTo pos (starEach [a] env)) (backToKw pos (keywordEach [] env))) _ _ _
  refine wpAny_bind (bi_ok G ok hx hf hn hv hd ?_)
  rw [hs]
  exact PyProof.Rows.callWith_type rfl (evalArgs_plain (spliced_cons (wpAny_mono h (fun v s₁ h₁ => spliced_nil h₁) fun _ _ e => e)))

theorem boot_len : bootBuiltins (Str.ofString "len") = some (.builtin "len") := by decide +kernel
theorem boot_sum : bootBuiltins (Str.ofString "sum") = some (.builtin "sum") := by decide +kernel
theorem boot_list : bootBuiltins (Str.ofString "list") = some (.type "list") := by decide +kernel
theorem boot_isi : bootBuiltins (Str.ofString "isinstance") = some (.builtin "isinstance") := by decide +kernel
theorem boot_tuple : bootBuiltins (Str.ofString "tuple") = some (.type "tuple") := by decide +kernel
theorem boot_sorted : bootBuiltins (Str.ofString "sorted") = some (.builtin "sorted") := by decide +kernel
theorem boot_range : bootBuiltins (Str.ofString "range") = some (.type "range") := by decide +kernel
theorem boot_enum : bootBuiltins (Str.ofString "enumerate") = some (.type "enumerate") := by decide +kernel
theorem boot_rev : bootBuiltins (Str.ofString "reversed") = some (.type "reversed") := by decide +kernel

theorem glob_lookup {f : Str} (h : isGlob sc f = true) : sc.names.lookup f = some .globalImplicit := by simpa [isGlob] using h

/-- the base of a method's call -/
theorem mOk_base {b : Expr} {ap p : Pos} {nm : Str} {t : Sem Value} (h : mOk b ap p = true) : attributeBase b nm env t = t ∧ (ap.endLine == p.line) = true := by
  unfold mOk at h
  rw [Bool.and_eq_true] at h
  refine ⟨?_, h.1⟩
  cases b <;> first | rfl | simp at h

theorem items_view {b : Expr} {ap p : Pos} {kv : List (Str × Int)} (O : EvOk prog w hb P k lc E) (hA : Room k A) (hm : mOk b ap p = true) (hd : E.v sc ρ b = some (.dict kv)) (ok : Ok prog w hb P lc z env sc ρ s.heap)
    (h : ∀ r a o kvs z' h' tk, Grow P env.locals z s.heap z' h' → h'.get? r = some { cls := .type "dict_items", data := .fields #[.ref a] } → s.heap.objs.size ≤ r → z' a = some o → o.IsDictOf (PySem.strKind prog w) kvs → IntVals kvs kv → Q (.ref r) { s with heap := h', toks := tk }) :
    wpAny (model prog w) A (eval (.Call (.Attribute b (Str.ofString "items") ap) [] [] p) env) Q Ex s := by
  obtain ⟨hb1, hb2⟩ := mOk_base (env := env) (nm := Str.ofString "items") (t := eval b env) hm
  refine wpAny_Call_method0_late hb1 hb2 (O.v hd hA ok fun v z' h' tk g r => ?_)
  cases r with
  | @dict a o kvs kv ha hs hx hi =>
    have hdo : h'.DictOf (PySem.strKind prog w) a kvs := Heap.dictOf_iff.mpr ⟨_, g.on _ _ ha, hx⟩
    refine ⟨"dict", "dict.items", PySem.F.plainAttrs_dict, PySem.F.slot_dict_items, PySem.F.type_dict_items, Heap.DictOf.typeIs (s := { s with heap := h', toks := tk }) hdo, hdo.mapOf.noDict, ?_⟩
    refine method_meetsIn (s := { s with heap := h', toks := tk }) PySem.F.slot_dict_items PySem.F.entry_dict_items rfl (PySem.evalArgs_none ⟨rfl, Heap.DictOf.typeIs (s := { s with heap := h', toks := tk }) hdo, PySem.F.args_dict_items_1 _, _, meets_dict_items (PySem.strKind prog w) a hs, ⟨kvs, hdo⟩, ?_⟩)
    exact h _ a o kvs z' _ tk (g.trans (.push g.on _)) (Heap.get?_push_size _ rfl) g.size ha hx hi

theorem values_view {b : Expr} {ap p : Pos} {kv : List (Str × Int)} (O : EvOk prog w hb P k lc E) (hA : Room k A) (hm : mOk b ap p = true) (hd : E.v sc ρ b = some (.dict kv)) (ok : Ok prog w hb P lc z env sc ρ s.heap)
    (h : ∀ r a o kvs z' h' tk, Grow P env.locals z s.heap z' h' → h'.get? r = some { cls := .type "dict_values", data := .fields #[.ref a] } → s.heap.objs.size ≤ r → z' a = some o → o.IsDictOf (PySem.strKind prog w) kvs → IntVals kvs kv → Q (.ref r) { s with heap := h', toks := tk }) :
    wpAny (model prog w) A (eval (.Call (.Attribute b (Str.ofString "values") ap) [] [] p) env) Q Ex s := by
  obtain ⟨hb1, hb2⟩ := mOk_base (env := env) (nm := Str.ofString "values") (t := eval b env) hm
  refine wpAny_Call_method0_late hb1 hb2 (O.v hd hA ok fun v z' h' tk g r => ?_)
  cases r with
  | @dict a o kvs kv ha hs hx hi =>
    have hdo : h'.DictOf (PySem.strKind prog w) a kvs := Heap.dictOf_iff.mpr ⟨_, g.on _ _ ha, hx⟩
    refine ⟨"dict", "dict.values", PySem.F.plainAttrs_dict, PySem.F.slot_dict_values, PySem.F.type_dict_values, Heap.DictOf.typeIs (s := { s with heap := h', toks := tk }) hdo, hdo.mapOf.noDict, ?_⟩
    refine method_meetsIn (s := { s with heap := h', toks := tk }) PySem.F.slot_dict_values PySem.F.entry_dict_values rfl (PySem.evalArgs_none ⟨rfl, Heap.DictOf.typeIs (s := { s with heap := h', toks := tk }) hdo, PySem.F.args_dict_values_1 _, _, meets_dict_values (PySem.strKind prog w) a hs, ⟨kvs, hdo⟩, ?_⟩)
    exact h _ a o kvs z' _ tk (g.trans (.push g.on _)) (Heap.get?_push_size _ rfl) g.size ha hx hi

theorem listC_ok (G : Glo hb mg mb c P) (O : EvOk prog w hb P k lc E) (hA : Room k A) (ok : Ok prog w hb P lc z env sc ρ s.heap) (hx : sc.names.lookup (Str.ofString "list") = some .globalImplicit) {a : Expr} {d : D} {p pos : Pos}
    (h : evListC E sc ρ a = some d) (g : Goes prog w P env.locals z s d Q) : wpAny (model prog w) A (eval (.Call (.Name (Str.ofString "list") p) [a] [] pos) env) Q Ex s := by
  unfold evListC at h
  cases hm : isMeth0 a with
  | some y =>
    rw [hm] at h
    obtain ⟨hc, h⟩ := ite_some h
    rw [Bool.and_eq_true, beq_iff_eq] at hc
    obtain ⟨da, hd, h⟩ := obind_some h
    obtain ⟨kv, hkv, h⟩ := obind_some h
    obtain ⟨hl, h⟩ := ite_some h
    cases h
    rw [dictOf_inv hkv] at hd
    rw [isMeth0_inv hm, hc.1]
    refine call1_t G ok hx (G.free "list" (by simp)) (by decide +kernel) boot_list (by decide +kernel) rfl (items_view O hA hc.2 hd ok fun r a o kvs z' h' tk gr hr hrs ha hx hi => ?_)
    exact items_ok (s := { s with heap := h', toks := tk }) gr.on hA.handled ⟨_, hr, rfl, rfl⟩ (Heap.dictOf_iff.mpr ⟨_, gr.on _ _ ha, hx⟩) hi (dec_t hl) (g.after gr)
  | none =>
    rw [hm] at h
    obtain ⟨da, hd, h⟩ := obind_some h
    obtain ⟨ds, hds, h⟩ := obind_some h
    obtain ⟨hl, h⟩ := ite_some h
    cases h
    rw [tupOf_inv hds] at hd
    refine call1_t G ok hx (G.free "list" (by simp)) (by decide +kernel) boot_list (by decide +kernel) (v_star O hd) (O.v hd hA ok fun v z' h' tk gr r => ?_)
    exact listOf_ok (s := { s with heap := h', toks := tk }) gr.on r (dec_t hl) (g.after gr)

theorem evCall_ok {T : Tabs} (G : Glo hb mg mb c P) (hT : ∀ f F, T.pure f = some F → FnOk prog w hb mg P k f F) (O : EvOk prog w hb P k lc E) (hA : Room k A) (ok : Ok prog w hb P lc z env sc ρ s.heap) {f : Str} {args : List Expr} {d : D} {p pos : Pos}
    (h : evCall T E sc ρ f args = some d) (g : Goes prog w P env.locals z s d Q) : wpAny (model prog w) A (eval (.Call (.Name f p) args [] pos) env) Q Ex s := by
  obtain ⟨hg, h⟩ := ite_some h
  have hx := glob_lookup hg
  rcases ite_or h with ⟨hf, h⟩ | ⟨_, h⟩
  · obtain rfl := beq_iff_eq.mp hf
    obtain ⟨a, ha, h⟩ := obind_some h
    obtain ⟨da, h1, h2⟩ := obind_some h
    rw [one_inv ha]
    refine call1_b G ok hx (G.free "len" (by simp)) (by decide +kernel) boot_len (by decide +kernel) (borrow_star O h1) (borrow_ok O hA h1 ok fun v z' h' tk gr r => ?_)
    exact len_ok (s := { s with heap := h', toks := tk }) h2 gr.on r (g.after gr)
  rcases ite_or h with ⟨hf, h⟩ | ⟨_, h⟩
  · obtain rfl := beq_iff_eq.mp hf
    obtain ⟨a, ha, h⟩ := obind_some h
    obtain ⟨da, h1, h2⟩ := obind_some h
    rw [one_inv ha]
    refine call1_b G ok hx (G.free "sum" (by simp)) (by decide +kernel) boot_sum (by decide +kernel) (v_star O h1) (O.v h1 hA ok fun v z' h' tk gr r => ?_)
    exact sum_ok (s := { s with heap := h', toks := tk }) h2 gr.on hA.handled r (g.after gr)
  rcases ite_or h with ⟨hf, h⟩ | ⟨_, h⟩
  · obtain rfl := beq_iff_eq.mp hf
    obtain ⟨a, ha, h⟩ := obind_some h
    rw [one_inv ha]
    exact listC_ok G O hA ok hx h g
  rcases ite_or h with ⟨hf, h⟩ | ⟨_, h⟩
  · obtain rfl := beq_iff_eq.mp hf
    obtain ⟨⟨a, e⟩, ha, h⟩ := obind_some h
    obtain ⟨cn, hcn, h⟩ := obind_some h
    obtain ⟨cp, rfl⟩ := isNm_inv hcn
    obtain ⟨hc, h⟩ := ite_some h
    obtain ⟨da, hd, h⟩ := obind_some h
    obtain ⟨i, hi, h⟩ := obind_some h
    cases h
    rw [Bool.and_eq_true, beq_iff_eq] at hc
    obtain ⟨rfl, hc2⟩ := hc
    rw [two_inv ha]
    rw [intOf_inv hi] at hd
    show wpAny _ _ (eval (.Name (Str.ofString "isinstance") p) env >>= fun v => callWith pos v [] (backTo pos (starEach [a, .Name (Str.ofString "tuple") cp] env)) (backToKw pos (keywordEach [] env))) _ _ _
    refine wpAny_bind (bi_ok G ok hx (G.free "isinstance" (by simp)) (by decide +kernel) boot_isi (by decide +kernel) ?_)
    have hs : starEach [a, .Name (Str.ofString "tuple") cp] env = [(false, eval a env), (false, eval (.Name (Str.ofString "tuple") cp) env)] := by
      cases a <;> first | rfl | (rw [O.noStar] at hd; cases hd)
    rw [hs]
    refine callWith_builtin rfl (evalArgs_plain (spliced_cons (O.v hd hA ok fun v z' h' tk gr r => spliced_cons (bi_ok (s := { s with heap := h', toks := tk }) G (ok.grow gr) (glob_lookup hc2) (G.free "tuple" (by simp)) (by decide +kernel) boot_tuple (by decide +kernel) (spliced_nil ?_)))))
    obtain ⟨_, rfl⟩ := r.int_inv
    exact PySem.IsiPair.int_tuple (g.after gr |>.here gr.on (.bool false))
  obtain ⟨F, hF, h⟩ := obind_some h
  obtain ⟨ds, h1, h2⟩ := obind_some h
  exact fn_ok G O hA ok (hT f F hF) hx h1 h2 g
end
end Mine

namespace Mine
open PySem PySem.W PyProof.Rows PySem.Calls PySem.Spec

section
variable {prog : Program} {w : World} {hb : Heap} {mg mb : Str → Option Value} {c P : Addr} {k : Nat} {lc : Option Addr} {E : Ev} {sc : Scope} {ρ : Rho} {A : Around} {env : Env} {s : Shared} {z : Z} {Q : Value → Shared → Prop} {Ex : Value → Shared → Prop} {target : Expr}


theorem Ok.lt_locals (ok : Ok prog w hb P lc z env sc ρ s.heap) : env.locals < s.heap.objs.size := let ⟨_, n⟩ := ok.ns; n.lt
theorem Ok.lt_tab (ok : Ok prog w hb P lc z env sc ρ s.heap) : P < s.heap.objs.size := let ⟨_, e⟩ := ok.tab.get; Heap.lt_size e

/-- an address of the heap's own data is neither the frame nor the table -/
theorem Ok.ne_list (ok : Ok prog w hb P lc z env sc ρ s.heap) {a : Addr} {vs : List Value} {n : Nat} (e : s.heap.get? a = some (lob vs n)) : a ≠ env.locals ∧ a ≠ P := by
  constructor
  · rintro rfl
    obtain ⟨m, o, es, ep, e1, e2, _⟩ := ok.ns
    rw [e] at e1; cases e1; cases e2
  · rintro rfl
    obtain ⟨ps, q⟩ := ok.tab.get
    rw [e] at q; cases q

theorem list_it (hA : Room k A) (ok : Ok prog w hb P lc z env sc ρ s.heap) {v : Value} {ds : List D} (rb : Bor prog w z s.heap v (.list ds)) (ro : Rep prog w z v (.list ds) ∨ OwnIn ρ) (h : ItGoes prog w P ρ A target env.locals z s ds Q) : wpAny (model prog w) A (pyIter v) Q Ex s := by
  obtain ⟨a, vs, n, rfl, ha, rs⟩ := rb.list ok.on
  have hl : s.heap.IsList a vs.toArray := ⟨_, ha, rfl, _, rfl⟩
  have hne : a ≠ s.heap.objs.size := Nat.ne_of_lt (Heap.lt_size ha)
  refine wpAny_pyIter_list hl ?_
  have on1 : z.on (s.heap.push { cls := .type "list_iterator", data := .fields #[.ref a, .int 0 0] }) := fun b o e => Heap.get?_push_of_some _ (ok.on b o e)
  refine h s.heap.objs.size [s.heap.objs.size] [s.heap.objs.size, a] _ z _ s.toks (.push ok.on _) (Itr.list hA.handled target s.heap.objs.size a hne vs n) ⟨0, ⟨_, Heap.get?_push_size _ rfl, rfl, rfl⟩, Heap.get?_push_of_some _ ha, by simpa using rs⟩ ?_ ?_
  · intro b hb
    rw [List.mem_singleton.mp hb]
    exact ⟨Nat.le_refl _, ok.on.none_of_size (Nat.le_refl _)⟩
  · intro b hb
    rw [Heap.size_push]
    rcases List.mem_cons.mp hb with rfl | hb
    · exact ⟨Nat.lt_succ_self _, Nat.ne_of_gt ok.lt_locals, Nat.ne_of_gt ok.lt_tab, .inl (Nat.le_refl _)⟩
    · rw [List.mem_singleton.mp hb]
      refine ⟨Nat.lt_succ_of_lt (Heap.lt_size ha), (ok.ne_list ha).1, (ok.ne_list ha).2, .inr ?_⟩
      rcases ro with r | r
      · cases r with
        | list hz _ => exact .inl ⟨_, hz⟩
      · exact .inr r

theorem ItGoes.after {L : Addr} {ds : List D} {z' : Z} {h' : Heap} {tk : Nat} (g : ItGoes prog w P ρ A target L z s ds Q) (gr : Grow P L z s.heap z' h') : ItGoes prog w P ρ A target L z' { s with heap := h', toks := tk } ds Q :=
  fun I wr fp J z'' h'' tk' gr' W j h1 h2 => g I wr fp J z'' h'' tk' (gr.trans gr') W j (fun b hb => ⟨Nat.le_trans gr.size (h1 b hb).1, (h1 b hb).2⟩) fun b hb => let ⟨q1, q2, q3, q4⟩ := h2 b hb; ⟨q1, q2, q3, q4.imp_left fun q => Nat.le_trans gr.size q⟩

theorem evList_ok (O : EvOk prog w hb P k lc E) (hA : Room k A) (ok : Ok prog w hb P lc z env sc ρ s.heap) {e : Expr} {ds : List D} (h : evList E sc ρ e = some ds) (g : ItGoes prog w P ρ A target env.locals z s ds Q) :
    wpAny (model prog w) A (eval e env) (fun x s₁ => wpAny (model prog w) A (pyIter x) Q Ex s₁) Ex s := by
  obtain ⟨d, hd, h⟩ := obind_some h
  rw [listOf_inv h] at hd
  exact borrow_ok2 O hA hd ok fun v z' h' tk gr r ro => list_it (s := { s with heap := h', toks := tk }) hA (ok.grow gr) r ro (g.after gr)

theorem range_it (hA : Room k A) (ok : Ok prog w hb P lc z env sc ρ s.heap) {n : Nat} {t u v : Tok} {r : Addr} (hr : IsRange s.heap r 0 (n : Int) 1 t u v) (hn : n ≤ 1000) (h : ItGoes prog w P ρ A target env.locals z s ((List.range n).map fun (i : Nat) => D.int (i : Int)) Q) : wpAny (model prog w) A (pyIter (.ref r)) Q Ex s := by
  refine wpAny_pyIter_range hr (small_one (by decide) (by decide) (by omega) (by omega)) ?_
  rw [rangeSize_up]
  refine h s.heap.objs.size [s.heap.objs.size] [s.heap.objs.size] _ z _ s.toks (.push ok.on _) (Itr.range hA.handled target s.heap.objs.size 1) ⟨0, n, Heap.get?_push_size _ rfl, ?_⟩ ?_ ?_
  · have := rangeFrom_up n 0
    rw [show ((0 : Nat) : Int) = 0 from rfl] at this
    rw [this, List.range_eq_range']
  · intro b hb
    rw [List.mem_singleton.mp hb]
    exact ⟨Nat.le_refl _, ok.on.none_of_size (Nat.le_refl _)⟩
  · intro b hb
    rw [Heap.size_push, List.mem_singleton.mp hb]
    exact ⟨Nat.lt_succ_self _, Nat.ne_of_gt ok.lt_locals, Nat.ne_of_gt ok.lt_tab, .inl (Nat.le_refl _)⟩

theorem rangeD_of {n : Int} {ds : List D} (h : rangeD n = some ds) : ∃ m : Nat, n = (m : Int) ∧ m ≤ 1000 ∧ ds = (List.range m).map fun (i : Nat) => D.int (i : Int) := by
  unfold rangeD at h
  split at h
  · rename_i hn
    simp only [Bool.and_eq_true, decide_eq_true_eq] at hn
    cases h
    exact ⟨n.toNat, by exact ar26 hn, by exact ar25 hn, rfl⟩
  · first | exact nn h | cases h

theorem it_range (G : Glo hb mg mb c P) (O : EvOk prog w hb P k lc E) (hA : Room k A) (ok : Ok prog w hb P lc z env sc ρ s.heap) (hx : isGlob sc (Str.ofString "range") = true) {a : Expr} {n : Int} {ds : List D} {p q : Pos} (hd : E.v sc ρ a = some (.int n)) (h : rangeD n = some ds) (g : ItGoes prog w P ρ A target env.locals z s ds Q) :
    wpAny (model prog w) A (eval (.Call (.Name (Str.ofString "range") p) [a] [] q) env) (fun x s₁ => wpAny (model prog w) A (pyIter x) Q Ex s₁) Ex s := by
  obtain ⟨m, rfl, hm, rfl⟩ := rangeD_of h
  refine call1_t G ok (glob_lookup hx) (G.free "range" (by simp)) (by decide +kernel) boot_range (by decide +kernel) (v_star O hd) (O.v hd hA ok fun v z' h' tk gr r => ?_)
  obtain ⟨_, rfl⟩ := r.int_inv
  refine call_range_1 ?_
  refine range_it (target := target) (s := { s with heap := _, toks := _ }) hA ((ok.grow gr).grow (.push gr.on _)) (IsRange.new ..) hm ?_
  exact g.after (gr.trans (.push gr.on _))

theorem it_enum (G : Glo hb mg mb c P) (O : EvOk prog w hb P k lc E) (hA : Room k A) (ok : Ok prog w hb P lc z env sc ρ s.heap) (hx : isGlob sc (Str.ofString "enumerate") = true) {a : Expr} {ds' : List D} {p q : Pos} {es : List Expr} {n' : Nat} {p' : Pos} (hd : E.v sc ρ a = some (.list ds'))
    (g : ItGoes prog w P ρ A (.Tuple es n' p') env.locals z s ((List.range ds'.length).zip ds' |>.map fun (p : Nat × D) => D.tuple [.int (p.1 : Int), p.2]) Q) :
    wpAny (model prog w) A (eval (.Call (.Name (Str.ofString "enumerate") p) [a] [] q) env) (fun x s₁ => wpAny (model prog w) A (pyIter x) Q Ex s₁) Ex s := by
  refine call1_t G ok (glob_lookup hx) (G.free "enumerate" (by simp)) (by decide +kernel) boot_enum (by decide +kernel) (v_star O hd) (O.v hd hA ok fun v z' h' tk gr r => ?_)
  obtain ⟨a, vs, n, rfl, ha, rs⟩ := r.list_inv
  have ha1 : h'.get? a = some (lob vs n) := gr.on _ _ ha
  refine call_enumerate_list (s := { s with heap := h', toks := tk }) ⟨_, ha1, rfl, _, rfl⟩ fun h'' q1 q2 q3 q4 => ?_
  replace q3 : h''.objs.size = h'.objs.size + 2 := q3
  have gr2 : Grow P env.locals z s.heap z' h'' := gr.trans (.kept gr.on q4 (Nat.le_trans (Nat.le_add_right _ 2) (Nat.le_of_eq q3.symm)))
  have hlt : a < h'.objs.size := Heap.lt_size ha1
  refine wpAny_pyIter_enum q1 ?_
  refine g (h'.objs.size + 1) [h'.objs.size + 1, h'.objs.size] [h'.objs.size + 1, h'.objs.size, a] _ z' h'' tk gr2 (Itr.enum hA.handled es n' p' (h'.objs.size + 1) h'.objs.size a (Nat.succ_ne_self _) (Nat.ne_of_lt (Nat.lt_succ_of_lt hlt)) (Nat.ne_of_lt hlt) vs n) ⟨0, _, ds', q1, q2, q4 _ _ ha1, rs, ?_⟩ ?_ ?_
  · rw [enumFrom_zip, List.range_eq_range']
  · intro b hb
    rcases List.mem_cons.mp hb with rfl | hb
    · exact ⟨Nat.le_trans gr.size (Nat.le_succ _), gr.on.none_of_size (Nat.le_succ _)⟩
    · rw [List.mem_singleton.mp hb]
      exact ⟨gr.size, gr.on.none_of_size (Nat.le_refl _)⟩
  · have l1 : env.locals < h'.objs.size := Ok.lt_locals (s := { s with heap := h', toks := tk }) (ok.grow gr)
    have l2 : P < h'.objs.size := Ok.lt_tab (s := { s with heap := h', toks := tk }) (ok.grow gr)
    have l3 := Ok.ne_list (s := { s with heap := h', toks := tk }) (ok.grow gr) ha1
    intro b hb
    rw [q3]
    rcases List.mem_cons.mp hb with rfl | hb
    · exact ⟨Nat.lt_succ_self _, Nat.ne_of_gt (Nat.lt_succ_of_lt l1), Nat.ne_of_gt (Nat.lt_succ_of_lt l2), .inl (Nat.le_trans gr.size (Nat.le_succ _))⟩
    · rcases List.mem_cons.mp hb with rfl | hb
      · exact ⟨Nat.lt_succ_of_lt (Nat.lt_succ_self _), Nat.ne_of_gt l1, Nat.ne_of_gt l2, .inl gr.size⟩
      · rw [List.mem_singleton.mp hb]
        exact ⟨Nat.lt_succ_of_lt (Nat.lt_succ_of_lt hlt), l3.1, l3.2, .inr (.inl ⟨_, ha⟩)⟩

theorem it_rev (G : Glo hb mg mb c P) (O : EvOk prog w hb P k lc E) (hA : Room k A) (ok : Ok prog w hb P lc z env sc ρ s.heap) (hx : isGlob sc (Str.ofString "reversed") = true) (hx2 : isGlob sc (Str.ofString "range") = true) {a : Expr} {n : Int} {ds : List D} {p q p2 q2 : Pos} (hd : E.v sc ρ a = some (.int n)) (h : rangeD n = some ds)
    (g : ItGoes prog w P ρ A target env.locals z s ds.reverse Q) :
    wpAny (model prog w) A (eval (.Call (.Name (Str.ofString "reversed") p) [.Call (.Name (Str.ofString "range") p2) [a] [] q2] [] q) env) (fun x s₁ => wpAny (model prog w) A (pyIter x) Q Ex s₁) Ex s := by
  obtain ⟨m, rfl, hm, rfl⟩ := rangeD_of h
  refine call1_t G ok (glob_lookup hx) (G.free "reversed" (by simp)) (by decide +kernel) boot_rev (by decide +kernel) rfl ?_
  refine call1_t G ok (glob_lookup hx2) (G.free "range" (by simp)) (by decide +kernel) boot_range (by decide +kernel) (v_star O hd) (O.v hd hA ok fun v z' h' tk gr r => ?_)
  obtain ⟨tt, rfl⟩ := r.int_inv
  refine call_range_1 ?_
  refine call_reversed_range (s := { s with heap := _, toks := _ }) (IsRange.new ..) hm ?_
  refine wpAny_pyIter_rangeiter (Heap.get?_push_size _ rfl) ?_
  have gr2 : Grow P env.locals z s.heap z' _ := (gr.trans (.push gr.on { cls := .type "range", data := .fields #[.int 0 tk, .int m tt, .int 1 (tk + 1)] })).trans (.push (Grow.push (P := P) (L := env.locals) gr.on _).on { cls := .type "range_iterator", data := .fields #[rawInt ((m : Int) - 1), rawInt m, rawInt (-1)] })
  refine g _ [_] [_] _ z' _ _ gr2 (Itr.range hA.handled target _ (-1)) ⟨(m : Int) - 1, m, Heap.get?_push_size _ rfl, (rangeFrom_down m).symm⟩ ?_ ?_
  · intro b hb
    rw [List.mem_singleton.mp hb]
    exact ⟨by rw [Heap.size_push]; exact Nat.le_trans gr.size (Nat.le_succ _), gr.on.none_of_size (by rw [Heap.size_push]; exact Nat.le_succ _)⟩
  · have l1 : env.locals < h'.objs.size := Ok.lt_locals (s := { s with heap := h', toks := tk }) (ok.grow gr)
    have l2 : P < h'.objs.size := Ok.lt_tab (s := { s with heap := h', toks := tk }) (ok.grow gr)
    intro b hb
    rw [List.mem_singleton.mp hb]
    simp only [Heap.size_push]
    exact ⟨Nat.lt_succ_self _, Nat.ne_of_gt (Nat.lt_succ_of_lt l1), Nat.ne_of_gt (Nat.lt_succ_of_lt l2), .inl (Nat.le_trans gr.size (Nat.le_succ _))⟩

theorem it_items (O : EvOk prog w hb P k lc E) (hA : Room k A) (ok : Ok prog w hb P lc z env sc ρ s.heap) {b : Expr} {kv : List (Str × Int)} {ap p : Pos} (hm : mOk b ap p = true) (hd : E.v sc ρ b = some (.dict kv)) (ht : (∃ x p, target = .Name x p) ∨ (∃ es n p, target = .Tuple es n p)) (g : ItGoes prog w P ρ A target env.locals z s (pairsD kv) Q) :
    wpAny (model prog w) A (eval (.Call (.Attribute b (Str.ofString "items") ap) [] [] p) env) (fun x s₁ => wpAny (model prog w) A (pyIter x) Q Ex s₁) Ex s := by
  refine items_view O hA hm hd ok fun r a o kvs z' h' tk gr hr hrs ha hx hi => ?_
  obtain ⟨es, ep, hx⟩ := id hx
  have hdo : h'.DictAt (PySem.strKind prog w) a kvs ep := dictAt_of gr.on ha hx
  refine wpAny_pyIter_items (s := { s with heap := h', toks := tk }) ⟨_, hr, rfl, rfl⟩ hdo ?_
  have gr2 : Grow P env.locals z s.heap z' _ := gr.trans (.push gr.on { cls := .type "dict_itemiterator", data := .fields #[.none, .bool false, .ref a, .int 0 0, .int kvs.length 0, .int ep 0, .none, .none] })
  have l1 : env.locals < h'.objs.size := Ok.lt_locals (s := { s with heap := h', toks := tk }) (ok.grow gr)
  have l2 : P < h'.objs.size := Ok.lt_tab (s := { s with heap := h', toks := tk }) (ok.grow gr)
  have f1 : ∀ b ∈ [h'.objs.size], s.heap.objs.size ≤ b ∧ z' b = none := by
    intro b hb
    rw [List.mem_singleton.mp hb]
    exact ⟨gr.size, gr.on.none_of_size (Nat.le_refl _)⟩
  have f2 : ∀ b ∈ [h'.objs.size], b < (h'.push { cls := .type "dict_itemiterator", data := .fields #[.none, .bool false, .ref a, .int 0 0, .int kvs.length 0, .int ep 0, .none, .none] }).objs.size ∧ b ≠ env.locals ∧ b ≠ P ∧ (s.heap.objs.size ≤ b ∨ (∃ o, z' b = some o) ∨ OwnIn ρ) := by
    intro b hb
    rw [List.mem_singleton.mp hb, Heap.size_push]
    exact ⟨Nat.lt_succ_self _, Nat.ne_of_gt l1, Nat.ne_of_gt l2, .inl gr.size⟩
  rcases ht with ⟨x, q, rfl⟩ | ⟨es', n', q, rfl⟩
  · exact g _ _ _ _ z' _ tk gr2 (Itr.itemsN hA.handled x q h'.objs.size a kvs ep es o hx) ⟨0, _, _, kv, .inl (Heap.get?_push_size _ rfl), ha, hi, rfl⟩ f1 f2
  · exact g _ _ _ _ z' _ tk gr2 (Itr.itemsT hA.handled es' n' q h'.objs.size a kvs ep es o hx) ⟨0, _, _, kv, Heap.get?_push_size _ rfl, ha, hi, rfl⟩ f1 f2

theorem it_values (O : EvOk prog w hb P k lc E) (hA : Room k A) (ok : Ok prog w hb P lc z env sc ρ s.heap) {b : Expr} {kv : List (Str × Int)} {ap p : Pos} (hm : mOk b ap p = true) (hd : E.v sc ρ b = some (.dict kv)) (g : ItGoes prog w P ρ A target env.locals z s (kv.map fun p => .int p.2) Q) :
    wpAny (model prog w) A (eval (.Call (.Attribute b (Str.ofString "values") ap) [] [] p) env) (fun x s₁ => wpAny (model prog w) A (pyIter x) Q Ex s₁) Ex s := by
  refine values_view O hA hm hd ok fun r a o kvs z' h' tk gr hr hrs ha hx hi => ?_
  obtain ⟨es, ep, hx⟩ := id hx
  have hdo : h'.DictAt (PySem.strKind prog w) a kvs ep := dictAt_of gr.on ha hx
  refine wpAny_pyIter_values (s := { s with heap := h', toks := tk }) ⟨_, hr, rfl, rfl⟩ hdo ?_
  have gr2 : Grow P env.locals z s.heap z' _ := gr.trans (.push gr.on { cls := .type "dict_valueiterator", data := .fields #[.ref a, .int 0 0, .int kvs.length 0, .int ep 0] })
  have l1 : env.locals < h'.objs.size := Ok.lt_locals (s := { s with heap := h', toks := tk }) (ok.grow gr)
  have l2 : P < h'.objs.size := Ok.lt_tab (s := { s with heap := h', toks := tk }) (ok.grow gr)
  refine g _ [h'.objs.size] [h'.objs.size] _ z' _ tk gr2 (Itr.values hA.handled target h'.objs.size a kvs ep es o hx) ⟨0, kv, ⟨_, Heap.get?_push_size _ rfl, rfl, rfl⟩, ha, hi, rfl⟩ ?_ ?_
  · intro b hb
    rw [List.mem_singleton.mp hb]
    exact ⟨gr.size, gr.on.none_of_size (Nat.le_refl _)⟩
  · intro b hb
    rw [List.mem_singleton.mp hb, Heap.size_push]
    exact ⟨Nat.lt_succ_self _, Nat.ne_of_gt l1, Nat.ne_of_gt l2, .inl gr.size⟩

theorem evItCall_ok (G : Glo hb mg mb c P) (O : EvOk prog w hb P k lc E) (hA : Room k A) (ok : Ok prog w hb P lc z env sc ρ s.heap) {f : Str} {a : Expr} {ds : List D} {p q : Pos} (h : evItCall E sc ρ (isTup target) f a (.Call (.Name f p) [a] [] q) = some ds)
    (ht : (∃ x p, target = .Name x p) ∨ (∃ es n p, target = .Tuple es n p)) (g : ItGoes prog w P ρ A target env.locals z s ds Q) :
    wpAny (model prog w) A (eval (.Call (.Name f p) [a] [] q) env) (fun x s₁ => wpAny (model prog w) A (pyIter x) Q Ex s₁) Ex s := by
  rcases ite_or h with ⟨hf, h3⟩ | ⟨_, h3⟩
  · clear h
    rw [Bool.and_eq_true, beq_iff_eq] at hf
    obtain ⟨hg, rfl⟩ := hf
    obtain ⟨d, hd, h3⟩ := obind_some h3
    obtain ⟨n, hn, h3⟩ := obind_some h3
    exact it_range G O hA ok hg (intOf_inv hn ▸ hd) h3 g
  clear h
  rcases ite_or h3 with ⟨hf, h⟩ | ⟨_, h⟩
  · clear h3
    rw [Bool.and_eq_true, Bool.and_eq_true, beq_iff_eq] at hf
    obtain ⟨⟨hg, rfl⟩, htt⟩ := hf
    obtain ⟨d, hd, h⟩ := obind_some h
    obtain ⟨ds', hds, h⟩ := obind_some h
    cases h
    rcases ht with ⟨x, p, rfl⟩ | ⟨es, n', p', rfl⟩
    · exact absurd htt Bool.false_ne_true
    · exact it_enum G O hA ok hg (listOf_inv hds ▸ hd) g
  clear h3
  rcases ite_or h with ⟨hf, h3⟩ | ⟨_, h3⟩
  · clear h
    rw [Bool.and_eq_true, beq_iff_eq] at hf
    obtain ⟨hg, rfl⟩ := hf
    obtain ⟨y, hy, h⟩ := obind_some h3
    obtain ⟨hc, h⟩ := ite_some h
    obtain ⟨d, hd, h⟩ := obind_some h
    obtain ⟨n, hn, h⟩ := obind_some h
    obtain ⟨l, hl, h⟩ := obind_some h
    cases h
    rw [Bool.and_eq_true, beq_iff_eq] at hc
    obtain ⟨p2, q2, rfl⟩ := isCall1_inv hy
    clear h3 hy
    obtain ⟨y1, y2⟩ := y
    obtain ⟨hc1, hc2⟩ := hc
    cases hc1
    exact it_rev G O hA ok hg hc2 (intOf_inv hn ▸ hd) hl g
  · exact evList_ok O hA ok h3 g

theorem evIt_ok (G : Glo hb mg mb c P) (O : EvOk prog w hb P k lc E) (hA : Room k A) (ok : Ok prog w hb P lc z env sc ρ s.heap) {e : Expr} {ds : List D} (h : evIt E sc ρ (isTup target) e = some ds)
    (ht : (∃ x p, target = .Name x p) ∨ (∃ es n p, target = .Tuple es n p)) (g : ItGoes prog w P ρ A target env.locals z s ds Q) :
    wpAny (model prog w) A (eval e env) (fun x s₁ => wpAny (model prog w) A (pyIter x) Q Ex s₁) Ex s := by
  unfold evIt at h
  cases h1 : isCall1 e with
  | some y =>
    rw [h1] at h
    obtain ⟨p, q, rfl⟩ := isCall1_inv h1
    exact evItCall_ok G O hA ok h ht g
  | none =>
    rw [h1] at h
    cases h2 : isMeth0 e with
    | none =>
      rw [h2] at h
      exact evList_ok O hA ok h g
    | some y =>
      rw [h2] at h
      have h := ite_some h
      obtain ⟨hm, h⟩ := h
      obtain ⟨d, hd, h⟩ := obind_some h
      obtain ⟨kv, hkv, h⟩ := obind_some h
      rw [dictOf_inv hkv] at hd
      rw [isMeth0_inv h2]
      clear h1 h2
      rcases ite_or h with ⟨hn, h⟩ | ⟨_, h⟩
      · first | exact nn h | cases h
        rw [beq_iff_eq.mp hn]
        exact it_items O hA ok hm hd ht g
      · obtain ⟨hn, h⟩ := ite_some h
        cases h
        rw [beq_iff_eq.mp hn]
        exact it_values O hA ok hm hd g
end
end Mine

namespace Mine
open PySem PySem.W PyProof.Rows PySem.Calls PySem.Spec

/-- a step that may change what W names, and the table -/
structure Step (W : Addr → Prop) (P : Addr) (z : Z) (h : Heap) (z' : Z) (h' : Heap) : Prop where
  le : ∀ a o, z a = some o → z' a = some o
  on : z'.on h'
  keep : ∀ b o, ¬ W b → b ≠ P → h.get? b = some o → h'.get? b = some o
  size : h.objs.size ≤ h'.objs.size
  new : ∀ b o, z' b = some o → z b = some o ∨ h.objs.size ≤ b
  tab : TabOk P z h → TabOk P z' h'

section
variable {P : Addr} {W V : Addr → Prop} {z z' z'' : Z} {h h' h'' : Heap}
theorem Step.refl (on : z.on h) : Step W P z h z h := ⟨fun _ _ e => e, on, fun _ _ _ _ e => e, Nat.le_refl _, fun _ _ e => .inl e, fun t => t⟩
theorem Step.trans (x : Step W P z h z' h') (y : Step W P z' h' z'' h'') : Step W P z h z'' h'' :=
  ⟨fun a o e => y.le _ _ (x.le _ _ e), y.on, fun b o h1 h2 e => y.keep b o h1 h2 (x.keep b o h1 h2 e), Nat.le_trans x.size y.size,
    fun b o e => (y.new b o e).elim (x.new b o) fun l => .inr (Nat.le_trans x.size l), fun t => y.tab (x.tab t)⟩
theorem Step.mono (x : Step W P z h z' h') (hw : ∀ b, W b → V b ∨ h.objs.size ≤ b) : Step V P z h z' h' :=
  ⟨x.le, x.on, fun b o h1 h2 e => x.keep b o (fun w => (hw b w).elim h1 fun l => absurd (Heap.lt_size e) (Nat.not_lt.mpr l)) h2 e, x.size, x.new, x.tab⟩
theorem Grow.step {L : Addr} (g : Grow P L z h z' h') : Step (· = L) P z h z' h' := ⟨g.le, g.on, fun b o h1 h2 e => g.keep b o h1 h2 e, g.size, g.new, g.tab⟩
theorem ns_ne {L : Addr} (t : TabOk P z h) {m : Str → Option Value} (n : h.Ns L m) : L ≠ P := (tab_ne t ⟨m, n⟩).symm
/-- one object is changed that is not frozen -/
theorem Step.same {a : Addr} (on : z.on h) (hz : z a = none) (hs : Heap.SameBut a h h') (ha : a ≠ P) : Step (· = a) P z h z h' where
  le := fun _ _ e => e
  on := fun b o e => (hs.2 b (fun q => by rw [q, hz] at e; cases e)).trans (on b o e)
  keep := fun b o h1 _ e => (hs.2 b h1).trans e
  size := Nat.le_of_eq hs.1.symm
  new := fun _ _ e => .inl e
  tab := fun t => t.keep (fun o e => (hs.2 P ha.symm).trans e) (fun _ _ e => e) fun _ _ e => .inl e
theorem GrowI.step {wr : List Addr} (g : GrowI wr z h z' h') (hP : P ∉ wr) : Step (· ∈ wr) P z h z' h' where
  le := g.le
  on := g.on
  keep := fun b o h1 _ e => g.keep b o h1 e
  size := g.size
  new := g.new
  tab := fun t => t.keep (fun o e => g.keep _ o hP e) g.le g.new
theorem Step.zNone (x : Step W P z h z' h') {a : Addr} (hz : z a = none) (ha : a < h.objs.size) : z' a = none := by
  cases e : z' a with
  | none => rfl
  | some o =>
    rcases x.new _ _ e with q | q
    · rw [hz] at q; cases q
    · exact absurd ha (Nat.not_lt.mpr q)
end

section
variable {prog : Program} {w : World} {hb : Heap} {P : Addr} {lc : Option Addr} {z z' : Z} {env : Env} {sc : Scope} {ρ ρ' : Rho} {h h' : Heap} {W : Addr → Prop}

theorem Loads.step {x : Str} {v : Value} (l : Loads env h x v) (g : Step W P z h z' h') (t : TabOk P z h) (hL : ¬ W env.locals) (hc : ∀ x a v, env.cells.lookup x = some a → h.IsCell a v → ¬ W a) : Loads env h' x v := by
  rcases l with ⟨k, m, e1, e2⟩ | ⟨k, a, e1, o, e2, e3⟩
  · exact .inl ⟨k, m, e1.at' fun o e => g.keep _ o hL (ns_ne t e1) e, e2⟩
  · refine .inr ⟨k, a, e1, o, g.keep _ _ (hc x a _ e1 ⟨o, e2, e3⟩) ?_ e2, e3⟩
    rintro rfl
    obtain ⟨ps, e⟩ := t.get
    rw [e2] at e; cases e; cases e3

theorem VarIs.step {x : Str} {b : B} (l : VarIs prog w P z env h x b) (g : Step W P z h z' h') (t : TabOk P z h) (hL : ¬ W env.locals) (hc : ∀ x a v, env.cells.lookup x = some a → h.IsCell a v → ¬ W a) (ho : ∀ d a, b = .own d → Loads env h x (.ref a) → ¬ W a) : VarIs prog w P z' env h' x b := by
  cases b with
  | unb => trivial
  | val d => obtain ⟨v, l, r⟩ := l; exact ⟨v, l.step g t hL hc, r.mono g.le⟩
  | own d =>
    obtain ⟨a, l, h1, h2, r⟩ := l
    refine ⟨a, l.step g t hL hc, h1, h2, ?_⟩
    have hw := ho d a rfl l
    cases r with
    | list e1 r => exact .list (g.keep _ _ hw h2 e1) (r.mono g.le)
    | dict e1 y e2 r => exact .dict (g.keep _ _ hw h2 e1) y e2 r

theorem Ok.step (k : Ok prog w hb P lc z env sc ρ h) (g : Step W P z h z' h') (hL : ¬ W env.locals) (hc : ∀ x a v, env.cells.lookup x = some a → h.IsCell a v → ¬ W a) (ho : ∀ x d a, ρ.lookup x = some (.own d) → Loads env h x (.ref a) → ¬ W a) : Ok prog w hb P lc z' env sc ρ h' where
  on := g.on
  tab := g.tab k.tab
  ns := let ⟨m, n⟩ := k.ns; ⟨m, n.at' fun o e => g.keep _ o hL (ns_ne k.tab n) e⟩
  zL := let ⟨m, n⟩ := k.ns; g.zNone k.zL n.lt
  base := fun b o e => g.le b o (k.base b o e)
  eok := k.eok
  cells := fun x a h1 h2 => by
    obtain ⟨⟨v, o, e2, e3⟩, hz, hd⟩ := k.cells x a h1 h2
    refine ⟨⟨v, o, g.keep _ _ (hc x a _ h2 ⟨o, e2, e3⟩) ?_ e2, e3⟩, g.zNone hz (Heap.lt_size e2), hd⟩
    rintro rfl
    obtain ⟨ps, e⟩ := k.tab.get
    rw [e2] at e; cases e; cases e3
  frees := fun x a h1 h2 => by
    obtain ⟨v, o, e2, e3⟩ := k.frees x a h1 h2
    refine ⟨v, o, g.keep _ _ (hc x a _ h2 ⟨o, e2, e3⟩) ?_ e2, e3⟩
    rintro rfl
    obtain ⟨ps, e⟩ := k.tab.get
    rw [e2] at e; cases e; cases e3
  names := k.names
  vars := fun x b e => (k.vars x b e).step g k.tab hL hc fun d a hb l => ho x d a (hb ▸ e) l

/-- an environment that says less -/
theorem Ok.weak (k : Ok prog w hb P lc z env sc ρ h) (hw : ∀ x b, ρ'.lookup x = some b → (∃ c, ρ.lookup x = some c) ∧ (b = .unb ∨ ρ.lookup x = some b)) : Ok prog w hb P lc z env sc ρ' h :=
  { k with
    names := fun x b e => let ⟨⟨c, q⟩, _⟩ := hw x b e; k.names x c q
    vars := fun x b e => by
      rcases (hw x b e).2 with rfl | q
      · trivial
      · exact k.vars x b q }

theorem rset_lookup (ρ : Rho) (x y : Str) (b : B) : (rset ρ x b).lookup y = if y = x then (ρ.lookup x).map fun _ => b else ρ.lookup y := by
  induction ρ with
  | nil => simp [rset]
  | cons p r ih =>
    obtain ⟨u, c⟩ := p
    unfold rset
    by_cases hxu : x = u
    · subst hxu
      rw [if_pos (by simp)]
      by_cases hy : y = x
      · subst hy; simp
      · have : (y == x) = false := by simpa using hy
        simp [List.lookup_cons, this, hy]
    · have hxu' : (x == u) = false := by simpa using hxu
      rw [if_neg (by simpa using hxu)]
      by_cases hy : y = x
      · subst hy
        simp only [List.lookup_cons, hxu', ih, if_true]
      · by_cases hyu : y = u
        · subst hyu; simp [hy]
        · have : (y == u) = false := by simpa using hyu
          simp only [List.lookup_cons, this, ih, if_neg hy]

theorem rset_some {ρ : Rho} {x y : Str} {b c : B} (h : (rset ρ x b).lookup y = some c) : (y = x ∧ c = b ∧ ∃ c', ρ.lookup x = some c') ∨ (y ≠ x ∧ ρ.lookup y = some c) := by
  rw [rset_lookup] at h
  split at h
  · rename_i q
    obtain ⟨c', e1, e2⟩ := Option.map_eq_some_iff.mp h
    exact .inl ⟨q, e2.symm, c', e1⟩
  · rename_i q
    exact .inr ⟨q, h⟩
end
end Mine

namespace Mine
open PySem PySem.W PyProof.Rows PySem.Calls PySem.Spec

/-- what the stores of a frame may change -/
noncomputable def WL (sc : Scope) (env : Env) : Addr → Prop := fun b => b = env.locals ∨ ∃ x, sc.names.lookup x = some .cell ∧ env.cells.lookup x = some b

noncomputable def Owns (M : Addr → Prop) (ρ : Rho) (z : Z) (env : Env) (h : Heap) : Prop :=
  ∀ x d a, ρ.lookup x = some (.own d) → Loads env h x (.ref a) → z a = none ∧ M a ∧ ∀ y d' a', y ≠ x → ρ.lookup y = some (.own d') → Loads env h y (.ref a') → a' ≠ a

section
variable {prog : Program} {w : World} {hb : Heap} {P : Addr} {lc : Option Addr} {z z' : Z} {env : Env} {sc : Scope} {ρ ρ' : Rho} {h h' : Heap} {W M : Addr → Prop} {A : Around} {s : Shared} {E : Value → Shared → Prop} {Q : Unit → Shared → Prop}

theorem isCell_unique {a : Addr} {u v : Option Value} (x : h.IsCell a u) (y : h.IsCell a v) : u = v := by
  obtain ⟨o, e1, e2⟩ := x
  obtain ⟨o', f1, f2⟩ := y
  rw [e1] at f1; cases f1
  rw [e2] at f2; cases f2; rfl

theorem Loads.unique {x : Str} {u v : Value} (l : Loads env h x u) (r : Loads env h x v) : u = v := by
  rcases l with ⟨k, m, e1, e2⟩ | ⟨k, a, e1, e2⟩
  · rcases r with ⟨k', m', f1, f2⟩ | ⟨k', a', f1, f2⟩
    · rw [ns_unique e1 f1] at e2; rw [e2] at f2; cases f2; rfl
    · rcases k' with k' | k' <;> (rw [k] at k'; cases k')
  · rcases r with ⟨k', m', f1, f2⟩ | ⟨k', a', f1, f2⟩
    · rcases k with k | k <;> (rw [k] at k'; cases k')
    · rw [e1] at f1; cases f1
      exact Option.some.inj (isCell_unique e2 f2)

theorem cell_ne_locals {a : Addr} {v : Option Value} (n : ∃ m, h.Ns env.locals m) (x : h.IsCell a v) : a ≠ env.locals := by
  rintro rfl
  obtain ⟨m, o', es, ep, e1, e2, _⟩ := n
  obtain ⟨o, f1, f2⟩ := x
  rw [e1] at f1; cases f1
  rw [e2] at f2; cases f2
theorem cell_ne_tab {a : Addr} {v : Option Value} (t : TabOk P z h) (x : h.IsCell a v) : a ≠ P := by
  rintro rfl
  obtain ⟨ps, e⟩ := t.get
  obtain ⟨o, f1, f2⟩ := x
  rw [e] at f1; cases f1; cases f2

theorem OwnAt.same {a b : Addr} {d : D} (x : OwnAt prog w z h a d) (hs : Heap.SameBut b h h') (hab : a ≠ b) : OwnAt prog w z h' a d := by
  cases x with
  | list e1 r => exact .list ((hs.2 _ hab).trans e1) r
  | dict e1 y e2 r => exact .dict ((hs.2 _ hab).trans e1) y e2 r
theorem OwnAt.ne_cell {a c : Addr} {d : D} {v : Option Value} (x : OwnAt prog w z h a d) (y : h.IsCell c v) : a ≠ c := by
  rintro rfl
  obtain ⟨o, f1, f2⟩ := y
  cases x with
  | list e1 r => rw [e1] at f1; cases f1; cases f2
  | dict e1 y e2 r => rw [e1] at f1; cases f1; obtain ⟨es, ep, _, q, _⟩ := e2; rw [q] at f2; cases f2

/-- what a store leaves -/
structure Stored (prog : Program) (w : World) (P : Addr) (sc : Scope) (env : Env) (z : Z) (x : Str) (v : Value) (h h' : Heap) : Prop where
  step : Step (WL sc env) P z h z h'
  here : Loads env h' x v
  other : ∀ y u, y ≠ x → Loads env h y u → Loads env h' y u
  own : ∀ a d, OwnAt prog w z h a d → a ≠ env.locals → OwnAt prog w z h' a d
  ns : ∃ m, h'.Ns env.locals m
  cells : ∀ x a, sc.names.lookup x = some .cell → env.cells.lookup x = some a → ∃ v, h'.IsCell a v
  keepc : ∀ a v, h.IsCell a v → ∃ v, h'.IsCell a v
  size : h'.objs.size = h.objs.size

theorem store_ok {x : Str} {v : Value} (ok : Ok prog w hb P lc z env sc ρ s.heap) (hx : storable sc x = true) (hQ : ∀ h' tk, Stored prog w P sc env z x v s.heap h' → Q () { s with heap := h', toks := tk }) :
    wpAny (model prog w) A (storeName env x v) Q E s := by
  unfold storable at hx
  simp only [Bool.or_eq_true, beq_iff_eq] at hx
  rcases hx with hx | hx
  · obtain ⟨m, n⟩ := ok.ns
    refine wpAny_storeName_local (ok.eok.loc x hx) n (fun h' n' hs => hQ h' _ ?_) (by rw [ok.eok.kind]; rfl)
    refine ⟨(Step.same ok.on ok.zL hs (ns_ne ok.tab n)).mono fun b e => .inl (.inl e), .inl ⟨ok.eok.loc x hx, _, n', by simp⟩, fun y u hy l => ?_, fun a d o ha => o.same hs ha, ⟨_, n'⟩, fun y a h1 h2 => ?_, fun a v hv => ⟨v, hv.sameBut hs (cell_ne_locals ⟨m, n⟩ hv)⟩, hs.1⟩
    · rcases l with ⟨k, m1, e1, e2⟩ | ⟨k, a, e1, e2⟩
      · refine .inl ⟨k, _, n', ?_⟩
        rw [ns_unique n e1]; simp [hy, e2]
      · exact .inr ⟨k, a, e1, e2.sameBut hs (cell_ne_locals ⟨m, n⟩ e2)⟩
    · obtain ⟨⟨v, hv⟩, _⟩ := ok.cells y a h1 h2
      exact ⟨v, hv.sameBut hs (cell_ne_locals ⟨m, n⟩ hv)⟩
  · obtain ⟨hk, c, hc⟩ := ok.eok.cel x hx
    obtain ⟨⟨v0, hv⟩, hz, hd⟩ := ok.cells x c hx hc
    refine wpAny_storeName_cell ok.eok.kind hk hc hv fun h' hv' hs => ?_
    have hL := cell_ne_locals ok.ns hv
    obtain ⟨m, n⟩ := ok.ns
    refine hQ h' s.toks ⟨(Step.same ok.on hz hs (cell_ne_tab ok.tab hv)).mono fun b e => .inl (.inr ⟨x, hx, e ▸ hc⟩), .inr ⟨.inl hk, c, hc, hv'⟩, fun y u hy l => ?_, fun a d o ha => o.same hs (o.ne_cell hv), ⟨m, n.sameBut hs hL.symm⟩, fun y a h1 h2 => ?_, fun a v1 hv1 => ?_, hs.1⟩
    · rcases l with ⟨k, m1, e1, e2⟩ | ⟨k, a, e1, e2⟩
      · exact .inl ⟨k, _, e1.sameBut hs hL.symm, e2⟩
      · exact .inr ⟨k, a, e1, e2.sameBut hs (hd y a hy e1)⟩
    · by_cases hy : y = x
      · subst hy; rw [hc] at h2; cases h2; exact ⟨_, hv'⟩
      · obtain ⟨⟨v1, hv1⟩, _⟩ := ok.cells y a h1 h2
        exact ⟨v1, hv1.sameBut hs (hd y a hy h2)⟩
    · by_cases ha : a = c
      · subst ha; exact ⟨_, hv'⟩
      · exact ⟨v1, hv1.sameBut hs ha⟩

theorem Stored.ok {x : Str} {v : Value} {b : B} (ok : Ok prog w hb P lc z env sc ρ h) (st : Stored prog w P sc env z x v h h') (hb' : VarIs prog w P z env h' x b) : Ok prog w hb P lc z env sc (rset ρ x b) h' where
  on := st.step.on
  tab := st.step.tab ok.tab
  ns := st.ns
  zL := ok.zL
  base := ok.base
  eok := ok.eok
  cells := fun y a h1 h2 => ⟨st.cells y a h1 h2, (ok.cells y a h1 h2).2⟩
  frees := fun y a h1 h2 => let ⟨v, hv⟩ := ok.frees y a h1 h2; st.keepc a v hv
  names := fun y c e => by
    rcases rset_some e with ⟨rfl, rfl, c', q⟩ | ⟨hy, q⟩
    · exact ok.names _ _ q
    · exact ok.names _ _ q
  vars := fun y c e => by
    rcases rset_some e with ⟨rfl, rfl, c', q⟩ | ⟨hy, q⟩
    · exact hb'
    · have := ok.vars y c q
      cases c with
      | unb => trivial
      | val d => obtain ⟨u, l, r⟩ := this; exact ⟨u, st.other y u hy l, r⟩
      | own d => obtain ⟨a, l, h1, h2, r⟩ := this; exact ⟨a, st.other y _ hy l, h1, h2, st.own a d r h1⟩
theorem Stored.val {x : Str} {v : Value} {d : D} (ok : Ok prog w hb P lc z env sc ρ h) (st : Stored prog w P sc env z x v h h') (r : Rep prog w z v d) : Ok prog w hb P lc z env sc (rset ρ x (.val d)) h' := st.ok ok ⟨v, st.here, r⟩

/-- a load of a variable that the environment knows, seen back before the store -/
theorem Stored.back {x y : Str} {v u : Value} {d : D} (ok : Ok prog w hb P lc z env sc ρ h) (st : Stored prog w P sc env z x v h h') (hy : y ≠ x) (e : ρ.lookup y = some (.own d)) (l : Loads env h' y u) : Loads env h y u := by
  obtain ⟨a, l', _⟩ := ok.vars y _ e
  have := (st.other y _ hy l').unique l
  subst this; exact l'

theorem Stored.owns_val {x : Str} {v : Value} {d : D} (ok : Ok prog w hb P lc z env sc ρ h) (st : Stored prog w P sc env z x v h h') (ow : Owns M ρ z env h) : Owns M (rset ρ x (.val d)) z env h' := by
  intro y d' a e l
  rcases rset_some e with ⟨rfl, q, _⟩ | ⟨hy, q⟩
  · cases q
  · obtain ⟨h1, h2, h3⟩ := ow y d' a q (st.back ok hy q l)
    refine ⟨h1, h2, fun y' d'' a' hn e' l' => ?_⟩
    rcases rset_some e' with ⟨rfl, q', _⟩ | ⟨hy', q'⟩
    · cases q'
    · exact h3 y' d'' a' hn q' (st.back ok hy' q' l')

theorem Stored.owns_own {x : Str} {a : Addr} {d : D} (ok : Ok prog w hb P lc z env sc ρ h) (st : Stored prog w P sc env z x (.ref a) h h') (ow : Owns M ρ z env h) (hz : z a = none) (hM : M a)
    (hn : ∀ y d' a', y ≠ x → ρ.lookup y = some (.own d') → Loads env h y (.ref a') → a' ≠ a) : Owns M (rset ρ x (.own d)) z env h' := by
  intro y d' b e l
  rcases rset_some e with ⟨rfl, q, _⟩ | ⟨hy, q⟩
  · have := st.here.unique l
    cases this
    refine ⟨hz, hM, fun y' d'' a' hn' e' l' => ?_⟩
    rcases rset_some e' with ⟨rfl, q', _⟩ | ⟨hy', q'⟩
    · exact absurd rfl hn'
    · exact hn y' d'' a' hn' q' (st.back ok hy' q' l')
  · obtain ⟨h1, h2, h3⟩ := ow y d' b q (st.back ok hy q l)
    refine ⟨h1, h2, fun y' d'' a' hn' e' l' => ?_⟩
    rcases rset_some e' with ⟨rfl, q', _⟩ | ⟨hy', q'⟩
    · have := st.here.unique l'
      cases this
      exact fun he => hn y d' b hy q (st.back ok hy q l) he.symm
    · exact h3 y' d'' a' hn' q' (st.back ok hy' q' l')

/-- owned objects are untouched by a step -/
theorem Owns.step (ok : Ok prog w hb P lc z env sc ρ h) (ow : Owns M ρ z env h) (g : Step W P z h z' h') (hL : ¬ W env.locals) (hc : ∀ x a v, env.cells.lookup x = some a → h.IsCell a v → ¬ W a) : Owns M ρ z' env h' := by
  have back : ∀ y d a, ρ.lookup y = some (.own d) → Loads env h' y (.ref a) → Loads env h y (.ref a) ∧ a < h.objs.size := by
    intro y d a e l
    obtain ⟨a', l', _, _, r⟩ := ok.vars y _ e
    have q := (l'.step g ok.tab hL hc).unique l
    cases q
    refine ⟨l', ?_⟩
    cases r with
    | list e1 _ => exact Heap.lt_size e1
    | dict e1 _ _ _ => exact Heap.lt_size e1
  intro x d a e l
  obtain ⟨l1, lt⟩ := back x d a e l
  obtain ⟨h1, h2, h3⟩ := ow x d a e l1
  exact ⟨g.zNone h1 lt, h2, fun y d' a' hy e' l' => h3 y d' a' hy e' (back y d' a' e' l').1⟩
theorem Owns.grow (ok : Ok prog w hb P lc z env sc ρ h) (ow : Owns M ρ z env h) (g : Grow P env.locals z h z' h') : Owns M ρ z' env h' := by
  have back : ∀ y d a, ρ.lookup y = some (.own d) → Loads env h' y (.ref a) → Loads env h y (.ref a) ∧ a < h.objs.size := by
    intro y d a e l
    obtain ⟨a', l', _, _, r⟩ := ok.vars y _ e
    have q := (l'.grow g ok.tab ok.ns).unique l
    cases q
    refine ⟨l', ?_⟩
    cases r with
    | list e1 _ => exact Heap.lt_size e1
    | dict e1 _ _ _ => exact Heap.lt_size e1
  intro x d a e l
  obtain ⟨l1, lt⟩ := back x d a e l
  obtain ⟨h1, h2, h3⟩ := ow x d a e l1
  exact ⟨g.step.zNone h1 lt, h2, fun y d' a' hy e' l' => h3 y d' a' hy e' (back y d' a' e' l').1⟩

theorem assign_Tuple_sz {elts : List Expr} {x1 : Nat} {pos : Pos} {t : Addr} {items : Array Value} (hh : A.handled = none) (ht : IsTup s.heap t items)
    (hn : (assignEach elts env).length = items.size) (hstar : (assignEach elts env).findIdx? (·.1) = none)
    (h : ∀ h', Heap.ExtBut s.heap.objs.size s.heap h' → s.heap.objs.size ≤ h'.objs.size → wpAny (model prog w) A (assignInOrder ((assignEach elts env).map (·.2)) items.toList) Q E { s with heap := h' }) :
    wpAny (model prog w) A (assign (.Tuple elts x1 pos) env (.ref t)) Q E s := by
  rw [assign_Tuple]
  refine wpAny_bind (wpAny_standAt ?_)
  unfold unpack
  rw [hn, hstar]
  exact wpAny_bind (wpAny_holding (with_size (unpackItems_tuple hh ht fun h' e sz => h h' e sz)))

theorem namesOk_each : ∀ {es : List Expr}, namesOk sc es = true → (assignEach es env).length = es.length ∧ (assignEach es env).findIdx? (·.1) = none
  | [], _ => ⟨rfl, rfl⟩
  | e :: es, h => by
    cases e with
    | Name x p =>
      simp only [namesOk, Bool.and_eq_true] at h
      obtain ⟨h1, h2⟩ := namesOk_each (es := es) h.2
      refine ⟨by show (_ :: assignEach es env).length = _; simp [h1], ?_⟩
      show List.findIdx? (·.1) ((false, assign (.Name x p) env) :: assignEach es env) = none
      rw [List.findIdx?_cons, h2]; rfl
    | _ => simp [namesOk] at h

theorem names_ok : ∀ {es : List Expr} {vs : List Value} {ds : List D} {ρ ρ' : Rho} {s : Shared}, namesOk sc es = true → Ok prog w hb P lc z env sc ρ s.heap → Owns M ρ z env s.heap → Reps prog w z vs ds → bindNames es ds ρ = some ρ' →
    (∀ h' tk, Step (WL sc env) P z s.heap z h' → Ok prog w hb P lc z env sc ρ' h' → Owns M ρ' z env h' → Q () { s with heap := h', toks := tk }) → wpAny (model prog w) A (assignInOrder ((assignEach es env).map (·.2)) vs) Q E s
  | [], vs, ds, ρ, ρ', s, hn, ok, ow, rs, hb, hQ => by
    cases ds with
    | cons _ _ => simp [bindNames] at hb
    | nil =>
      simp [bindNames] at hb; subst hb
      exact wpAny_pure (hQ s.heap s.toks (.refl ok.on) ok ow)
  | e :: es, vs, ds, ρ, ρ', s, hn, ok, ow, rs, hb, hQ => by
    cases e with
    | Name x p =>
      cases rs with
      | nil => simp [bindNames] at hb
      | @cons v d vs ds r rs =>
        simp only [bindNames] at hb
        simp only [namesOk, Bool.and_eq_true] at hn
        show wpAny _ _ (holding vs (assign (.Name x p) env v) >>= fun _ => assignInOrder ((assignEach es env).map (·.2)) vs) _ _ _
        refine wpAny_bind (wpAny_holding (wpAny_assign_Name (store_ok ok hn.1 fun h' tk st => ?_)))
        exact names_ok (s := { s with heap := h', toks := tk }) hn.2 (st.val ok r) (st.owns_val ok ow) rs hb fun h'' tk' st' ok' ow' => hQ h'' tk' (st.step.trans st') ok' ow'
    | _ => simp [namesOk] at hn

theorem bindT_ok {target : Expr} {v : Value} {d : D} (hh : A.handled = none) (ok : Ok prog w hb P lc z env sc ρ s.heap) (ow : Owns M ρ z env s.heap) (r : Rep prog w z v d) (hbn : bindT sc target d ρ = some ρ')
    (hQ : ∀ h' tk, Step (WL sc env) P z s.heap z h' → Ok prog w hb P lc z env sc ρ' h' → Owns M ρ' z env h' → Q () { s with heap := h', toks := tk }) : wpAny (model prog w) A (assign target env v) Q E s := by
  unfold bindT at hbn
  split at hbn
  · rename_i x p d ρ
    split at hbn
    · rename_i hx
      cases hbn
      exact wpAny_assign_Name (store_ok ok hx fun h' tk st => hQ h' tk st.step (st.val ok r) (st.owns_val ok ow))
    · cases hbn
  · rename_i es n p ds ρ
    split at hbn
    · rename_i hx
      simp only [Bool.and_eq_true, decide_eq_true_eq] at hx
      cases r with
      | @tuple a vs n2 ds ha rs =>
        obtain ⟨q1, q2⟩ := namesOk_each (env := env) hx.1.1
        refine assign_Tuple_sz (items := vs.toArray) hh ⟨_, ok.on _ _ ha, rfl, _, rfl⟩ (by rw [q1, hx.1.2, List.size_toArray, rs.length]) q2 fun h' he sz => ?_
        have keep : ∀ b o, s.heap.get? b = some o → h'.get? b = some o := fun b o e => he b o (Nat.ne_of_lt (Heap.lt_size e)) e
        have gr : Grow P env.locals z s.heap z h' := .kept ok.on keep sz
        exact names_ok (s := { s with heap := h' }) hx.1.1 (ok.grow gr) (ow.grow ok gr) rs hbn fun h'' tk st ok' ow' => hQ h'' tk ((gr.step.mono fun b e => .inl (.inl e)).trans st) ok' ow'
    · cases hbn
  · cases hbn
end
end Mine

namespace Mine
open PySem PySem.W PyProof.Rows PySem.Calls PySem.Spec

noncomputable def loopTurn (target : Expr) (p : Pos) (ifs : List Expr) (it : Value) (env : Env) (body : Sem PySem.Fin → Sem PySem.Fin) (ag : Sem PySem.Fin) : Sem PySem.Fin := 
  standAt p >>= fun _ => pyNext it >>= fun r => match r with
  | none => pure (.done .next)
  | some v =>
    letOwnedTupleGo target it v >>= fun _ => assign target env v >>= fun _ =>
     (forIn ifs true fun c r => if r = true then do let ok ← isTrue c env (eval c env); pure (ForInStep.yield ok) else pure (ForInStep.yield r)) >>= fun ok =>
      if ok = true then body ag else ag
noncomputable def bodyApp (elt : Expr) (acc : Value) (env : Env) (k : Sem PySem.Fin) : Sem PySem.Fin := (eval elt env >>= fun x => call (.builtin "list.append") [acc, x] >>= fun _ => pure ()) >>= fun _ => k
noncomputable def bodyIn (e it' : Expr) (acc : Value) (env : Env) (k : Sem PySem.Fin) : Sem PySem.Fin := do
        let x ← eval it' env
        standAt it'.pos
        let x ← foldedSetIterable it' env x
        let i ← holding [x] (pyIter x)
        let _ ← runOwn (.compStart e 1 i acc env) env
        k

theorem turn1 (elt t it : Expr) (ifs : List Expr) (sc : Scope) (pos : Pos) (I acc : Value) (env : Env) :
  compTurn (.ListComp elt [⟨t, it, ifs, 0⟩] sc pos) 0 I acc env = loopTurn t it.pos ifs I env (bodyApp elt acc env) (again (.compLoop (.ListComp elt [⟨t, it, ifs, 0⟩] sc pos) 0 I acc env)) := by rfl
theorem turn2b (elt t it t' it' : Expr) (ifs ifs' : List Expr) (sc : Scope) (pos : Pos) (I acc : Value) (env : Env) :
  compTurn (.ListComp elt [⟨t, it, ifs, 0⟩, ⟨t', it', ifs', 0⟩] sc pos) 1 I acc env = loopTurn t' it'.pos ifs' I env (bodyApp elt acc env) (again (.compLoop (.ListComp elt [⟨t, it, ifs, 0⟩, ⟨t', it', ifs', 0⟩] sc pos) 1 I acc env)) := by rfl
theorem turn2a (elt t it t' it' : Expr) (ifs ifs' : List Expr) (sc : Scope) (pos : Pos) (I acc : Value) (env : Env) :
  compTurn (.ListComp elt [⟨t, it, ifs, 0⟩, ⟨t', it', ifs', 0⟩] sc pos) 0 I acc env = loopTurn t it.pos ifs I env (bodyIn (.ListComp elt [⟨t, it, ifs, 0⟩, ⟨t', it', ifs', 0⟩] sc pos) it' acc env) (again (.compLoop (.ListComp elt [⟨t, it, ifs, 0⟩, ⟨t', it', ifs', 0⟩] sc pos) 0 I acc env)) := by rfl

theorem forIn_false {prog : Program} {w : World} {A : Around} {s : Shared} {Ex : Value → Shared → Prop} {env : Env} {Q : Bool → Shared → Prop} : ∀ {ifs : List Expr}, Q false s →
    wpAny (model prog w) A (forIn ifs false fun c r => if r = true then do let ok ← isTrue c env (eval c env); pure (ForInStep.yield ok) else pure (ForInStep.yield r)) Q Ex s
  | [], h => wpAny_pure h
  | c :: cs, h => by
    rw [List.forIn_cons, if_neg Bool.false_ne_true]
    exact wpAny_bind (wpAny_pure (forIn_false h))

section
variable {prog : Program} {w : World} {hb : Heap} {P : Addr} {k : Nat} {lc : Option Addr} {E : Ev} {z z' : Z} {env : Env} {sc : Scope} {ρ ρ' : Rho} {h h' : Heap} {M : Addr → Prop} {A : Around} {s : Shared} {Ex : Value → Shared → Prop}

theorem tests_ok (O : EvOk prog w hb P k lc E) (hA : Room k A) : ∀ {ifs : List Expr} {b : Bool} {s : Shared} {z : Z} {Q : Bool → Shared → Prop}, allT (E.t sc) ρ ifs = some b → Ok prog w hb P lc z env sc ρ s.heap →
    (∀ z' h' tk, Grow P env.locals z s.heap z' h' → Q b { s with heap := h', toks := tk }) →
    wpAny (model prog w) A (forIn ifs true fun c r => if r = true then do let ok ← isTrue c env (eval c env); pure (ForInStep.yield ok) else pure (ForInStep.yield r)) Q Ex s
  | [], b, s, z, Q, e, ok, hQ => by
    simp [allT] at e; subst e
    exact wpAny_pure (hQ z s.heap s.toks (.refl ok.on))
  | c :: cs, b, s, z, Q, e, ok, hQ => by
    simp only [allT] at e
    rw [List.forIn_cons, if_pos rfl]
    split at e
    · rename_i hc
      refine wpAny_bind (wpAny_bind (O.t hc hA ok fun z' h' tk g => wpAny_pure ?_))
      exact tests_ok O hA (s := { s with heap := h', toks := tk }) e (ok.grow g) fun z'' h'' tk' g' => hQ z'' h'' tk' (g.trans g')
    · rename_i hc
      cases e
      exact wpAny_bind (wpAny_bind (O.t hc hA ok fun z' h' tk g => wpAny_pure (forIn_false (hQ z' h' tk g))))
    · cases e

theorem fields_ne_ns {b L : Addr} {m : Str → Option Value} (n : h.Ns L m) (x : ∃ o vs, h.get? b = some o ∧ o.data = .fields vs) : L ≠ b := by
  rintro rfl
  obtain ⟨o, vs, e1, e2⟩ := x
  obtain ⟨o', es, ep, f1, f2, _⟩ := n
  rw [e1] at f1; cases f1; rw [e2] at f2; cases f2
theorem fields_ne_cell {b a : Addr} {v : Option Value} (n : h.IsCell a v) (x : ∃ o vs, h.get? b = some o ∧ o.data = .fields vs) : a ≠ b := by
  rintro rfl
  obtain ⟨o, vs, e1, e2⟩ := x
  obtain ⟨o', f1, f2⟩ := n
  rw [e1] at f1; cases f1; rw [e2] at f2; cases f2
theorem fields_ne_own {b a : Addr} {d : D} (n : OwnAt prog w z h a d) (x : ∃ o vs, h.get? b = some o ∧ o.data = .fields vs) : a ≠ b := by
  rintro rfl
  obtain ⟨o, vs, e1, e2⟩ := x
  cases n with
  | list f1 _ => rw [e1] at f1; cases f1; cases e2
  | dict f1 _ f2 _ => rw [e1] at f1; cases f1; obtain ⟨es, ep, _, q, _⟩ := f2; rw [q] at e2; cases e2

theorem itr_ok {target : Expr} {I : Addr} {wr fp : List Addr} {J : Z → Heap → List D → Prop} {ds : List D} (W : Itr prog w A target I wr fp J) (j : J z h ds) (ok : Ok prog w hb P lc z env sc ρ h) (g : Step (· ∈ wr) P z h z' h') : Ok prog w hb P lc z' env sc ρ h' := by
  refine ok.step g (fun m => ?_) (fun x a v _ hc m => fields_ne_cell hc (W.fields j a m) rfl) fun x d a e l m => ?_
  · obtain ⟨q, n⟩ := ok.ns
    exact fields_ne_ns n (W.fields j _ m) rfl
  · obtain ⟨a', l', _, _, r⟩ := ok.vars x _ e
    cases l'.unique l
    exact fields_ne_own r (W.fields j _ m) rfl
theorem itr_owns {target : Expr} {I : Addr} {wr fp : List Addr} {J : Z → Heap → List D → Prop} {ds : List D} (W : Itr prog w A target I wr fp J) (j : J z h ds) (ok : Ok prog w hb P lc z env sc ρ h) (ow : Owns M ρ z env h) (g : Step (· ∈ wr) P z h z' h') : Owns M ρ z' env h' := by
  refine ow.step ok g (fun m => ?_) fun x a v _ hc m => fields_ne_cell hc (W.fields j a m) rfl
  obtain ⟨q, n⟩ := ok.ns
  exact fields_ne_ns n (W.fields j _ m) rfl

noncomputable def NoOwn (ρ : Rho) : Prop := ∀ x d, ρ.lookup x ≠ some (.own d)
theorem NoOwn.owns (n : NoOwn ρ) : Owns M ρ z env h := fun x d a e => absurd e (n x d)
theorem NoOwn.rset {x : Str} {d : D} (n : NoOwn ρ) : NoOwn (rset ρ x (.val d)) := fun y d' e => by
  rcases rset_some e with ⟨_, q, _⟩ | ⟨_, q⟩
  · cases q
  · exact n _ _ q
theorem NoOwn.names : ∀ {es : List Expr} {ds : List D} {ρ ρ' : Rho}, NoOwn ρ → bindNames es ds ρ = some ρ' → NoOwn ρ'
  | [], [], ρ, ρ', n, h => by simp [bindNames] at h; subst h; exact n
  | [], _ :: _, ρ, ρ', n, h => by simp [bindNames] at h
  | e :: es, ds, ρ, ρ', n, h => by
    cases e with
    | Name x p => cases ds with
      | nil => simp [bindNames] at h
      | cons d ds => exact NoOwn.names (es := es) (ds := ds) n.rset h
    | _ => simp [bindNames] at h
theorem NoOwn.bindT {target : Expr} {d : D} (n : NoOwn ρ) (h : bindT sc target d ρ = some ρ') : NoOwn ρ' := by
  unfold Mine.bindT at h
  split at h
  · split at h
    · cases h; exact n.rset
    · first | exact nn h | cases h
  · split at h
    · exact n.names h
    · first | exact nn h | cases h
  · first | exact nn h | cases h

/-- the environment before the binding says less -/
noncomputable def Less (ρ ρ' : Rho) : Prop := ∀ x b, ρ.lookup x = some b → (∃ c, ρ'.lookup x = some c) ∧ (b = .unb ∨ ρ'.lookup x = some b)
theorem Less.refl (ρ : Rho) : Less ρ ρ := fun x b e => ⟨⟨b, e⟩, .inr e⟩
theorem Less.rset {x : Str} {d : B} (h : unbX ρ x = true) : Less ρ (rset ρ x d) := fun y b e => by
  rw [rset_lookup]
  by_cases hy : y = x
  · subst hy
    rw [if_pos rfl, e]
    refine ⟨⟨d, rfl⟩, .inl ?_⟩
    unfold unbX at h
    rw [e] at h
    cases b <;> simp at h ⊢
  · rw [if_neg hy]; exact ⟨⟨b, e⟩, .inr e⟩
theorem Less.names : ∀ {es : List Expr} {ds : List D} {ρ ρ' ρ₀ : Rho}, (es.all fun e => match e with | .Name x _ => unbX ρ₀ x | _ => false) = true → Less ρ₀ ρ → bindNames es ds ρ = some ρ' → Less ρ₀ ρ'
  | [], [], ρ, ρ', ρ₀, n, l, h => by simp [bindNames] at h; subst h; exact l
  | [], _ :: _, ρ, ρ', ρ₀, n, l, h => by simp [bindNames] at h
  | e :: es, ds, ρ, ρ', ρ₀, n, l, h => by
    cases e with
    | Name x p => cases ds with
      | nil => simp [bindNames] at h
      | cons d ds =>
        rw [List.all_cons, Bool.and_eq_true] at n
        refine Less.names (es := es) (ds := ds) n.2 (fun y b e => ?_) h
        obtain ⟨⟨c, e1⟩, e2⟩ := l y b e
        rw [rset_lookup]
        by_cases hy : y = x
        · subst hy
          rw [if_pos rfl, e1]
          refine ⟨⟨_, rfl⟩, .inl ?_⟩
          have n1 : unbX ρ₀ y = true := n.1
          unfold unbX at n1
          rw [e] at n1
          cases b <;> simp at n1 ⊢
        · rw [if_neg hy]; exact ⟨⟨c, e1⟩, e2⟩
    | _ => simp [bindNames] at h
theorem Less.bindT {target : Expr} {d : D} (n : unbT ρ target = true) (h : bindT sc target d ρ = some ρ') : Less ρ ρ' := by
  unfold Mine.bindT at h
  split at h
  · split at h
    · cases h; exact .rset n
    · first | exact nn h | cases h
  · split at h
    · exact .names n (.refl _) h
    · first | exact nn h | cases h
  · first | exact nn h | cases h

noncomputable def stepD (E : Ev) (sc : Scope) (target : Expr) (ifs : List Expr) (G : Rho → Option (List D)) (ρ : Rho) (d : D) : Option (List D) :=
  match bindT sc target d ρ with
  | none => none
  | some ρ' => match allT (E.t sc) ρ' ifs with
    | some true => G ρ'
    | some false => some []
    | none => none

/-- what the clauses behind a binding put into the list -/
noncomputable def BodyOk (prog : Program) (w : World) (hb : Heap) (P : Addr) (lc : Option Addr) (sc : Scope) (A : Around) (Dd : Addr) (cenv : Env) (body : Sem PySem.Fin → Sem PySem.Fin) (G : Rho → Option (List D)) : Prop :=
  ∀ (ρ' : Rho) (ys : List D) (s : Shared) (z : Z) (vs : List Value) (dn : List D) (ag : Sem PySem.Fin) (Q : PySem.Fin → Shared → Prop) (Ex : Value → Shared → Prop), G ρ' = some ys → Ok prog w hb P lc z cenv sc ρ' s.heap → NoOwn ρ' →
    s.heap.PlainList Dd vs.toArray → Reps prog w z vs dn → z Dd = none → vs.length + ys.length ≤ 1000 →
    (∀ z' h' tk us, Step (fun b => WL sc cenv b ∨ b = Dd) P z s.heap z' h' → Ok prog w hb P lc z' cenv sc ρ' h' → h'.PlainList Dd (vs ++ us).toArray → Reps prog w z' (vs ++ us) (dn ++ ys) → z' Dd = none → wpAny (model prog w) A ag Q Ex { s with heap := h', toks := tk }) →
    wpAny (model prog w) A (body ag) Q Ex s

theorem plain_lt {Dd : Addr} {items : Array Value} (x : h.PlainList Dd items) : Dd < h.objs.size := let ⟨_, e⟩ := x; Heap.lt_size e
theorem plain_ne_cell {Dd a : Addr} {items : Array Value} {v : Option Value} (x : h.PlainList Dd items) (c : h.IsCell a v) : a ≠ Dd := by
  rintro rfl
  obtain ⟨n, e1⟩ := x
  obtain ⟨o', f1, f2⟩ := c
  rw [e1] at f1; cases f1; cases f2
theorem plain_ne_locals {Dd : Addr} {items : Array Value} {m : Str → Option Value} {L : Addr} (x : h.PlainList Dd items) (c : h.Ns L m) : L ≠ Dd := by
  rintro rfl
  obtain ⟨n, e1⟩ := x
  obtain ⟨o', es, ep, f1, f2, _⟩ := c
  rw [e1] at f1; cases f1; cases f2

theorem plain_not_WL {Dd : Addr} {items : Array Value} (ok : Ok prog w hb P lc z env sc ρ h) (x : h.PlainList Dd items) : ¬ WL sc env Dd := by
  rintro (e | ⟨y, e1, e2⟩)
  · obtain ⟨m, n⟩ := ok.ns
    exact plain_ne_locals x n e.symm
  · obtain ⟨⟨v, hv⟩, _⟩ := ok.cells y Dd e1 e2
    exact plain_ne_cell x hv rfl

theorem bodyApp_ok {elt : Expr} {Dd : Addr} {cenv : Env} (O : EvOk prog w hb P k lc E) (hA : Room k A) (hP : Dd ≠ P) : BodyOk prog w hb P lc sc A Dd cenv (bodyApp elt (.ref Dd) cenv) (fun ρ' => (E.v sc ρ' elt).map fun x => [x]) := by
  intro ρ' ys s z vs dn ag Q Ex hG ok no pl rs hz hl hQ
  obtain ⟨d, hd, rfl⟩ := Option.map_eq_some_iff.mp hG
  unfold bodyApp
  refine wpAny_bind (wpAny_bind (O.v hd hA ok fun v z' h' tk g r => wpAny_bind ?_))
  have ok1 := ok.grow g
  have hL : Dd ≠ cenv.locals := by obtain ⟨m, n⟩ := ok.ns; exact (plain_ne_locals pl n).symm
  have pl1 : h'.PlainList Dd vs.toArray := pl.at fun o e => g.keep _ o hL hP e
  have hz1 : z' Dd = none := g.step.zNone hz (plain_lt pl)
  refine wpAny_list_append_plain (s := { s with heap := h', toks := tk }) pl1 (fun h2 pl2 hs => wpAny_pure ?_) (by rw [List.size_toArray]; exact Nat.le_trans (Nat.le_trans (Nat.le_add_right _ _) hl) (by decide))
  have st : Step (· = Dd) P z' h' z' h2 := .same g.on hz1 hs hP
  have st2 : Step (fun b => WL sc cenv b ∨ b = Dd) P z s.heap z' h2 := (g.step.mono fun b e => .inl (.inl (.inl e))).trans (st.mono fun b e => .inl (.inr e))
  refine hQ z' h2 tk [v] st2 (ok1.step st (fun e => hL e.symm) (fun x a u _ c e => plain_ne_cell pl1 c e) fun x d a e => absurd e (no x d)) ?_ ((rs.mono g.le).append (.one r)) hz1
  have : (vs ++ [v]).toArray = vs.toArray.push v := by simp
  rw [this]; exact pl2

theorem Itr.turn {α : Type} {target : Expr} {I : Addr} {wr fp : List Addr} {J : Z → Heap → List D → Prop} {d : D} {ds : List D} (W : Itr prog w A target I wr fp J) (bd : Value → Sem α) {K : Option Value → Sem α} {Q : α → Shared → Prop} (hK : ∀ v, K (some v) = (letOwnedTupleGo target (.ref I) v >>= fun _ => bd v))
    (j : J z s.heap (d :: ds)) (on : z.on s.heap) (hz : ∀ b ∈ wr, z b = none) (h : ∀ v z' h' tk, GrowI wr z s.heap z' h' → Rep prog w z' v d → J z' h' ds → wpAny (model prog w) A (bd v) Q Ex { s with heap := h', toks := tk }) :
    wpAny (model prog w) A (pyNext (.ref I) >>= K) Q Ex s :=
  wpAny_bind (wpAny_mono (W.next (Q := fun v s2 => wpAny (model prog w) A (bd v) Q Ex s2) j on hz h) (fun r s' ⟨v, e, hr⟩ => by subst e; rw [hK]; exact wpAny_bind hr) fun _ _ x => x)

theorem comp_loop {elt : Expr} {gens : List Comprehension} {scope : Scope} {pos : Pos} {dpt : Nat} {target : Expr} {p : Pos} {ifs : List Expr} {I Dd : Addr} {cenv : Env} {body : Sem PySem.Fin → Sem PySem.Fin} {G : Rho → Option (List D)} {wr fp : List Addr} {J : Z → Heap → List D → Prop} {R : Result → Shared → Prop}
    (O : EvOk prog w hb P k lc E) (hA : Room k A)
    (hturn : compTurn (.ListComp elt gens scope pos) dpt (.ref I) (.ref Dd) cenv = loopTurn target p ifs (.ref I) cenv body (again (.compLoop (.ListComp elt gens scope pos) dpt (.ref I) (.ref Dd) cenv)))
    (W : Itr prog w A target I wr fp J) (hfp : ∀ b ∈ fp, ¬ WL sc cenv b ∧ b ≠ P ∧ b ≠ Dd) (no : NoOwn ρ) (hub : unbT ρ target = true) (hP : Dd ≠ P)
    (hbody : BodyOk prog w hb P lc sc A Dd cenv body G)
    {ds out : List D} (hout : flatO (stepD E sc target ifs G ρ) ds = some out)
    {vs : List Value} {dn : List D} (j : J z s.heap ds) (ok : Ok prog w hb P lc z cenv sc ρ s.heap) (pl : s.heap.PlainList Dd vs.toArray) (rs : Reps prog w z vs dn) (hz : z Dd = none) (hwz : ∀ b ∈ wr, z b = none) (hl : vs.length + out.length ≤ 1000)
    (hR : ∀ z' h' tk us, Step (fun b => WL sc cenv b ∨ b = Dd ∨ b ∈ wr) P z s.heap z' h' → Ok prog w hb P lc z' cenv sc ρ h' → h'.PlainList Dd (vs ++ us).toArray → Reps prog w z' (vs ++ us) (dn ++ out) → z' Dd = none → R (.ok .next) { s with heap := h', toks := tk }) :
    codeAny (model prog w) A (.compLoop (.ListComp elt gens scope pos) dpt (.ref I) (.ref Dd) cenv) R s := by
  refine codeAny_loop rfl (fun n s' => ∃ z' h' tk us ds' dn' out', s' = { s with heap := h', toks := tk } ∧ n = List.length ds' ∧ J z' h' ds' ∧ Ok prog w hb P lc z' cenv sc ρ h' ∧ h'.PlainList Dd (vs ++ us).toArray ∧ Reps prog w z' (vs ++ us) dn' ∧ z' Dd = none ∧ (∀ b ∈ wr, z' b = none) ∧
    flatO (stepD E sc target ifs G ρ) ds' = some out' ∧ dn' ++ out' = dn ++ out ∧ Step (fun b => WL sc cenv b ∨ b = Dd ∨ b ∈ wr) P z s.heap z' h') ?_ ds.length ⟨z, s.heap, s.toks, [], ds, dn, out, rfl, rfl, j, ok, by simpa using pl, by simpa using rs, hz, hwz, hout, rfl, .refl ok.on⟩
  rintro n _ ⟨z1, h1, tk1, us, ds', dn', out', rfl, rfl, j1, ok1, pl1, rs1, hz1, hwz1, ho1, hdn, st1⟩
  show wpAny _ A ((compTurn (.ListComp elt gens scope pos) dpt (.ref I) (.ref Dd) cenv).onRaise (fun x => do noteFrame x cenv; theTreesLotGoes x)) _ _ _
  refine wpAny_noted ?_
  rw [hturn]
  unfold loopTurn
  refine wpAny_bind (wpAny_standAt ?_)
  have hwP : P ∉ wr := fun m => (hfp _ (W.sub _ m)).2.1 rfl
  cases ds' with
  | nil =>
    simp [flatO] at ho1; subst ho1
    refine wpAny_bind ?_
    refine wpAny_mono (W.done (s := { s with heap := h1, toks := tk1 }) (Q := fun s' => R (.ok .next) s') j1 ok1.on hwz1 fun h2 tk2 g => ?_) (fun r s' hr => ?_) fun _ _ x => x
    · have g' := g.step hwP
      have hDw : Dd ∉ wr := fun m => (hfp _ (W.sub _ m)).2.2 rfl
      rw [List.append_nil] at hdn; subst hdn
      exact hR z1 h2 tk2 us (st1.trans (g'.mono fun b m => .inl (.inr (.inr m)))) (itr_ok W j1 ok1 g') (pl1.at fun o e => g.keep _ o hDw e) rs1 hz1
    · obtain ⟨rfl, hr⟩ := hr
      exact wpAny_pure hr
  | cons d ds'' =>
    simp only [flatO] at ho1
    split at ho1
    · cases ho1
    · rename_i bs hbs
      split at ho1
      · cases ho1
      · rename_i cs hcs
        cases ho1
        refine W.turn (s := { s with heap := h1, toks := tk1 }) (fun v => assign target cenv v >>= fun _ =>
          (forIn ifs true fun c r => if r = true then do let ok ← isTrue c cenv (eval c cenv); pure (ForInStep.yield ok) else pure (ForInStep.yield r)) >>= fun ok =>
          if ok = true then body (again (.compLoop (.ListComp elt gens scope pos) dpt (.ref I) (.ref Dd) cenv)) else again (.compLoop (.ListComp elt gens scope pos) dpt (.ref I) (.ref Dd) cenv)) (fun v => rfl) j1 ok1.on hwz1 fun v z2 h2 tk2 g r j2 => ?_
        · have hDw : Dd ∉ wr := fun m => (hfp _ (W.sub _ m)).2.2 rfl
          have g' := g.step hwP
          have ok2 := itr_ok W j1 ok1 g'
          have pl2 : h2.PlainList Dd (vs ++ us).toArray := pl1.at fun o e => g.keep _ o hDw e
          have rs2 := rs1.mono g.le
          have hz2 : z2 Dd = none := g'.zNone hz1 (plain_lt pl1)
          have st2 := st1.trans (g'.mono fun b m => .inl (.inr (.inr m)))
          have wz : ∀ {z' : Z} {h' : Heap} {ds : List D} {z'' : Z} {h'' : Heap} {V : Addr → Prop}, J z' h' ds → (∀ b ∈ wr, z' b = none) → Step V P z' h' z'' h'' → ∀ b ∈ wr, z'' b = none := fun j hw st b m => by
            obtain ⟨o, _, e, _⟩ := W.fields j b m
            exact st.zNone (hw b m) (Heap.lt_size e)
          have fr : ∀ {z' : Z} {h' : Heap} {ds : List D} {z'' : Z} {h'' : Heap}, J z' h' ds → Step (fun b => WL sc cenv b ∨ b = Dd) P z' h' z'' h'' → J z'' h'' ds := fun j st =>
            W.frame j st.le st.on fun b m o e => st.keep b o (fun q => q.elim (hfp b m).1 (hfp b m).2.2) (hfp b m).2.1 e
          have hwz2 : ∀ b ∈ wr, z2 b = none := wz j1 hwz1 g'
          unfold stepD at hbs
          split at hbs
          · cases hbs
          · rename_i ρ' hρ
            have no' := no.bindT hρ
            have less := Less.bindT hub hρ
            refine wpAny_bind (bindT_ok (s := { s with heap := h2, toks := tk2 }) (M := fun _ => True) hA.handled ok2 no.owns r hρ fun h3 tk3 st3 ok3 _ => wpAny_bind ?_)
            have j3 : J z2 h3 ds'' := fr j2 (st3.mono fun b e => .inl (.inl e))
            have pl3 : h3.PlainList Dd (vs ++ us).toArray := pl2.at fun o e => st3.keep _ o (plain_not_WL ok2 pl2) hP e
            split at hbs
            · rename_i ht
              refine tests_ok (s := { s with heap := h3, toks := tk3 }) O hA ht ok3 fun z4 h4 tk4 g4 => ?_
              rw [if_pos rfl]
              have s4 : Step (fun b => WL sc cenv b ∨ b = Dd) P z2 h3 z4 h4 := g4.step.mono fun b e => .inl (.inl (.inl e))
              have pl4 : h4.PlainList Dd (vs ++ us).toArray := pl3.at fun o e => g4.keep _ o (by obtain ⟨m, n⟩ := ok3.ns; exact (plain_ne_locals pl3 n).symm) hP e
              have hz4 := s4.zNone hz2 (plain_lt pl3)
              have hlen := rs1.length
              have e1 : (dn' ++ (bs ++ cs)).length = (dn ++ out).length := by rw [hdn]
              have e2 := rs.length
              simp only [List.length_append] at e1 hlen
              refine hbody ρ' bs { s with heap := h4, toks := tk4 } z4 (vs ++ us) dn' _ _ _ hbs (ok3.grow g4) no' pl4 (rs2.mono g4.le) hz4 (by simp only [List.length_append]; exact ar27 hl e2 e1 hlen) fun z5 h5 tk5 ws st5 ok5 pl5 rs5 hz5 => ?_
              have s3 : Step (fun b => WL sc cenv b ∨ b = Dd) P z2 h2 z5 h5 := ((st3.mono fun b e => .inl (.inl e)).trans s4).trans st5
              refine wpAny_pure ⟨rfl, ds''.length, by simp, z5, h5, tk5, us ++ ws, ds'', dn' ++ bs, cs, rfl, rfl, fr (fr j3 s4) st5, ok5.weak less, ?_, ?_, hz5, wz j2 hwz2 s3, hcs, ?_, st2.trans (s3.mono fun b e => .inl (e.imp_right .inl))⟩
              · rw [← List.append_assoc]; exact pl5
              · rw [← List.append_assoc]; exact rs5
              · rw [List.append_assoc]; exact hdn
            · rename_i ht
              cases hbs
              refine tests_ok (s := { s with heap := h3, toks := tk3 }) O hA ht ok3 fun z4 h4 tk4 g4 => ?_
              rw [if_neg Bool.false_ne_true]
              have s4 : Step (fun b => WL sc cenv b ∨ b = Dd) P z2 h3 z4 h4 := g4.step.mono fun b e => .inl (.inl (.inl e))
              have pl4 : h4.PlainList Dd (vs ++ us).toArray := pl3.at fun o e => g4.keep _ o (by obtain ⟨m, n⟩ := ok3.ns; exact (plain_ne_locals pl3 n).symm) hP e
              have hz4 := s4.zNone hz2 (plain_lt pl3)
              have s3 : Step (fun b => WL sc cenv b ∨ b = Dd) P z2 h2 z4 h4 := (st3.mono fun b e => .inl (.inl e)).trans s4
              exact wpAny_pure ⟨rfl, ds''.length, by simp, z4, h4, tk4, us, ds'', dn', cs, rfl, rfl, fr j3 s4, (ok3.grow g4).weak less, pl4, rs2.mono g4.le, hz4, wz j2 hwz2 s3, hcs, hdn, st2.trans (s3.mono fun b e => .inl (e.imp_right .inl))⟩
            · cases hbs
end
end Mine

namespace Mine
open PySem PySem.W PyProof.Rows PySem.Calls PySem.Spec

section
variable {prog : Program} {w : World} {A : Around} {R : Result → Shared → Prop} {s : Shared}

theorem compStart_second {elt t it t' it' : Expr} {ifs ifs' : List Expr} {scope : Scope} {pos : Pos} {iv acc : Value} {env : Env}
    (h0 : codeAny (model prog w) A (.compLoop (.ListComp elt [⟨t, it, ifs, 0⟩, ⟨t', it', ifs', 0⟩] scope pos) 1 iv acc env) R s)
    (h : wpAny (model prog w) A (pyIter iv) (fun iv' s' => codeAny (model prog w) A (.compLoop (.ListComp elt [⟨t, it, ifs, 0⟩, ⟨t', it', ifs', 0⟩] scope pos) 1 iv' acc env) R s')
      (notedBy (model prog w) A env fun x s' => R (.error x) s') s) :
    codeAny (model prog w) A (.compStart (.ListComp elt [⟨t, it, ifs, 0⟩, ⟨t', it', ifs', 0⟩] scope pos) 1 iv acc env) R s := by
  refine codeAny_of_tree ?_
  show wpAny _ _ ((compStart (.ListComp elt [⟨t, it, ifs, 0⟩, ⟨t', it', ifs', 0⟩] scope pos) 1 iv acc env).onRaise (fun x => do noteFrame x env; standAt theWindowsPlace)) _ _ s
  refine wpAny_notedAt ?_
  unfold compStart
  show wpAny _ _ (ask >>= _) _ _ s
  refine wpAny_bind (wpAny_askSetting (wpAny_ite ?_))
  split
  · first
      | exact wpAny_bind (wpAny_pure (wpAny_pure (And.intro rfl h0)))
      | exact wpAny_pure (And.intro rfl h0)
  · first
      | exact wpAny_bind (wpAny_rule (wpAny_bind (wpAny_standAt (wpAny_bind (wpAny_mono h (fun it' s' h' => wpAny_pure (And.intro rfl h')) fun _ _ x => x)))))
      | (refine wpAny_bind (wpAny_rule ?_); show wpAny _ _ (standAt it'.pos >>= _) _ _ s; exact wpAny_bind (wpAny_standAt (wpAny_bind (wpAny_mono h (fun it' s' h' => wpAny_pure (And.intro rfl h')) fun _ _ x => x))))

theorem folded_pure {e : Expr} {env : Env} (h : isSetE e = false) (x : Value) : foldedSetIterable e env x = pure x := by
  cases e <;> first | rfl | (simp [isSetE] at h)
theorem unbT_shape {ρ : Rho} {t : Expr} (h : unbT ρ t = true) : (∃ x p, t = .Name x p) ∨ (∃ es n p, t = .Tuple es n p) := by
  cases t <;> first | exact .inl ⟨_, _, rfl⟩ | exact .inr ⟨_, _, _, rfl⟩ | (simp [unbT] at h)
end

section
variable {prog : Program} {w : World} {hb : Heap} {mg mb : Str → Option Value} {c P : Addr} {k : Nat} {lc : Option Addr} {E : Ev} {z z' : Z} {env : Env} {sc sc' : Scope} {ρ ρ' : Rho} {h h' : Heap} {M : Addr → Prop} {A : Around} {s : Shared} {Ex : Value → Shared → Prop}

theorem not_WL {z' : Z} {b : Addr} (ok : Ok prog w hb P lc z env sc ρ h) (st : Grow P env.locals z h z' h') (hL : b ≠ env.locals) (hb : h.objs.size ≤ b ∨ ∃ o, z' b = some o) : ¬ WL sc env b := by
  rintro (e | ⟨y, e1, e2⟩)
  · exact hL e
  · obtain ⟨⟨v, hv⟩, hz, _⟩ := ok.cells y b e1 e2
    rcases hb with q | ⟨o, q⟩
    · exact absurd hv.lt (Nat.not_lt.mpr q)
    · rw [st.step.zNone hz hv.lt] at q; cases q

noncomputable def inG (E : Ev) (sc : Scope) (elt : Expr) (g' : Comprehension) (ρ' : Rho) : Option (List D) :=
  match E.it sc ρ' (isTup g'.target) g'.iter with
  | none => none
  | some ds' => compGo E sc elt [g'] ds' ρ'

theorem compGo_one (elt : Expr) (g : Comprehension) (ds : List D) (ρ : Rho) : compGo E sc elt [g] ds ρ = if unbT ρ g.target then flatO (stepD E sc g.target g.ifs (fun ρ' => (E.v sc ρ' elt).map fun x => [x]) ρ) ds else none := rfl
theorem compGo_two (elt : Expr) (g g' : Comprehension) (ds : List D) (ρ : Rho) : compGo E sc elt [g, g'] ds ρ = if unbT ρ g.target then flatO (stepD E sc g.target g.ifs (inG E sc elt g') ρ) ds else none := rfl

theorem bodyIn_ok {elt t it t' it' : Expr} {ifs ifs' : List Expr} {scope : Scope} {pos : Pos} {Dd : Addr} {cenv : Env} (O : EvOk prog w hb P k lc E) (hA : Room k A) (hP : Dd ≠ P) (hs : isSetE it' = false) :
    BodyOk prog w hb P lc sc A Dd cenv (bodyIn (.ListComp elt [⟨t, it, ifs, 0⟩, ⟨t', it', ifs', 0⟩] scope pos) it' (.ref Dd) cenv) (inG E sc elt ⟨t', it', ifs', 0⟩) := by
  intro ρ' ys s z vs dn ag Q Ex hG ok no pl rs hz hl hQ
  unfold inG at hG
  split at hG
  · cases hG
  · rename_i ds' hds
    rw [compGo_one] at hG
    split at hG
    · rename_i hub
      unfold bodyIn
      refine wpAny_bind ?_
      refine wpAny_mono (O.it hds hA ok (unbT_shape hub) fun I wr fp J z1 h1 tk1 g W j hw hf => ?_) (Q := fun x s1 => wpAny (model prog w) A (pyIter x) (fun i s2 => wpAny (model prog w) A (runOwn (.compStart (.ListComp elt [⟨t, it, ifs, 0⟩, ⟨t', it', ifs', 0⟩] scope pos) 1 i (.ref Dd) cenv) cenv) (fun _ s3 => wpAny (model prog w) A ag Q Ex s3) Ex s2) Ex s1)
        (fun x s1 h1 => wpAny_bind (wpAny_standAt (wpAny_bind (wpAny_of_eq (folded_pure hs x) (wpAny_bind (wpAny_holding (wpAny_mono h1 (fun i s2 h2 => wpAny_bind h2) fun _ _ x => x))))))) fun _ _ x => x
      have ok1 := ok.grow g
      have hL : Dd ≠ cenv.locals := by obtain ⟨m, n⟩ := ok.ns; exact (plain_ne_locals pl n).symm
      have pl1 : h1.PlainList Dd vs.toArray := pl.at fun o e => g.keep _ o hL hP e
      have hz1 : z1 Dd = none := g.step.zNone hz (plain_lt pl)
      have hfp : ∀ b ∈ fp, ¬ WL sc cenv b ∧ b ≠ P ∧ b ≠ Dd := by
        intro b m
        obtain ⟨q1, q2, q3, q4⟩ := hf b m
        have q5 : s.heap.objs.size ≤ b ∨ ∃ o, z1 b = some o := by
          rcases q4 with q | q | ⟨x, d, q⟩
          · exact .inl q
          · exact .inr q
          · exact absurd q (no x d)
        refine ⟨not_WL ok g q2 q5, q3, ?_⟩
        rintro rfl
        rcases q5 with q | ⟨o, q⟩
        · exact absurd (plain_lt pl) (Nat.not_lt.mpr q)
        · rw [hz1] at q; cases q
      refine wpAny_runOwn (h := none) ?_
      have loop : codeAny (model prog w) A (.compLoop (.ListComp elt [⟨t, it, ifs, 0⟩, ⟨t', it', ifs', 0⟩] scope pos) 1 (.ref I) (.ref Dd) cenv) (fun r s' => match r with | .ok f => wpAny (model prog w) A ag Q Ex s' | .error e => cameBackBy (model prog w) A cenv Ex e s') { s with heap := h1, toks := tk1 } := by
        refine comp_loop (s := { s with heap := h1, toks := tk1 }) O hA (turn2b elt t it t' it' ifs ifs' scope pos (.ref I) (.ref Dd) cenv) W hfp no hub hP (bodyApp_ok O hA hP) hG j ok1 pl1 (rs.mono g.le) hz1 (fun b m => (hw b m).2) hl fun z2 h2 tk2 us st ok2 pl2 rs2 hz2 => ?_
        refine hQ z2 h2 tk2 us ?_ ok2 pl2 rs2 hz2
        have st1 : Step (fun b => WL sc cenv b ∨ b = Dd ∨ b ∈ wr) P z s.heap z2 h2 := (g.step.mono fun b e => .inl (.inl (.inl e))).trans st
        refine st1.mono fun b e => ?_
        rcases e with e | e | e
        · exact .inl (.inl e)
        · exact .inl (.inr e)
        · exact .inr (hw b e).1
      exact compStart_second (s := { s with heap := h1, toks := tk1 }) loop (W.self j loop)
    · cases hG
end
end Mine

namespace Mine
open PySem PySem.W PyProof.Rows PySem.Calls PySem.Spec

noncomputable def closList (env : Env) : List (Str × NameKind) → List (Str × Addr) → List (Str × Addr)
  | [], acc => acc
  | (x, kd) :: r, acc => if kd == .free then closList env r ((x, (env.cells.lookup x).getD 0) :: acc) else closList env r acc

theorem clos_forIn {env : Env} : ∀ (names : List (Str × NameKind)) (acc : List (Str × Addr)), (∀ p ∈ names, p.2 = .free → ∃ a, env.cells.lookup p.1 = some a) →
    (forIn names acc fun (x : Str × NameKind) (r : List (Str × Addr)) => if (x.2 == .free) = true then (do let a ← cellOf env x.1; pure (ForInStep.yield ((x.1, a) :: r))) else pure (ForInStep.yield r) : Sem (List (Str × Addr))) = pure (closList env names acc)
  | [], acc, _ => rfl
  | (x, kd) :: r, acc, h => by
    rw [List.forIn_cons]
    unfold closList
    cases hk : kd == NameKind.free with
    | false =>
      simp only [Bool.false_eq_true, if_false]
      exact clos_forIn r acc fun p m => h p (List.mem_cons_of_mem _ m)
    | true =>
      simp only [if_true]
      obtain ⟨a, ha⟩ := h (x, kd) List.mem_cons_self (by simpa using hk)
      have ha' : List.lookup x env.cells = some a := ha
      have : cellOf env x = pure a := by unfold cellOf; rw [ha']
      rw [this, ha']
      exact clos_forIn r _ fun p m => h p (List.mem_cons_of_mem _ m)

theorem closureFor_ok {env : Env} {sc' : Scope} (h : ∀ p ∈ sc'.names, p.2 = .free → ∃ a, env.cells.lookup p.1 = some a) : closureFor sc' env = pure (closList env sc'.names []) := by
  unfold closureFor
  show ((forIn sc'.names [] fun (x : Str × NameKind) (r : List (Str × Addr)) => if (x.2 == .free) = true then (do let a ← cellOf env x.1; pure (ForInStep.yield ((x.1, a) :: r))) else pure (ForInStep.yield r) : Sem (List (Str × Addr))) >>= fun r => pure r) = _
  rw [clos_forIn sc'.names [] h]
  rfl

theorem closList_mem {env : Env} : ∀ (names : List (Str × NameKind)) (acc : List (Str × Addr)), (∀ p ∈ names, p.2 = .free → ∃ a, env.cells.lookup p.1 = some a) → (∀ p ∈ acc, env.cells.lookup p.1 = some p.2) →
    ∀ p ∈ closList env names acc, env.cells.lookup p.1 = some p.2
  | [], acc, _, ha => ha
  | (x, kd) :: r, acc, h, ha => by
    unfold closList
    split
    · rename_i hk
      refine closList_mem r _ (fun p m => h p (List.mem_cons_of_mem _ m)) fun p m => ?_
      rcases List.mem_cons.mp m with rfl | m
      · obtain ⟨a, q⟩ := h (x, kd) List.mem_cons_self (by simpa using hk)
        have q' : List.lookup x env.cells = some a := q
        show List.lookup x env.cells = some ((List.lookup x env.cells).getD 0)
        rw [q']; rfl
      · exact ha p m
    · exact closList_mem r acc (fun p m => h p (List.mem_cons_of_mem _ m)) ha
theorem closList_has {env : Env} : ∀ (names : List (Str × NameKind)) (acc : List (Str × Addr)) (x : Str), ((x, NameKind.free) ∈ names ∨ ∃ a, (x, a) ∈ acc) → ∃ a, (x, a) ∈ closList env names acc
  | [], acc, x, h => by
    rcases h with h | h
    · first | exact nn h | cases h
    · exact h
  | (y, kd) :: r, acc, x, h => by
    unfold closList
    split
    · refine closList_has r _ x ?_
      rcases h with h | ⟨a, h⟩
      · rcases List.mem_cons.mp h with e | h
        · cases e; exact .inr ⟨_, List.mem_cons_self⟩
        · exact .inl h
      · exact .inr ⟨a, List.mem_cons_of_mem _ h⟩
    · rename_i hk
      refine closList_has r acc x ?_
      rcases h with h | h
      · rcases List.mem_cons.mp h with e | h
        · cases e; exact absurd rfl hk
        · exact .inl h
      · exact .inr h

theorem lookup_of_mem {β : Type} : ∀ {l : List (Str × β)} {x : Str} {b : β}, (x, b) ∈ l → ∃ b', l.lookup x = some b'
  | (y, c) :: r, x, b, h => by
    rw [List.lookup_cons]
    cases hx : x == y with
    | true => exact ⟨c, rfl⟩
    | false =>
      rcases List.mem_cons.mp h with e | h
      · cases e; simp at hx
      · exact lookup_of_mem h
theorem mem_of_lookup' {β : Type} : ∀ {l : List (Str × β)} {x : Str} {b : β}, l.lookup x = some b → (x, b) ∈ l
  | (y, c) :: r, x, b, h => by
    rw [List.lookup_cons] at h
    cases hx : x == y with
    | true =>
      rw [hx] at h; cases h
      have : x = y := by simpa using hx
      subst this; exact List.mem_cons_self
    | false => rw [hx] at h; exact List.mem_cons_of_mem _ (mem_of_lookup' h)
theorem nodup_lookup {β : Type} : ∀ {l : List (Str × β)} {x : Str} {b : β}, nodupS (l.map (·.1)) = true → (x, b) ∈ l → l.lookup x = some b
  | (y, c) :: r, x, b, hn, h => by
    simp only [List.map_cons, nodupS, Bool.and_eq_true, Bool.not_eq_true'] at hn
    rw [List.lookup_cons]
    rcases List.mem_cons.mp h with e | hm
    · cases e; simp
    · have hne : (x == y) = false := by
        cases hx : x == y with
        | false => rfl
        | true =>
          have e : x = y := by simpa using hx
          subst e
          have : (r.map (·.1)).contains x = true := by simpa using ⟨b, hm⟩
          rw [this] at hn; exact absurd hn.1 (by simp)
      rw [hne]; exact nodup_lookup hn.2 hm

/-- the cells of a new block, over the closure's -/
theorem cellsFrom_spec : ∀ (names : List (Str × NameKind)) (h : Heap) (acc : List (Str × Addr)) (x : Str) (a : Addr), (x, a) ∈ cellsFrom h.objs.size names acc → (x, a) ∈ acc ∨ ((x, NameKind.cell) ∈ names ∧ h.objs.size ≤ a ∧ (pushCells h names).IsCell a none)
  | [], h, acc, x, a, m => .inl m
  | (y, kd) :: r, h, acc, x, a, m => by
    unfold cellsFrom at m
    unfold pushCells
    split at m
    · rename_i hk
      rw [if_pos hk]
      have m' : (x, a) ∈ cellsFrom (h.push { cls := .type "cell", data := .cell none }).objs.size r ((y, h.objs.size) :: acc) := by rw [Heap.size_push]; exact m
      rcases cellsFrom_spec r (h.push { cls := .type "cell", data := .cell none }) _ x a m' with q | ⟨q1, q2, q3⟩
      · rcases List.mem_cons.mp q with e | q
        · cases e
          have : kd = .cell := by simpa using hk
          subst this
          exact .inr ⟨List.mem_cons_self, Nat.le_refl _, Heap.IsCell.keeps (h := h.push { cls := .type "cell", data := .cell none }) ⟨_, Heap.get?_push_size _ rfl, rfl⟩ (pushCells_keeps _ _)⟩
        · exact .inl q
      · rw [Heap.size_push] at q2
        exact .inr ⟨List.mem_cons_of_mem _ q1, Nat.le_of_succ_le q2, q3⟩
    · rename_i hk
      rw [if_neg hk]
      rcases cellsFrom_spec r h acc x a m with q | ⟨q1, q2, q3⟩
      · exact .inl q
      · exact .inr ⟨List.mem_cons_of_mem _ q1, q2, q3⟩

theorem cellsFrom_has : ∀ (names : List (Str × NameKind)) (n : Nat) (acc : List (Str × Addr)) (x : Str), ((x, NameKind.cell) ∈ names ∨ ∃ a, (x, a) ∈ acc) → ∃ a, (x, a) ∈ cellsFrom n names acc
  | [], n, acc, x, h => by
    rcases h with h | h
    · first | exact nn h | cases h
    · exact h
  | (y, kd) :: r, n, acc, x, h => by
    unfold cellsFrom
    split
    · refine cellsFrom_has r _ _ x ?_
      rcases h with h | ⟨a, h⟩
      · rcases List.mem_cons.mp h with e | h
        · cases e; exact .inr ⟨_, List.mem_cons_self⟩
        · exact .inl h
      · exact .inr ⟨a, List.mem_cons_of_mem _ h⟩
    · rename_i hk
      refine cellsFrom_has r n acc x ?_
      rcases h with h | h
      · rcases List.mem_cons.mp h with e | h
        · cases e; exact absurd rfl hk
        · exact .inl h
      · exact .inr h

/-- different names have different new cells -/
theorem cellsFrom_apart {n₀ : Nat} : ∀ (names : List (Str × NameKind)) (n : Nat) (acc : List (Str × Addr)), (∀ p ∈ acc, p.2 < n) → (∀ x y a, (x, a) ∈ acc → (y, a) ∈ acc → n₀ ≤ a → x = y) → n₀ ≤ n →
    ∀ x y a, (x, a) ∈ cellsFrom n names acc → (y, a) ∈ cellsFrom n names acc → n₀ ≤ a → x = y
  | [], n, acc, _, h, _, x, y, a, m1, m2, ha => h x y a m1 m2 ha
  | (u, kd) :: r, n, acc, hlt, h, hn, x, y, a, m1, m2, ha => by
    unfold cellsFrom at m1 m2
    split at m1
    · rename_i hk
      rw [if_pos hk] at m2
      refine cellsFrom_apart r (n + 1) ((u, n) :: acc) (fun p m => ?_) (fun x y a m1 m2 ha => ?_) (Nat.le_succ_of_le hn) x y a m1 m2 ha
      · rcases List.mem_cons.mp m with rfl | m
        · exact Nat.lt_succ_self _
        · exact Nat.lt_succ_of_lt (hlt p m)
      · rcases List.mem_cons.mp m1 with e1 | m1
        · cases e1
          rcases List.mem_cons.mp m2 with e2 | m2
          · cases e2; rfl
          · exact absurd (hlt _ m2) (Nat.lt_irrefl _)
        · rcases List.mem_cons.mp m2 with e2 | m2
          · cases e2; exact absurd (hlt _ m1) (Nat.lt_irrefl _)
          · exact h x y a m1 m2 ha
    · rename_i hk
      rw [if_neg hk] at m2
      exact cellsFrom_apart r n acc hlt h hn x y a m1 m2 ha
end Mine

namespace Mine
open PySem PySem.W PyProof.Rows PySem.Calls PySem.Spec

noncomputable abbrev dictObj : Obj := { cls := .type "dict", data := .dict #[] }

noncomputable def cEnv (sc' : Scope) (env : Env) (C : Addr) : Env :=
  { newEnv sc' C env.globals (cellsFrom (C + 1) sc'.names (closList env sc'.names [])) env.qual none .none (some env) builtinsNs with scope := relabel sc' env }

theorem newComp {Mo : Model} {A : Around} {Ex : Value → Shared → Prop} {s : Shared} {sc' : Scope} {env : Env} {cl : List (Str × Addr)} {Q : Env → Shared → Prop}
    (h : Q (newEnv sc' s.heap.objs.size env.globals (cellsFrom (s.heap.objs.size + 1) sc'.names cl) env.qual none .none (some env) builtinsNs) { s with heap := pushCells (s.heap.push dictObj) sc'.names }) :
    wpAny Mo A (newFunctionEnv sc' env.globals cl [] env.qual none .none (some env)) Q Ex s := by
  simp only [newFunctionEnv, Option.isSome_some, if_true]
  refine wpAny_bind (wpAny_alloc ?_)
  refine wpAny_bind (wpAny_layCells _ (fun name kind cells => by cases hkc : kind == NameKind.cell <;> simp [hkc]) _ _ _ _ ?_)
  rw [show ({ s with heap := s.heap.push dictObj } : Shared).heap.objs.size = s.heap.objs.size + 1 from Heap.size_push ..]
  exact wpAny_pure h

theorem relabel_lookup {env : Env} : ∀ {names : List (Str × NameKind)} {x : Str},
    (names.map fun (n, k) => if (k == NameKind.free && env.scope.kind == .function && env.kindOf n == some .cell) then (n, NameKind.cell) else (n, k)).lookup x =
      (names.lookup x).map fun k => if (k == NameKind.free && env.scope.kind == .function && env.kindOf x == some .cell) then NameKind.cell else k
  | [], _ => rfl
  | (n, k) :: r, x => by
    rw [List.map_cons]
    show List.lookup x ((if (k == NameKind.free && env.scope.kind == .function && env.kindOf n == some .cell) = true then (n, NameKind.cell) else (n, k)) :: _) = _
    cases hx : x == n with
    | true =>
      have e : x = n := by simpa using hx
      subst e
      split
      · rename_i hc
        rw [List.lookup_cons, List.lookup_cons]
        simp only [hx, Option.map_some, if_pos hc]
      · rename_i hc
        rw [List.lookup_cons, List.lookup_cons]
        simp only [hx, Option.map_some, if_neg hc]
    | false =>
      split <;> rename_i hc <;> simp only [List.lookup_cons, hx] <;> exact relabel_lookup

theorem closList_free {env : Env} : ∀ (names : List (Str × NameKind)) (acc : List (Str × Addr)) (x : Str) (a : Addr), (x, a) ∈ closList env names acc → (x, NameKind.free) ∈ names ∨ (x, a) ∈ acc
  | [], acc, x, a, m => .inr m
  | (y, kd) :: r, acc, x, a, m => by
    unfold closList at m
    split at m
    · rename_i hk
      rcases closList_free r _ x a m with q | q
      · exact .inl (List.mem_cons_of_mem _ q)
      · rcases List.mem_cons.mp q with e | q
        · cases e
          have : kd = .free := by simpa using hk
          subst this; exact .inl List.mem_cons_self
        · exact .inr q
    · rcases closList_free r acc x a m with q | q
      · exact .inl (List.mem_cons_of_mem _ q)
      · exact .inr q

theorem compRho_some {sc' : Scope} {ρ : Rho} {x : Str} {b : B} (h : (compRho sc' ρ).lookup x = some b) : ∃ kd, (x, kd) ∈ sc'.names ∧ (b = .unb ∨ (kd = .free ∧ ∃ d, b = .val d ∧ ρ.lookup x = some (.val d))) := by
  have m := mem_of_lookup' h
  unfold compRho at m
  obtain ⟨⟨y, kd⟩, m1, m2⟩ := List.mem_filterMap.mp m
  cases kd with
  | «local» => simp at m2; obtain ⟨rfl, rfl⟩ := m2; exact ⟨_, m1, .inl rfl⟩
  | cell => simp at m2; obtain ⟨rfl, rfl⟩ := m2; exact ⟨_, m1, .inl rfl⟩
  | free =>
    simp at m2
    obtain ⟨rfl, hb⟩ := m2
    refine ⟨_, m1, ?_⟩
    split at hb
    · rename_i d hd
      exact .inr ⟨rfl, d, hb.symm, hd⟩
    · exact .inl hb.symm
  | _ => simp at m2
theorem compRho_noOwn (sc' : Scope) (ρ : Rho) : NoOwn (compRho sc' ρ) := fun x d e => by
  obtain ⟨kd, _, q | ⟨_, d', q, _⟩⟩ := compRho_some e <;> cases q

section
variable {prog : Program} {w : World} {hb : Heap} {mg mb : Str → Option Value} {c P : Addr} {k : Nat} {lc : Option Addr} {E : Ev} {z z' : Z} {env : Env} {sc sc' : Scope} {ρ ρ' : Rho} {h h' : Heap} {M : Addr → Prop} {A : Around} {s : Shared} {Ex : Value → Shared → Prop}

theorem scOk_of (hs : scOk sc' = true) : sc'.kind = .function ∧ (∀ p ∈ sc'.names, (p.1 == ("__debug__" : Str)) = false ∧ (p.1 == ("__classdict__" : Str)) = false) ∧ nodupS (sc'.names.map (·.1)) = true := by
  unfold scOk at hs
  simp only [Bool.and_eq_true, List.all_eq_true, bne_iff_ne, ne_eq, beq_iff_eq] at hs
  refine ⟨hs.1.1, fun p m => ?_, hs.2⟩
  obtain ⟨q1, q2⟩ := hs.1.2 p m
  exact ⟨beq_eq_false_iff_ne.mpr q1, beq_eq_false_iff_ne.mpr q2⟩

theorem free_cell (ok : Ok prog w hb P lc z env sc ρ h) (hf : freeOk sc sc' = true) : ∀ p ∈ sc'.names, p.2 = .free → ∃ a, env.cells.lookup p.1 = some a ∧ (∃ v, h.IsCell a v) ∧ (env.kindOf p.1 = some .cell ∨ env.kindOf p.1 = some .free) := by
  intro p m e
  unfold freeOk at hf
  rw [List.all_eq_true] at hf
  have := hf p m
  rw [e] at this
  simp only [bne_self_eq_false, Bool.false_or, Bool.or_eq_true, beq_iff_eq] at this
  rcases this with q | q
  · obtain ⟨h1, a, h2⟩ := ok.eok.cel _ q
    exact ⟨a, h2, (ok.cells _ _ q h2).1, .inl h1⟩
  · obtain ⟨h1, a, h2⟩ := ok.eok.fre _ q
    exact ⟨a, h2, ok.frees _ _ q h2, h1⟩

theorem pushCells_size : ∀ (names : List (Str × NameKind)) (h : Heap), h.objs.size ≤ (pushCells h names).objs.size
  | [], _ => Nat.le_refl _
  | (_, kd) :: r, h => by
    unfold pushCells
    split
    · exact Nat.le_trans (by rw [Heap.size_push]; exact Nat.le_succ _) (pushCells_size r _)
    · exact pushCells_size r h

/-- a comprehension's own cell is new -/
theorem cEnv_cell (ok : Ok prog w hb P lc z env sc ρ h) (hs : scOk sc' = true) (hf : freeOk sc sc' = true) {x : Str} {a : Addr} (hx : sc'.names.lookup x = some .cell) (ha : (cEnv sc' env h.objs.size).cells.lookup x = some a) :
    h.objs.size + 1 ≤ a ∧ (pushCells (h.push dictObj) sc'.names).IsCell a none := by
  obtain ⟨hk, hn, hd⟩ := scOk_of hs
  have m := mem_of_lookup' ha
  have m' : (x, a) ∈ cellsFrom (h.push dictObj).objs.size sc'.names (closList env sc'.names []) := by rw [Heap.size_push]; exact m
  rcases cellsFrom_spec _ _ _ _ _ m' with q | ⟨_, q2, q3⟩
  · rcases closList_free _ _ _ _ q with q | q
    · rw [nodup_lookup hd q] at hx; cases hx
    · cases q
  · rw [Heap.size_push] at q2; exact ⟨q2, q3⟩

theorem cEnv_ok (ok : Ok prog w hb P lc z env sc ρ h) (hs : scOk sc' = true) (hf : freeOk sc sc' = true) : Ok prog w hb P lc z (cEnv sc' env h.objs.size) sc' (compRho sc' ρ) (pushCells (h.push dictObj) sc'.names) := by
  obtain ⟨hk, hn, hd⟩ := scOk_of hs
  have keep : ∀ b o, h.get? b = some o → (pushCells (h.push dictObj) sc'.names).get? b = some o := fun b o e => pushCells_keeps _ _ b o (Heap.get?_push_of_some _ e)
  have sz : h.objs.size ≤ (pushCells (h.push dictObj) sc'.names).objs.size := Nat.le_trans (by rw [Heap.size_push]; exact Nat.le_succ _) (pushCells_size _ _)
  have fc := free_cell ok hf
  have kindOf : ∀ x, (cEnv sc' env h.objs.size).kindOf x = (sc'.names.lookup x).map fun k => if (k == NameKind.free && env.scope.kind == .function && env.kindOf x == some .cell) then NameKind.cell else k := fun x => relabel_lookup
  have closMem := closList_mem sc'.names [] (fun p m e => let ⟨a, q, _⟩ := fc p m e; ⟨a, q⟩) (fun p m => nomatch m)
  -- the cells of free names are the old ones
  have freeLk : ∀ x, (x, NameKind.free) ∈ sc'.names → ∃ a, (cEnv sc' env h.objs.size).cells.lookup x = some a ∧ env.cells.lookup x = some a ∧ (∃ v, h.IsCell a v) ∧ (env.kindOf x = some .cell ∨ env.kindOf x = some .free) := by
    intro x m
    obtain ⟨a, q1, q2, q3⟩ := fc _ m rfl
    have has := cellsFrom_has sc'.names (h.objs.size + 1) (closList env sc'.names []) x (.inr (closList_has _ _ x (.inl m)))
    obtain ⟨a', ha'⟩ := has
    obtain ⟨b, hb⟩ := lookup_of_mem ha'
    have mb := mem_of_lookup' hb
    have mb' : (x, b) ∈ cellsFrom (h.push dictObj).objs.size sc'.names (closList env sc'.names []) := by rw [Heap.size_push]; exact mb
    rcases cellsFrom_spec _ _ _ _ _ mb' with q | ⟨q, _⟩
    · have := closMem _ q
      have e : env.cells.lookup x = some b := this
      have q1' : env.cells.lookup x = some a := q1
      rw [q1'] at e; cases e
      exact ⟨a, hb, q1', q2, q3⟩
    · have e1 := nodup_lookup hd q
      rw [nodup_lookup hd m] at e1; cases e1
  refine ⟨fun b o e => keep b o (ok.on b o e), ok.tab.keep (fun o e => keep _ o e) (fun _ _ e => e) (fun _ _ e => .inl e), ⟨_, (Heap.Ns.new h (.type "dict")).keeps (pushCells_keeps _ _)⟩, ok.on.none_of_size (Nat.le_refl _), ok.base, ?_, ?_, ?_, ?_, ?_⟩
  · refine ⟨hk, fun x hx => ?_, fun x hx => ?_, fun x hx => ?_, fun x hx => ?_, ok.eok.globals, ok.eok.builtins, fun c e => ok.eok.lam c e⟩
    · rw [kindOf, hx]; rfl
    · refine ⟨by rw [kindOf, hx]; rfl, ?_⟩
      obtain ⟨a, ha⟩ := cellsFrom_has sc'.names (h.objs.size + 1) (closList env sc'.names []) x (.inl (mem_of_lookup' hx))
      exact lookup_of_mem ha
    · obtain ⟨a, q1, q2, q3, q4⟩ := freeLk x (mem_of_lookup' hx)
      refine ⟨?_, a, q1⟩
      rw [kindOf, hx]
      rw [Option.map_some]
      split
      · exact .inl rfl
      · exact .inr rfl
    · rw [kindOf, hx]; rfl
  · intro x a hx ha
    obtain ⟨q1, q2⟩ := cEnv_cell ok hs hf hx ha
    refine ⟨⟨_, q2⟩, ok.on.none_of_size (Nat.le_of_succ_le q1), fun y b hy hb e => ?_⟩
    subst e
    refine hy (cellsFrom_apart (n₀ := h.objs.size + 1) sc'.names (h.objs.size + 1) (closList env sc'.names []) (fun p m => ?_) (fun x y a m1 m2 ha => ?_) (Nat.le_refl _) y x b (mem_of_lookup' hb) (mem_of_lookup' ha) q1)
    · rcases closList_free _ _ p.1 p.2 m with q | q
      · obtain ⟨a, e1, ⟨v, hv⟩, _⟩ := fc _ q rfl
        have e2 := closMem p m
        have e1' : env.cells.lookup p.1 = some a := e1
        rw [e2] at e1'; cases e1'
        exact Nat.lt_succ_of_lt hv.lt
      · cases q
    · rcases closList_free _ _ _ _ m1 with q | q
      · obtain ⟨a', e1, ⟨v, hv⟩, _⟩ := fc _ q rfl
        have e2 := closMem _ m1
        have e1' : env.cells.lookup x = some a' := e1
        have e2' : env.cells.lookup x = some a := e2
        rw [e2'] at e1'; cases e1'
        exact absurd hv.lt (Nat.not_lt.mpr (Nat.le_of_succ_le ha))
      · cases q
  · intro x a hx ha
    obtain ⟨b, q1, q2, ⟨v, q3⟩, q4⟩ := freeLk x (mem_of_lookup' hx)
    rw [q1] at ha; cases ha
    exact ⟨v, q3.keeps keep⟩
  · intro x b e
    obtain ⟨kd, m, _⟩ := compRho_some e
    exact hn _ m
  · intro x b e
    obtain ⟨kd, m, rfl | ⟨rfl, d, rfl, e2⟩⟩ := compRho_some e
    · trivial
    · obtain ⟨b, q1, q2, q3, q4⟩ := freeLk x m
      obtain ⟨v, l, r⟩ := ok.vars x _ e2
      refine ⟨v, ?_, r⟩
      rcases l with ⟨kk, _⟩ | ⟨kk, a, e3, e4⟩
      · rcases q4 with q4 | q4 <;> (rw [kk] at q4; cases q4)
      · rw [q2] at e3; cases e3
        refine .inr ⟨?_, b, q1, e4.keeps keep⟩
        rw [kindOf, nodup_lookup hd m, Option.map_some]
        split
        · exact .inl rfl
        · exact .inr rfl
end
end Mine

namespace Mine
open PySem PySem.W PyProof.Rows PySem.Calls PySem.Spec

section
variable {prog : Program} {w : World} {hb : Heap} {mg mb : Str → Option Value} {c P : Addr} {k : Nat} {lc : Option Addr} {E : Ev} {z z' : Z} {env : Env} {sc sc' : Scope} {ρ ρ' : Rho} {h h' : Heap} {M : Addr → Prop} {A : Around} {s : Shared} {Ex : Value → Shared → Prop}

theorem Grow.thenStep {L : Addr} {z1 z2 : Z} {h1 h2 : Heap} {W : Addr → Prop} (g : Grow P L z h z1 h1) (st : Step W P z1 h1 z2 h2) (hw : ∀ b, W b → h.objs.size ≤ b) (t : TabOk P z h) : Grow P L z h z2 h2 where
  le := fun a o e => st.le _ _ (g.le _ _ e)
  on := st.on
  keep := fun b o h1 h2 e => st.keep b o (fun q => absurd (Heap.lt_size e) (Nat.not_lt.mpr (hw b q))) h2 (g.keep b o h1 h2 e)
  ns := fun m n => (g.ns m n).at' fun o e => st.keep _ o (fun q => absurd n.lt (Nat.not_lt.mpr (hw _ q))) (ns_ne t n) e
  size := Nat.le_trans g.size st.size
  new := fun b o e => (st.new b o e).elim (g.new b o) fun l => .inr (Nat.le_trans g.size l)
  tab := fun t => st.tab (g.tab t)

theorem WL_new (ok : Ok prog w hb P lc z env sc ρ h) (hs : scOk sc' = true) (hf : freeOk sc sc' = true) {b : Addr} (q : WL sc' (cEnv sc' env h.objs.size) b) : h.objs.size ≤ b := by
  rcases q with e | ⟨x, e1, e2⟩
  · exact Nat.le_of_eq e.symm
  · exact Nat.le_of_succ_le (cEnv_cell ok hs hf e1 e2).1

theorem genOk_of {g : Comprehension} (h : genOk g = true) : ∃ t it ifs, g = ⟨t, it, ifs, 0⟩ ∧ isSetE it = false := by
  obtain ⟨t, it, ifs, a⟩ := g
  unfold genOk at h
  simp only [Bool.and_eq_true, beq_iff_eq, Bool.not_eq_true'] at h
  obtain ⟨h1, h2⟩ := h
  subst h1
  exact ⟨t, it, ifs, rfl, h2⟩

theorem comp_core {elt : Expr} {g : Comprehension} {gs : List Comprehension} {pos : Pos} {ds out : List D} {RR : Value → Addr → Result → Shared → Prop} (O : EvOk prog w hb P k lc E) (hA : Room k A) (ok : Ok prog w hb P lc z env sc ρ s.heap) (hs : scOk sc' = true) (hf : freeOk sc sc' = true)
    (hgen : (g :: gs).all genOk = true) (hl2 : (g :: gs).length ≤ 2) (hit : E.it sc ρ (isTup g.target) g.iter = some ds) (hgo : compGo E sc' elt (g :: gs) ds (compRho sc' ρ) = some out) (hlen : out.length ≤ 1000)
    (hRR : ∀ Dd C z' h' tk vs m, Grow P env.locals z s.heap z' h' → h'.PlainList Dd (List.toArray vs) → Reps prog w z' vs out → z' Dd = none → s.heap.objs.size ≤ Dd → h'.Ns C m → s.heap.objs.size ≤ C → z' C = none → Dd ≠ C → C ≠ P → RR (.ref Dd) C (.ok .next) { s with heap := h', toks := tk }) :
    wpAny (model prog w) A (eval g.iter env) (fun x s₁ => wpAny (model prog w) A (pyIter x) (fun it s₂ => wpAny (model prog w) A (newList []) (fun acc s₃ =>
      wpAny (model prog w) A (newFunctionEnv sc' env.globals (closList env sc'.names []) [] env.qual none .none (some env)) (fun cenv s₄ =>
        codeAny (model prog w) A (.compStart (.ListComp elt (g :: gs) sc' pos) 0 it acc { cenv with scope := relabel sc' env }) (RR acc cenv.locals) s₄) Ex s₃) Ex s₂) Ex s₁) Ex s := by
  have hub : unbT (compRho sc' ρ) g.target = true := by
    cases gs with
    | nil =>
      rw [compGo_one] at hgo
      split at hgo
      · assumption
      · cases hgo
    | cons g' gs =>
      unfold compGo at hgo
      split at hgo
      · assumption
      · cases hgo
  refine O.it hit hA ok (unbT_shape hub) fun I wr fp J z1 h1 tk1 g1 W j hw hfp => ?_
  refine wpAny_newObj_type (newComp ?_)
  have ok1 := ok.grow g1
  let h2 : Heap := h1.push { cls := .type "list", dict := none, data := .seq ([] : List Value).toArray }
  have hh2 : h1.push { cls := .type "list", dict := none, data := .seq ([] : List Value).toArray } = h2 := rfl
  have sz2 : h2.objs.size = h1.objs.size + 1 := Heap.size_push ..
  have ok2 : Ok prog w hb P lc z1 env sc ρ h2 := ok1.grow (.push ok1.on _)
  have ok4 := cEnv_ok (sc' := sc') ok2 hs hf
  have keep2 : ∀ b o, h2.get? b = some o → (pushCells (h2.push dictObj) sc'.names).get? b = some o := fun b o e => pushCells_keeps _ _ b o (Heap.get?_push_of_some _ e)
  have keep1 : ∀ b o, h1.get? b = some o → (pushCells (h2.push dictObj) sc'.names).get? b = some o := fun b o e => keep2 b o (Heap.get?_push_of_some _ e)
  have sz4 : h1.objs.size ≤ (pushCells (h2.push dictObj) sc'.names).objs.size := Nat.le_trans (by rw [Heap.size_push, sz2]; exact Nat.le_succ_of_le (Nat.le_succ _)) (pushCells_size _ _)
  have st4 : Step (fun b => WL sc' (cEnv sc' env h2.objs.size) b ∨ b = h1.objs.size ∨ b ∈ wr) P z1 h1 z1 (pushCells (h2.push dictObj) sc'.names) := (Grow.kept (P := P) (L := h1.objs.size) ok1.on keep1 sz4).step.mono fun b e => .inl (.inr (.inl e))
  have pl4 : (pushCells (h2.push dictObj) sc'.names).PlainList h1.objs.size ([] : List Value).toArray := ⟨0, keep2 _ _ (Heap.get?_push_size _ rfl)⟩
  have hPlt : P < h1.objs.size := Ok.lt_tab (s := { s with heap := h1 }) ok1
  have hDP : h1.objs.size ≠ P := Nat.ne_of_gt hPlt
  have j4 : J z1 (pushCells (h2.push dictObj) sc'.names) ds := W.frame j (fun _ _ e => e) ok4.on fun b _ o e => keep1 b o e
  have hzD : z1 h1.objs.size = none := ok1.on.none_of_size (Nat.le_refl _)
  have hWL : ∀ b, WL sc' (cEnv sc' env h2.objs.size) b → h1.objs.size + 1 ≤ b := fun b q => by have := WL_new ok2 hs hf q; rw [sz2] at this; exact this
  have hfp4 : ∀ b ∈ fp, ¬ WL sc' (cEnv sc' env h2.objs.size) b ∧ b ≠ P ∧ b ≠ h1.objs.size := fun b m => by
    obtain ⟨q1, q2, q3, _⟩ := hfp b m
    exact ⟨fun q => absurd (Nat.le_of_succ_le (hWL b q)) (Nat.not_le.mpr q1), q3, Nat.ne_of_lt q1⟩
  have fin : ∀ z' h' tk us, Step (fun b => WL sc' (cEnv sc' env h2.objs.size) b ∨ b = h1.objs.size ∨ b ∈ wr) P z1 (pushCells (h2.push dictObj) sc'.names) z' h' → Ok prog w hb P lc z' (cEnv sc' env h2.objs.size) sc' (compRho sc' ρ) h' → h'.PlainList h1.objs.size (List.toArray ([] ++ us)) → Reps prog w z' ([] ++ us) ([] ++ out) → z' h1.objs.size = none → RR (.ref h1.objs.size) h2.objs.size (.ok .next) { s with heap := h', toks := tk } := by
    intro z' h' tk us st ok' pl rs hz
    obtain ⟨m, n⟩ := ok'.ns
    refine hRR _ _ z' h' tk us m (g1.thenStep (st4.trans st) (fun b q => ?_) ok.tab) (by simpa using pl) (by simpa using rs) hz g1.size n ?_ ok'.zL ?_ ?_
    · rcases q with q | q | q
      · exact Nat.le_trans g1.size (Nat.le_of_succ_le (hWL b q))
      · rw [q]; exact g1.size
      · exact (hw b q).1
    · rw [sz2]; exact Nat.le_succ_of_le g1.size
    · rw [sz2]; exact Nat.ne_of_lt (Nat.lt_succ_self _)
    · rw [sz2]; exact Nat.ne_of_gt (Nat.lt_succ_of_lt hPlt)
  have loop : codeAny (model prog w) A (.compLoop (.ListComp elt (g :: gs) sc' pos) 0 (.ref I) (.ref h1.objs.size) (cEnv sc' env h2.objs.size)) (RR (.ref h1.objs.size) h2.objs.size) { s with heap := pushCells (h2.push dictObj) sc'.names, toks := tk1 } := by
    cases gs with
    | nil =>
      simp only [List.all_cons, List.all_nil, Bool.and_true] at hgen
      obtain ⟨t, it, ifs, rfl, hset⟩ := genOk_of hgen
      rw [compGo_one, if_pos hub] at hgo
      exact comp_loop (s := { s with heap := pushCells (h2.push dictObj) sc'.names, toks := tk1 }) O hA (turn1 elt t it ifs sc' pos _ _ _) W hfp4 (compRho_noOwn _ _) hub hDP (bodyApp_ok O hA hDP) hgo j4 ok4 pl4 .nil hzD (fun b m => (hw b m).2) (by simpa using hlen) fin
    | cons g' gs =>
      cases gs with
      | cons _ _ => simp at hl2
      | nil =>
        simp only [List.all_cons, List.all_nil, Bool.and_true, Bool.and_eq_true] at hgen
        obtain ⟨t, it, ifs, rfl, hset⟩ := genOk_of hgen.1
        obtain ⟨t', it', ifs', rfl, hset'⟩ := genOk_of hgen.2
        rw [compGo_two, if_pos hub] at hgo
        exact comp_loop (s := { s with heap := pushCells (h2.push dictObj) sc'.names, toks := tk1 }) O hA (turn2a elt t it t' it' ifs ifs' sc' pos _ _ _) W hfp4 (compRho_noOwn _ _) hub hDP (bodyIn_ok O hA hDP hset') hgo j4 ok4 pl4 .nil hzD (fun b m => (hw b m).2) (by simpa using hlen) fin
  rw [List.all_cons, Bool.and_eq_true] at hgen
  obtain ⟨t, it, ifs, rfl, hset⟩ := genOk_of hgen.1
  exact codeAny_compStart_list (s := { s with heap := pushCells (h2.push dictObj) sc'.names, toks := tk1 }) loop (W.self j4 loop)

theorem listcomp_ok {elt : Expr} {g : Comprehension} {gs : List Comprehension} {pos : Pos} {ds out : List D} {Q : Value → Shared → Prop} (O : EvOk prog w hb P k lc E) (hA : Room k A) (ok : Ok prog w hb P lc z env sc ρ s.heap) (hs : scOk sc' = true) (hf : freeOk sc sc' = true)
    (hgen : (g :: gs).all genOk = true) (hl2 : (g :: gs).length ≤ 2) (hit : E.it sc ρ (isTup g.target) g.iter = some ds) (hgo : compGo E sc' elt (g :: gs) ds (compRho sc' ρ) = some out) (hlen : out.length ≤ 1000)
    (gq : Goes prog w P env.locals z s (.list out) Q) : wpAny (model prog w) A (eval (.ListComp elt (g :: gs) sc' pos) env) Q Ex s := by
  obtain ⟨hk, hn, hd⟩ := scOk_of hs
  have fc := free_cell ok hf
  have h0 : genOk g = true := by rw [List.all_cons, Bool.and_eq_true] at hgen; exact hgen.1
  obtain ⟨t, it, ifs, rfl, hset⟩ := genOk_of h0
  rw [eval_ListComp]
  refine wpAny_comprehension_free (use := none) rfl (folded_pure hset) (closureFor_ok fun p m e => let ⟨a, q, _⟩ := fc p m e; ⟨a, q⟩) hk (fun x m e => ?_) (comp_core (RR := fun acc C => compPost (model prog w) A Ex none Q acc C) O hA ok hs hf hgen hl2 hit hgo hlen fun Dd C z' h' tk vs m gr pl rs hz hD n hC hzC hne hCP => ⟨m, n, fun h'' sb => ?_⟩)
  · obtain ⟨y, kd⟩ := x
    dsimp only at e; subst e
    exact nodup_lookup hd m
  · obtain ⟨nn, e⟩ := pl
    have st : Step (· = C) P z' h' z' h'' := .same gr.on hzC sb hCP
    have gr2 : Grow P env.locals z s.heap z' h'' := gr.thenStep st (fun b q => by rw [q]; exact hC) ok.tab
    have e2 : h''.get? Dd = some (lob vs nn) := (sb.2 Dd hne).trans e
    exact gq (.ref Dd) _ h'' tk (gr2.freeze e2 hD hz) (.list (Z.add_self ..) (rs.mono (Z.add_le hz)))
end
end Mine

namespace Mine
open PySem PySem.W PyProof.Rows PySem.Calls PySem.Spec

section
variable {prog : Program} {w : World} {hb : Heap} {mg mb : Str → Option Value} {c P : Addr} {k : Nat} {lc : Option Addr} {E : Ev} {z z' : Z} {env : Env} {sc sc' : Scope} {ρ ρ' : Rho} {h h' : Heap} {M : Addr → Prop} {A : Around} {s : Shared} {Ex : Value → Shared → Prop}

theorem behind_of (O : EvOk prog w hb P k lc E) {op : CmpOp} {r : Expr} {d : D} (h : borrow E.v sc ρ r = some d) : behindInMarks op r = false := by
  cases r <;> first | rfl | (have h : E.v sc ρ _ = some d := h; rw [O.noSet] at h; cases h)

theorem Room.units64 (hA : Room k A) : A.units + 64 < cLine := by have := hA.units; exact ar148 this

theorem evAll_ok (O : EvOk prog w hb P k lc E) (hA : Room k A) {op : BoolOp} : ∀ {vs : List Expr} {b : Bool} {s : Shared} {z : Z} {Q : Bool → Shared → Prop}, evAll E sc ρ op vs = some b → Ok prog w hb P lc z env sc ρ s.heap →
    (∀ z' h' tk, Grow P env.locals z s.heap z' h' → Q b { s with heap := h', toks := tk }) → wpAny (model prog w) A (allTrue op vs env) Q Ex s
  | [], b, s, z, Q, e, ok, hQ => by
    simp only [evAll] at e
    cases e
    rw [arm_allTrue_nil]
    exact wpAny_pure (hQ z s.heap s.toks (.refl ok.on))
  | x :: xs, b, s, z, Q, e, ok, hQ => by
    simp only [evAll] at e
    split at e
    · cases e
    · rename_i b1 hb1
      cases op with
      | And =>
        refine wpAny_allTrue_And_cons (O.t hb1 hA ok fun z' h' tk g => ?_)
        cases b1 with
        | true => exact evAll_ok O hA (s := { s with heap := h', toks := tk }) e (ok.grow g) fun z'' h'' tk' g' => hQ z'' h'' tk' (g.trans g')
        | false => cases e; exact hQ z' h' tk g
      | Or =>
        refine wpAny_allTrue_Or_cons (O.t hb1 hA ok fun z' h' tk g => ?_)
        cases b1 with
        | false => exact evAll_ok O hA (s := { s with heap := h', toks := tk }) e (ok.grow g) fun z'' h'' tk' g' => hQ z'' h'' tk' (g.trans g')
        | true => cases e; exact hQ z' h' tk g

theorem evT_ok (O : EvOk prog w hb P k lc E) (hA : Room k A) {e : Expr} {b : Bool} {Q : Bool → Shared → Prop} (h : evT E sc ρ e = some b) (ok : Ok prog w hb P lc z env sc ρ s.heap)
    (hQ : ∀ z' h' tk, Grow P env.locals z s.heap z' h' → Q b { s with heap := h', toks := tk }) : wpAny (model prog w) A (isTrue e env (eval e env)) Q Ex s := by
  cases e with
  | UnaryOp op x p =>
    obtain ⟨ho, h⟩ := ite_some h
    obtain ⟨b', h1, h⟩ := obind_some h
    cases h
    rw [isNot_inv ho]
    exact wpAny_isTrue_Not (O.t h1 hA ok fun z' h' tk g => hQ z' h' tk g)
  | BoolOp op vs p => exact wpAny_isTrue_BoolOp (evAll_ok O hA h ok hQ)
  | Compare l ops rs p =>
    obtain ⟨op, ho, h⟩ := obind_some h
    obtain ⟨r, hr, h⟩ := obind_some h
    obtain ⟨a, ha, h⟩ := obind_some h
    obtain ⟨b', hb', h⟩ := obind_some h
    rw [one_inv ho, one_inv hr]
    refine wpAny_isTrue_Compare1 (O.v ha hA ok fun v z' h' tk g r => ?_) (behind_of O hb')
    refine borrow_ok (s := { s with heap := h', toks := tk }) O hA hb' (ok.grow g) fun v2 z2 h2 tk2 g2 r2 => ?_
    refine cmp_ok (s := { s with heap := h2, toks := tk2 }) h g2.on hA.units64 (r.mono g2.le) r2 fun tk3 => ?_
    exact truth_ok (s := { s with heap := h2, toks := tk3 }) (d := .bool b) (z := z2) rfl g2.on (.inl (.bool b)) fun tk4 => hQ z2 h2 tk4 (g.trans g2)
  | Name x p =>
    obtain ⟨d, h1, h2⟩ := obind_some h
    refine wpAny_isTrue_value (borrow_ok O hA h1 ok fun v z' h' tk g r => ?_)
    exact truth_ok (s := { s with heap := h', toks := tk }) h2 g.on r fun tk2 => hQ z' h' tk2 g
  | Call f as ks p =>
    obtain ⟨d, h1, h2⟩ := obind_some h
    refine wpAny_isTrue_value (O.v h1 hA ok fun v z' h' tk g r => ?_)
    exact truth_ok (s := { s with heap := h', toks := tk }) h2 g.on (.inl r) fun tk2 => hQ z' h' tk2 g
  | _ => first | exact nn h | cases h
end
end Mine

namespace Mine
open PySem PySem.W PyProof.Rows PySem.Calls PySem.Spec

section
variable {prog : Program} {w : World} {hb : Heap} {mg mb : Str → Option Value} {c P : Addr} {k : Nat} {lc : Option Addr} {T : Tabs} {E : Ev} {z z' : Z} {env : Env} {sc sc' : Scope} {ρ ρ' : Rho} {h h' : Heap} {M : Addr → Prop} {A : Around} {s : Shared} {Ex : Value → Shared → Prop}

noncomputable def SortOk (prog : Program) (w : World) (hb : Heap) (P : Addr) (k : Nat) (lc : Option Addr) (E : Ev) : Prop :=
  ∀ {sc : Scope} {ρ : Rho} {a lam : Expr} {d r : D} {p kp pos : Pos} {A : Around} {env : Env} {s : Shared} {z : Z} {Q : Value → Shared → Prop} {Ex : Value → Shared → Prop}, isGlob sc (Str.ofString "sorted") = true → isKeyLam lam = true → E.v sc ρ a = some d → sortD d = some r → Room k A → Ok prog w hb P lc z env sc ρ s.heap →
    Goes prog w P env.locals z s r Q → wpAny (model prog w) A (eval (.Call (.Name (Str.ofString "sorted") p) [a] [⟨some (Str.ofString "key"), lam, kp⟩] pos) env) Q Ex s

theorem part_ok (O : EvOk prog w hb P k lc E) (hA : Room k A) {lo : Option Expr} {ds : List D} {Q : Value → Shared → Prop} (h : mapO (E.v sc ρ) lo.toList = some ds) (ok : Ok prog w hb P lc z env sc ρ s.heap)
    (hQ : ∀ v z' h' tk, Grow P env.locals z s.heap z' h' → ((ds = [] ∧ v = .none) ∨ ∃ d, ds = [d] ∧ Rep prog w z' v d) → Q v { s with heap := h', toks := tk }) : wpAny (model prog w) A (evalPart lo env) Q Ex s := by
  cases lo with
  | none =>
    simp [mapO] at h; subst h
    exact wpAny_pure (hQ .none z s.heap s.toks (.refl ok.on) (.inl ⟨rfl, rfl⟩))
  | some e =>
    simp only [Option.toList, mapO] at h
    split at h
    · first | exact nn h | cases h
    · rename_i d hd
      cases h
      exact O.v hd hA ok fun v z' h' tk g r => hQ v z' h' tk g (.inr ⟨d, rfl, r⟩)

theorem mapO_length {α β : Type} {f : α → Option β} : ∀ {l : List α} {r : List β}, mapO f l = some r → r.length = l.length
  | [], r, h => by simp [mapO] at h; subst h; rfl
  | a :: l, r, h => by
    simp only [mapO] at h
    split at h
    · first | exact nn h | cases h
    · split at h
      · first | exact nn h | cases h
      · rename_i bs hb
        cases h
        simp [mapO_length hb]

/-- the slice of a value that is there -/
theorem slice_go (O : EvOk prog w hb P k lc E) (hA : Room k A) {b : Expr} {lo hi : Option Expr} {p pos : Pos} {d r : D} {dl dh : List D} {ol oh : Option Int} {Q : Value → Shared → Prop} (hb' : E.v sc ρ b = some d) (hl : mapO (E.v sc ρ) lo.toList = some dl) (hh : mapO (E.v sc ρ) hi.toList = some dh)
    (el : (dl = [] ∧ ol = none) ∨ ∃ i, dl = [.int i] ∧ ol = some i) (eh : (dh = [] ∧ oh = none) ∨ ∃ i, dh = [.int i] ∧ oh = some i) (hs : sliceD d ol oh = some r) (ok : Ok prog w hb P lc z env sc ρ s.heap) (g : Goes prog w P env.locals z s r Q) :
    wpAny (model prog w) A (eval (.Subscript b (.Slice lo hi none p) pos) env) Q Ex s := by
  refine Subscript_ (O.v hb' hA ok fun v z1 h1 tk1 g1 r1 => wpAny_Slice ?_)
  refine part_ok (s := { s with heap := h1, toks := tk1 }) O hA hl (ok.grow g1) fun vl z2 h2 tk2 g2 r2 => ?_
  refine part_ok (s := { s with heap := h2, toks := tk2 }) O hA hh ((ok.grow g1).grow g2) fun vh z3 h3 tk3 g3 r3 => ?_
  refine wpAny_pure ?_
  have ok3 := ((ok.grow g1).grow g2).grow g3
  have pl : IsPart vl ol ∧ (ol = none → vl = .none) ∧ ∀ i, ol = some i → ∃ u, vl = .int i u := by
    rcases el with ⟨rfl, rfl⟩ | ⟨i, rfl, rfl⟩
    · rcases r2 with ⟨_, rfl⟩ | ⟨d, e, _⟩
      · exact ⟨.none, fun _ => rfl, fun i e => (nomatch e)⟩
      · cases e
    · rcases r2 with ⟨e, _⟩ | ⟨d, e, r⟩
      · cases e
      · cases e
        obtain ⟨_, rfl⟩ := r.int_inv
        exact ⟨.int _ _, fun e => (nomatch e), fun j e => by cases e; exact ⟨_, rfl⟩⟩
  have ph : IsPart vh oh ∧ ∀ i, oh = some i → ∃ u, vh = .int i u := by
    rcases eh with ⟨rfl, rfl⟩ | ⟨i, rfl, rfl⟩
    · rcases r3 with ⟨_, rfl⟩ | ⟨d, e, _⟩
      · exact ⟨.none, fun i e => (nomatch e)⟩
      · cases e
    · rcases r3 with ⟨e, _⟩ | ⟨d, e, r⟩
      · cases e
      · cases e
        obtain ⟨_, rfl⟩ := r.int_inv
        exact ⟨.int _ _, fun j e => by cases e; exact ⟨_, rfl⟩⟩
  exact slice_ok (s := { s with heap := h3, toks := tk3 }) hs ok3.on ok3.zL ok3.ns ok3.tab ((r1.mono g2.le).mono g3.le) pl.1 ph.1 pl.2.1 ph.2 pl.2.2 (fun i => rfl) (((g.after g1).after g2).after g3)

theorem item_go (O : EvOk prog w hb P k lc E) (hA : Room k A) {b i : Expr} {pos : Pos} {d r : D} {n : Int} {Q : Value → Shared → Prop} (hb' : borrow E.v sc ρ b = some d) (hi : E.v sc ρ i = some (.int n)) (hs : itemD d n = some r) (ok : Ok prog w hb P lc z env sc ρ s.heap) (g : Goes prog w P env.locals z s r Q) :
    wpAny (model prog w) A (eval (.Subscript b i pos) env) Q Ex s := by
  refine Subscript_ (borrow_ok O hA hb' ok fun v z1 h1 tk1 g1 r1 => ?_)
  refine O.v (s := { s with heap := h1, toks := tk1 }) hi hA (ok.grow g1) fun vi z2 h2 tk2 g2 r2 => ?_
  obtain ⟨u, rfl⟩ := r2.int_inv
  have rb : Bor prog w z2 h2 v d := by
    rcases r1 with r1 | ⟨a, e, o⟩
    · exact .inl (r1.mono g2.le)
    · cases o with
      | list e1 rs =>
        have hn := Ok.ne_list (s := { s with heap := h1, toks := tk1 }) (ok.grow g1) e1
        exact .inr ⟨a, e, .list (g2.keep _ _ hn.1 hn.2 e1) (rs.mono g2.le)⟩
      | dict e1 _ _ _ => cases hs
  refine item_ok (s := { s with heap := h2, toks := tk2 }) hs g2.on rb ?_ fun x rx => g x z2 h2 tk2 (g1.trans g2) rx
  cases i <;> first | rfl | (rw [O.noSlice] at hi; cases hi)

theorem meth_ok (O : EvOk prog w hb P k lc E) (hA : Room k A) {b a : Expr} {nm : Str} {ap p : Pos} {x y : Str} {r : Bool} {Q : Value → Shared → Prop} (hm : mOk b ap p = true) (hb' : E.v sc ρ b = some (.str x)) (ha : E.v sc ρ a = some (.str y))
    (hr : (nm = Str.ofString "startswith" ∧ r = Txt.startswith x y) ∨ (nm = Str.ofString "endswith" ∧ r = Txt.endswith x y)) (ok : Ok prog w hb P lc z env sc ρ s.heap) (g : Goes prog w P env.locals z s (.bool r) Q) :
    wpAny (model prog w) A (eval (.Call (.Attribute b nm ap) [a] [] p) env) Q Ex s := by
  obtain ⟨hb1, hb2⟩ := mOk_base (env := env) (nm := nm) (t := eval b env) hm
  have ht : backTo p (starEach [a] env) = [(false, eval a env)] := by rw [v_star O ha]; rfl
  refine wpAny_Call_method1_late hb1 hb2 ht (O.v hb' hA ok fun v z1 h1 tk1 g1 r1 => ?_)
  obtain ⟨t, rfl⟩ := r1.str_inv
  · have key : wpAny (model prog w) A (eval a env) (fun v s1 => ∃ y' u, v = .str y' u ∧ y' = y ∧ Q (.bool r) s1) Ex { s with heap := h1, toks := tk1 } :=
      O.v (s := { s with heap := h1, toks := tk1 }) ha hA (ok.grow g1) fun v2 z2 h2 tk2 g2 r2 => by
        obtain ⟨u, rfl⟩ := r2.str_inv
        exact ⟨y, u, rfl, rfl, g _ z2 h2 tk2 (g1.trans g2) (.bool r)⟩
    rcases hr with ⟨rfl, rfl⟩ | ⟨rfl, rfl⟩
    · exact PySem.SB.startswith (wpAny_mono key (fun v s1 ⟨y', u, e1, e2, q⟩ => ⟨y', u, e1, e2 ▸ q⟩) fun _ _ e => e)
    · exact PySem.SB.endswith (wpAny_mono key (fun v s1 ⟨y', u, e1, e2, q⟩ => ⟨y', u, e1, e2 ▸ q⟩) fun _ _ e => e)

theorem evSub_ok (O : EvOk prog w hb P k lc E) (hA : Room k A) {b i : Expr} {pos : Pos} {d : D} {Q : Value → Shared → Prop} (h : evSub E sc ρ b i = some d) (ok : Ok prog w hb P lc z env sc ρ s.heap) (g : Goes prog w P env.locals z s d Q) : wpAny (model prog w) A (eval (.Subscript b i pos) env) Q Ex s := by
  unfold evSub at h
  cases hi : isSl i with
  | some y =>
    rw [hi] at h
    obtain ⟨hn, h⟩ := ite_some h
    obtain ⟨dd, h1, h⟩ := obind_some h
    obtain ⟨l, h2, h⟩ := obind_some h
    obtain ⟨u, h3, h⟩ := obind_some h
    obtain ⟨lo, hlo, h⟩ := obind_some h
    obtain ⟨hi', hhi, h⟩ := obind_some h
    rw [isSl_inv hi, Option.isNone_iff_eq_none.mp hn]
    exact slice_go O hA h1 h2 h3 (partI_inv hlo) (partI_inv hhi) h ok g
  | none =>
    rw [hi] at h
    obtain ⟨dd, h1, h⟩ := obind_some h
    obtain ⟨j, h2, h⟩ := obind_some h
    obtain ⟨n, hn, h⟩ := obind_some h
    exact item_go O hA h1 (intOf_inv hn ▸ h2) h ok g
theorem evCl_ok (G : Glo hb mg mb c P) (hT : ∀ f F, T.pure f = some F → FnOk prog w hb mg P k f F) (O : EvOk prog w hb P k lc E) (hsort : T.lam = true → SortOk prog w hb P k lc E) (hA : Room k A) {f : Expr} {args : List Expr} {ks : List Keyword} {p : Pos} {d : D} {Q : Value → Shared → Prop} (h : evCl T E sc ρ args ks p f = some d) (ok : Ok prog w hb P lc z env sc ρ s.heap)
    (g : Goes prog w P env.locals z s d Q) : wpAny (model prog w) A (eval (.Call f args ks p) env) Q Ex s := by
  cases f with
  | Name f q =>
    rcases ite_or h with ⟨hk, h⟩ | ⟨_, h⟩
    · rw [isEmpty_inv hk]
      exact evCall_ok G hT O hA ok h g
    · obtain ⟨a, ha, h⟩ := obind_some h
      obtain ⟨⟨kn, lam, kp⟩, hkw, h⟩ := obind_some h
      obtain ⟨kk, hkk, h⟩ := obind_some h
      obtain ⟨hc, h⟩ := ite_some h
      obtain ⟨dd, e1, e2⟩ := obind_some h
      simp only [Bool.and_eq_true, beq_iff_eq] at hc
      obtain ⟨⟨⟨⟨h1, rfl⟩, rfl⟩, h4⟩, h5⟩ := hc
      rw [one_inv ha, one_inv hkw]
      cases hkk
      exact hsort h5 h1 h4 e1 e2 hA ok g
  | Attribute b nm ap =>
    obtain ⟨hc, h⟩ := ite_some h
    rw [Bool.and_eq_true] at hc
    obtain ⟨a, ha, h⟩ := obind_some h
    obtain ⟨dx, h1, h⟩ := obind_some h
    obtain ⟨x, hx, h⟩ := obind_some h
    obtain ⟨dy, h2, h⟩ := obind_some h
    obtain ⟨y, hy, h⟩ := obind_some h
    rw [isEmpty_inv hc.1, one_inv ha]
    rcases ite_or h with ⟨hn, h⟩ | ⟨_, h⟩
    · first | exact nn h | cases h
      exact meth_ok O hA hc.2 (strOf_inv hx ▸ h1) (strOf_inv hy ▸ h2) (.inl ⟨beq_iff_eq.mp hn, rfl⟩) ok g
    · obtain ⟨hn, h⟩ := ite_some h
      cases h
      exact meth_ok O hA hc.2 (strOf_inv hx ▸ h1) (strOf_inv hy ▸ h2) (.inr ⟨beq_iff_eq.mp hn, rfl⟩) ok g
  | _ => first | exact nn h | cases h

theorem evV_ok (G : Glo hb mg mb c P) (hT : ∀ f F, T.pure f = some F → FnOk prog w hb mg P k f F) (O : EvOk prog w hb P k lc E) (hsort : T.lam = true → SortOk prog w hb P k lc E) (hA : Room k A) {e : Expr} {d : D} {Q : Value → Shared → Prop} (h : evV T E sc ρ e = some d) (ok : Ok prog w hb P lc z env sc ρ s.heap)
    (g : Goes prog w P env.locals z s d Q) : wpAny (model prog w) A (eval e env) Q Ex s := by
  cases e with
  | Constant cc kk p => cases cc with
    | int i => cases h; exact wpAny_Constant_int (g.here ok.on (.int _ _))
    | str x => cases h; exact wpAny_Constant_str (g.here ok.on (.str _ _))
    | bool b => cases h; exact wpAny_Constant_bool (g.here ok.on (tk := s.toks) (.bool _))
    | _ => first | exact nn h | cases h
  | Name x p => exact name_ok ok (valOf_inv h) g
  | UnaryOp op x p =>
    obtain ⟨ho, h⟩ := ite_some h
    obtain ⟨i, hi, h⟩ := obind_some h
    cases h
    obtain ⟨kk, p', rfl⟩ := constI_inv hi
    rw [isUSub_inv ho]
    exact wpAny_UnaryOp (wpAny_Constant_int (PyProof.Rows.neg_int (g.here ok.on (.int _ _))))
  | BinOp l op r p =>
    obtain ⟨a, ha, h⟩ := obind_some h
    obtain ⟨b, hb', h⟩ := obind_some h
    refine wpAny_BinOp (O.v ha hA ok fun v1 z1 h1 tk1 g1 r1 => O.v (s := { s with heap := h1, toks := tk1 }) hb' hA (ok.grow g1) fun v2 z2 h2 tk2 g2 r2 => ?_)
    refine bin_ok (s := { s with heap := h2, toks := tk2 }) h g2.on hA.handled (r1.mono g2.le) r2 (fun f t e1 e2 => ?_) ((g.after g1).after g2)
    subst e1 e2
    cases r1
    have h : (obind (fmtD f b) fun r => some (.str r)) = some d := h
    obtain ⟨r, h1, h⟩ := obind_some h
    cases Option.some.inj h
    exact fmt_ok (s := { s with heap := h2, toks := tk2 }) h1 g2.on r2 ((g.after g1).after g2)
  | Compare l ops rs p =>
    obtain ⟨op, ho, h⟩ := obind_some h
    obtain ⟨r, hr, h⟩ := obind_some h
    obtain ⟨a, ha, h⟩ := obind_some h
    obtain ⟨b, hb', h⟩ := obind_some h
    obtain ⟨b1, h1, h⟩ := obind_some h
    cases h
    rw [one_inv ho, one_inv hr]
    refine wpAny_Compare1 (O.v ha hA ok fun v z' h' tk g1 r => ?_) (behind_of O hb')
    refine borrow_ok (s := { s with heap := h', toks := tk }) O hA hb' (ok.grow g1) fun v2 z2 h2 tk2 g2 r2 => ?_
    exact cmp_ok (s := { s with heap := h2, toks := tk2 }) h1 g2.on hA.units64 (r.mono g2.le) r2 fun tk3 => g _ z2 h2 tk3 (g1.trans g2) (.bool _)
  | Subscript b i p => exact evSub_ok O hA h ok g
  | Tuple es n p =>
    obtain ⟨hl, h⟩ := ite_some h
    obtain ⟨ds, h1, h⟩ := obind_some h
    cases h
    refine wpAny_Tuple (exprs_ok O hA h1 ok fun vs z1 h1' tk1 g1 rs => ⟨?_, ?_⟩)
    · rw [rs.length, mapO_length h1]
      exact Nat.le_trans (dec_t hl) (by decide : 1000 ≤ sizeLine)
    · exact Goes.newTuple (s := { s with heap := h1', toks := tk1 }) (g.after g1) g1.on rs
  | List es p =>
    obtain ⟨hl, h⟩ := ite_some h
    obtain ⟨ds, h1, h⟩ := obind_some h
    cases h
    refine wpAny_List (exprs_ok O hA h1 ok fun vs z1 h1' tk1 g1 rs => ⟨?_, ?_⟩)
    · rw [rs.length, mapO_length h1]
      exact Nat.le_trans (dec_t hl) (by decide : 1000 ≤ sizeLine)
    · exact Goes.newList (s := { s with heap := h1', toks := tk1 }) (g.after g1) g1.on rs
  | Dict ks vs p =>
    obtain ⟨hc, h⟩ := ite_some h
    cases h
    rw [Bool.and_eq_true] at hc
    rw [isEmpty_inv hc.1, isEmpty_inv hc.2]
    refine wpAny_Dict_empty ?_
    obtain ⟨o, ho, hd⟩ := Heap.dictOf_iff.mp (Heap.DictOf.new (knd := PySem.strKind prog w) s.heap)
    rw [Heap.get?_push_size _ rfl] at ho
    cases ho
    refine g.fresh (tk := s.toks) ok.on rfl (.dict (Z.add_self ..) ?_ hd .nil)
    have hlt : mainGlobals < s.heap.objs.size := (G.g.keeps ok.inb).lt
    exact beq_eq_false_iff_ne.mpr (Nat.ne_of_gt (Nat.lt_trans (by decide : sysModules < mainGlobals) hlt))
  | Call f args ks p => exact evCl_ok G hT O hsort hA h ok g
  | ListComp elt gs sc' p =>
    obtain ⟨y, hy, h⟩ := obind_some h
    obtain ⟨hc, h⟩ := ite_some h
    obtain ⟨ds, hd, h⟩ := obind_some h
    obtain ⟨out, ho, h⟩ := obind_some h
    obtain ⟨hl, h⟩ := ite_some h
    cases h
    rw [Bool.and_eq_true, Bool.and_eq_true, Bool.and_eq_true] at hc
    rw [unc_inv hy] at hc ho ⊢
    exact listcomp_ok O hA ok hc.1.1.1 hc.1.1.2 hc.1.2 (dec_t hc.2) hd ho (dec_t hl) g
  | _ => first | exact nn h | cases h
end
end Mine

namespace Mine
open PySem PySem.W PyProof.Rows

/-- the answer of a tree of questions -/
noncomputable def evalT {α : Type} (lt : Nat → Nat → Bool) : KasT α → α
  | .ret a => a
  | .ask i j k => evalT lt (k (lt i j))
noncomputable def BT {α : Type} (n : Nat) : KasT α → Prop
  | .ret _ => True
  | .ask i j k => i < n ∧ j < n ∧ ∀ b, BT n (k b)
theorem evalT_bind {α β : Type} {lt : Nat → Nat → Bool} {f : α → KasT β} : ∀ t : KasT α, evalT lt (t.bind f) = evalT lt (f (evalT lt t))
  | .ret a => rfl
  | .ask i j k => evalT_bind (k (lt i j))
theorem BT.bind {α β : Type} {n : Nat} {f : α → KasT β} : ∀ {t : KasT α}, BT n t → (∀ a, BT n (f a)) → BT n (t.bind f)
  | .ret a, _, h => h a
  | .ask i j k, ⟨h1, h2, h3⟩, h => ⟨h1, h2, fun b => BT.bind (h3 b) h⟩
theorem kasWp_eval {α : Type} {n : Nat} {lt : Nat → Nat → Bool} {cmp : Nat → Nat → (Bool → Shared → Prop) → Shared → Prop} {I : Shared → Prop} (hc : ∀ i j C s, i < n → j < n → I s → (∀ s', I s' → C (lt i j) s') → cmp i j C s) {Q : α → Shared → Prop} :
    ∀ {t : KasT α} {s : Shared}, BT n t → I s → (∀ s', I s' → Q (evalT lt t) s') → t.kasWp cmp Q s
  | .ret a, s, _, hi, h => h s hi
  | .ask i j k, s, ⟨h1, h2, h3⟩, hi, h => hc i j _ s h1 h2 hi fun s' hi' => kasWp_eval hc (h3 _) hi' h

noncomputable abbrev at0 (p : Array Nat) (k : Nat) : Nat := p.getD k 0
theorem at0_eq (p : Array Nat) (k : Nat) : at0 p k = (p[k]?).getD 0 := by simp [at0, Array.getD_eq_getD_getElem?]
theorem at_rev {p : Array Nat} {i j : Nat} (hj : j ≤ p.size) (k : Nat) : at0 (kas_rev p i j) k = if i ≤ k ∧ k < j then at0 p (i + j - 1 - k) else at0 p k := by
  simp only [at0_eq]
  unfold kas_rev
  rw [getElem?_mirror_all hj]
  split <;> rfl
theorem at_bub {p : Array Nat} {k l : Nat} (hk : k < p.size) (hl : l ≤ k) (m : Nat) : at0 (bubble p k (k - l)) m = if m = l then at0 p k else if l < m ∧ m ≤ k then at0 p (m - 1) else at0 p m := by
  simp only [at0_eq]
  rw [getElem?_bubble hk _ (by exact ar129), show k - (k - l) = l by exact ar128 hl]
  split
  · rfl
  · split <;> rfl

section
variable {r : Nat → Int} {n : Nat}
noncomputable def prec (r : Nat → Int) (i j : Nat) : Prop := r i < r j ∨ (r i = r j ∧ i < j)
noncomputable def ltR (r : Nat → Int) (i j : Nat) : Bool := decide (r i < r j)

theorem evalT_yes {α : Type} {i j : Nat} {k : Bool → KasT α} (h : r i < r j) : evalT (ltR r) (.ask i j k) = evalT (ltR r) (k true) := by
  show evalT (ltR r) (k (ltR r i j)) = _
  rw [show ltR r i j = true from decide_eq_true h]
theorem evalT_no {α : Type} {i j : Nat} {k : Bool → KasT α} (h : ¬ r i < r j) : evalT (ltR r) (.ask i j k) = evalT (ltR r) (k false) := by
  show evalT (ltR r) (k (ltR r i j)) = _
  rw [show ltR r i j = false from decide_eq_false h]

structure Pre (r : Nat → Int) (n : Nat) (p : Array Nat) (m : Nat) : Prop where
  size : p.size = n
  perm : p.Perm (List.toArray (List.range n))
  rest : ∀ k, m ≤ k → k < n → at0 p k = k
  low : ∀ a, a < m → at0 p a < m
  le : m ≤ n
structure Up (r : Nat → Int) (n : Nat) (p : Array Nat) (m : Nat) : Prop extends Pre r n p m where
  ord : ∀ a b, a < b → b < m → prec r (at0 p a) (at0 p b)
structure Down (r : Nat → Int) (n : Nat) (p : Array Nat) (m : Nat) : Prop extends Pre r n p m where
  ord : ∀ a b, a < b → b < m → prec r (at0 p b) (at0 p a)

theorem Pre.succ {p : Array Nat} {m : Nat} (h : Pre r n p m) (hm : m < n) : Pre r n p (m + 1) where
  size := h.size
  perm := h.perm
  rest := fun k h1 h2 => h.rest k (by exact ar45 h1) h2
  low := fun a ha => by
    by_cases e : a = m
    · subst e; rw [h.rest a (Nat.le_refl _) hm]; exact ar127
    · have := h.low a (by exact ar88 ha e); exact ar44 this
  le := hm
theorem Pre.rev {p : Array Nat} {m i j : Nat} (h : Pre r n p m) (hij : j ≤ m) : Pre r n (kas_rev p i j) m where
  size := by rw [kas_rev, mirror_size]; exact h.size
  perm := (mirror_perm ..).trans h.perm
  rest := fun k h1 h2 => by rw [at_rev (by have := h.size; have := h.le; exact ar125 hij (by assumption) this), if_neg (by exact ar126 hij h1)]; exact h.rest k h1 h2
  low := fun a ha => by
    rw [at_rev (by have := h.size; have := h.le; exact ar125 hij (by assumption) this)]
    split
    · exact h.low _ (by exact ar124 hij (by assumption))
    · exact h.low a ha
  le := h.le

theorem asc_spec {p : Array Nat} : ∀ (f m : Nat), Up r n p m → 1 ≤ m → m + f = n → ∃ m', evalT (ltR r) (kas_asc p f m) = m' ∧ Up r n p m' ∧ m ≤ m' ∧ (m' < n → r (at0 p m') < r (at0 p (m' - 1)))
  | 0, m, h, h1, hn => ⟨m, rfl, h, Nat.le_refl _, fun q => by exact ar123 hn q⟩
  | f + 1, m, h, h1, hn => by
    unfold kas_asc
    by_cases hc : r (at0 p m) < r (at0 p (m - 1))
    · rw [evalT_yes hc, if_pos rfl]
      exact ⟨m, rfl, h, Nat.le_refl _, fun _ => hc⟩
    · rw [evalT_no hc, if_neg Bool.false_ne_true]
      have hm : m < n := by exact ar50 hn
      have up : Up r n p (m + 1) := ⟨h.toPre.succ hm, fun a b hab hb => by
        by_cases e : b = m
        · subst e
          have e2 := h.rest b (Nat.le_refl _) hm
          have e3 := h.low a hab
          have e4 : r (at0 p a) ≤ r (at0 p (b - 1)) := by
            by_cases q : a = b - 1
            · rw [q]; exact ar67
            · rcases h.ord a (b - 1) (by exact ar91 hab q) (by exact ar90 e3) with q | q <;> omega
          rw [e2] at hc ⊢
          unfold prec
          exact ar122 hc e3 e4
        · exact h.ord a b hab (by exact ar88 hb e)⟩
      obtain ⟨m', e, u, q1, q2⟩ := asc_spec f (m + 1) up (by exact ar121) (by exact ar48 hn)
      exact ⟨m', e, u, by exact ar45 q1, q2⟩

/-- a falling run whose last block of equal keys is still in order -/
structure DS (r : Nat → Int) (n : Nat) (p : Array Nat) (m q : Nat) : Prop extends Pre r n p m where
  blk : q + 1 ≤ m
  before : ∀ a b, a < b → b < m - (q + 1) → prec r (at0 p b) (at0 p a)
  less : ∀ a b, a < m - (q + 1) → m - (q + 1) ≤ b → b < m → r (at0 p b) < r (at0 p a)
  eqs : ∀ a b, m - (q + 1) ≤ a → a < b → b < m → r (at0 p a) = r (at0 p b) ∧ at0 p a < at0 p b

theorem DS.down0 {p : Array Nat} {m : Nat} (h : DS r n p m 0) : Down r n p m := ⟨h.toPre, fun a b hab hb => by
  by_cases e : b < m - 1
  · exact h.before a b hab e
  · exact .inl (h.less a b (by exact ar120 hab hb) (by exact ar119 e) hb)⟩
theorem DS.down {p : Array Nat} {m q : Nat} (h : DS r n p m q) : Down r n (kas_rev p (m - (q + 1)) m) m := ⟨h.toPre.rev (Nat.le_refl _), fun a b hab hb => by
  have hs : m ≤ p.size := by rw [h.size]; exact h.le
  have hb1 := h.blk
  rw [at_rev hs, at_rev hs]
  by_cases e1 : b < m - (q + 1)
  · rw [if_neg (by exact ar116 e1), if_neg (by exact ar118 hab e1)]; exact h.before a b hab e1
  · rw [if_pos (by exact ar117 hb e1)]
    by_cases e2 : a < m - (q + 1)
    · rw [if_neg (by exact ar116 e2)]
      exact .inl (h.less a _ e2 (by exact ar113 hb) (by exact ar115 e1 e2))
    · rw [if_pos (by exact ar114 hab hb e2)]
      obtain ⟨x, y⟩ := h.eqs (m - (q + 1) + m - 1 - b) (m - (q + 1) + m - 1 - a) (by exact ar113 hb) (by exact ar112 hab hb) (by exact ar111 hb1 e2)
      exact .inr ⟨x, y⟩⟩
theorem Down.ds {p : Array Nat} {m : Nat} (h : Down r n p m) (hm : m < n) (h1 : 1 ≤ m) (hl : r (at0 p m) < r (at0 p (m - 1))) : DS r n p (m + 1) 0 where
  toPre := h.toPre.succ hm
  blk := by exact ar110
  before := fun a b hab hb => h.ord a b hab (by exact ar109 hb)
  less := fun a b ha hb1 hb2 => by
    have e : b = m := by exact ar108 hb1 hb2
    subst e
    by_cases q : a = b - 1
    · rw [q]; exact hl
    · rcases h.ord a (b - 1) (by exact ar107 ha q) (by exact ar106 ha) with q | q <;> omega
  eqs := fun a b h1 h2 h3 => by exact ar105 h1 h2 h3

theorem desc_spec : ∀ (f : Nat) (p : Array Nat) (m q : Nat), DS r n p m q → m + f = n → ∃ p' m' q', evalT (ltR r) (kas_desc f p m q) = (p', m', q') ∧ DS r n p' m' q' ∧ m ≤ m'
  | 0, p, m, q, h, hn => ⟨p, m, q, rfl, h, Nat.le_refl _⟩
  | f + 1, p, m, q, h, hn => by
    have hm : m < n := by exact ar50 hn
    have e2 := h.rest m (Nat.le_refl _) hm
    have hb1 := h.blk
    unfold kas_desc
    by_cases hc : r (at0 p m) < r (at0 p (m - 1))
    · rw [evalT_yes hc, if_pos rfl]
      by_cases hq : q > 0
      · rw [if_pos hq]
        have d := h.down
        have hs : m ≤ p.size := by rw [h.size]; exact h.le
        have e3 : r (at0 (kas_rev p (m - (q + 1)) m) m) < r (at0 (kas_rev p (m - (q + 1)) m) (m - 1)) := by
          rw [at_rev hs, at_rev hs, if_neg (by exact ar104), if_pos (by exact ar103 hb1)]
          have := (h.eqs (m - (q + 1) + m - 1 - (m - 1)) (m - 1) (by exact ar102) (by exact ar101 hb1 hq) (by exact ar100 hb1)).1
          exact ar99 hc this
        obtain ⟨p', m', q', e, u, l⟩ := desc_spec f _ (m + 1) 0 (d.ds hm (by exact ar83 hb1) e3) (by exact ar48 hn)
        exact ⟨p', m', q', e, u, by exact ar45 l⟩
      · rw [if_neg hq]
        have : q = 0 := by exact ar84 hq
        subst this
        obtain ⟨p', m', q', e, u, l⟩ := desc_spec f _ (m + 1) 0 (h.down0.ds hm (by exact ar98 hb1) hc) (by exact ar48 hn)
        exact ⟨p', m', q', e, u, by exact ar45 l⟩
    · rw [evalT_no hc, if_neg Bool.false_ne_true]
      by_cases hd : r (at0 p (m - 1)) < r (at0 p m)
      · rw [evalT_yes hd, if_pos rfl]
        exact ⟨p, m, q, rfl, h, Nat.le_refl _⟩
      · rw [evalT_no hd, if_neg Bool.false_ne_true]
        have heq : r (at0 p m) = r (at0 p (m - 1)) := by exact ar97 hc hd
        have ds : DS r n p (m + 1) (q + 1) := ⟨h.toPre.succ hm, by exact ar96 hb1, fun a b hab hb => h.before a b hab (by exact ar93 hb), fun a b ha hb1 hb2 => by
            by_cases e : b = m
            · subst e; rw [heq]; exact h.less a _ (by exact ar93 ha) (by exact ar95) (by exact ar94 ha)
            · exact h.less a b (by exact ar93 ha) (by exact ar89 hb1) (by exact ar88 hb2 e), fun a b ha hab hb => by
            by_cases e : b = m
            · subst e
              have l := h.low a (by exact ar92 hab)
              rw [e2] at heq ⊢
              refine ⟨?_, l⟩
              rw [heq]
              by_cases e : a = b - 1
              · rw [e]
              · exact (h.eqs a (b - 1) (by exact ar89 ha) (by exact ar91 hab e) (by exact ar90 l)).1
            · exact h.eqs a b (by exact ar89 ha) hab (by exact ar88 hb e)⟩
        obtain ⟨p', m', q', e, u, l⟩ := desc_spec f p (m + 1) (q + 1) ds (by exact ar48 hn)
        exact ⟨p', m', q', e, u, by exact ar45 l⟩

theorem Down.up {p : Array Nat} {m : Nat} (h : Down r n p m) : Up r n (kas_rev p 0 m) m := ⟨h.toPre.rev (Nat.le_refl _), fun a b hab hb => by
  have hs : m ≤ p.size := by rw [h.size]; exact h.le
  rw [at_rev hs, at_rev hs, if_pos (by exact ar79 hab hb), if_pos (by exact ar80 hb)]
  exact h.ord _ _ (by exact ar78 hab hb) (by exact ar77 hb)⟩

theorem tail3_spec {p : Array Nat} {m : Nat} (h : Down r n p m) (h1 : 1 ≤ m) : ∃ m' p', evalT (ltR r) (kas_tail3 m n p) = (m', p') ∧ Up r n p' m' ∧ 1 ≤ m' := by
  unfold kas_tail3
  rw [evalT_bind]
  obtain ⟨m', e, u, l, _⟩ := asc_spec (n - m) m h.up h1 (by have := h.le; exact ar87 this)
  rw [e]
  exact ⟨m', _, rfl, u, by exact ar86 h1 l⟩

theorem descPart_spec {p : Array Nat} {m : Nat} (h : Down r n p m) (h1 : 1 ≤ m) (hm : m < n) (hl : r (at0 p m) < r (at0 p (m - 1))) : ∃ m' p', evalT (ltR r) (kas_descPart m n p) = (m', p') ∧ Up r n p' m' ∧ 1 ≤ m' := by
  unfold kas_descPart
  rw [evalT_bind]
  obtain ⟨p', m', q', e, u, l⟩ := desc_spec (n - (m + 1)) p (m + 1) 0 (h.ds hm h1 hl) (by exact ar85 hm)
  rw [e]
  dsimp only
  split
  · exact tail3_spec u.down (by exact ar83 l)
  · rename_i hq
    have : q' = 0 := by exact ar84 hq
    subst this
    exact tail3_spec u.down0 (by exact ar83 l)

theorem count_spec (hn : 1 ≤ n) : ∃ m' p', evalT (ltR r) (kas_count n (List.toArray (List.range n))) = (m', p') ∧ Up r n p' m' ∧ 1 ≤ m' := by
  unfold kas_count
  rw [evalT_bind]
  have id : ∀ k, k < n → at0 (List.toArray (List.range n)) k = k := fun k hk => by rw [at0_eq]; simp [hk]
  have up1 : Up r n (List.toArray (List.range n)) 1 := ⟨⟨by simp, Array.Perm.refl _, fun k _ h2 => id k h2, fun a ha => by rw [id a (by exact ar82 hn ha)]; exact ha, hn⟩, fun a b h1 h2 => by exact (ar69 h1 h2).elim⟩
  obtain ⟨m, e, u, l, hx⟩ := asc_spec (n - 1) 1 up1 (Nat.le_refl _) (by exact ar81 hn)
  rw [e]
  split
  · exact ⟨m, _, rfl, u, l⟩
  · rename_i hne
    have hm : m < n := by have := u.le; simp at hne; exact ar66 this hne
    have hl := hx hm
    split
    · rename_i h1
      by_cases hc : r (at0 (List.toArray (List.range n)) 0) < r (at0 (List.toArray (List.range n)) (m - 1))
      · rw [evalT_yes hc, if_pos rfl]
        exact ⟨m, _, rfl, u, l⟩
      · rw [evalT_no hc, if_neg Bool.false_ne_true]
        have hs : m ≤ (List.toArray (List.range n)).size := by rw [u.size]; exact u.le
        have mono : ∀ a b, a ≤ b → b < m → r (at0 (List.toArray (List.range n)) a) ≤ r (at0 (List.toArray (List.range n)) b) := fun a b hab hb => by
          by_cases e : a = b
          · rw [e]; exact ar67
          · rcases u.ord a b (by exact ar66 hab e) hb with q | q <;> omega
        have d : Down r n (kas_rev (List.toArray (List.range n)) 0 m) m := ⟨u.toPre.rev (Nat.le_refl _), fun a b hab hb => by
          rw [at_rev hs, at_rev hs, if_pos (by exact ar80 hb), if_pos (by exact ar79 hab hb)]
          exact u.ord _ _ (by exact ar78 hab hb) (by exact ar77 hb)⟩
        refine descPart_spec ?_ l hm ?_
        · refine ⟨u.toPre.rev (Nat.le_refl _), fun a b hab hb => ?_⟩
          rw [at_rev hs, at_rev hs, if_pos (by exact ar80 hb), if_pos (by exact ar79 hab hb)]
          exact u.ord _ _ (by exact ar78 hab hb) (by exact ar77 hb)
        · rw [at_rev hs, at_rev hs, if_neg (by exact ar76), if_pos (by exact ar75 h1)]
          have a1 := mono 0 (m - 1) (by exact ar74) (by exact ar73 h1)
          have e : 0 + m - 1 - (m - 1) = 0 := by exact ar72
          rw [e]
          exact ar71 hl hc
    · have : m = 1 := by exact ar70 l (by assumption)
      subst this
      exact descPart_spec ⟨u.toPre, fun a b h1 h2 => by exact (ar69 h1 h2).elim⟩ (Nat.le_refl _) hm hl

theorem place_spec {p : Array Nat} {k : Nat} (u : Up r n p k) : ∀ (f l h : Nat), l ≤ h → h ≤ k → h - l ≤ f → (∀ a, a < l → r (at0 p a) ≤ r (at0 p k)) → (∀ a, h ≤ a → a < k → r (at0 p k) < r (at0 p a)) →
    ∃ l', evalT (ltR r) (kas_place p k f l h) = l' ∧ l' ≤ k ∧ (∀ a, a < l' → r (at0 p a) ≤ r (at0 p k)) ∧ (∀ a, l' ≤ a → a < k → r (at0 p k) < r (at0 p a))
  | 0, l, h, h1, h2, h3, ha, hb => ⟨l, rfl, by exact ar65 h1 h2, ha, fun a q1 q2 => hb a (by exact ar68 h3 q1) q2⟩
  | f + 1, l, h, h1, h2, h3, ha, hb => by
    have mono : ∀ a b, a ≤ b → b < k → r (at0 p a) ≤ r (at0 p b) := fun a b hab hb => by
      by_cases e : a = b
      · rw [e]; exact ar67
      · rcases u.ord a b (by exact ar66 hab e) hb with q | q <;> omega
    unfold kas_place
    by_cases hlr : l ≥ h
    · rw [if_pos hlr]
      exact ⟨l, rfl, by exact ar65 h1 h2, ha, fun a q1 q2 => hb a (by exact ar64 hlr q1) q2⟩
    · rw [if_neg hlr]
      by_cases hc : r (at0 p k) < r (at0 p ((l + h) / 2))
      · rw [evalT_yes hc, if_pos rfl]
        exact place_spec u f l ((l + h) / 2) (by exact ar63 hlr) (by exact ar62 h2 hlr) (by exact ar61 h3) ha fun a q1 q2 => by
          have := mono ((l + h) / 2) a q1 q2
          exact ar60 hc this
      · rw [evalT_no hc, if_neg Bool.false_ne_true]
        exact place_spec u f ((l + h) / 2 + 1) h (by exact ar59 hlr) h2 (by exact ar58 h3) (fun a q => by
          have := mono a ((l + h) / 2) (by exact ar57 q) (by exact ar56 h2 hlr)
          exact ar55 hc this) hb

theorem bin_spec : ∀ (f : Nat) (p : Array Nat) (k : Nat), Up r n p k → k + f = n → Up r n (evalT (ltR r) (kas_bin f p k)) n
  | 0, p, k, u, hn => by
    have : k = n := by exact ar54 hn
    subst this; exact u
  | f + 1, p, k, u, hn => by
    rw [show kas_bin (f + 1) p k = (kas_place p k k 0 k).bind fun l => kas_bin f (bubble p k (k - l)) (k + 1) from rfl, evalT_bind]
    obtain ⟨l, e, hl, h1, h2⟩ := place_spec u k 0 k (Nat.zero_le _) (Nat.le_refl _) (by exact ar53) (fun a q => by exact ar52 q) (fun a q1 q2 => by exact ar51 q1 q2)
    rw [e]
    have hk : k < p.size := by rw [u.size]; exact ar50 hn
    have ek := u.rest k (Nat.le_refl _) (by exact ar50 hn)
    refine bin_spec f _ (k + 1) ⟨⟨by rw [bubble_size]; exact u.size, (bubble_perm ..).trans u.perm, fun m q1 q2 => ?_, fun m q => ?_, by exact ar49 hn⟩, fun a b hab hb => ?_⟩ (by exact ar48 hn)
    · rw [at_bub hk hl, if_neg (by exact ar47 hl q1), if_neg (by exact ar46 q1)]
      exact u.rest m (by exact ar45 q1) q2
    · rw [at_bub hk hl]
      by_cases e1 : m = l
      · rw [if_pos e1, ek]; exact Nat.lt_succ_self _
      · rw [if_neg e1]
        by_cases e2 : l < m ∧ m ≤ k
        · rw [if_pos e2]; have := u.low (m - 1) (by exact ar31 e2); exact ar44 this
        · rw [if_neg e2]; have := u.low m (by exact ar30 hl q e1 e2); exact ar44 this
    · rw [at_bub hk hl, at_bub hk hl]
      by_cases e1 : a = l
      · rw [if_pos e1, if_neg (by exact ar43 hab e1), if_pos (by exact ar42 hab hb e1)]
        exact .inl (h2 _ (by exact ar41 hab e1) (by exact ar40 hab hb))
      · rw [if_neg e1]
        by_cases e2 : b = l
        · rw [if_pos e2, if_neg (by exact ar39 hab e2)]
          have := h1 a (by exact ar38 hab e2)
          have := u.low a (by exact ar37 hab hb)
          rw [ek] at *
          unfold prec
          exact ar36 (by assumption) this
        · rw [if_neg e2]
          by_cases e3 : l < a ∧ a ≤ k
          · rw [if_pos e3, if_pos (by exact ar35 hab hb e3)]
            exact u.ord _ _ (by exact ar34 hab e3) (by exact ar33 hb e3)
          · rw [if_neg e3]
            by_cases e4 : l < b ∧ b ≤ k
            · rw [if_pos e4]; exact u.ord _ _ (by exact ar32 hab e1 e3 e4) (by exact ar31 e4)
            · rw [if_neg e4]; exact u.ord _ _ hab (by exact ar30 hl hb e2 e4)

theorem sort_spec (hn : 1 ≤ n) : Up r n (evalT (ltR r) (kas_sort n)) n := by
  unfold kas_sort
  rw [evalT_bind]
  obtain ⟨m, p, e, u, h1⟩ := count_spec (r := r) hn
  rw [e]
  dsimp only
  split
  · rw [Nat.max_eq_left h1]
    exact bin_spec _ p m u (by exact ar29 (by assumption))
  · have : m = n := by have := u.le; exact ar28 (by assumption) this
    subst this; exact u
end

section
variable {n : Nat}
noncomputable def InR (n : Nat) (p : Array Nat) : Prop := ∀ k, at0 p k < n
theorem InR.of {p q : Array Nat} (h : InR n p) (hp : q.Perm p) (hn : 0 < n) : InR n q := fun k => by
  rw [at0_eq]
  cases e : q[k]? with
  | none => exact hn
  | some x =>
    have m : x ∈ q := Array.mem_of_getElem? e
    have m' : x ∈ p := hp.mem_iff.mp m
    obtain ⟨i, hi⟩ := Array.mem_iff_getElem?.mp m'
    have := h i
    rw [at0_eq, hi] at this
    exact this
theorem InR.rev {p : Array Nat} (h : InR n p) (hn : 0 < n) (i j : Nat) : InR n (kas_rev p i j) := h.of (mirror_perm ..) hn
theorem InR.bub {p : Array Nat} (h : InR n p) (hn : 0 < n) (i j : Nat) : InR n (bubble p i j) := h.of (bubble_perm ..) hn

theorem BT_ite {α : Type} {c : Prop} [Decidable c] {t u : KasT α} (h1 : BT n t) (h2 : BT n u) : BT n (if c then t else u) := by split <;> assumption
theorem asc_bt {p : Array Nat} (h : InR n p) : ∀ (f m : Nat), BT n (kas_asc p f m)
  | 0, m => trivial
  | f + 1, m => ⟨h _, h _, fun b => BT_ite trivial (asc_bt h f (m + 1))⟩
noncomputable def okKas {α : Type} (n : Nat) (S : α → Prop) : KasT α → Prop
  | .ret a => S a
  | .ask i j k => i < n ∧ j < n ∧ ∀ b, okKas n S (k b)
theorem okKas.bt {α : Type} {S : α → Prop} : ∀ {t : KasT α}, okKas n S t → BT n t
  | .ret a, _ => trivial
  | .ask i j k, ⟨h1, h2, h3⟩ => ⟨h1, h2, fun b => (h3 b).bt⟩
theorem okKas.bind {α β : Type} {S : α → Prop} {U : β → Prop} {f : α → KasT β} : ∀ {t : KasT α}, okKas n S t → (∀ a, S a → okKas n U (f a)) → okKas n U (t.bind f)
  | .ret a, h, hf => hf a h
  | .ask i j k, ⟨h1, h2, h3⟩, hf => ⟨h1, h2, fun b => (h3 b).bind hf⟩
theorem okKas_ite {α : Type} {S : α → Prop} {c : Prop} [Decidable c] {t u : KasT α} (h1 : okKas n S t) (h2 : okKas n S u) : okKas n S (if c then t else u) := by split <;> assumption
theorem BT.ok {α : Type} : ∀ {t : KasT α}, BT n t → okKas n (fun _ => True) t
  | .ret a, _ => trivial
  | .ask i j k, ⟨h1, h2, h3⟩ => ⟨h1, h2, fun b => (h3 b).ok⟩
theorem desc_ok (hn : 0 < n) : ∀ (f : Nat) {p : Array Nat} (m q : Nat), InR n p → okKas n (fun r => InR n r.1) (kas_desc f p m q)
  | 0, p, m, q, h => h
  | f + 1, p, m, q, h => ⟨h _, h _, fun b => okKas_ite (okKas_ite (desc_ok hn f _ _ (h.rev hn _ _)) (desc_ok hn f _ _ h)) ⟨h _, h _, fun d => okKas_ite h (desc_ok hn f _ _ h)⟩⟩
theorem tail3_ok (hn : 0 < n) {p : Array Nat} (h : InR n p) (m k : Nat) : okKas n (fun r => InR n r.2) (kas_tail3 m k p) := (asc_bt (h.rev hn _ _) _ _).ok.bind fun a _ => h.rev hn _ _
theorem descPart_ok (hn : 0 < n) {p : Array Nat} (h : InR n p) (m k : Nat) : okKas n (fun r => InR n r.2) (kas_descPart m k p) :=
  (desc_ok hn _ _ _ h).bind fun a ha => okKas_ite (tail3_ok hn (InR.rev ha hn _ _) _ _) (tail3_ok hn ha _ _)
theorem count_ok (hn : 0 < n) {p : Array Nat} (h : InR n p) (k : Nat) : okKas n (fun r => InR n r.2) (kas_count k p) :=
  (asc_bt h _ _).ok.bind fun a _ => okKas_ite h (okKas_ite ⟨h _, h _, fun b => okKas_ite h (descPart_ok hn (h.rev hn _ _) _ _)⟩ (descPart_ok hn h _ _))
theorem place_bt {p : Array Nat} (h : InR n p) (k : Nat) : ∀ (f l r : Nat), BT n (kas_place p k f l r)
  | 0, l, r => trivial
  | f + 1, l, r => BT_ite trivial ⟨h _, h _, fun b => BT_ite (place_bt h k f _ _) (place_bt h k f _ _)⟩
theorem bin_bt (hn : 0 < n) : ∀ (f : Nat) {p : Array Nat} (k : Nat), InR n p → BT n (kas_bin f p k)
  | 0, p, k, h => trivial
  | f + 1, p, k, h => (place_bt h k _ _ _).bind fun l => bin_bt hn f _ (h.bub hn _ _)
theorem sort_bt (hn : 0 < n) : BT n (kas_sort n) := by
  have h : InR n (List.toArray (List.range n)) := fun k => by
    rw [at0_eq]
    by_cases hk : k < n
    · simp [hk]
    · simp [Nat.not_lt.mp hk, hn]
  have : okKas n (fun _ => True) (kas_sort n) := (count_ok hn h n).bind fun a ha => okKas_ite (bin_bt hn _ _ ha).ok trivial
  exact this.bt
end
end Mine

namespace Mine
open PySem PySem.W PyProof.Rows

theorem strLt_irrefl (x : Str) : strLt x x = false := decide_eq_false (List.lt_irrefl _)
theorem strLt_trans {x y u : Str} (h1 : strLt x y = true) (h2 : strLt y u = true) : strLt x u = true := decide_eq_true (List.lt_trans (of_decide_eq_true h1) (of_decide_eq_true h2))
theorem strLt_total {x y : Str} (h1 : strLt x y = false) (h2 : strLt y x = false) : x = y := by
  have a := of_decide_eq_false h1
  have b := of_decide_eq_false h2
  have : x.cps.toList = y.cps.toList := List.le_antisymm (List.not_lt.mp b) (List.not_lt.mp a)
  cases x; cases y
  simp at this
  subst this; rfl
theorem strLt_asymm {x y : Str} (h1 : strLt x y = true) : strLt y x = false := by
  cases h : strLt y x with
  | false => rfl
  | true => have := strLt_trans h1 h; rw [strLt_irrefl] at this; cases this
theorem strLt_le {x y u : Str} (h1 : strLt y x = false) (h2 : strLt u y = false) : strLt u x = false := by
  cases h : strLt u x with
  | false => rfl
  | true =>
    cases h3 : strLt x y with
    | true => rw [strLt_trans h h3] at h2; cases h2
    | false => have := strLt_total h3 h1; subst this; rw [h] at h2; cases h2

theorem countP_le {α : Type} {p q : α → Bool} : ∀ {l : List α}, (∀ x ∈ l, p x = true → q x = true) → l.countP p ≤ l.countP q
  | [], _ => Nat.le_refl _
  | a :: l, h => by
    have ih := countP_le (l := l) fun x m => h x (List.mem_cons_of_mem _ m)
    have ha := h a List.mem_cons_self
    rw [List.countP_cons, List.countP_cons]
    cases hp : p a with
    | true => rw [ha hp]; simp; exact ih
    | false => simp; exact ar135 ih
theorem countP_lt {α : Type} {p q : α → Bool} : ∀ {l : List α} {x : α}, x ∈ l → p x = false → q x = true → (∀ x ∈ l, p x = true → q x = true) → l.countP p < l.countP q
  | a :: l, x, m, h1, h2, h => by
    rw [List.countP_cons, List.countP_cons]
    rcases List.mem_cons.mp m with rfl | m
    · have ih := countP_le (l := l) fun x m => h x (List.mem_cons_of_mem _ m)
      rw [h1, h2]; simp; exact ar134 ih
    · have ih := countP_lt m h1 h2 fun x m => h x (List.mem_cons_of_mem _ m)
      have ha := h a List.mem_cons_self
      cases hp : p a with
      | true => rw [ha hp]; simp; exact ar92 ih
      | false => simp; exact ar133 ih

/-- the rank of a key -/
noncomputable def rankOf (K : Nat → Str) (n : Nat) (i : Nat) : Int := ((List.range n).countP fun j => strLt (K j) (K i) : Nat)
theorem rank_lt {K : Nat → Str} {n i j : Nat} (hi : i < n) (hj : j < n) : ltR (rankOf K n) i j = strLt (K i) (K j) := by
  unfold ltR
  cases h : strLt (K i) (K j) with
  | true =>
    refine decide_eq_true ?_
    unfold rankOf
    exact Int.ofNat_lt.mpr (countP_lt (List.mem_range.mpr hi) (strLt_irrefl _) h fun x _ hx => strLt_trans hx h)
  | false =>
    refine decide_eq_false ?_
    unfold rankOf
    have : (List.range n).countP (fun x => strLt (K x) (K j)) ≤ (List.range n).countP (fun x => strLt (K x) (K i)) := countP_le fun x _ hx => by
      cases h2 : strLt (K x) (K i) with
      | true => rfl
      | false => rw [strLt_le h h2] at hx; cases hx
    exact ar132 this

theorem perm_sorted_eq {α : Type} {R : α → α → Prop} (as : ∀ a b, R a b → R b a → False) : ∀ {l₁ l₂ : List α}, l₁.Perm l₂ → l₁.Pairwise R → l₂.Pairwise R → l₁ = l₂
  | [], l₂, p, _, _ => by simpa using p.symm.eq_nil
  | a :: t₁, [], p, _, _ => by simpa using p.eq_nil
  | a :: t₁, b :: t₂, p, h1, h2 => by
    rw [List.pairwise_cons] at h1 h2
    have e : a = b := by
      rcases List.mem_cons.mp (p.mem_iff.mp (List.mem_cons_self (a := a) (l := t₁))) with e | m
      · exact e
      · rcases List.mem_cons.mp (p.mem_iff.mpr (List.mem_cons_self (a := b) (l := t₂))) with e | m'
        · exact e.symm
        · exact (as a b (h1.1 b m') (h2.1 a m)).elim
    subst e
    rw [perm_sorted_eq as p.cons_inv h1.2 h2.2]

/-- insertion of places -/
noncomputable def insI (K : Nat → Str) (i : Nat) : List Nat → List Nat
  | [] => [i]
  | j :: r => if strLt (K i) (K j) then i :: j :: r else j :: insI K i r
noncomputable def sortI (K : Nat → Str) : List Nat → List Nat → List Nat
  | [], acc => acc
  | i :: r, acc => sortI K r (insI K i acc)
noncomputable def precK (K : Nat → Str) (i j : Nat) : Prop := strLt (K i) (K j) = true ∨ (strLt (K j) (K i) = false ∧ i < j)
theorem insI_perm {K : Nat → Str} {i : Nat} : ∀ l : List Nat, (insI K i l).Perm (i :: l)
  | [] => .refl _
  | j :: r => by
    unfold insI
    split
    · exact .refl _
    · exact ((insI_perm r).cons j).trans (.swap ..)
theorem sortI_perm {K : Nat → Str} : ∀ (l acc : List Nat), (sortI K l acc).Perm (l ++ acc)
  | [], acc => .refl _
  | i :: r, acc => by
    refine (sortI_perm r _).trans ?_
    refine ((insI_perm acc).append_left r).trans ?_
    exact List.perm_middle
theorem precK_trans_le {K : Nat → Str} {i j m : Nat} (h1 : strLt (K i) (K j) = true) (h2 : precK K j m) : strLt (K i) (K m) = true := by
  rcases h2 with h2 | ⟨h2, _⟩
  · exact strLt_trans h1 h2
  · cases h : strLt (K i) (K m) with
    | true => rfl
    | false => rw [strLt_le h2 h] at h1; cases h1
theorem insI_sorted {K : Nat → Str} {i : Nat} : ∀ {l : List Nat}, l.Pairwise (precK K) → (∀ j ∈ l, j < i) → (insI K i l).Pairwise (precK K)
  | [], _, _ => by simp [insI]
  | j :: r, h, hl => by
    rw [List.pairwise_cons] at h
    unfold insI
    split
    · rename_i hc
      refine List.pairwise_cons.mpr ⟨fun m hm => ?_, List.pairwise_cons.mpr h⟩
      rcases List.mem_cons.mp hm with rfl | hm
      · exact .inl hc
      · exact .inl (precK_trans_le hc (h.1 m hm))
    · rename_i hc
      refine List.pairwise_cons.mpr ⟨fun m hm => ?_, insI_sorted h.2 fun j m => hl j (List.mem_cons_of_mem _ m)⟩
      rcases List.mem_cons.mp ((insI_perm r).mem_iff.mp hm) with rfl | hm
      · exact .inr ⟨by simpa using hc, hl j List.mem_cons_self⟩
      · exact h.1 m hm
theorem sortI_sorted {K : Nat → Str} : ∀ {l acc : List Nat}, acc.Pairwise (precK K) → l.Pairwise (· < ·) → (∀ i ∈ l, ∀ j ∈ acc, j < i) → (sortI K l acc).Pairwise (precK K)
  | [], acc, h, _, _ => h
  | i :: r, acc, h, hl, hj => by
    rw [List.pairwise_cons] at hl
    show (sortI K r (insI K i acc)).Pairwise (precK K)
    refine sortI_sorted (insI_sorted h (hj i List.mem_cons_self)) hl.2 fun m hm j hjm => ?_
    rcases List.mem_cons.mp ((insI_perm acc).mem_iff.mp hjm) with rfl | q
    · exact hl.1 m hm
    · exact hj m (List.mem_cons_of_mem _ hm) j q

theorem sort_is {K : Nat → Str} {n : Nat} (hn : 1 ≤ n) {lt : Nat → Nat → Bool} (hlt : ∀ i j, i < n → j < n → lt i j = strLt (K i) (K j)) : (evalT lt (kas_sort n)).toList = sortI K (List.range n) [] := by
  have e : evalT lt (kas_sort n) = evalT (ltR (rankOf K n)) (kas_sort n) := by
    have go : ∀ {α : Type} (t : KasT α), BT n t → evalT lt t = evalT (ltR (rankOf K n)) t := by
      intro α t
      induction t with
      | ret a => intro _; rfl
      | ask i j k ih =>
        rintro ⟨h1, h2, h3⟩
        show evalT lt (k (lt i j)) = evalT _ (k (ltR (rankOf K n) i j))
        rw [hlt i j h1 h2, rank_lt h1 h2]
        exact ih _ (h3 _)
    exact go _ (sort_bt hn)
  rw [e]
  have u := sort_spec (r := rankOf K n) hn
  generalize evalT (ltR (rankOf K n)) (kas_sort n) = p at u
  have hp : p.toList.Perm (List.range n) := by simpa using Array.perm_iff_toList_perm.mp u.perm
  have hm : ∀ i ∈ p.toList, i < n := fun i m => List.mem_range.mp (hp.mem_iff.mp m)
  refine perm_sorted_eq (R := precK K) (fun a b h1 h2 => ?_) (hp.trans ((sortI_perm _ _).trans (by simp)).symm) ?_ (sortI_sorted .nil List.pairwise_lt_range (fun _ _ _ m => nomatch m))
  · rcases h1 with h1 | ⟨h1, l1⟩ <;> rcases h2 with h2 | ⟨h2, l2⟩
    · rw [strLt_asymm h1] at h2; cases h2
    · rw [h1] at h2; cases h2
    · rw [h2] at h1; cases h1
    · exact ar131 l1 l2
  · rw [List.pairwise_iff_getElem]
    intro a b ha hb hab
    have hb' : b < n := by rw [Array.length_toList, u.size] at hb; exact hb
    have ea : at0 p a = p.toList[a] := by rw [at0_eq]; simp at ha; simp [ha]
    have eb : at0 p b = p.toList[b] := by rw [at0_eq]; simp at hb; simp [hb]
    have o := u.ord a b hab hb'
    rw [ea, eb] at o
    have ma := hm _ (List.getElem_mem ha)
    have mb := hm _ (List.getElem_mem hb)
    rcases o with o | ⟨o, l⟩
    · exact .inl (by rw [← rank_lt ma mb]; exact decide_eq_true o)
    · exact .inr ⟨by rw [← rank_lt mb ma]; exact decide_eq_false (by exact ar130 o), l⟩

theorem insI_map {K : Nat → Str} {f : Nat → Str × D} {i : Nat} (hf : ∀ j, (f j).1 = K j) : ∀ l : List Nat, (insI K i l).map f = insD (f i).1 (f i).2 (l.map f)
  | [] => rfl
  | j :: r => by
    unfold insI
    rw [List.map_cons]
    conv => rhs; unfold insD
    rw [hf i]
    rw [hf j]
    split
    · rw [List.map_cons, List.map_cons, ← hf i, ← hf j]
    · rw [List.map_cons, insI_map hf r, hf i, ← hf j]

theorem sortI_map {K : Nat → Str} {f : Nat → Str × D} (hf : ∀ j, (f j).1 = K j) : ∀ (l acc : List Nat), (sortI K l acc).map f = sortP (l.map f) (acc.map f)
  | [], acc => rfl
  | i :: r, acc => by
    show (sortI K r (insI K i acc)).map f = sortP (r.map f) (insD (f i).1 (f i).2 (acc.map f))
    rw [sortI_map hf r, insI_map hf]
end Mine

namespace Mine
open PySem PySem.W PyProof.Rows PySem.Calls PySem.Spec

section
variable {prog : Program} {w : World} {hb : Heap} {mg mb : Str → Option Value} {c P : Addr} {k : Nat} {lc : Option Addr} {T : Tabs} {E : Ev} {z z' : Z} {env : Env} {sc sc' : Scope} {ρ ρ' : Rho} {h h' : Heap} {M : Addr → Prop} {A : Around} {s : Shared} {Ex : Value → Shared → Prop}

noncomputable abbrev lamParams (p1 : Pos) : Arguments := ⟨[], [⟨lamVar, none, p1⟩], none, [], [], none, []⟩
noncomputable abbrev lamBody (p2 p3 p4 : Pos) (kk : Nat) : Expr := .Subscript (.Name lamVar p2) (.Constant (.int 0) kk p3) p4

theorem isKeyLam_of {lam : Expr} (h : isKeyLam lam = true) : ∃ p1 p2 p3 p4 kk sc, lam = .Lambda (lamParams p1) (lamBody p2 p3 p4 kk) sc lamPos ∧ sc.kind = .function ∧ sc.names = [(lamVar, .local)] ∧ sc.isGenerator = false ∧ sc.isCoroutine = false := by
  cases lam with
  | Lambda a b sc lp =>
    obtain ⟨a1, a2, a3, a4, a5, a6, a7⟩ := a
    have h : (lamA ⟨a1, a2, a3, a4, a5, a6, a7⟩ && lamB b && lp == lamPos && sc.kind == .function && sc.names == [(lamVar, .local)] && !sc.isGenerator && !sc.isCoroutine) = true := h
    simp only [Bool.and_eq_true, beq_iff_eq, Bool.not_eq_true', lamA, Option.isNone_iff_eq_none] at h
    obtain ⟨⟨⟨⟨⟨⟨⟨⟨⟨⟨⟨⟨h1, h3⟩, h4⟩, h5⟩, h6⟩, h7⟩, h2⟩, hb⟩, rfl⟩, h8⟩, h9⟩, h10⟩, h11⟩ := h
    subst h3 h6
    rw [isEmpty_inv h1, isEmpty_inv h4, isEmpty_inv h5, isEmpty_inv h7]
    cases ho : one a2 with
    | none => rw [ho] at h2; cases h2
    | some x =>
      rw [ho] at h2
      obtain ⟨x1, x2, x3⟩ := x
      simp only [Bool.and_eq_true, beq_iff_eq, Option.isNone_iff_eq_none] at h2
      obtain ⟨rfl, rfl⟩ := h2
      rw [one_inv ho]
      cases b with
      | Subscript b i p =>
        have hb : (isNm b == some lamVar && constI i == some 0) = true := hb
        rw [Bool.and_eq_true, beq_iff_eq, beq_iff_eq] at hb
        obtain ⟨p2, rfl⟩ := isNm_inv hb.1
        obtain ⟨kk, p3, rfl⟩ := constI_inv hb.2
        exact ⟨_, _, _, _, _, _, rfl, h8, h9, h10, h11⟩
      | _ => cases hb
  | _ => first | exact nn h | cases h

/-- the function that a key's lambda makes, frozen with its code -/
noncomputable def LamAt (z : Z) (f : Addr) (p1 p2 p3 p4 : Pos) (kk : Nat) (sc : Scope) : Prop :=
  ∃ pm c' ctv oc vs t, z f = some (kla_obj (Str.ofString "<lambda>") lamQual (lamParams p1) (lamBody p2 p3 p4 kk) sc [] pm c' ctv) ∧ z c' = some oc ∧ oc.data = .fields vs ∧ vs[1]? = some (.str lamQual t)

theorem lam_qual : lamEnvQual ++ ("<lambda>" : Str) = lamQual := by decide +kernel

theorem lam_ok (G : Glo hb mg mb c P) (ok : Ok prog w hb P (some c) z env sc ρ s.heap) {p1 p2 p3 p4 : Pos} {kk : Nat} {ls : Scope} {Q : Value → Shared → Prop} (hn : ls.names = [(lamVar, .local)])
    (hQ : ∀ f z' h' tk, Grow P env.locals z s.heap z' h' → LamAt z' f p1 p2 p3 p4 kk ls → h'.objs.size = f + 1 → Q (.ref f) { s with heap := h', toks := tk }) :
    wpAny (model prog w) A (eval (.Lambda (lamParams p1) (lamBody p2 p3 p4 kk) ls lamPos) env) Q Ex s := by
  obtain ⟨hcode, hqual⟩ := ok.eok.lam c rfl
  refine kla_eval rfl ?_
  rw [hqual, lam_qual]
  have hcl : closureFor ls env = pure [] := closureFor_none fun x m => by rw [hn] at m; rw [List.mem_singleton.mp m]; exact fun e => nomatch e
  have hg := G.g.keeps ok.inb
  have C : CodeHd s.heap c P := G.code.keeps ok.inb
  have hB : s.heap.BuiltinsAt mg P := by
    obtain ⟨bm, ob, b1, b2, b3, b4, b5, b6, b7⟩ := G.bmain
    refine ⟨bm, ob, b1, b2, ?_, b3, ok.inb _ _ b4, b5, b6, b7⟩
    rintro rfl
    obtain ⟨o, es, ep, e, hd, _⟩ := G.g
    rw [e] at b4; cases b4; rw [hd] at b7; cases b7
  have hzP := ok.tab.1
  rcases ok.tab.2 with hP | ⟨c', oc, vs, t, hP, hz, hd, hv⟩
  · refine kla_makeFunction hcl ok.eok.globals hg hcode C hP trivial rfl G.mainP hB fun c' ctv h' tk hx hge hlt hrec htb => ?_
    obtain ⟨c2, oc, vs, t, e2, hoc, hd, hv⟩ := hrec
    cases e2
    have hsz : s.heap.objs.size ≤ h'.objs.size := Nat.le_of_lt (Nat.lt_of_le_of_lt hge hlt)
    have hPlt : P < s.heap.objs.size := Heap.lt_size hP
    have keep : ∀ b o, b ≠ P → s.heap.get? b = some o → h'.get? b = some o := fun b o hb e => hx b o hb e
    have on1 : z.on h' := fun b o e => keep b o (fun q => by rw [q, hzP] at e; cases e) (ok.on b o e)
    have zc : z c' = none := ok.on.none_of_size hge
    let z1 : Z := z.add c' oc
    have zf : z1 h'.objs.size = none := by
      show (if h'.objs.size = c' then some oc else z h'.objs.size) = none
      rw [if_neg (Nat.ne_of_gt hlt)]
      exact ok.on.none_of_size hsz
    let fo : Obj := kla_obj (Str.ofString "<lambda>") lamQual (lamParams p1) (lamBody p2 p3 p4 kk) ls [] ((mg "__name__").getD .none) c' ctv
    have gr0 : Grow P env.locals z s.heap z1 (h'.push fo) := by
      refine ⟨fun b o e => Z.add_le zc b o e, fun b o e => ?_, fun b o _ hb e => Heap.get?_push_of_some _ (keep b o hb e), fun m n => (n.at' fun o e => keep _ o (ns_ne ok.tab n) e).push _, Nat.le_trans hsz (by rw [Heap.size_push]; exact Nat.le_succ _), fun b o e => ?_, fun _ => ⟨?_, .inr ⟨c', oc, vs, t, Heap.get?_push_of_some _ htb, Z.add_self .., hd, hv⟩⟩⟩
      · change (if b = c' then some oc else z b) = some o at e
        split at e
        · rename_i q; subst q; cases e; exact Heap.get?_push_of_some _ hoc
        · exact Heap.get?_push_of_some _ (on1 b o e)
      · change (if b = c' then some oc else z b) = some o at e
        split at e
        · rename_i q; subst q; exact .inr hge
        · exact .inl e
      · show (if P = c' then some oc else z P) = none
        rw [if_neg (Nat.ne_of_lt (Nat.lt_of_lt_of_le hPlt hge))]
        exact hzP
    refine hQ _ (z1.add h'.objs.size fo) _ tk (gr0.freeze (Heap.get?_push_size _ rfl) hsz zf) ⟨_, c', ctv, oc, vs, t, Z.add_self .., Z.add_le zf _ _ (Z.add_self ..), hd, hv⟩ (Heap.size_push ..)
  · refine kla_makeFunctionHit (cv := .ref c') hcl ok.eok.globals hg hcode C hP ⟨⟩ (by rfl) hB fun ctv h' tk hk hsz => ?_
    let fo : Obj := kla_obj (Str.ofString "<lambda>") lamQual (lamParams p1) (lamBody p2 p3 p4 kk) ls [] ((mg "__name__").getD .none) c' ctv
    have zf : z h'.objs.size = none := ok.on.none_of_size hsz
    have gr0 : Grow P env.locals z s.heap z (h'.push fo) := .kept ok.on (fun b o e => Heap.get?_push_of_some _ (hk b o e)) (Nat.le_trans hsz (by rw [Heap.size_push]; exact Nat.le_succ _))
    exact hQ _ (z.add h'.objs.size fo) _ tk (gr0.freeze (Heap.get?_push_size _ rfl) hsz zf) ⟨_, c', ctv, oc, vs, t, Z.add_self .., Z.add_le zf _ _ hz, hd, hv⟩ (Heap.size_push ..)

theorem lamcall_ok {p1 p2 p3 p4 : Pos} {kk : Nat} {ls : Scope} {f : Addr} {v : Value} {x : Str} {rest : List D} {Q : Value → Shared → Prop} (hnl : s.heap.NoLimit) (hdep : A.depth < recursionLimit) (L : LamAt z f p1 p2 p3 p4 kk ls) (on : z.on s.heap)
    (hk : ls.kind = .function) (hn : ls.names = [(lamVar, .local)]) (hgn : ls.isGenerator = false) (hco : ls.isCoroutine = false) (r : Rep prog w z v (.tuple (.str x :: rest)))
    (hQ : ∀ t h' tk, (∀ b o, s.heap.get? b = some o → h'.get? b = some o) → Q (.str x t) { s with heap := h', toks := tk }) :
    wpAny (model prog w) A (call (.ref f) [v]) Q Ex s := by
  obtain ⟨pm, c', ctv, oc, vs, t, e1, e2, e3, e4⟩ := L
  refine wpAny_call ?_
  refine kla_callFunE (fd := kla_fn (Str.ofString "<lambda>") lamQual (lamParams p1) (lamBody p2 p3 p4 kk) ls [] pm (.ref c') ctv) hdep (on _ _ e1) rfl hco hgn rfl ⟨c', oc, vs, t, rfl, on _ _ e2, e3, e4⟩ ?_
  have hbind : bindArgs (kla_fn (Str.ofString "<lambda>") lamQual (lamParams p1) (lamBody p2 p3 p4 kk) ls [] pm (.ref c') ctv) ⟨[v], []⟩ = pure [(lamVar, v)] := by rfl
  rw [hbind]
  refine wpAny_pure (wpAny_newFunctionEnv (fun y m => ?_) (fun y m => ?_) (fun h1 hns hsb => ⟨?_, ?_⟩) hk)
  · rw [hn] at m; rw [List.mem_singleton.mp m]; exact fun e => nomatch e
  · rw [List.mem_singleton.mp m, hn]; rfl
  · exact hnl.fresh _ hsb
  · refine kla_codeExpr ?_
    have keep : ∀ b o, s.heap.get? b = some o → h1.get? b = some o := fun b o e => hsb.extBut b o (Nat.ne_of_lt (Heap.lt_size e)) (Heap.get?_push_of_some _ e)
    have hkind : Env.kindOf (newEnv ls s.heap.objs.size mainGlobals [] (lamQual ++ ".<locals>.") (some f) (.ref c') none builtinsNs) lamVar = some .local := by
      show ls.names.lookup lamVar = some .local
      rw [hn]; rfl
    refine Subscript_ (wpAny_Name (wpAny_loadName_local (v := v) hk hkind hns rfl (wpAny_Constant_int ?_)))
    refine item_ok (z := z) (d := .tuple (.str x :: rest)) (r := .str x) rfl (fun b o e => keep b o (on b o e)) (.inl r) rfl fun y ry => ?_
    cases ry with
    | str _ t => exact hQ t h1 _ keep
end
end Mine

namespace Mine
open PySem PySem.W PyProof.Rows PySem.Calls PySem.Spec

theorem sortD_of {d r : D} (h : sortD d = some r) : ∃ ds ks, d = .list ds ∧ mapO keyD ds = some ks ∧ ds.length < 64 ∧ r = .list ((sortP (ks.zip ds) []).map (·.2)) := by
  unfold sortD at h
  split at h
  · rename_i ds
    split at h
    · rename_i ks hk
      split at h
      · rename_i hl
        cases h
        exact ⟨ds, ks, rfl, hk, by simpa using hl, rfl⟩
      · first | exact nn h | cases h
    · first | exact nn h | cases h
  · first | exact nn h | cases h

theorem keyD_of {d : D} {x : Str} (h : keyD d = some x) : ∃ rest, d = .tuple (.str x :: rest) := by
  unfold keyD at h
  split at h
  · cases h; exact ⟨_, rfl⟩
  · first | exact nn h | cases h

/-- the order of the keys -/
theorem order_is {ds : List D} {ks : List Str} (hl : ks.length = ds.length) (hn : 1 ≤ ds.length) {lt : Nat → Nat → Bool} (hlt : ∀ i j, i < ds.length → j < ds.length → lt i j = strLt (ks.getD i (Str.ofString "")) (ks.getD j (Str.ofString ""))) :
    (evalT lt (kas_sort ds.length)).toList.map (fun i => ds.getD i .none) = (sortP (ks.zip ds) []).map (·.2) := by
  rw [sort_is (K := fun i => ks.getD i (Str.ofString "")) hn hlt]
  have e := sortI_map (K := fun i => ks.getD i (Str.ofString "")) (f := fun i => (ks.getD i (Str.ofString ""), ds.getD i .none)) (fun _ => rfl) (List.range ds.length) []
  have e2 : (List.range ds.length).map (fun i => (ks.getD i (Str.ofString ""), ds.getD i .none)) = ks.zip ds := by
    apply List.ext_getElem
    · simp [hl]
    · intro i h1 h2
      simp at h1 h2
      have h3 : i < ks.length := by exact ar137 hl h1
      simp [h1, h3]
  rw [e2] at e
  have e3 := congrArg (List.map (·.2)) e
  rw [List.map_map] at e3
  exact e3

section
variable {prog : Program} {w : World} {z : Z} {A : Around} {s : Shared} {L : Addr} {m : Str → Option Value}

theorem reps_getD {vs : List Value} {ds : List D} (r : Reps prog w z vs ds) {i : Nat} (hi : i < ds.length) : Rep prog w z (vs.getD i .none) (ds.getD i .none) := by
  obtain ⟨v, e, rv⟩ := r.get (i := i) (d := ds[i]) (by simp [hi])
  rw [List.getD_eq_getElem?_getD, e, List.getD_eq_getElem?_getD, List.getElem?_eq_getElem hi]
  exact rv
theorem reps_map {vs : List Value} {ds : List D} (r : Reps prog w z vs ds) : ∀ {l : List Nat}, (∀ i ∈ l, i < ds.length) → Reps prog w z (l.map fun i => vs.getD i .none) (l.map fun i => ds.getD i .none)
  | [], _ => .nil
  | i :: l, h => .cons (reps_getD r (h i List.mem_cons_self)) (reps_map r fun j m => h j (List.mem_cons_of_mem _ m))

inductive StrsAre : List Value → List Str → Prop
  | nil : StrsAre [] []
  | cons {x : Str} {t : Tok} {vs : List Value} {xs : List Str} : StrsAre vs xs → StrsAre (.str x t :: vs) (x :: xs)
theorem StrsAre.snoc {x : Str} {t : Tok} : ∀ {vs : List Value} {xs : List Str}, StrsAre vs xs → StrsAre (vs ++ [.str x t]) (xs ++ [x])
  | _, _, .nil => .cons .nil
  | _, _, .cons r => .cons r.snoc
theorem StrsAre.length : ∀ {vs : List Value} {xs : List Str}, StrsAre vs xs → vs.length = xs.length
  | _, _, .nil => rfl
  | _, _, .cons r => by simp [r.length]
theorem StrsAre.get : ∀ {vs : List Value} {xs : List Str}, StrsAre vs xs → ∀ {i : Nat}, i < xs.length → ∃ t, vs.getD i Value.none = .str (xs.getD i (Str.ofString "")) t
  | _, _, .nil, i, h => by simp at h
  | _, _, .cons (x := x) (t := t) r, 0, h => ⟨t, rfl⟩
  | _, _, .cons r, i + 1, h => by simpa using r.get (by simpa using h)
theorem StrsAre.mem : ∀ {vs : List Value} {xs : List Str}, StrsAre vs xs → ∀ v ∈ vs, ∃ x t, v = .str x t
  | _, _, .nil, v, h => by cases h
  | _, _, .cons r, v, h => by
    rcases List.mem_cons.mp h with rfl | h
    · exact ⟨_, _, rfl⟩
    · exact r.mem v h

theorem news_on {B : List (Addr × Obj)} {h : Heap} (N : News e0 L h B) (zB : ∀ b o, z b = some o → (b, o) ∈ B) : z.on h := fun b o e => (N _ (zB b o e)).1

/-- the keys are asked for, one by one -/
theorem keys_ok {B : List (Addr × Obj)} {f kS Dd : Addr} {e1 : Nat} {p1 p2 p3 p4 : Pos} {kk : Nat} {ls : Scope} {Fin : List Value → Nat → Shared → Prop} (hdep : A.depth < recursionLimit) (hnl : ∀ h' : Heap, z.on h' → h'.NoLimit) (zB : ∀ b o, z b = some o → (b, o) ∈ B) (LA : LamAt z f p1 p2 p3 p4 kk ls)
    (hk : ls.kind = .function) (hn : ls.names = [(lamVar, .local)]) (hgn : ls.isGenerator = false) (hco : ls.isCoroutine = false) (hDk : Dd < kS) (hB : ∀ q ∈ B, q.1 < Dd) :
    ∀ {r ks : List Value} {e : Nat} {ds : List D} {kr kd : List Str} {h1 : Heap} {tk1 : Nat}, Reps prog w z r ds → mapO keyD ds = some kr → StrsAre ks kd → Fr e0 L h1 m → News e0 L h1 ((kS, seqObj "list" (List.toArray ks) e) :: (Dd, seqObj "list" #[] e1) :: B) →
      (∀ ks' e' h' tk', StrsAre ks' (kd ++ kr) → Fr e0 L h' m → News e0 L h' ((kS, seqObj "list" (List.toArray ks') e') :: (Dd, seqObj "list" #[] e1) :: B) → Fin ks' e' { s with heap := h', toks := tk' }) →
      KatKeys prog w A e0 L m kS (.ref f) Fin r ks e { s with heap := h1, toks := tk1 }
  | [], ks, e, ds, kr, kd, h1, tk1, rs, hm, sa, F, N, hF => by
    cases rs
    simp [mapO] at hm; subst hm
    exact KatKeys.nil (hF ks e h1 tk1 (by simpa using sa) F N)
  | v :: r, ks, e, ds, kr, kd, h1, tk1, rs, hm, sa, F, N, hF => by
    cases rs with
    | @cons _ d _ ds rv rs =>
      simp only [mapO] at hm
      split at hm
      · cases hm
      · rename_i x hx
        split at hm
        · cases hm
        · rename_i kr' hkr
          cases hm
          obtain ⟨rest, rfl⟩ := keyD_of hx
          have NB : News e0 L h1 B := fun p hp => N p (.tail _ (.tail _ hp))
          have on := news_on NB zB
          refine KatKeys.cons (lamcall_ok (s := { s with heap := h1, toks := tk1 }) (hnl _ on) hdep LA on hk hn hgn hco rv fun t h2 tk2 keep => ?_)
          refine KatBack.intro (s := { s with heap := h2, toks := tk2 }) (F.kept keep) (N.grown keep) (.head fun p hp => ?_) fun h3 c F3 N3 => ?_
          · rcases List.mem_cons.mp hp with rfl | hp
            · exact Nat.ne_of_lt hDk
            · exact Nat.ne_of_lt (Nat.lt_trans (hB p hp) hDk)
          · exact keys_ok hdep hnl zB LA hk hn hgn hco hDk hB rs hkr sa.snoc F3 N3 fun ks' e' h' tk' sa' F' N' => hF ks' e' h' tk' (by simpa using sa') F' N'

theorem looks_str {M : Model} {h : Heap} {x : Str} {t : Tok} : Looks M h (typeOf (.str x t)) (.type "str") := by
  first | exact .now | exact Looks.now

variable {hb : Heap} {P : Addr}

/-- what sorted leaves: the list is new, all else is kept -/
noncomputable def SortGoes (prog : Program) (w : World) (P L : Addr) (z : Z) (s : Shared) (out : List D) (Q : Value → Shared → Prop) : Prop :=
  ∀ Dd vs c h' tk, Grow P L z s.heap z h' → h'.get? Dd = some (lob vs c) → s.heap.objs.size ≤ Dd → Reps prog w z vs out → Q (.ref Dd) { s with heap := h', toks := tk }

theorem sorted_many {l f : Addr} {vs : List Value} {ds : List D} {ks : List Str} {p1 p2 p3 p4 : Pos} {kk : Nat} {ls : Scope} {Q : Value → Shared → Prop} {Ex : Value → Shared → Prop} (hdep : A.depth < recursionLimit) (hnl : ∀ h' : Heap, z.on h' → h'.NoLimit) (on : z.on s.heap) (zL : z L = none) (n : s.heap.Ns L m) (t : TabOk P z s.heap) (LA : LamAt z f p1 p2 p3 p4 kk ls) (hfs : s.heap.objs.size = f + 1)
    (hk : ls.kind = .function) (hn : ls.names = [(lamVar, .local)]) (hgn : ls.isGenerator = false) (hco : ls.isCoroutine = false) (hl : s.heap.get? l = some (lob vs 0) ∨ s.heap.IsList l vs.toArray) (rs : Reps prog w z vs ds) (hks : mapO keyD ds = some ks) (h2 : 2 ≤ ds.length) (h64 : ds.length < 64)
    (hQ : SortGoes prog w P L z s ((sortP (ks.zip ds) []).map (·.2)) Q) : wpAny (model prog w) A (call (.builtin "sorted") [.ref l] [(Str.ofString "key", .ref f)]) Q Ex s := by
  have hlen := rs.length
  have hkl : ks.length = ds.length := mapO_length hks
  have hL : s.heap.IsList l vs.toArray := hl.elim (fun e => ⟨_, e, rfl, _, rfl⟩) id
  have zB : ∀ b o, z b = some o → (b, o) ∈ allNews s.heap L := fun b o e => mem_allNews (on b o e) (fun q => by rw [q, zL] at e; cases e)
  refine with_size ?_
  refine kat_sortedK (b := false) (f := .ref f) (fr_all n) (news_all s.heap L) hL (by exact ar139 h2 hlen) (by exact ar140 h64 hlen) (ksk_s1 _ _) (fun x => ksk_l1 _ _) (fun x => ksk_t1 f x) fun Dd kS e1 h1 F1 N1 hDk hB => ?_
  refine keys_ok (A := A.in1.in1) (s := s) (tk1 := s.toks) hdep hnl zB LA hk hn hgn hco hDk hB rs hks .nil F1 N1 fun kv e h' tk' sa F N => ?_
  rw [List.nil_append] at sa
  refine kas_kind (T := .type "str") (by rw [sa.length]; exact ar139 h2 hkl) (fun v hv => ?_) (by decide +kernel) (by decide +kernel) ?_
  · obtain ⟨x, t, rfl⟩ := sa.mem v hv
    exact looks_str
  · rw [hlen]
    refine kasWp_eval (n := ds.length) (lt := fun i j => strLt (ks.getD i (Str.ofString "")) (ks.getD j (Str.ofString ""))) (I := fun s' => s' = { s with heap := h', toks := tk' }) (fun i j C s' hi hj hs hC => ?_) (sort_bt (by exact ar138 h2)) rfl fun s' hs => ?_
    · subst hs
      obtain ⟨t1, q1⟩ := sa.get (i := i) (by exact ar137 hkl hi)
      obtain ⟨t2, q2⟩ := sa.get (i := j) (by exact ar137 hkl hj)
      unfold kas_ask
      show wpAny _ _ (keyLt' oneType' (kv.getD i Value.none) (kv.getD j Value.none)) _ _ _
      rw [q1, q2]
      exact kas_lt_str (hC _ rfl)
    · subst hs
      have ord := order_is hkl (by exact ar136 h2) (lt := fun i j => strLt (ks.getD i (Str.ofString "")) (ks.getD j (Str.ofString ""))) fun i j _ _ => rfl
      have hmem : ∀ i ∈ (evalT (fun i j => strLt (ks.getD i (Str.ofString "")) (ks.getD j (Str.ofString ""))) (kas_sort ds.length)).toList, i < ds.length := by
        rw [sort_is (K := fun i => ks.getD i (Str.ofString "")) (by exact ar136 h2) fun i j _ _ => rfl]
        intro i hi
        have := (sortI_perm (K := fun i => ks.getD i (Str.ofString "")) (List.range ds.length) []).mem_iff.mp hi
        simpa using this
      have outR := reps_map rs hmem
      rw [ord] at outR
      refine KatFin.intro (s := { s with heap := h', toks := tk' }) F N (.head fun p hp => ?_) fun h2 c2 F2 N2 => ?_
      · rcases List.mem_cons.mp hp with rfl | hp
        · exact Nat.ne_of_lt hDk
        · exact Nat.ne_of_lt (Nat.lt_trans (hB p hp) hDk)
      · refine KasFin.intro (s := { s with heap := h2, toks := tk' }) F2 N2 (.tail (Nat.ne_of_gt hDk) (.head fun p hp => Nat.ne_of_lt (hB p hp))) fun h3 c3 F3 N3 sz => ?_
        have hD : h3.get? Dd = some (lob _ c3) := (N3 _ (.tail _ (.head _))).1
        have hDn : s.heap.objs.size ≤ Dd := by
          obtain ⟨_, _, _, _, _, _, ef, _⟩ := LA
          rw [hfs]
          exact hB _ (zB _ _ ef)
        exact hQ Dd _ c3 h3 tk' (grow_news on zL n t F3 N3 (fun p hp => .tail _ (.tail _ hp)) sz) hD hDn outR
end
end Mine

namespace Mine
open PySem PySem.W PyProof.Rows PySem.Calls PySem.Spec

section
variable {prog : Program} {w : World} {z : Z} {A : Around} {s : Shared} {L P : Addr} {m : Str → Option Value} {Ex : Value → Shared → Prop}

theorem upd_get {h : Heap} {a b : Addr} {o : Obj} {f : Obj → Obj} (e : h.get? b = some o) (hb : b ≠ a) : (h.update a f).get? b = some o := (Heap.get?_update_ne _ _ _ _ hb).trans e

/-- the end of the sort of at most one item -/
theorem small_end {Dd kS : Addr} {vs kv : List Value} {e e1 : Nat} {Pf : PySem.Fin → Shared → Prop} (hl : kv.length = vs.length) (h1 : vs.length ≤ 1) (hne : Dd ≠ kS) (hkS : s.heap.get? kS = some (seqObj "list" (List.toArray kv) e)) (hD : s.heap.get? Dd = some (seqObj "list" #[] e1))
    (h : ∀ h' c, (∀ b o, b ≠ kS → b ≠ Dd → s.heap.get? b = some o → h'.get? b = some o) → s.heap.objs.size = h'.objs.size → h'.get? Dd = some (seqObj "list" vs.toArray c) → Pf (.done (.ret .none)) { s with heap := h' }) :
    wpAny (model prog w) A (ksk_end Dd false vs.toArray e1 (.ref kS) (List.toArray kv)) Pf Ex s := by
  unfold ksk_end
  try dsimp only
  have hn2 : vs.toArray.size < 2 := by rw [List.size_toArray]; exact ar147 h1
  rw [if_neg Bool.false_ne_true, if_pos hn2, if_pos hn2]
  refine wpAny_bind (wpAny_pure ?_)
  rw [StateT.run_pure]
  refine wpAny_bind (wpAny_pure ?_)
  have hout : (arrOf (SortSt.mk' general' (List.toArray kv |>.zip vs.toArray) #[] 7 none)).map (·.2) = vs.toArray := by
    show ((List.toArray kv).zip vs.toArray).map (·.2) = vs.toArray
    apply Array.toList_inj.mp
    simp
    exact List.map_snd_zip (Nat.le_of_eq hl.symm)
  have hcont : wpAny (model prog w) A (ksk_tail Dd false e1 (.ref kS) (SortSt.mk' general' (List.toArray kv |>.zip vs.toArray) #[] 7 none)) Pf Ex s := by
    unfold ksk_tail
    try dsimp only
    rw [hout]
    refine wpAny_bind (listUpdate_at hkS rfl ?_ (by rw [List.size_toArray, sizeLine_eq]; exact ar146 hl h1) (Nat.zero_le _))
    refine wpAny_bind (wpAny_letGo ?_)
    have hD1 : (s.heap.update kS (Obj.mapSeq fun _ => (#[] : Array Value))).get? Dd = some (seqObj "list" #[] e1) := upd_get hD hne
    refine wpAny_bind (seqEpoch_at hD1 rfl ?_)
    refine wpAny_bind (listUpdate_at hD1 rfl ?_ (Nat.zero_le _) (by show (if false = true then vs.toArray.reverse else vs.toArray).size ≤ _; rw [if_neg Bool.false_ne_true, List.size_toArray, sizeLine_eq]; exact ar145 h1))
    simp only [bne_self_eq_false, Bool.false_eq_true, if_false]
    obtain ⟨c2, hc2⟩ : ∃ c2, ((s.heap.update kS (Obj.mapSeq fun _ => (#[] : Array Value))).update Dd (Obj.mapSeq fun _ => vs.toArray)).get? Dd = some (seqObj "list" vs.toArray c2) := ⟨_, get?_update_seq hD1 fun _ => vs.toArray⟩
    exact wpAny_pure (h _ c2 (fun b o h1 h2 e => upd_get (upd_get e h1) h2) (by rw [Heap.size_update, Heap.size_update]) hc2)
  exact hcont

theorem sorted_few {l f : Addr} {vs : List Value} {ds : List D} {ks : List Str} {p1 p2 p3 p4 : Pos} {kk : Nat} {ls : Scope} {Q : Value → Shared → Prop} (hdep : A.depth < recursionLimit) (hnl : ∀ h' : Heap, z.on h' → h'.NoLimit) (on : z.on s.heap) (LA : LamAt z f p1 p2 p3 p4 kk ls)
    (hk : ls.kind = .function) (hn : ls.names = [(lamVar, .local)]) (hgn : ls.isGenerator = false) (hco : ls.isCoroutine = false) (hL : s.heap.IsList l vs.toArray) (rs : Reps prog w z vs ds) (hks : mapO keyD ds = some ks) (h1 : ds.length ≤ 1)
    (hQ : SortGoes prog w P L z s ds Q) : wpAny (model prog w) A (call (.builtin "sorted") [.ref l] [(Str.ofString "key", .ref f)]) Q Ex s := by
  have hlen := rs.length
  refine with_size ?_
  refine call_function_entry_kw kind_sorted plain_sorted entry_sorted (ksk_s1 _ _) ?_
  unfold Builtin.«sorted»
  refine wpAny_bind (m := checkCount "sorted" 1 1 _) (wpAny_pure ?_)
  refine wpAny_bind (collect_list hL ?_ (by rw [sizeLine_eq]; exact ar144 h1 hlen))
  refine wpAny_bind (wpAny_newList ?_ (by rw [sizeLine_eq]; exact ar144 h1 hlen))
  have hsz : ((s.heap.push (seqObj "list" #[] 0)).update s.heap.objs.size (Obj.mapSeq (· ++ vs.toArray))).objs.size = s.heap.objs.size + 1 := by rw [Heap.size_update, size_push']
  have keep0 : ∀ b o, s.heap.get? b = some o → (((s.heap.push (seqObj "list" #[] 0)).update s.heap.objs.size (Obj.mapSeq (· ++ vs.toArray))).push (seqObj "list" vs.toArray 0)).get? b = some o := fun b o q =>
    Heap.get?_push_of_some _ (upd_get (Heap.get?_push_of_some _ q) (Nat.ne_of_lt (Heap.lt_size q)))
  have hoD : (((s.heap.push (seqObj "list" #[] 0)).update s.heap.objs.size (Obj.mapSeq (· ++ vs.toArray))).push (seqObj "list" vs.toArray 0)).get? (s.heap.objs.size + 1) = some (seqObj "list" vs.toArray 0) := by rw [← hsz]; exact Heap.get?_push_size _ rfl
  show wpAny _ _ _ _ _ { s with heap := ((s.heap.push (seqObj "list" #[] 0)).update s.heap.objs.size (Obj.mapSeq (· ++ vs.toArray))).push (seqObj "list" vs.toArray 0) }
  rw [hsz]
  generalize hH : ((s.heap.push (seqObj "list" #[] 0)).update s.heap.objs.size (Obj.mapSeq (· ++ vs.toArray))).push (seqObj "list" vs.toArray 0) = H at keep0 hoD ⊢
  have hHs : H.objs.size = s.heap.objs.size + 2 := by rw [← hH, size_push', hsz]
  refine wpAny_bind (wpAny_holding (wpAny_call_entry_kw slot_list_sort ⟨_, hoD, rfl⟩ entry_list_sort ?_ (ksk_l1 _ _)))
  rw [ksk_t1]
  unfold ksk_tree
  refine wpAny_bind (listItems_at hoD rfl ?_)
  refine wpAny_bind (listUpdate_at hoD rfl ?_ (by rw [List.size_toArray, sizeLine_eq]; exact ar144 h1 hlen) (Nat.zero_le _))
  obtain ⟨e1, ho1⟩ : ∃ e1, (H.update (s.heap.objs.size + 1) (Obj.mapSeq fun _ => (#[] : Array Value))).get? (s.heap.objs.size + 1) = some (seqObj "list" #[] e1) := ⟨_, get?_update_seq hoD fun _ => #[]⟩
  refine wpAny_bind (seqEpoch_at ho1 rfl ?_)
  refine wpAny_bind (wpAny_newTuple ?_ (by show vs.length ≤ _; rw [sizeLine_eq]; exact ar144 h1 hlen))
  refine wpAny_bind (wpAny_newList ?_ (Nat.zero_le _))
  refine wpAny_holding ?_
  have hT : ((H.update (s.heap.objs.size + 1) (Obj.mapSeq fun _ => (#[] : Array Value))).push (seqObj "tuple" vs.toArray 0)).objs.size = s.heap.objs.size + 3 := by rw [size_push', Heap.size_update, hHs]
  show wpAny _ _ (ksk_rest (s.heap.objs.size + 1) (.ref f) false vs.toArray e1 (.ref ((H.update (s.heap.objs.size + 1) (Obj.mapSeq fun _ => (#[] : Array Value))).push (seqObj "tuple" vs.toArray 0)).objs.size)) _ _ { s with heap := ((H.update (s.heap.objs.size + 1) (Obj.mapSeq fun _ => (#[] : Array Value))).push (seqObj "tuple" vs.toArray 0)).push (seqObj "list" #[] 0) }
  have keep3 : ∀ b o, s.heap.get? b = some o → (((H.update (s.heap.objs.size + 1) (Obj.mapSeq fun _ => (#[] : Array Value))).push (seqObj "tuple" vs.toArray 0)).push (seqObj "list" #[] 0)).get? b = some o := fun b o q =>
    Heap.get?_push_of_some _ (Heap.get?_push_of_some _ (upd_get (keep0 b o q) (Nat.ne_of_lt (Nat.lt_succ_of_lt (Heap.lt_size q)))))
  have hD3 : (((H.update (s.heap.objs.size + 1) (Obj.mapSeq fun _ => (#[] : Array Value))).push (seqObj "tuple" vs.toArray 0)).push (seqObj "list" #[] 0)).get? (s.heap.objs.size + 1) = some (seqObj "list" #[] e1) := Heap.get?_push_of_some _ (Heap.get?_push_of_some _ ho1)
  have hk3 : (((H.update (s.heap.objs.size + 1) (Obj.mapSeq fun _ => (#[] : Array Value))).push (seqObj "tuple" vs.toArray 0)).push (seqObj "list" #[] 0)).get? (s.heap.objs.size + 3) = some (seqObj "list" #[] 0) := by rw [← hT]; exact Heap.get?_push_size _ rfl
  rw [hT]
  generalize ((H.update (s.heap.objs.size + 1) (Obj.mapSeq fun _ => (#[] : Array Value))).push (seqObj "tuple" vs.toArray 0)).push (seqObj "list" #[] 0) = H3 at keep3 hD3 hk3 ⊢
  have fin : ∀ (kv : List Value) (e : Nat) (h4 : Heap) (tk4 : Nat), kv.length = vs.length → (∀ b o, s.heap.get? b = some o → h4.get? b = some o) → h4.get? (s.heap.objs.size + 3) = some (seqObj "list" (List.toArray kv) e) → h4.get? (s.heap.objs.size + 1) = some (seqObj "list" #[] e1) →
      wpAny (model prog w) A.in1.in1 (ksk_end (s.heap.objs.size + 1) false vs.toArray e1 (.ref (s.heap.objs.size + 3)) (List.toArray kv)) (fun fin s' => ∃ v, fin = .done (.ret v) ∧ wpAny (model prog w) A.in1 (ret (.ref (s.heap.objs.size + 1))) (fun fin s' => ∃ v, fin = .done (.ret v) ∧ (s.heap.objs.size ≤ s'.heap.objs.size → Q v s')) Ex s') Ex { s with heap := h4, toks := tk4 } := by
    intro kv e h4 tk4 hkl k4 hk4 hd4
    have a13 : s.heap.objs.size + 1 < s.heap.objs.size + 3 := Nat.add_lt_add_left (by decide) _
    refine small_end (s := { s with heap := h4, toks := tk4 }) hkl (by exact ar143 h1 hlen) (Nat.ne_of_lt a13) hk4 hd4 fun h5 c5 k5 z5 d5 => ⟨_, rfl, wpAny_pure ⟨_, rfl, fun sz => ?_⟩⟩
    refine hQ _ vs c5 h5 tk4 (.kept on (fun b o q => k5 b o (Nat.ne_of_lt (Nat.lt_of_lt_of_le (Heap.lt_size q) (Nat.le_add_right _ _))) (Nat.ne_of_lt (Nat.lt_succ_of_lt (Heap.lt_size q))) (k4 b o q)) sz) d5 (Nat.le_succ _) rs
  unfold ksk_rest
  refine wpAny_bind (wpAny_rule ?_)
  cases rs with
  | nil =>
    simp only [List.forIn_toArray, List.forIn_nil]
    refine wpAny_bind (wpAny_pure ?_)
    refine wpAny_bind (listItems_at hk3 rfl ?_)
    exact fin [] 0 H3 s.toks rfl keep3 hk3 hD3
  | @cons v d vs ds rv rs =>
    cases rs with
    | cons _ _ => simp at h1
    | nil =>
      simp only [List.forIn_toArray, List.forIn_cons, List.forIn_nil]
      simp only [mapO] at hks
      split at hks
      · cases hks
      · rename_i x hx
        obtain ⟨rest, rfl⟩ := keyD_of hx
        have on3 : z.on H3 := fun b o q => keep3 b o (on b o q)
        refine wpAny_bind (wpAny_bind (wpAny_bind (wpAny_attempt (lamcall_ok (s := { s with heap := H3 }) (A := A.in1.in1) (hnl _ on3) hdep LA on3 hk hn hgn hco rv fun t h4 tk4 k4 => ?_))))
        try dsimp only
        refine wpAny_bind (listUpdate_at (k4 _ _ hk3) rfl ?_ (Nat.zero_le _) (by rw [sizeLine_eq]; simp))
        have hk4 := k4 _ _ hk3
        obtain ⟨c5, hc5⟩ : ∃ c5, (h4.update (s.heap.objs.size + 3) (Obj.mapSeq (·.push (Value.str x t)))).get? (s.heap.objs.size + 3) = some (seqObj "list" (List.toArray [Value.str x t]) c5) := ⟨_, get?_update_seq hk4 (·.push (Value.str x t))⟩
        refine wpAny_pure ?_
        have a13 : s.heap.objs.size + 1 < s.heap.objs.size + 3 := Nat.add_lt_add_left (by decide) _
        have k5 : ∀ b o, s.heap.get? b = some o → (h4.update (s.heap.objs.size + 3) (Obj.mapSeq (·.push (Value.str x t)))).get? b = some o := fun b o q => upd_get (k4 b o (keep3 b o q)) (Nat.ne_of_lt (Nat.lt_of_lt_of_le (Heap.lt_size q) (Nat.le_add_right _ _)))
        have d5 := upd_get (f := Obj.mapSeq (·.push (Value.str x t))) (k4 _ _ hD3) (Nat.ne_of_lt a13)
        exact wpAny_pure (wpAny_bind (listItems_at hc5 rfl (fin [Value.str x t] c5 _ tk4 rfl k5 hc5 d5)))

theorem sortP_few {ds : List D} {ks : List Str} (hks : mapO keyD ds = some ks) (h : ds.length ≤ 1) : (sortP (ks.zip ds) []).map (·.2) = ds := by
  have hl := mapO_length hks
  match ds, ks, h, hl with
  | [], [], _, _ => rfl
  | [d], [x], _, _ => rfl
  | _ :: _ :: _, _, h, _ => simp at h
end

section
variable {prog : Program} {w : World} {hb : Heap} {mg mb : Str → Option Value} {c P : Addr} {k : Nat} {E : Ev}

theorem sort_ok (G : Glo hb mg mb c P) (O : EvOk prog w hb P k (some c) E) : SortOk prog w hb P k (some c) E := by
  intro sc ρ a lam d r p kp pos A env s z Q Ex hg hlam ha hr hA ok g
  obtain ⟨p1, p2, p3, p4, kk, ls, rfl, hk, hn, hgn, hco⟩ := isKeyLam_of hlam
  obtain ⟨ds, ks, rfl, hks, h64, rfl⟩ := sortD_of hr
  show wpAny _ _ (eval (.Name (Str.ofString "sorted") p) env >>= fun v => callWith pos v [] (backTo pos (starEach [a] env)) (backToKw pos (keywordEach [⟨some (Str.ofString "key"), _, kp⟩] env))) _ _ _
  refine wpAny_bind (bi_ok G ok (glob_lookup hg) (G.free "sorted" (by simp)) (by decide +kernel) boot_sorted (by decide +kernel) ?_)
  have hs : backTo pos (starEach [a] env) = (false, eval a env) :: backTo pos (starEach [] env) := by rw [v_star O ha]; rfl
  refine callWith_kw ?_ hs (by rw [hs]; rfl)
  rw [v_star O ha]
  refine spliced_cons (O.v ha hA ok fun v z1 h1 tk1 g1 r1 => spliced_nil ?_)
  refine kws_cons (lam_ok (s := { s with heap := h1, toks := tk1 }) G (ok.grow g1) hn fun f z2 h2 tk2 g2 LA hfs => kws_nil ?_)
  have ok2 := (ok.grow g1).grow g2
  have hnl : ∀ h' : Heap, z2.on h' → h'.NoLimit := fun h' on => G.nolimit.keeps fun b o e => on b o (ok2.base b o e)
  have hdep : A.depth < recursionLimit := by have := hA.depth; exact ar142 this
  obtain ⟨m, n⟩ := ok2.ns
  cases r1 with
  | @list l vs nn _ hl rs =>
    have hL : h2.IsList l vs.toArray := ⟨_, ok2.on _ _ (g2.le _ _ hl), rfl, _, rfl⟩
    have rs2 := rs.mono g2.le
    have hQ : SortGoes prog w P env.locals z2 { s with heap := h2, toks := tk2 } ((sortP (ks.zip ds) []).map (·.2)) Q := fun Dd us cc h' tk gr e hD ru =>
      g (.ref Dd) _ h' tk ((g1.trans g2).trans (gr.freeze e hD (ok2.on.none_of_size hD))) (.list (Z.add_self ..) (ru.mono (Z.add_le (ok2.on.none_of_size hD))))
    by_cases h2' : 2 ≤ ds.length
    · exact sorted_many (s := { s with heap := h2, toks := tk2 }) hdep hnl ok2.on ok2.zL n ok2.tab LA hfs hk hn hgn hco (.inr hL) rs2 hks h2' h64 hQ
    · rw [sortP_few hks (by exact ar141 h2')] at hQ
      exact sorted_few (s := { s with heap := h2, toks := tk2 }) hdep hnl ok2.on LA hk hn hgn hco hL rs2 hks (by exact ar141 h2') hQ
end
end Mine

namespace Mine
open PySem PySem.W PyProof.Rows PySem.Calls PySem.Spec

section
variable {prog : Program} {w : World} {hb : Heap} {mg mb : Str → Option Value} {c P : Addr} {k : Nat} {lc : Option Addr} {T : Tabs}

theorem evN_ok (G : Glo hb mg mb c P) (hT : ∀ f F, T.pure f = some F → FnOk prog w hb mg P k f F) (hlam : T.lam = true → lc = some c) : ∀ n, EvOk prog w hb P k lc (evN T n)
  | 0 => ⟨fun h => (nomatch h), fun h => (nomatch h), fun h => (nomatch h), fun _ _ _ _ => rfl, fun _ _ _ _ _ => rfl, fun _ _ _ _ _ _ => rfl⟩
  | n + 1 =>
    have ih := evN_ok G hT hlam n
    have hs : T.lam = true → SortOk prog w hb P k lc (evN T n) := fun e => by
      have := hlam e
      subst this
      exact @sort_ok prog w hb mg mb c P k (evN T n) G ih
    ⟨fun h _ _ _ _ _ _ hA ok g => evV_ok G hT ih hs hA h ok g, fun h _ _ _ _ _ _ hA ok hQ => evT_ok ih hA h ok hQ, fun h _ _ _ _ _ _ hA ok ht g => evIt_ok G ih hA ok h ht g, fun _ _ _ _ => rfl, fun _ _ _ _ _ => rfl, fun _ _ _ _ _ _ => rfl⟩
end
end Mine

namespace Mine
open PySem PySem.W PyProof.Rows PySem.Calls PySem.Spec

/-- a step seen from a call's start: what is frozen late is new since then -/
structure StepW (n0 : Nat) (W : Addr → Prop) (P : Addr) (z : Z) (h : Heap) (z' : Z) (h' : Heap) : Prop where
  le : ∀ a o, z a = some o → z' a = some o
  on : z'.on h'
  keep : ∀ b o, ¬ W b → b ≠ P → h.get? b = some o → h'.get? b = some o
  size : h.objs.size ≤ h'.objs.size
  new : ∀ b o, z' b = some o → z b = some o ∨ n0 ≤ b
  tab : TabOk P z h → TabOk P z' h'

section
variable {P : Addr} {W : Addr → Prop} {z z' z'' : Z} {h h' h'' : Heap} {n0 : Nat}
theorem Step.weak (x : Step W P z h z' h') (hn : n0 ≤ h.objs.size) : StepW n0 W P z h z' h' := ⟨x.le, x.on, x.keep, x.size, fun b o e => (x.new b o e).imp_right fun q => Nat.le_trans hn q, x.tab⟩
/-- then a step that also changes what is new since the first heap -/
theorem Step.trans_new {V : Addr → Prop} (x : Step W P z h z' h') (y : Step V P z' h' z'' h'') (hV : ∀ b, V b → W b ∨ h.objs.size ≤ b) : Step W P z h z'' h'' :=
  ⟨fun a o e => y.le _ _ (x.le _ _ e), y.on, fun b o h1 h2 e => y.keep b o (fun v => (hV b v).elim h1 fun l => absurd (Heap.lt_size e) (Nat.not_lt.mpr l)) h2 (x.keep b o h1 h2 e), Nat.le_trans x.size y.size,
    fun b o e => (y.new b o e).elim (x.new b o) fun l => .inr (Nat.le_trans x.size l), fun t => y.tab (x.tab t)⟩
theorem StepW.trans (x : StepW n0 W P z h z' h') (y : StepW n0 W P z' h' z'' h'') : StepW n0 W P z h z'' h'' :=
  ⟨fun a o e => y.le _ _ (x.le _ _ e), y.on, fun b o h1 h2 e => y.keep b o h1 h2 (x.keep b o h1 h2 e), Nat.le_trans x.size y.size, fun b o e => (y.new b o e).elim (x.new b o) .inr, fun t => y.tab (x.tab t)⟩
end

noncomputable def FlowIs (prog : Program) (w : World) (z : Z) : R → Flow → Prop
  | .next, f => f = .next
  | .brk, f => f = .brk
  | .cont, f => f = .cont
  | .ret d, f => ∃ v, f = .ret v ∧ Rep prog w z v d

section
variable (prog : Program) (w : World) (hb : Heap) (P : Addr) (lc : Option Addr) (M : Addr → Prop) (n0 : Nat)

/-- what a statement leaves -/
structure Done (sc : Scope) (env : Env) (z : Z) (h : Heap) (ρ' : Rho) (r : R) (f : Flow) (z' : Z) (h' : Heap) : Prop where
  weak : StepW n0 M P z h z' h'
  ok : Ok prog w hb P lc z' env sc ρ' h'
  owns : Owns M ρ' z' env h'
  flow : FlowIs prog w z' r f
  step : (∀ d, r ≠ .ret d) → Step M P z h z' h'

noncomputable def Exec (sc : Scope) (env : Env) (A : Around) (t : Sem Flow) (ρ ρ' : Rho) (r : R) : Prop :=
  ∀ {s : Shared} {z : Z} {Q : Flow → Shared → Prop} {Ex : Value → Shared → Prop}, n0 ≤ s.heap.objs.size → Ok prog w hb P lc z env sc ρ s.heap → Owns M ρ z env s.heap →
    (∀ f z' h' tk, Done prog w hb P lc M n0 sc env z s.heap ρ' r f z' h' → Q f { s with heap := h', toks := tk }) → wpAny (model prog w) A t Q Ex s
end

section
variable {prog : Program} {w : World} {hb : Heap} {mg mb : Str → Option Value} {c P : Addr} {k : Nat} {lc : Option Addr} {T : Tabs} {E : Ev} {sc : Scope} {env : Env} {A : Around} {ρ ρ' : Rho} {r : R} {M : Addr → Prop} {n0 : Nat} {z z' z'' : Z} {h h' h'' : Heap}

theorem Done.trans {ρ₁ ρ₂ : Rho} {f₁ f₂ : Flow} (x : Done prog w hb P lc M n0 sc env z h ρ₁ .next f₁ z' h') (y : Done prog w hb P lc M n0 sc env z' h' ρ₂ r f₂ z'' h'') : Done prog w hb P lc M n0 sc env z h ρ₂ r f₂ z'' h'' :=
  ⟨x.weak.trans y.weak, y.ok, y.owns, y.flow, fun hr => (x.step fun d e => nomatch e).trans (y.step hr)⟩
/-- from a strict step -/
theorem Done.of (hn : n0 ≤ h.objs.size) (st : Step M P z h z' h') (ok : Ok prog w hb P lc z' env sc ρ' h') (ow : Owns M ρ' z' env h') {f : Flow} (fl : FlowIs prog w z' r f) : Done prog w hb P lc M n0 sc env z h ρ' r f z' h' :=
  ⟨st.weak hn, ok, ow, fl, fun _ => st⟩

theorem exec_seq {st : Stmt} {rest : List Stmt} {ρ₁ : Rho} (h1 : Exec prog w hb P lc M n0 sc env A (exec st env) ρ ρ₁ .next) (h2 : Exec prog w hb P lc M n0 sc env A (execs rest env) ρ₁ ρ' r) : Exec prog w hb P lc M n0 sc env A (execs (st :: rest) env) ρ ρ' r := by
  intro s z Q Ex hn ok ow hQ
  refine wpAny_execs_cons (h1 hn ok ow fun f z' h' tk d => ?_)
  have hf : f = .next := d.flow
  subst hf
  exact h2 (s := { s with heap := h', toks := tk }) (Nat.le_trans hn d.weak.size) d.ok d.owns fun f' z'' h'' tk' d' => hQ f' z'' h'' tk' (d.trans d')
theorem exec_stop {st : Stmt} {rest : List Stmt} (h1 : Exec prog w hb P lc M n0 sc env A (exec st env) ρ ρ' r) (hr : r ≠ .next) : Exec prog w hb P lc M n0 sc env A (execs (st :: rest) env) ρ ρ' r := by
  intro s z Q Ex hn ok ow hQ
  refine wpAny_execs_cons (h1 hn ok ow fun f z' h' tk d => ?_)
  have fl := d.flow
  cases r with
  | next => exact absurd rfl hr
  | brk => cases (show f = .brk from fl); exact hQ _ z' h' tk d
  | cont => cases (show f = .cont from fl); exact hQ _ z' h' tk d
  | ret dd => obtain ⟨v, e, rv⟩ := id fl; subst e; exact hQ _ z' h' tk d
theorem exec_nil : Exec prog w hb P lc M n0 sc env A (execs [] env) ρ ρ .next := by
  intro s z Q Ex hn ok ow hQ
  exact wpAny_execs_nil (hQ .next z s.heap s.toks (.of hn (.refl ok.on) ok ow rfl))

theorem exGo_ok {f : Rho → Stmt → Option (Rho × R)} (hf : ∀ ρ st ρ' r, f ρ st = some (ρ', r) → Exec prog w hb P lc M n0 sc env A (exec st env) ρ ρ' r) : ∀ {body : List Stmt} {ρ ρ' : Rho} {r : R}, exGo f body ρ = some (ρ', r) → Exec prog w hb P lc M n0 sc env A (execs body env) ρ ρ' r
  | [], ρ, ρ', r, h => by
    simp only [exGo] at h
    cases h
    exact exec_nil
  | st :: rest, ρ, ρ', r, h => by
    simp only [exGo] at h
    split at h
    · rename_i ρ₁ e
      exact exec_seq (hf _ _ _ _ e) (exGo_ok hf h)
    · rename_i ρ₁ e
      cases h; exact exec_stop (hf _ _ _ _ e) (fun e => nomatch e)
    · rename_i ρ₁ e
      cases h; exact exec_stop (hf _ _ _ _ e) (fun e => nomatch e)
    · rename_i ρ₁ d e
      cases h; exact exec_stop (hf _ _ _ _ e) (fun e => nomatch e)
    · first | exact nn h | cases h

theorem if_ok {test : Expr} {body orelse : List Stmt} {pos : Pos} {b : Bool} (O : EvOk prog w hb P k lc E) (hA : Room k A) (hM : ∀ a, WL sc env a → M a) (ht : E.t sc ρ test = some b) (hx : Exec prog w hb P lc M n0 sc env A (execs (if b then body else orelse) env) ρ ρ' r) :
    Exec prog w hb P lc M n0 sc env A (exec (.If test body orelse pos) env) ρ ρ' r := by
  intro s z Q Ex hn ok ow hQ
  refine wpAny_If (O.t ht hA ok fun z' h' tk g => ?_)
  have st : Step M P z s.heap z' h' := g.step.mono fun b e => .inl (hM b (.inl e))
  have fin := hx (s := { s with heap := h', toks := tk }) (z := z') (Q := Q) (Ex := Ex) (Nat.le_trans hn g.size) (ok.grow g) (ow.grow ok g) fun f z'' h'' tk' d => hQ f z'' h'' tk' ⟨(st.weak hn).trans d.weak, d.ok, d.owns, d.flow, fun hr => st.trans (d.step hr)⟩
  cases b
  · exact fin
  · exact fin
theorem cont_ok {pos : Pos} : Exec prog w hb P lc M n0 sc env A (exec (.Continue pos) env) ρ ρ .cont := by
  intro s z Q Ex hn ok ow hQ
  exact wpAny_Continue (hQ .cont z s.heap s.toks (.of hn (.refl ok.on) ok ow rfl))
theorem brk_ok {pos : Pos} : Exec prog w hb P lc M n0 sc env A (exec (.Break pos) env) ρ ρ .brk := by
  intro s z Q Ex hn ok ow hQ
  exact wpAny_Break (hQ .brk z s.heap s.toks (.of hn (.refl ok.on) ok ow rfl))
theorem ret_ok {e : Expr} {d : D} {pos : Pos} (O : EvOk prog w hb P k lc E) (hA : Room k A) (hM : ∀ a, WL sc env a → M a) (he : E.v sc ρ e = some d) : Exec prog w hb P lc M n0 sc env A (exec (.Return (some e) pos) env) ρ ρ (.ret d) := by
  intro s z Q Ex hn ok ow hQ
  refine wpAny_Return_some (O.v he hA ok fun v z' h' tk g rv => hQ _ z' h' tk ?_)
  exact .of hn (g.step.mono fun b e => .inl (hM b (.inl e))) (ok.grow g) (ow.grow ok g) ⟨v, rfl, rv⟩
end
end Mine

namespace Mine
open PySem PySem.W PyProof.Rows PySem.Calls PySem.Spec

noncomputable def fzB : B → B
  | .own d => .val d
  | b => b
theorem freeze_lookup (ρ : Rho) (x : Str) : (freeze ρ).lookup x = (ρ.lookup x).map fzB := by
  induction ρ with
  | nil => rfl
  | cons p r ih =>
    obtain ⟨y, b⟩ := p
    show List.lookup x ((y, fzB b) :: freeze r) = _
    rw [List.lookup_cons, List.lookup_cons]
    cases x == y with
    | true => rfl
    | false => exact ih
noncomputable def stB : B → B
  | .own _ => .unb
  | b => b
theorem strip_lookup (ρ : Rho) (x : Str) : (strip ρ).lookup x = (ρ.lookup x).map stB := by
  induction ρ with
  | nil => rfl
  | cons p r ih =>
    obtain ⟨y, b⟩ := p
    show List.lookup x ((y, stB b) :: strip r) = _
    rw [List.lookup_cons, List.lookup_cons]
    cases x == y with
    | true => rfl
    | false => exact ih
theorem strip_noOwn (ρ : Rho) : NoOwn (strip ρ) := fun x d e => by
  rw [strip_lookup] at e
  obtain ⟨b, _, h⟩ := Option.map_eq_some_iff.mp e
  cases b <;> cases h

section
variable {prog : Program} {w : World} {hb : Heap} {mg mb : Str → Option Value} {c P : Addr} {k : Nat} {lc : Option Addr} {T : Tabs} {E : Ev} {sc : Scope} {env : Env} {A : Around} {ρ ρ' : Rho} {r : R} {M : Addr → Prop} {n0 : Nat} {z z' z'' : Z} {h h' h'' : Heap}

theorem Ok.strip (ok : Ok prog w hb P lc z env sc ρ h) : Ok prog w hb P lc z env sc (strip ρ) h := ok.weak fun x b e => by
  rw [strip_lookup] at e
  obtain ⟨b', e1, e2⟩ := Option.map_eq_some_iff.mp e
  refine ⟨⟨b', e1⟩, ?_⟩
  cases b' with
  | own d => exact .inl e2.symm
  | unb => exact .inl e2.symm
  | val d => exact .inr (by rw [e1, ← e2]; rfl)

open Classical in
noncomputable def zfz (z : Z) (env : Env) (ρ : Rho) (h : Heap) : Z := fun b => if (∃ x d, ρ.lookup x = some (.own d) ∧ Loads env h x (.ref b)) then h.get? b else z b

theorem fz_ok (ok : Ok prog w hb P lc z env sc ρ h) (ow : Owns M ρ z env h) (hMn : ∀ b, M b → n0 ≤ b) : StepW n0 M P z h (zfz z env ρ h) h ∧ Ok prog w hb P lc (zfz z env ρ h) env sc (freeze ρ) h := by
  have le : ∀ a o, z a = some o → zfz z env ρ h a = some o := fun a o e => by
    unfold zfz
    split
    · rename_i q
      obtain ⟨x, d, q1, q2⟩ := q
      rw [(ow x d a q1 q2).1] at e; cases e
    · exact e
  have on : (zfz z env ρ h).on h := fun a o e => by
    unfold zfz at e
    split at e
    · exact e
    · exact ok.on a o e
  have own : ∀ x d a, ρ.lookup x = some (.own d) → Loads env h x (.ref a) → a ≠ env.locals ∧ a ≠ P ∧ OwnAt prog w z h a d := fun x d a e l => by
    obtain ⟨a', l', h1, h2, h3⟩ := ok.vars x _ e
    cases l'.unique l
    exact ⟨h1, h2, h3⟩
  have none : ∀ a, z a = none → (∀ x d, ρ.lookup x = some (.own d) → ¬ Loads env h x (.ref a)) → zfz z env ρ h a = none := fun a e hn => by
    unfold zfz
    rw [if_neg]
    · exact e
    · rintro ⟨x, d, q1, q2⟩; exact hn x d q1 q2
  have tab : TabOk P (zfz z env ρ h) h := by
    refine ⟨none P ok.tab.1 fun x d e l => (own x d P e l).2.1 rfl, ?_⟩
    rcases ok.tab.2 with t | ⟨c, o, vs, tk, t, x, y⟩
    · exact .inl t
    · exact .inr ⟨c, o, vs, tk, t, le _ _ x, y⟩
  refine ⟨⟨le, on, fun _ _ _ _ e => e, Nat.le_refl _, fun b o e => ?_, fun _ => tab⟩, ⟨on, tab, ok.ns, none _ ok.zL fun x d e l => (own x d _ e l).1 rfl, fun b o e => le b o (ok.base b o e), ok.eok, fun x a h1 h2 => ?_, ok.frees, fun x b e => ?_, fun x b e => ?_⟩⟩
  · unfold zfz at e
    split at e
    · rename_i q
      obtain ⟨x, d, q1, q2⟩ := q
      exact .inr (hMn b (ow x d b q1 q2).2.1)
    · exact .inl e
  · obtain ⟨⟨v, hv⟩, q1, q2⟩ := ok.cells x a h1 h2
    exact ⟨⟨v, hv⟩, none a q1 fun y d e l => (own y d a e l).2.2.ne_cell hv rfl, q2⟩
  · rw [freeze_lookup] at e
    obtain ⟨b', e1, e2⟩ := Option.map_eq_some_iff.mp e
    exact ok.names x _ e1
  · rw [freeze_lookup] at e
    obtain ⟨b', e1, e2⟩ := Option.map_eq_some_iff.mp e
    have v := ok.vars x b' e1
    cases b' with
    | unb => subst e2; trivial
    | val d =>
      subst e2
      obtain ⟨u, l, rr⟩ := v
      exact ⟨u, l, rr.mono le⟩
    | own d =>
      subst e2
      obtain ⟨a, l, _, _, o⟩ := v
      refine ⟨.ref a, l, ?_⟩
      have hz : ∀ oo, h.get? a = some oo → zfz z env ρ h a = some oo := fun oo eo => by
        unfold zfz
        rw [if_pos ⟨x, d, e1, l⟩]; exact eo
      cases o with
      | list q1 q2 => exact .list (hz _ q1) (q2.mono le)
      | dict q1 q2 q3 q4 => exact .dict (hz _ q1) q2 q3 q4

theorem ret_fz {e : Expr} {d : D} {pos : Pos} (O : EvOk prog w hb P k lc E) (hA : Room k A) (hM : ∀ a, WL sc env a → M a) (hMn : ∀ b, M b → n0 ≤ b) (he : E.v sc (freeze ρ) e = some d) : Exec prog w hb P lc M n0 sc env A (exec (.Return (some e) pos) env) ρ (freeze ρ) (.ret d) := by
  intro s z Q Ex hn ok ow hQ
  obtain ⟨w1, ok1⟩ := fz_ok (n0 := n0) ok ow hMn
  have no : NoOwn (freeze ρ) := fun x d e => by
    rw [freeze_lookup] at e
    obtain ⟨b, _, h⟩ := Option.map_eq_some_iff.mp e
    cases b <;> cases h
  refine wpAny_Return_some (O.v he hA ok1 fun v z' h' tk g rv => hQ _ z' h' tk ?_)
  have st : Step M P (zfz z env ρ s.heap) s.heap z' h' := g.step.mono fun b e => .inl (hM b (.inl e))
  exact ⟨w1.trans (st.weak hn), ok1.grow g, no.owns, ⟨v, rfl, rv⟩, fun hr => absurd rfl (hr d)⟩

/-- the name is stored as a value -/
theorem asg_val {x : Str} {e : Expr} {d : D} {p pos : Pos} (O : EvOk prog w hb P k lc E) (hA : Room k A) (hM : ∀ a, WL sc env a → M a) (hx : storable sc x = true) (he : E.v sc ρ e = some d) (hs : swapsWith e (some (.Name x p)) pos.line env = pure false) : Exec prog w hb P lc M n0 sc env A (exec (.Assign [.Name x p] e pos) env) ρ (rset ρ x (.val d)) .next := by
  intro s z Q Ex hn ok ow hQ
  refine wpAny_Assign_Name (O.v he hA ok fun v z' h' tk g rv => ?_) hs
  refine store_ok (s := { s with heap := h', toks := tk }) (ok.grow g) hx fun h2 tk2 st => hQ _ z' h2 tk2 ?_
  have s1 : Step M P z s.heap z' h' := g.step.mono fun b e => .inl (hM b (.inl e))
  exact .of hn (s1.trans (st.step.mono fun b e => .inl (hM b e))) (st.val (ok.grow g) rv) (st.owns_val (ok.grow g) (ow.grow ok g)) rfl

theorem unpack_ok {es : List Expr} {n : Nat} {e : Expr} {d : D} {p pos : Pos} (O : EvOk prog w hb P k lc E) (hA : Room k A) (hM : ∀ a, WL sc env a → M a) (ht : isTup e = false) (he : E.v sc ρ e = some d) (hbd : bindT sc (.Tuple es n p) d ρ = some ρ') : Exec prog w hb P lc M n0 sc env A (exec (.Assign [.Tuple es n p] e pos) env) ρ ρ' .next := by
  intro s z Q Ex hn ok ow hQ
  refine Assign_Tuple (O.v he hA ok fun v z' h' tk g rv => ?_) ?_ ?_
  · refine bindT_ok (s := { s with heap := h', toks := tk }) hA.handled (ok.grow g) (ow.grow ok g) rv hbd fun h2 tk2 st ok2 ow2 => hQ _ z' h2 tk2 ?_
    have s1 : Step M P z s.heap z' h' := g.step.mono fun b e => .inl (hM b (.inl e))
    exact .of hn (s1.trans (st.mono fun b e => .inl (hM b e))) ok2 ow2 rfl
  · cases e <;> rfl
  · cases e <;> first | rfl | (simp [isTup] at ht)

theorem aug_ok {x : Str} {e : Expr} {a b : Int} {p pos : Pos} (O : EvOk prog w hb P k lc E) (hA : Room k A) (hM : ∀ a, WL sc env a → M a) (hx : storable sc x = true) (hv : ρ.lookup x = some (.val (.int a))) (he : E.v sc ρ e = some (.int b)) : Exec prog w hb P lc M n0 sc env A (exec (.AugAssign (.Name x p) .Add e pos) env) ρ (rset ρ x (.val (.int (a + b)))) .next := by
  intro s z Q Ex hn ok ow hQ
  obtain ⟨v0, l, r0⟩ := ok.vars x _ hv
  refine wpAny_AugAssign_Name (load_var ok.eok.kind l (ok.names x _ hv).2 (O.v he hA ok fun v z' h' tk g rv => ?_))
  cases r0 with
  | int _ t0 =>
    cases rv with
    | int _ t1 =>
      refine PyProof.Rows.iadd_int (s := { s with heap := h', toks := tk }) ?_
      refine store_ok (s := { s with heap := h', toks := tk + 1 }) (ok.grow g) hx fun h2 tk2 st => hQ _ z' h2 tk2 ?_
      have s1 : Step M P z s.heap z' h' := g.step.mono fun b e => .inl (hM b (.inl e))
      exact .of hn (s1.trans (st.step.mono fun b e => .inl (hM b e))) (st.val (ok.grow g) (.int _ _)) (st.owns_val (ok.grow g) (ow.grow ok g)) rfl
end
end Mine

namespace Mine
open PySem PySem.W PyProof.Rows PySem.Calls PySem.Spec

noncomputable def ownB (o : Bool) (d : D) : B := if o then .own d else .val d

section
variable {prog : Program} {w : World} {hb : Heap} {mg mb : Str → Option Value} {c P : Addr} {k : Nat} {lc : Option Addr} {T : Tabs} {E : Ev} {sc sc' : Scope} {env : Env} {A : Around} {ρ ρ' : Rho} {r : R} {M : Addr → Prop} {n0 : Nat} {z z' z'' : Z} {h h' h'' : Heap} {s : Shared}

theorem own_lt {x : Str} {d : D} {a : Addr} (ok : Ok prog w hb P lc z env sc ρ h) (e : ρ.lookup x = some (.own d)) (l : Loads env h x (.ref a)) : a < h.objs.size ∧ a ≠ env.locals ∧ a ≠ P ∧ OwnAt prog w z h a d := by
  obtain ⟨a', l', h1, h2, o⟩ := ok.vars x _ e
  cases l'.unique l
  refine ⟨?_, h1, h2, o⟩
  cases o with
  | list e1 _ => exact Heap.lt_size e1
  | dict e1 _ _ _ => exact Heap.lt_size e1

theorem OwnAt.freeze {a : Addr} {d : D} {o : Obj} (x : OwnAt prog w z h a d) (e : h.get? a = some o) (hz : z a = none) : Rep prog w (z.add a o) (.ref a) d := by
  cases x with
  | list e1 rs => rw [e1] at e; cases e; exact .list (Z.add_self ..) (rs.mono (Z.add_le hz))
  | dict e1 y e2 rs => rw [e1] at e; cases e; exact .dict (Z.add_self ..) y e2 rs
theorem OwnAt.get {a : Addr} {d : D} (x : OwnAt prog w z h a d) : ∃ o, h.get? a = some o := by
  cases x with
  | list e1 rs => exact ⟨_, e1⟩
  | dict e1 y e2 rs => exact ⟨_, e1⟩

/-- a new object is stored under a name, to be filled or as a value -/
theorem put_fresh {x : Str} {Dd : Addr} {d : D} (o : Bool) {tk : Nat} {Q : Unit → Shared → Prop} {Ex : Value → Shared → Prop} (hn : n0 ≤ s.heap.objs.size) (hM : ∀ a, WL sc env a → M a) (hMnew : o = true → ∀ a, n0 ≤ a → M a) (hx : storable sc x = true) (ok : Ok prog w hb P lc z env sc ρ s.heap) (ow : Owns M ρ z env s.heap)
    (g : Grow P env.locals z s.heap z' h') (hD : OwnAt prog w z' h' Dd d) (hz : z' Dd = none) (hnew : s.heap.objs.size ≤ Dd)
    (hQ : ∀ z'' h'' tk', Done prog w hb P lc M n0 sc env z s.heap (rset ρ x (ownB o d)) .next .next z'' h'' → Step (WL sc env) P z'' h' z'' h'' → (∀ b, s.heap.objs.size ≤ b → b ≠ Dd → z' b = none → z'' b = none) → (∀ y d' a, (rset ρ x (ownB o d)).lookup y = some (.own d') → Loads env h'' y (.ref a) → a < s.heap.objs.size ∨ a = Dd) → Q () { s with heap := h'', toks := tk' }) :
    wpAny (model prog w) A (storeName env x (.ref Dd)) Q Ex { s with heap := h', toks := tk } := by
  obtain ⟨ob, eo⟩ := hD.get
  have ok1 := ok.grow g
  have ow1 := ow.grow ok g
  have lt1 : env.locals < s.heap.objs.size := let ⟨_, n⟩ := ok.ns; n.lt
  have ltP : P < s.heap.objs.size := let ⟨_, e⟩ := ok.tab.get; Heap.lt_size e
  have hDL : Dd ≠ env.locals := Nat.ne_of_gt (Nat.lt_of_lt_of_le lt1 hnew)
  have hDP : Dd ≠ P := Nat.ne_of_gt (Nat.lt_of_lt_of_le ltP hnew)
  have back : ∀ y d' a, ρ.lookup y = some (.own d') → Loads env h' y (.ref a) → a < s.heap.objs.size := fun y d' a e l => by
    obtain ⟨a', l', _⟩ := ok.vars y _ e
    have q := (l'.grow g ok.tab ok.ns).unique l
    cases q
    exact (own_lt ok e l').1
  have gst : Step M P z s.heap z' h' := g.step.mono fun b e => .inl (hM b (.inl e))
  cases o with
  | true =>
    refine store_ok (s := { s with heap := h', toks := tk }) ok1 hx fun h2 tk2 st => hQ z' h2 tk2 (.of hn (gst.trans (st.step.mono fun b e => .inl (hM b e))) (st.ok (b := .own d) ok1 ⟨Dd, st.here, hDL, hDP, st.own _ _ hD hDL⟩) (st.owns_own ok1 ow1 hz (hMnew rfl _ (Nat.le_trans hn hnew)) fun y d' a' _ e l => Nat.ne_of_lt (Nat.lt_of_lt_of_le (back y d' a' e l) hnew)) rfl) st.step (fun b _ _ e => e) fun y d' a e l => ?_
    rcases rset_some e with ⟨rfl, _, _⟩ | ⟨hy, q⟩
    · cases st.here.unique l; exact .inr rfl
    · exact .inl (back y d' a q (st.back ok1 hy q l))
  | false =>
    have gz : Grow P env.locals z s.heap (z'.add Dd ob) h' := g.freeze eo hnew hz
    have ok2 := ok.grow gz
    have ow2 := ow.grow ok gz
    have gst2 : Step M P z s.heap (z'.add Dd ob) h' := gz.step.mono fun b e => .inl (hM b (.inl e))
    refine store_ok (s := { s with heap := h', toks := tk }) ok2 hx fun h2 tk2 st => hQ _ h2 tk2 (.of hn (gst2.trans (st.step.mono fun b e => .inl (hM b e))) (st.val ok2 (hD.freeze eo hz)) (st.owns_val ok2 ow2) rfl) st.step (fun b _ hb e => ?_) fun y d' a e l => ?_
    · show (if b = Dd then some ob else z' b) = none
      rw [if_neg hb]; exact e
    · rcases rset_some e with ⟨_, q, _⟩ | ⟨hy, q⟩
      · cases q
      · exact .inl (back y d' a q (st.back ok2 hy q l))

theorem asg_list {x : Str} {p pos lp : Pos} (o : Bool) (hM : ∀ a, WL sc env a → M a) (hMnew : o = true → ∀ a, n0 ≤ a → M a) (hx : storable sc x = true) : Exec prog w hb P lc M n0 sc env A (exec (.Assign [.Name x p] (.List [] lp) pos) env) ρ (rset ρ x (ownB o (.list []))) .next := by
  intro s z Q Ex hn ok ow hQ
  refine wpAny_Assign_Name (wpAny_List (wpAny_items_nil ⟨Nat.zero_le _, ?_⟩)) rfl
  exact put_fresh o (tk := s.toks) hn hM hMnew hx ok ow (.push ok.on _) (.list (vs := []) (n := 0) (Heap.get?_push_size _ rfl) .nil) (ok.on.none_of_size (Nat.le_refl _)) (Nat.le_refl _) fun z2 h2 tk2 d _ _ _ => hQ _ z2 h2 tk2 d
theorem asg_dict {x : Str} {p pos lp : Pos} (o : Bool) (G : Glo hb mg mb c P) (hM : ∀ a, WL sc env a → M a) (hMnew : o = true → ∀ a, n0 ≤ a → M a) (hx : storable sc x = true) : Exec prog w hb P lc M n0 sc env A (exec (.Assign [.Name x p] (.Dict [] [] lp) pos) env) ρ (rset ρ x (ownB o (.dict []))) .next := by
  intro s z Q Ex hn ok ow hQ
  refine wpAny_Assign_Name (wpAny_Dict_empty ?_) rfl
  obtain ⟨ob, ho, hd⟩ := Heap.dictOf_iff.mp (Heap.DictOf.new (knd := PySem.strKind prog w) s.heap)
  rw [Heap.get?_push_size _ rfl] at ho
  cases ho
  have hlt : mainGlobals < s.heap.objs.size := (G.g.keeps ok.inb).lt
  exact put_fresh o (tk := s.toks) hn hM hMnew hx ok ow (.push ok.on _) (.dict (Heap.get?_push_size _ rfl) (beq_eq_false_iff_ne.mpr (Nat.ne_of_gt (Nat.lt_trans (by decide : sysModules < mainGlobals) hlt))) hd .nil) (ok.on.none_of_size (Nat.le_refl _)) (Nat.le_refl _) fun z2 h2 tk2 d _ _ _ => hQ _ z2 h2 tk2 d
end
end Mine

namespace Mine
open PySem PySem.W PyProof.Rows PySem.Calls PySem.Spec

section
variable {prog : Program} {w : World} {hb : Heap} {mg mb : Str → Option Value} {c P : Addr} {k : Nat} {lc : Option Addr} {T : Tabs} {E : Ev} {sc sc' : Scope} {env : Env} {A : Around} {ρ ρ' : Rho} {r : R} {M : Addr → Prop} {n0 : Nat} {z z' z'' : Z} {h h' h'' : Heap} {s : Shared}

theorem ns_ne_cell {C a : Addr} {m : Str → Option Value} {v : Option Value} (n : h.Ns C m) (x : h.IsCell a v) : a ≠ C := by
  rintro rfl
  obtain ⟨o', es, ep, e1, e2, _⟩ := n
  obtain ⟨o, f1, f2⟩ := x
  rw [e1] at f1; cases f1
  rw [e2] at f2; cases f2

theorem asg_comp {x : Str} {p pos cp : Pos} {elt : Expr} {g : Comprehension} {gs : List Comprehension} {d : D} (o : Bool) (O : EvOk prog w hb P k lc E) (hA : Room k A) (hM : ∀ a, WL sc env a → M a) (hMnew : o = true → ∀ a, n0 ≤ a → M a) (hx : storable sc x = true)
    (he : evV T E sc ρ (.ListComp elt (g :: gs) sc' cp) = some d) : Exec prog w hb P lc M n0 sc env A (exec (.Assign [.Name x p] (.ListComp elt (g :: gs) sc' cp) pos) env) ρ (rset ρ x (ownB o d)) .next := by
  intro s z Q Ex hn ok ow hQ
  obtain ⟨hc, he⟩ := ite_some he
  obtain ⟨ds, hd, he⟩ := obind_some he
  obtain ⟨out, ho, he⟩ := obind_some he
  obtain ⟨hl, he⟩ := ite_some he
  cases he
  have hl := dec_t hl
  rw [Bool.and_eq_true, Bool.and_eq_true, Bool.and_eq_true, decide_eq_true_eq] at hc
  obtain ⟨hk, hnm, hdup⟩ := scOk_of hc.1.1.1
  have fc := free_cell ok hc.1.1.2
  have hgen := hc.1.2
  have h0 : genOk g = true := by rw [List.all_cons, Bool.and_eq_true] at hgen; exact hgen.1
  obtain ⟨t, it, ifs, rfl, hset⟩ := genOk_of h0
  have hclos := closureFor_ok (env := env) (sc' := sc') fun p m e => let ⟨a, q, _⟩ := fc p m e; ⟨a, q⟩
  have hnames : ∀ x ∈ sc'.names, x.2 = .local → sc'.names.lookup x.1 = some .local := fun x m e => by
    obtain ⟨y, kd⟩ := x
    dsimp only at e; subst e
    exact nodup_lookup hdup m
  cases hsw : (env.blockKind == .function && env.kindOf x == some .local && p.line == cp.line && !(sc'.names.any fun (n, k) => n == x && (k == .local || k == .cell))) with
  | false =>
    have hs : swapsWith (.ListComp elt (⟨t, it, ifs, 0⟩ :: gs) sc' cp) (some (.Name x p)) pos.line env = pure false := by
      show pure _ = _
      exact congrArg pure hsw
    refine wpAny_Assign_Name ?_ hs
    rw [eval_ListComp]
    refine wpAny_comprehension_free (use := none) rfl (folded_pure hset) hclos hk hnames (comp_core (RR := fun acc C => compPost (model prog w) A Ex none _ acc C) O hA ok hc.1.1.1 hc.1.1.2 hc.1.2 hc.2 hd ho hl fun Dd C z' h' tk vs m gr pl rs hz hD n hC hzC hne hCP => ⟨m, n, fun h'' sb => ?_⟩)
    obtain ⟨nn, e⟩ := pl
    have st : Step (· = C) P z' h' z' h'' := .same gr.on hzC sb hCP
    have gr2 : Grow P env.locals z s.heap z' h'' := gr.thenStep st (fun b q => by rw [q]; exact hC) ok.tab
    have e2 : h''.get? Dd = some (lob vs nn) := (sb.2 Dd hne).trans e
    exact put_fresh (s := s) o (tk := tk) hn hM hMnew hx ok ow gr2 (.list e2 rs) hz hD fun z2 h2 tk2 dn _ _ _ => hQ _ z2 h2 tk2 dn
  | true =>
    have hs : swapsWith (.ListComp elt (⟨t, it, ifs, 0⟩ :: gs) sc' cp) (some (.Name x p)) pos.line env = pure true := by
      show pure _ = _
      exact congrArg pure hsw
    rw [exec_Assign_Name_used _ _ _ _ hs]
    refine wpAny_bind (wpAny_standAt (wpAny_bind ?_))
    show wpAny _ A (do let _ ← comprehension (.ListComp elt (⟨t, it, ifs, 0⟩ :: gs) sc' cp) sc' env _ (newList []) false (eval it env) (some (assign (.Name x p) env))) _ _ s
    refine wpAny_bind (wpAny_mono (wpAny_comprehension_free (use := some (assign (.Name x p) env)) (Q := fun _ s' => Q .next s') rfl (folded_pure hset) hclos hk hnames
      (comp_core (RR := fun acc C => compPost (model prog w) A Ex (some (assign (.Name x p) env)) (fun _ s' => Q .next s') acc C) O hA ok hc.1.1.1 hc.1.1.2 hc.1.2 hc.2 hd ho hl fun Dd C z' h' tk vs m gr pl rs hz hD n hC hzC hne hCP => ?_)) (fun _ s' hq => wpAny_pure (wpAny_pure hq)) fun _ _ e => e)
    obtain ⟨nn, e⟩ := pl
    show wpAny _ A (assign (.Name x p) env (.ref Dd)) _ _ _
    refine wpAny_assign_Name (put_fresh (s := s) o (tk := tk) hn hM hMnew hx ok ow gr (.list e rs) hz hD fun z2 h2 tk2 dn st hzz hown => ?_)
    have hCW : ¬ WL sc env C := by
      rintro (q | ⟨y, q1, q2⟩)
      · obtain ⟨_, nL⟩ := ok.ns
        exact absurd (q ▸ nL.lt) (Nat.not_lt.mpr hC)
      · obtain ⟨⟨v, hv⟩, _⟩ := ok.cells y C q1 q2
        exact absurd hv.lt (Nat.not_lt.mpr hC)
    have n2 : h2.Ns C m := n.at' fun o eo => st.keep _ o hCW hCP eo
    refine ⟨m, n2, fun h3 sb => hQ _ z2 h3 tk2 ?_⟩
    have zC2 : z2 C = none := hzz C hC (Ne.symm hne) hzC
    have s3 : Step (· = C) P z2 h2 z2 h3 := .same dn.ok.on zC2 sb hCP
    have hLC : env.locals ≠ C := fun q => hCW (.inl q.symm)
    have cc : ∀ (x : Str) (a : Addr) (v : Option Value), env.cells.lookup x = some a → h2.IsCell a v → ¬ a = C := fun x a v _ cv => ns_ne_cell n2 cv
    have ok3 := dn.ok.step s3 hLC cc fun y d' a e l q => by
      rcases hown y d' a e l with q' | q'
      · rw [q] at q'; exact absurd q' (Nat.not_lt.mpr hC)
      · rw [q] at q'; exact hne q'.symm
    exact .of hn ((dn.step fun d e => nomatch e).trans_new s3 fun b q => .inr (by rw [q]; exact hC)) ok3 (dn.owns.step dn.ok s3 hLC cc) rfl
end
end Mine

namespace Mine
open PySem PySem.W PyProof.Rows PySem.Calls PySem.Spec

section
variable {prog : Program} {w : World} {hb : Heap} {mg mb : Str → Option Value} {c P : Addr} {k : Nat} {lc : Option Addr} {T : Tabs} {E : Ev} {sc sc' : Scope} {env : Env} {A : Around} {ρ ρ' : Rho} {r : R} {M : Addr → Prop} {n0 : Nat} {z z' z'' : Z} {h h' h'' : Heap} {s : Shared}

theorem Loads.same {x : Str} {v : Value} {a : Addr} (l : Loads env h x v) (hs : Heap.SameBut a h h') (hL : env.locals ≠ a) (hc : ∀ b u, h.IsCell b u → b ≠ a) : Loads env h' x v := by
  rcases l with ⟨k, m, e1, e2⟩ | ⟨k, b, e1, e2⟩
  · exact .inl ⟨k, m, e1.sameBut hs hL, e2⟩
  · exact .inr ⟨k, b, e1, e2.sameBut hs (hc b _ e2)⟩

/-- the object under a name is filled further -/
theorem own_upd {x : Str} {d d' : D} {a : Addr} (ok : Ok prog w hb P lc z env sc ρ h) (ow : Owns M ρ z env h) (e : ρ.lookup x = some (.own d)) (l : Loads env h x (.ref a)) (hs : Heap.SameBut a h h') (ho : OwnAt prog w z h' a d') :
    Step M P z h z h' ∧ Ok prog w hb P lc z env sc (rset ρ x (.own d')) h' ∧ Owns M (rset ρ x (.own d')) z env h' := by
  obtain ⟨lt, hL, hP, oa⟩ := own_lt ok e l
  obtain ⟨hz, hMa, hd⟩ := ow x d a e l
  have hc : ∀ b u, h.IsCell b u → b ≠ a := fun b u cv q => oa.ne_cell cv q.symm
  have st : Step (· = a) P z h z h' := .same ok.on hz hs hP
  have ld : ∀ {y : Str} {v : Value}, Loads env h y v → Loads env h' y v := fun l => l.same hs hL.symm hc
  have back : ∀ {y : Str} {d2 : D} {v : Value}, ρ.lookup y = some (.own d2) → Loads env h' y v → Loads env h y v := fun {y d2 v} e2 l2 => by
    obtain ⟨a2, l3, _⟩ := ok.vars y _ e2
    have q := (ld l3).unique l2
    subst q; exact l3
  refine ⟨st.mono fun b q => .inl (by rw [q]; exact hMa), ⟨st.on, st.tab ok.tab, ?_, ok.zL, ok.base, ok.eok, fun y b h1 h2 => ?_, fun y b h1 h2 => ?_, fun y b e2 => ?_, fun y b e2 => ?_⟩, ?_⟩
  · obtain ⟨m, n⟩ := ok.ns
    exact ⟨m, n.sameBut hs hL.symm⟩
  · obtain ⟨⟨v, hv⟩, q⟩ := ok.cells y b h1 h2
    exact ⟨⟨v, hv.sameBut hs (hc b v hv)⟩, q⟩
  · obtain ⟨v, hv⟩ := ok.frees y b h1 h2
    exact ⟨v, hv.sameBut hs (hc b v hv)⟩
  · rcases rset_some e2 with ⟨rfl, _, c', q⟩ | ⟨_, q⟩
    · exact ok.names _ _ q
    · exact ok.names _ _ q
  · rcases rset_some e2 with ⟨rfl, rfl, c', q⟩ | ⟨hy, q⟩
    · exact ⟨a, ld l, hL, hP, ho⟩
    · have v := ok.vars y b q
      cases b with
      | unb => trivial
      | val d2 => obtain ⟨u, l2, r2⟩ := v; exact ⟨u, ld l2, r2⟩
      | own d2 =>
        obtain ⟨a2, l2, q1, q2, o2⟩ := v
        exact ⟨a2, ld l2, q1, q2, o2.same hs (hd y d2 a2 hy q l2)⟩
  · intro y d2 a2 e2 l2
    rcases rset_some e2 with ⟨rfl, _, c', q⟩ | ⟨hy, q⟩
    · cases (ld l).unique l2
      refine ⟨hz, hMa, fun y' d3 a3 hn e3 l3 => ?_⟩
      rcases rset_some e3 with ⟨rfl, _, _⟩ | ⟨hy', q'⟩
      · exact absurd rfl hn
      · exact hd y' d3 a3 hn q' (back q' l3)
    · obtain ⟨q1, q2, q3⟩ := ow y d2 a2 q (back q l2)
      refine ⟨q1, q2, fun y' d3 a3 hn e3 l3 => ?_⟩
      rcases rset_some e3 with ⟨rfl, _, _⟩ | ⟨hy', q'⟩
      · cases (ld l).unique l3
        exact q3 y' d a hn e l
      · exact q3 y' d3 a3 hn q' (back q' l3)
end
end Mine

namespace Mine
open PySem PySem.W PyProof.Rows PySem.Calls PySem.Spec

section
variable {prog : Program} {w : World} {A : Around} {E : Value → Shared → Prop} {s : Shared}

theorem setItem_plain {l : Addr} {vs : List Value} {n : Nat} {j : Nat} {t : Tok} {v : Value} {Q : Unit → Shared → Prop} (ho : s.heap.get? l = some (lob vs n)) (hj : j < vs.length) (hfit : vs.length ≤ 1000)
    (hQ : ∀ h' n', h'.get? l = some (lob (vs.set j v) n') → Heap.SameBut l s.heap h' → Q () { s with heap := h' }) :
    wpAny (model prog w) A (setItem (.ref l) (.int j t) v) Q E s := by
  have hl : s.heap.IsList l vs.toArray := ⟨_, ho, rfl, _, rfl⟩
  obtain ⟨kk, hkk⟩ : ∃ kk : Int, kk = (j : Int) := ⟨_, rfl⟩
  rw [← hkk]
  unfold setItem
  try with_reducible refine wpAny_holding ?_
  first | refine wpAny_bind (wpAny_pure ?_) | skip
  refine wpAny_bind (wpAny_sequenceKey hl.typeIs (by decide) ?_)
  refine wpAny_bind (wpAny_callSpecial?_slot (name := Str.ofString "__setitem__") hl.typeIs slot_list_setitem
    (wpAny_call_entry slot_list_setitem hl.typeIs entry_list_setitem ?_ (args_list_setitem _ _ _)))
  show wpAny _ _ (Builtin.List.listSubscript? (.int kk t) >>= _) _ _ s
  refine wpAny_bind (wpAny_listSubscript_int (fitsIndex_of (by exact ar149 hkk) (by omega)) ?_)
  subst hkk
  have hj' : j < vs.toArray.size := by rw [List.size_toArray]; exact hj
  have hx' : vs.toArray[j]? = some vs.toArray[j] := Array.getElem?_eq_getElem hj'
  show wpAny _ _ ((seqItemAt l j >>= fun r => pure (r.map (j, ·))) >>= _) _ _ s
  refine wpAny_bind (wpAny_bind (wpAny_seqItemAt ho rfl (wpAny_pure ?_)))
  rw [hx']
  show wpAny _ _ (setSeqItemAt l j v >>= _) _ _ s
  obtain ⟨c2, hc2⟩ : ∃ c2, (s.heap.update l (Obj.mapSeq (·.setIfInBounds j v))).get? l = some (lob (vs.set j v) c2) := by
    have q := get?_update_seq (c := "list") ho (·.setIfInBounds j v)
    rw [List.setIfInBounds_toArray] at q
    exact ⟨_, q⟩
  refine wpAny_bind (wpAny_setSeqItemAt ho rfl ?_)
  first
    | exact wpAny_bind (wpAny_pure (wpAny_pure ⟨.none, rfl, wpAny_pure (hQ _ c2 hc2 (Heap.SameBut.update ..))⟩))
    | exact wpAny_pure ⟨.none, rfl, wpAny_pure (hQ _ c2 hc2 (Heap.SameBut.update ..))⟩
end
end Mine

namespace Mine
open PySem PySem.W PyProof.Rows PySem.Calls PySem.Spec

theorem stored_int {kvs : List (Str × Value)} {kv : List (Str × Int)} (x : Str) (n : Int) (t : Tok) (r : IntVals kvs kv) (hn : (kvs.map (·.1)).Nodup) : IntVals (stored kvs x (.int n t)) (putKey x n kv) := by
  induction r with
  | nil => exact .cons .nil
  | @cons y j u r q hr ih =>
    rw [List.map_cons, List.nodup_cons] at hn
    by_cases hy : y = x
    · subst hy
      have hm : r.map (fun kv => if kv.1 = y then (kv.1, Value.int n t) else kv) = r := by
        refine (List.map_congr_left fun p hp => ?_).trans (List.map_id _)
        rw [if_neg]
        · rfl
        · intro q; exact hn.1 (List.mem_map.mpr ⟨p, hp, q⟩)
      have e1 : stored ((y, Value.int j u) :: r) y (.int n t) = (y, .int n t) :: r := by
        unfold stored
        rw [if_pos (by simp), List.map_cons, if_pos rfl, hm]
      rw [e1]
      simp only [putKey, beq_self_eq_true, if_true]
      exact .cons hr
    · have e1 : stored ((y, Value.int j u) :: r) x (.int n t) = (y, .int j u) :: stored r x (.int n t) := by
        unfold stored
        simp only [List.any_cons, List.map_cons, hy, decide_false, Bool.false_or, if_false]
        split <;> rfl
      have e2 : (y == x) = false := by simpa using hy
      rw [e1]
      simp only [putKey, e2]
      exact .cons (ih hn.2)
theorem lookup_int {kvs : List (Str × Value)} {kv : List (Str × Int)} (r : IntVals kvs kv) {x : Str} {a : Int} (h : kv.lookup x = some a) : ∃ t, valueAt kvs x = some (.int a t) := by
  induction r with
  | nil => first | exact nn h | cases h
  | @cons y j u r q hr ih =>
    rw [List.lookup_cons] at h
    by_cases hy : y = x
    · subst hy
      rw [beq_self_eq_true] at h
      cases h
      exact ⟨u, by simp [valueAt]⟩
    · have : (x == y) = false := by simpa using fun q => hy q.symm
      rw [this] at h
      obtain ⟨t, e⟩ := ih h
      exact ⟨t, by simpa [valueAt, hy] using e⟩

section
variable {prog : Program} {w : World} {hb : Heap} {mg mb : Str → Option Value} {c P : Addr} {k : Nat} {lc : Option Addr} {T : Tabs} {E : Ev} {sc sc' : Scope} {env : Env} {A : Around} {ρ ρ' : Rho} {r : R} {M : Addr → Prop} {n0 : Nat} {z z' z'' : Z} {h h' h'' : Heap} {s : Shared}

theorem own_name {x : Str} {p : Pos} {d : D} {Q : Value → Shared → Prop} {Ex : Value → Shared → Prop} (ok : Ok prog w hb P lc z env sc ρ s.heap) (e : ρ.lookup x = some (.own d)) (h : ∀ a, Loads env s.heap x (.ref a) → Q (.ref a) s) : wpAny (model prog w) A (eval (.Name x p) env) Q Ex s := by
  obtain ⟨a, l, _⟩ := ok.vars x _ e
  exact wpAny_Name (load_var ok.eok.kind l (ok.names x _ e).2 (h a l)) (ok.names x _ e).1

theorem set_list {x : Str} {i value : Expr} {d : D} {n : Int} {ds : List D} {p q pos : Pos} (O : EvOk prog w hb P k lc E) (hA : Room k A) (hM : ∀ a, WL sc env a → M a) (hv : E.v sc ρ value = some d) (hi : E.v sc ρ i = some (.int n)) (hx : ρ.lookup x = some (.own (.list ds)))
    (h0 : 0 ≤ n) (hk : n.toNat < ds.length) (hl : ds.length ≤ 1000) : Exec prog w hb P lc M n0 sc env A (exec (.Assign [.Subscript (.Name x p) i q] value pos) env) ρ (rset ρ x (.own (.list (ds.set n.toNat d)))) .next := by
  intro s z Q Ex hn ok ow hQ
  refine wpAny_Assign_Subscript (O.v hv hA ok fun v z1 h1 tk1 g1 rv => own_name (s := { s with heap := h1, toks := tk1 }) (ok.grow g1) hx fun a l => O.v (s := { s with heap := h1, toks := tk1 }) hi hA (ok.grow g1) fun iv z2 h2 tk2 g2 ri => ?_) (by cases value <;> rfl)
  have ok1 := ok.grow g1
  have ok2 := ok1.grow g2
  have ow2 := (ow.grow ok g1).grow ok1 g2
  have l2 := l.grow g2 ok1.tab ok1.ns
  have st : Step M P z s.heap z2 h2 := (g1.trans g2).step.mono fun b e => .inl (hM b (.inl e))
  obtain ⟨m, rfl⟩ := Int.eq_ofNat_of_zero_le h0
  obtain ⟨_, _, _, oa⟩ := own_lt ok2 hx l2
  cases ri with
  | int _ t =>
    cases oa with
    | list e1 rs =>
      have hm : m < ds.length := by simpa using hk
      refine setItem_plain (s := { s with heap := h2, toks := tk2 }) e1 (by rw [rs.length]; exact hm) (by rw [rs.length]; exact hl) fun h3 n3 e3 sb => ?_
      obtain ⟨st3, ok3, ow3⟩ := own_upd ok2 ow2 hx l2 sb (.list e3 (rs.set (rv.mono g2.le) m))
      exact hQ _ z2 h3 tk2 (.of hn (st.trans st3) ok3 ow3 rfl)

theorem dict_put {x y : Str} {a : Addr} {n : Int} {t u : Tok} {kv : List (Str × Int)} {Q : Unit → Shared → Prop} {Ex : Value → Shared → Prop} (ok : Ok prog w hb P lc z env sc ρ s.heap) (ow : Owns M ρ z env s.heap) (hx : ρ.lookup x = some (.own (.dict kv))) (l : Loads env s.heap x (.ref a)) (hl : kv.length ≤ 1000)
    (hQ : ∀ h' tk, Step M P z s.heap z h' → Ok prog w hb P lc z env sc (rset ρ x (.own (.dict (putKey y n kv)))) h' → Owns M (rset ρ x (.own (.dict (putKey y n kv)))) z env h' → Q () { s with heap := h', toks := tk }) :
    wpAny (model prog w) A (setItem (.ref a) (.str y u) (.int n t)) Q Ex s := by
  obtain ⟨_, _, _, oa⟩ := own_lt ok hx l
  cases oa with
  | @dict o kvs kv e1 hs hd hi =>
    refine wpAny_setItem_pairs (knd := PySem.strKind prog w) (k := y) (by simp [PySem.strKind, Value.isStrOf]) (Heap.dictOf_iff.mpr ⟨o, e1, hd⟩) (fun h3 hm sb => ?_) (by rw [intVals_length hi]; exact Nat.le_trans hl (by decide))
    obtain ⟨o3, e3, hd3⟩ := Heap.dictOf_iff.mp hm
    obtain ⟨_, _, _, _, _, _, hnd⟩ := id hd
    obtain ⟨st3, ok3, ow3⟩ := own_upd ok ow hx l sb (.dict e3 hs hd3 (stored_int y n t hi hnd))
    exact hQ h3 _ st3 ok3 ow3

theorem set_dict {x y : Str} {i value : Expr} {n : Int} {kv : List (Str × Int)} {p q pos : Pos} (O : EvOk prog w hb P k lc E) (hA : Room k A) (hM : ∀ a, WL sc env a → M a) (hv : E.v sc ρ value = some (.int n)) (hi : E.v sc ρ i = some (.str y)) (hx : ρ.lookup x = some (.own (.dict kv)))
    (hl : kv.length ≤ 1000) : Exec prog w hb P lc M n0 sc env A (exec (.Assign [.Subscript (.Name x p) i q] value pos) env) ρ (rset ρ x (.own (.dict (putKey y n kv)))) .next := by
  intro s z Q Ex hn ok ow hQ
  refine wpAny_Assign_Subscript (O.v hv hA ok fun v z1 h1 tk1 g1 rv => own_name (s := { s with heap := h1, toks := tk1 }) (ok.grow g1) hx fun a l => O.v (s := { s with heap := h1, toks := tk1 }) hi hA (ok.grow g1) fun iv z2 h2 tk2 g2 ri => ?_) (by cases value <;> rfl)
  have ok1 := ok.grow g1
  have st : Step M P z s.heap z2 h2 := (g1.trans g2).step.mono fun b e => .inl (hM b (.inl e))
  cases ri with
  | str _ u =>
    cases rv with
    | int _ t => exact dict_put (s := { s with heap := h2, toks := tk2 }) (ok1.grow g2) ((ow.grow ok g1).grow ok1 g2) hx (l.grow g2 ok1.tab ok1.ns) hl fun h3 tk3 st3 ok3 ow3 => hQ _ z2 h3 tk3 (.of hn (st.trans st3) ok3 ow3 rfl)

theorem aug_dict {x y : Str} {i value : Expr} {a b : Int} {kv : List (Str × Int)} {p q pos : Pos} (O : EvOk prog w hb P k lc E) (hA : Room k A) (hM : ∀ a, WL sc env a → M a) (hv : E.v sc ρ value = some (.int b)) (hi : E.v sc ρ i = some (.str y)) (hx : ρ.lookup x = some (.own (.dict kv))) (hk : kv.lookup y = some a)
    (hl : kv.length ≤ 1000) : Exec prog w hb P lc M n0 sc env A (exec (.AugAssign (.Subscript (.Name x p) i q) .Add value pos) env) ρ (rset ρ x (.own (.dict (putKey y (a + b) kv)))) .next := by
  intro s z Q Ex hn ok ow hQ
  refine wpAny_AugAssign_Subscript_any (own_name ok hx fun ad l => O.v hi hA ok fun iv z1 h1 tk1 g1 ri => ?_) ?_
  · have ok1 := ok.grow g1
    have l1 := l.grow g1 ok.tab ok.ns
    obtain ⟨_, _, _, oa⟩ := own_lt ok1 hx l1
    cases ri with
    | str _ u =>
      cases oa with
      | @dict o kvs kv e1 hs hd hi =>
        obtain ⟨t0, hat⟩ := lookup_int hi hk
        have hdo : h1.DictOf (PySem.strKind prog w) ad kvs := Heap.dictOf_iff.mpr ⟨o, e1, hd⟩
        refine wpAny_getItem_of (s := { s with heap := h1, toks := tk1 }) (knd := PySem.strKind prog w) (k := y) (by simp [PySem.strKind, Value.isStrOf]) hdo.mapOf hat ?_
        refine O.v (s := { s with heap := h1, toks := tk1 + 1 }) hv hA ok1 fun v z2 h2 tk2 g2 rv => ?_
        cases rv with
        | int _ t1 =>
          refine PyProof.Rows.iadd_int (s := { s with heap := h2, toks := tk2 }) ?_
          have st : Step M P z s.heap z2 h2 := (g1.trans g2).step.mono fun b e => .inl (hM b (.inl e))
          exact dict_put (s := { s with heap := h2, toks := tk2 + 1 }) (ok1.grow g2) ((ow.grow ok g1).grow ok1 g2) hx (l1.grow g2 ok1.tab ok1.ns) hl fun h3 tk3 st3 ok3 ow3 => hQ _ z2 h3 tk3 (.of hn (st.trans st3) ok3 ow3 rfl)
  · intro ov iv new
    cases i <;> first | rfl | (rw [O.noSlice] at hi; cases hi)

theorem append_ok {x : Str} {a : Expr} {d : D} {ds : List D} {q ap p pos : Pos} (O : EvOk prog w hb P k lc E) (hA : Room k A) (hM : ∀ a, WL sc env a → M a) (hm : mOk (.Name x q) ap p = true) (ha : E.v sc ρ a = some d) (hx : ρ.lookup x = some (.own (.list ds)))
    (hl : ds.length ≤ 1000) : Exec prog w hb P lc M n0 sc env A (exec (.Expr (.Call (.Attribute (.Name x q) (Str.ofString "append") ap) [a] [] p) pos) env) ρ (rset ρ x (.own (.list (ds ++ [d])))) .next := by
  intro s z Q Ex hn ok ow hQ
  obtain ⟨hb1, hb2⟩ := mOk_base (env := env) (nm := Str.ofString "append") (t := eval (.Name x q) env) hm
  have ht : backTo p (starEach [a] env) = [(false, eval a env)] := by rw [v_star O ha]; rfl
  refine wpAny_Expr_any (wpAny_Call_method1_late hb1 hb2 ht (own_name ok hx fun ad l => ?_)) (by unfold interactive; rw [ok.eok.kind]; rfl) rfl
  obtain ⟨_, _, _, oa⟩ := own_lt ok hx l
  cases oa with
  | @list vs n ds e1 rs =>
    refine ⟨"list", "list.append", PySem.F.plainAttrs_list, PySem.F.slot_list_append, PySem.F.type_list_append, ⟨_, e1, rfl⟩, fun b e => by cases e; exact ⟨_, e1, rfl⟩, ?_⟩
    refine Calls.callWith_builtin rfl (Calls.evalArgs_plain (Calls.spliced_cons (O.v ha hA ok fun v z1 h1 tk1 g1 rv => Calls.spliced_nil ?_)))
    have ok1 := ok.grow g1
    have l1 := l.grow g1 ok.tab ok.ns
    obtain ⟨_, hL, hP, oa1⟩ := own_lt ok1 hx l1
    cases oa1 with
    | @list vs n ds e1 rs =>
      refine wpAny_list_append_plain (s := { s with heap := h1, toks := tk1 }) (l := ad) (items := vs.toArray) ⟨n, e1⟩ (fun h2 pl2 sb => ?_) (by rw [List.size_toArray, rs.length]; exact Nat.le_trans hl (by decide))
      obtain ⟨n2, e2⟩ := pl2
      have : vs.toArray.push v = (vs ++ [v]).toArray := by simp
      rw [this] at e2
      obtain ⟨st3, ok3, ow3⟩ := own_upd ok1 (ow.grow ok g1) hx l1 sb (.list e2 (rs.append (.one rv)))
      exact hQ _ z1 h2 tk1 (.of hn ((g1.step.mono fun b e => .inl (hM b (.inl e))).trans st3) ok3 ow3 rfl)

theorem pop_ok {x y : Str} {d : D} {ds : List D} {q ap p px pos : Pos} (hM : ∀ a, WL sc env a → M a) (hs : storable sc x = true) (hm : mOk (.Name y q) ap p = true) (hx : ρ.lookup y = some (.own (.list ds))) (hd : ds.getLast? = some d)
    (hl : ds.length ≤ 1000) : Exec prog w hb P lc M n0 sc env A (exec (.Assign [.Name x px] (.Call (.Attribute (.Name y q) (Str.ofString "pop") ap) [] [] p) pos) env) ρ (rset (rset ρ y (.own (.list ds.dropLast))) x (.val d)) .next := by
  intro s z Q Ex hn ok ow hQ
  obtain ⟨hb1, hb2⟩ := mOk_base (env := env) (nm := Str.ofString "pop") (t := eval (.Name y q) env) hm
  refine wpAny_Assign_Name (wpAny_Call_method0_late hb1 hb2 (own_name ok hx fun ad l => ?_)) rfl
  obtain ⟨_, _, _, oa⟩ := own_lt ok hx l
  cases oa with
  | @list vs n ds e1 rs =>
    refine ⟨"list", "list.pop", PySem.F.plainAttrs_list, PySem.F.slot_list_pop, PySem.F.type_list_pop, ⟨_, e1, rfl⟩, fun b e => by cases e; exact ⟨_, e1, rfl⟩, ?_⟩
    have hlen := rs.length
    have hne : 0 < ds.length := by
      cases ds with
      | nil => simp at hd
      | cons _ _ => simp
    obtain ⟨v, hv, rv⟩ := rs.get (i := ds.length - 1) (d := d) (by rw [← List.getLast?_eq_getElem?]; exact hd)
    refine Calls.callWith_builtin rfl (PySem.evalArgs_none ?_)
    refine call_meets PySem.F.slot_list_pop ⟨_, e1, rfl⟩ PySem.F.entry_list_pop (PySem.F.args_list_pop_1 _) (PySem.MeetsSeq.list_pop_last ad vs.toArray n v (by rw [List.size_toArray, hlen]; simpa using hv) (by rw [List.size_toArray, hlen]; exact Nat.le_trans hl (by decide))) ⟨e1, ?_⟩
    obtain ⟨c2, hc2⟩ : ∃ c2, (s.heap.update ad (Obj.mapSeq fun xs => xs.eraseIdxIfInBounds (vs.toArray.size - 1))).get? ad = some (lob vs.dropLast c2) := by
      have q := get?_update_seq (c := "list") e1 (fun xs => xs.eraseIdxIfInBounds (vs.toArray.size - 1))
      have e : vs.toArray.eraseIdxIfInBounds (vs.toArray.size - 1) = vs.dropLast.toArray := by
        have hsz : vs.length - 1 < vs.length := by exact ar151 hlen hne
        simp only [List.size_toArray]
        rw [List.eraseIdxIfInBounds_toArray, List.eraseIdx_eq_take_drop_succ, List.dropLast_eq_take, List.drop_of_length_le (by exact ar150), List.append_nil]
      rw [e] at q
      exact ⟨_, q⟩
    have sb : Heap.SameBut ad s.heap (s.heap.update ad (Obj.mapSeq fun xs => xs.eraseIdxIfInBounds (vs.toArray.size - 1))) := Heap.SameBut.update ..
    have rs2 : Reps prog w z vs.dropLast ds.dropLast := by
      rw [List.dropLast_eq_take, List.dropLast_eq_take, hlen]; exact rs.take _
    obtain ⟨st2, ok2, ow2⟩ := own_upd ok ow hx l sb (.list hc2 rs2)
    refine store_ok (s := { s with heap := _ }) ok2 hs fun h3 tk3 st3 => hQ _ z h3 tk3 ?_
    exact .of hn (st2.trans (st3.step.mono fun b e => .inl (hM b e))) (st3.val ok2 rv) (st3.owns_val ok2 ow2) rfl
end
end Mine

namespace Mine
open PySem PySem.W PyProof.Rows PySem.Calls PySem.Spec

section
variable {prog : Program} {w : World} {hb : Heap} {mg mb : Str → Option Value} {c P : Addr} {k : Nat} {lc : Option Addr} {T : Tabs} {E : Ev} {sc sc' : Scope} {env : Env} {A : Around} {ρ ρ' : Rho} {r : R} {M M' : Addr → Prop} {n0 n1 : Nat} {z z' z'' : Z} {h h' h'' : Heap} {s : Shared}

theorem StepW.mono (x : StepW n1 M' P z h z' h') (hw : ∀ b, M' b → M b ∨ h.objs.size ≤ b) (hn : n0 ≤ n1) : StepW n0 M P z h z' h' :=
  ⟨x.le, x.on, fun b o h1 h2 e => x.keep b o (fun w => (hw b w).elim h1 fun l => absurd (Heap.lt_size e) (Nat.not_lt.mpr l)) h2 e, x.size, fun b o e => (x.new b o e).imp_right (Nat.le_trans hn), x.tab⟩
theorem Owns.mono (ow : Owns M' ρ z env h) (hw : ∀ b, M' b → M b) : Owns M ρ z env h := fun x d a e l => let ⟨h1, h2, h3⟩ := ow x d a e l; ⟨h1, hw a h2, h3⟩

theorem while_ok {test : Expr} {body : List Stmt} {pos : Pos} {bd : Rho → Option (Rho × R)} (O : EvOk prog w hb P k lc E) (hA : Room k A) (hM : ∀ a, WL sc env a → M a)
    (hbody : ∀ ρ ρ' r, bd ρ = some (ρ', r) → Exec prog w hb P lc M n0 sc env A (execs body env) ρ ρ' r) {n : Nat} (hw : whileGo (fun ρ => E.t sc ρ test) bd n ρ = some (ρ', r)) :
    Exec prog w hb P lc M n0 sc env A (exec (.While test body [] pos) env) ρ ρ' r := by
  intro s z Q Ex hn ok ow hQ
  refine wpAny_While (codeAny_whileLoop (R := fun r s' => match r with | .ok f => Q f s' | .error e => cameBackBy (model prog w) A env Ex e s')
    (fun n s' => ∃ ρ1 z1 h1 tk1, s' = { s with heap := h1, toks := tk1 } ∧ Ok prog w hb P lc z1 env sc ρ1 h1 ∧ Owns M ρ1 z1 env h1 ∧ Step M P z s.heap z1 h1 ∧ whileGo (fun ρ => E.t sc ρ test) bd n ρ1 = some (ρ', r)) ?_ n ⟨ρ, z, s.heap, s.toks, rfl, ok, ow, .refl ok.on, hw⟩)
  rintro n _ ⟨ρ1, z1, h1, tk1, rfl, ok1, ow1, st1, hw1⟩
  cases n with
  | zero => cases hw1
  | succ n =>
    simp only [whileGo] at hw1
    split at hw1
    · cases hw1
    · rename_i ht
      cases hw1
      refine O.t (s := { s with heap := h1, toks := tk1 }) ht hA ok1 fun z2 h2 tk2 g2 => ?_
      rw [if_neg Bool.false_ne_true]
      refine wpAny_execs_nil ?_
      have st2 : Step M P z1 h1 z2 h2 := g2.step.mono fun b e => .inl (hM b (.inl e))
      exact hQ .next z2 h2 tk2 (.of hn (st1.trans st2) (ok1.grow g2) (ow1.grow ok1 g2) rfl)
    · rename_i ht
      refine O.t (s := { s with heap := h1, toks := tk1 }) ht hA ok1 fun z2 h2 tk2 g2 => ?_
      rw [if_pos rfl]
      have st2 : Step M P z s.heap z2 h2 := st1.trans (g2.step.mono fun b e => .inl (hM b (.inl e)))
      have hn2 : n0 ≤ h2.objs.size := Nat.le_trans hn st2.size
      split at hw1
      · rename_i ρ2 hb2
        refine hbody _ _ _ hb2 (s := { s with heap := h2, toks := tk2 }) hn2 (ok1.grow g2) (ow1.grow ok1 g2) fun f z3 h3 tk3 d => ?_
        cases (show f = .next from d.flow)
        exact ⟨n, Nat.lt_succ_self n, ρ2, z3, h3, tk3, rfl, d.ok, d.owns, st2.trans (d.step fun _ e => nomatch e), hw1⟩
      · rename_i ρ2 hb2
        refine hbody _ _ _ hb2 (s := { s with heap := h2, toks := tk2 }) hn2 (ok1.grow g2) (ow1.grow ok1 g2) fun f z3 h3 tk3 d => ?_
        cases (show f = .cont from d.flow)
        exact ⟨n, Nat.lt_succ_self n, ρ2, z3, h3, tk3, rfl, d.ok, d.owns, st2.trans (d.step fun _ e => nomatch e), hw1⟩
      · rename_i ρ2 hb2
        cases hw1
        refine hbody _ _ _ hb2 (s := { s with heap := h2, toks := tk2 }) hn2 (ok1.grow g2) (ow1.grow ok1 g2) fun f z3 h3 tk3 d => ?_
        cases (show f = .brk from d.flow)
        exact hQ .next z3 h3 tk3 (.of hn (st2.trans (d.step fun _ e => nomatch e)) d.ok d.owns rfl)
      · rename_i ρ2 dd hb2
        cases hw1
        refine hbody _ _ _ hb2 (s := { s with heap := h2, toks := tk2 }) hn2 (ok1.grow g2) (ow1.grow ok1 g2) fun f z3 h3 tk3 d => ?_
        obtain ⟨v, rfl, rv⟩ := d.flow
        exact hQ (.ret v) z3 h3 tk3 ⟨(st2.weak hn).trans d.weak, d.ok, d.owns, ⟨v, rfl, rv⟩, fun hr => absurd rfl (hr dd)⟩
      · cases hw1

theorem for_ok {W : Prop} {target iter : Expr} {body : List Stmt} {pos : Pos} {bd : Rho → Option (Rho × R)} {ds : List D} (O : EvOk prog w hb P k lc E) (hA : Room k A) (hM : ∀ a, WL sc env a → M a) (hMnew : W → ∀ a, n0 ≤ a → M a) (hset : isSetE iter = false) (ht : tgtOk target = true)
    (hit : E.it sc (strip ρ) (isTup target) iter = some ds)
    (hbody : ∀ (M' : Addr → Prop) (n1 : Nat), (∀ a, WL sc env a → M' a) → (W → ∀ a, n1 ≤ a → M' a) → ∀ ρ ρ' r, bd ρ = some (ρ', r) → Exec prog w hb P lc M' n1 sc env A (execs body env) ρ ρ' r)
    (hw : forGo bd (fun d ρ => bindT sc target d ρ) ds ρ = some (ρ', r)) :
    Exec prog w hb P lc M n0 sc env A (exec (.For target iter body [] pos) env) ρ ρ' r := by
  intro s z Q Ex hn ok ow hQ
  have htgt : (∃ x p, target = .Name x p) ∨ (∃ es n p, target = .Tuple es n p) := by
    cases target <;> first | exact .inl ⟨_, _, rfl⟩ | exact .inr ⟨_, _, _, rfl⟩ | cases ht
  refine wpAny_For (O.it hit hA ok.strip htgt fun I wr fp J z1 h1 tk1 g1 It j hwr hfp => ?_) (folded_pure hset)
  have ok1 := ok.grow g1
  have ow1 := ow.grow ok g1
  let M' : Addr → Prop := fun b => (M b ∧ b ∉ fp) ∨ (W ∧ h1.objs.size ≤ b)
  have fpM : ∀ b ∈ fp, ¬ M' b := fun b m q => q.elim (fun q => q.2 m) fun q => absurd (hfp b m).1 (Nat.not_lt.mpr q.2)
  have noIn : ∀ b ∈ fp, b < s.heap.objs.size → z1 b = none → False := fun b m lt e => by
    rcases (hfp b m).2.2.2 with q | ⟨o, q⟩ | ⟨x, d, q⟩
    · exact absurd lt (Nat.not_lt.mpr q)
    · rw [e] at q; cases q
    · exact strip_noOwn ρ x d q
  have hWL : ∀ a, WL sc env a → M' a := fun a q => .inl ⟨hM a q, fun m => by
    rcases q with q | ⟨x, q1, q2⟩
    · exact (hfp a m).2.1 q
    · obtain ⟨⟨v, hv⟩, _⟩ := ok.cells x a q1 q2
      exact noIn a m hv.lt (ok1.cells x a q1 q2).2.1⟩
  have hM1 : ∀ a, M' a → M a := fun a q => q.elim (·.1) fun q => hMnew q.1 a (Nat.le_trans hn (Nat.le_trans g1.size q.2))
  have ow' : Owns M' ρ z1 env h1 := fun x d a e l => by
    obtain ⟨q1, q2, q3⟩ := ow1 x d a e l
    refine ⟨q1, .inl ⟨q2, fun m => ?_⟩, q3⟩
    obtain ⟨a', l', _⟩ := ok.vars x _ e
    cases (l'.grow g1 ok.tab ok.ns).unique l
    exact noIn a m (own_lt ok e l').1 q1
  have hwP : P ∉ wr := fun m => (hfp _ (It.sub _ m)).2.2.1 rfl
  have toM : ∀ b, (M' b ∨ b ∈ wr) → M b ∨ s.heap.objs.size ≤ b := fun b q => q.elim (fun q => .inl (hM1 b q)) fun m => .inr (hwr b m).1
  have gst : Step M P z s.heap z1 h1 := g1.step.mono fun b e => .inl (hM b (.inl e))
  refine codeAny_forLoop_any (R := fun r s' => match r with | .ok f => Q f s' | .error e => cameBackBy (model prog w) A env Ex e s')
    (fun n s' => ∃ ρ2 z2 h2 tk2 ds2, s' = { s with heap := h2, toks := tk2 } ∧ n = List.length ds2 ∧ J z2 h2 ds2 ∧ (∀ b ∈ wr, z2 b = none) ∧ Ok prog w hb P lc z2 env sc ρ2 h2 ∧ Owns M' ρ2 z2 env h2 ∧ Step (fun b => M' b ∨ b ∈ wr) P z1 h1 z2 h2 ∧ forGo bd (fun d ρ => bindT sc target d ρ) ds2 ρ2 = some (ρ', r)) ?_ ds.length
    ⟨ρ, z1, h1, tk1, ds, rfl, rfl, j, fun b m => (hwr b m).2, ok1, ow', .refl ok1.on, hw⟩
  rintro n _ ⟨ρ2, z2, h2, tk2, ds2, rfl, rfl, j2, hwz2, ok2, ow2, st2, hw2⟩
  have wz : ∀ {z' : Z} {h' : Heap} {ds : List D} {z'' : Z} {h'' : Heap} {V : Addr → Prop}, J z' h' ds → (∀ b ∈ wr, z' b = none) → Step V P z' h' z'' h'' → ∀ b ∈ wr, z'' b = none := fun j hw st b m => by
    obtain ⟨o, _, e, _⟩ := It.fields j b m
    exact st.zNone (hw b m) (Heap.lt_size e)
  have fr : ∀ {z' : Z} {h' : Heap} {ds : List D} {z'' : Z} {h'' : Heap}, J z' h' ds → Step M' P z' h' z'' h'' → J z'' h'' ds := fun j st =>
    It.frame j st.le st.on fun b m o e => st.keep b o (fpM b m) (hfp b m).2.2.1 e
  cases ds2 with
  | nil =>
    simp only [forGo] at hw2
    cases hw2
    refine wpAny_mono (It.done (s := { s with heap := h2, toks := tk2 }) (Q := fun s' => wpAny (model prog w) A (execs [] env) (fun f s₃ => Q f s₃) (notedBy (model prog w) A env fun e s' => cameBackBy (model prog w) A env Ex e s') s') j2 ok2.on hwz2 fun h3 tk3 g => ?_) (fun r s' hr => ?_) fun _ _ x => x
    · have g' := g.step hwP
      exact wpAny_execs_nil (hQ .next z2 h3 tk3 (.of hn (gst.trans_new (st2.trans (g'.mono fun b m => .inl (.inr m))) toM) (itr_ok It j2 ok2 g') ((itr_owns It j2 ok2 ow2 g').mono hM1) rfl))
    · obtain ⟨rfl, hr⟩ := hr
      exact hr
  | cons d ds3 =>
    simp only [forGo] at hw2
    split at hw2
    · cases hw2
    · rename_i ρ3 hρ
      refine wpAny_mono (It.next (s := { s with heap := h2, toks := tk2 }) (Q := fun v s' => wpAny (model prog w) A (assign target env v) (fun _ s₂ => wpAny (model prog w) A (execs body env) (fun f s₃ => match f with
            | .next | .cont => ∃ m, m < (d :: ds3).length ∧ ∃ ρ2 z2 h2 tk2 ds2, s₃ = { s with heap := h2, toks := tk2 } ∧ m = List.length ds2 ∧ J z2 h2 ds2 ∧ (∀ b ∈ wr, z2 b = none) ∧ Ok prog w hb P lc z2 env sc ρ2 h2 ∧ Owns M' ρ2 z2 env h2 ∧ Step (fun b => M' b ∨ b ∈ wr) P z1 h1 z2 h2 ∧ forGo bd (fun d ρ => bindT sc target d ρ) ds2 ρ2 = some (ρ', r)
            | .brk => Q .next s₃
            | .ret v => Q (.ret v) s₃) (notedBy (model prog w) A env fun e s' => cameBackBy (model prog w) A env Ex e s') s₂) (notedBy (model prog w) A env fun e s' => cameBackBy (model prog w) A env Ex e s') s') j2 ok2.on hwz2 fun v z3 h3 tk3 g rv j3 => ?_) (fun r s' hr => ?_) fun _ _ x => x
      · have g' := g.step hwP
        have ok3 := itr_ok It j2 ok2 g'
        have ow3 := itr_owns It j2 ok2 ow2 g'
        have hwz3 := wz j2 hwz2 g'
        have st3 := st2.trans (g'.mono fun b m => .inl (.inr m))
        refine bindT_ok (s := { s with heap := h3, toks := tk3 }) hA.handled ok3 ow3 rv hρ fun h4 tk4 st4 ok4 ow4 => ?_
        have s4 : Step M' P z3 h3 z3 h4 := st4.mono fun b e => .inl (hWL b e)
        have hn4 : h1.objs.size ≤ h4.objs.size := Nat.le_trans st3.size s4.size
        split at hw2
        · rename_i ρ4 hb4
          refine hbody M' h1.objs.size hWL (fun hW a q => .inr ⟨hW, q⟩) _ _ _ hb4 (s := { s with heap := h4, toks := tk4 }) hn4 ok4 ow4 fun f z5 h5 tk5 dn => ?_
          cases (show f = .next from dn.flow)
          have s5 : Step M' P z3 h3 z5 h5 := s4.trans (dn.step fun _ e => nomatch e)
          exact ⟨ds3.length, by simp, ρ4, z5, h5, tk5, ds3, rfl, rfl, fr j3 s5, wz j3 hwz3 s5, dn.ok, dn.owns, st3.trans (s5.mono fun b e => .inl (.inl e)), hw2⟩
        · rename_i ρ4 hb4
          refine hbody M' h1.objs.size hWL (fun hW a q => .inr ⟨hW, q⟩) _ _ _ hb4 (s := { s with heap := h4, toks := tk4 }) hn4 ok4 ow4 fun f z5 h5 tk5 dn => ?_
          cases (show f = .cont from dn.flow)
          have s5 : Step M' P z3 h3 z5 h5 := s4.trans (dn.step fun _ e => nomatch e)
          exact ⟨ds3.length, by simp, ρ4, z5, h5, tk5, ds3, rfl, rfl, fr j3 s5, wz j3 hwz3 s5, dn.ok, dn.owns, st3.trans (s5.mono fun b e => .inl (.inl e)), hw2⟩
        · rename_i ρ4 hb4
          cases hw2
          refine hbody M' h1.objs.size hWL (fun hW a q => .inr ⟨hW, q⟩) _ _ _ hb4 (s := { s with heap := h4, toks := tk4 }) hn4 ok4 ow4 fun f z5 h5 tk5 dn => ?_
          cases (show f = .brk from dn.flow)
          have s5 : Step M' P z3 h3 z5 h5 := s4.trans (dn.step fun _ e => nomatch e)
          exact hQ .next z5 h5 tk5 (.of hn (gst.trans_new (st3.trans (s5.mono fun b e => .inl (.inl e))) toM) dn.ok (dn.owns.mono hM1) rfl)
        · rename_i ρ4 dd hb4
          cases hw2
          refine hbody M' h1.objs.size hWL (fun hW a q => .inr ⟨hW, q⟩) _ _ _ hb4 (s := { s with heap := h4, toks := tk4 }) hn4 ok4 ow4 fun f z5 h5 tk5 dn => ?_
          obtain ⟨u, rfl, ru⟩ := dn.flow
          have s5 : Step M P z s.heap z3 h4 := gst.trans_new (st3.trans (s4.mono fun b e => .inl (.inl e))) toM
          exact hQ (.ret u) z5 h5 tk5 ⟨(s5.weak hn).trans (dn.weak.mono (fun b q => .inl (hM1 b q)) (Nat.le_trans hn g1.size)), dn.ok, dn.owns.mono hM1, ⟨u, rfl, ru⟩, fun hr => absurd rfl (hr dd)⟩
        · cases hw2
      · obtain ⟨v, rfl, hr⟩ := hr
        exact hr
end
end Mine

namespace Mine
open PySem PySem.W PyProof.Rows PySem.Calls PySem.Spec

/-- a function of the text that changes the list handed to it -/
noncomputable def MtOk (prog : Program) (w : World) (hb : Heap) (mg : Str → Option Value) (P : Addr) (k : Nat) (f : Str) (F : List D → List D → Option (List D × D)) : Prop :=
  ∃ a o fd, mg f = some (.ref a) ∧ (f == ("__debug__" : Str)) = false ∧ hb.get? a = some o ∧ o.data = .func fd ∧
    ∀ (A : Around) (s : Shared) (z : Z) (l : Addr) (vs : List Value) (ds as ds' : List D) (d : D) (Q : Value → Shared → Prop) (E : Value → Shared → Prop), Room k A → z.on s.heap → TabOk P z s.heap → (∀ b o, hb.get? b = some o → z b = some o) →
      z l = none → l ≠ P → OwnAt prog w z s.heap l (.list ds) → Reps prog w z vs as → F ds as = some (ds', d) →
      (∀ v z' h' tk, Step (· = l) P z s.heap z' h' → OwnAt prog w z' h' l (.list ds') → Rep prog w z' v d → Q v { s with heap := h', toks := tk }) → wpAny (model prog w) A (call (.ref a) (.ref l :: vs)) Q E s

section
variable {prog : Program} {w : World} {hb : Heap} {mg mb : Str → Option Value} {c P : Addr} {k : Nat} {lc : Option Addr} {T : Tabs} {E : Ev} {sc sc' : Scope} {env : Env} {A : Around} {ρ ρ' : Rho} {r : R} {M M' : Addr → Prop} {n0 n1 : Nat} {z z' z'' : Z} {h h' h'' : Heap} {s : Shared}

theorem own_step {x : Str} {d d' : D} {a : Addr} (ok : Ok prog w hb P lc z env sc ρ h) (ow : Owns M ρ z env h) (e : ρ.lookup x = some (.own d)) (l : Loads env h x (.ref a)) (st : Step (· = a) P z h z' h') (ho : OwnAt prog w z' h' a d') :
    Step M P z h z' h' ∧ Ok prog w hb P lc z' env sc (rset ρ x (.own d')) h' ∧ Owns M (rset ρ x (.own d')) z' env h' := by
  obtain ⟨lt, hL, hP, oa⟩ := own_lt ok e l
  obtain ⟨hz, hMa, hd⟩ := ow x d a e l
  have hc : ∀ (x : Str) (b : Addr) (u : Option Value), env.cells.lookup x = some b → h.IsCell b u → ¬ b = a := fun x b u _ cv q => oa.ne_cell cv q.symm
  have ld : ∀ {y : Str} {v : Value}, Loads env h y v → Loads env h' y v := fun l => l.step st ok.tab (fun q => hL q.symm) hc
  have back : ∀ {y : Str} {d2 : D} {v : Value}, ρ.lookup y = some (.own d2) → Loads env h' y v → Loads env h y v := fun {y d2 v} e2 l2 => by
    obtain ⟨a2, l3, _⟩ := ok.vars y _ e2
    have q := (ld l3).unique l2
    subst q; exact l3
  have ok0 : Ok prog w hb P lc z env sc (rset ρ x .unb) h := ok.weak fun y b e2 => by
    rcases rset_some e2 with ⟨rfl, rfl, c', q⟩ | ⟨hy, q⟩
    · exact ⟨⟨c', q⟩, .inl rfl⟩
    · exact ⟨⟨b, q⟩, .inr q⟩
  have ok1 : Ok prog w hb P lc z' env sc (rset ρ x .unb) h' := ok0.step st (fun q => hL q.symm) hc fun y d2 b e2 l2 q => by
    rcases rset_some e2 with ⟨_, q', _⟩ | ⟨hy, q'⟩
    · cases q'
    · exact hd y d2 b hy q' l2 q
  refine ⟨st.mono fun b q => .inl (by rw [q]; exact hMa), { ok1 with names := fun y b e2 => ?_, vars := fun y b e2 => ?_ }, ?_⟩
  · rcases rset_some e2 with ⟨rfl, _, c', q⟩ | ⟨_, q⟩
    · exact ok.names _ _ q
    · exact ok.names _ _ q
  · rcases rset_some e2 with ⟨rfl, rfl, c', q⟩ | ⟨hy, q⟩
    · exact ⟨a, ld l, hL, hP, ho⟩
    · exact ok1.vars y b (by rw [rset_lookup, if_neg hy]; exact q)
  · intro y d2 a2 e2 l2
    rcases rset_some e2 with ⟨rfl, _, c', q⟩ | ⟨hy, q⟩
    · cases (ld l).unique l2
      refine ⟨st.zNone hz lt, hMa, fun y' d3 a3 hn e3 l3 => ?_⟩
      rcases rset_some e3 with ⟨rfl, _, _⟩ | ⟨hy', q'⟩
      · exact absurd rfl hn
      · exact hd y' d3 a3 hn q' (back q' l3)
    · have l2' := back q l2
      obtain ⟨q1, q2, q3⟩ := ow y d2 a2 q l2'
      refine ⟨st.zNone q1 (own_lt ok q l2').1, q2, fun y' d3 a3 hn e3 l3 => ?_⟩
      rcases rset_some e3 with ⟨rfl, _, _⟩ | ⟨hy', q'⟩
      · cases (ld l).unique l3
        exact q3 y' d a hn e l
      · exact q3 y' d3 a3 hn q' (back q' l3)

theorem mt_call {f y : Str} {F : List D → List D → Option (List D × D)} {as : List Expr} {ds das ds' : List D} {d : D} {p q pos : Pos} {Q : Value → Shared → Prop} {Ex : Value → Shared → Prop} (G : Glo hb mg mb c P) (O : EvOk prog w hb P k lc E) (hA : Room k A) (hM : ∀ a, WL sc env a → M a) (ok : Ok prog w hb P lc z env sc ρ s.heap) (ow : Owns M ρ z env s.heap)
    (hF : MtOk prog w hb mg P k f F) (hg : isGlob sc f = true) (hy : ρ.lookup y = some (.own (.list ds))) (has : mapO (E.v sc ρ) as = some das) (hr : F ds das = some (ds', d))
    (hQ : ∀ v z' h' tk, Step M P z s.heap z' h' → Ok prog w hb P lc z' env sc (rset ρ y (.own (.list ds'))) h' → Owns M (rset ρ y (.own (.list ds'))) z' env h' → Rep prog w z' v d → Q v { s with heap := h', toks := tk }) :
    wpAny (model prog w) A (eval (.Call (.Name f p) (.Name y q :: as) [] pos) env) Q Ex s := by
  obtain ⟨a, o, fd, h1, h2, h3, h4, spec⟩ := hF
  show wpAny _ _ (eval (.Name f p) env >>= fun v => callWith pos v [] (backTo pos (starEach (.Name y q :: as) env)) (backToKw pos (keywordEach [] env))) _ _ _
  refine wpAny_bind (glob_ok G ok (glob_lookup hg) h1 h2 ?_)
  refine callWith_function (o := o) (fd := fd) ?_
  have : starEach (.Name y q :: as) env = (false, eval (.Name y q) env) :: starEach as env := rfl
  have hs : wpAny (model prog w) A (spliced (backTo pos (starEach (.Name y q :: as) env))) (fun us s₁ => s₁.heap.get? a = some o ∧ o.data = .func fd ∧ wpAny (model prog w) A (call (.ref a) us) Q Ex s₁) Ex s := by
    refine wpAny_items_cons (own_name ok hy fun ad l => ?_) rfl
    refine exprs_ok O hA has ok fun vs z1 hh1 tk1 g1 rs => ?_
    have ok1 := ok.grow g1
    have l1 := l.grow g1 ok.tab ok.ns
    obtain ⟨lt, hL, hP, oa⟩ := own_lt ok1 hy l1
    have ow1 := ow.grow ok g1
    refine ⟨ok1.inb _ _ h3, h4, spec A { s with heap := hh1, toks := tk1 } z1 ad vs ds das ds' d Q Ex hA g1.on (g1.tab ok.tab) ok1.base (ow1 y _ ad hy l1).1 hP oa rs hr fun v z2 hh2 tk2 st ho rv => ?_⟩
    obtain ⟨st2, ok2, ow2⟩ := own_step ok1 ow1 hy l1 st ho
    exact hQ v z2 hh2 tk2 ((g1.step.mono fun b e => .inl (hM b (.inl e))).trans st2) ok2 ow2 rv
  rw [this] at hs ⊢
  refine evalArgs_plain (wpAny_mono hs (fun us s₁ ⟨q1, q2, q3⟩ => ⟨⟨q1, q2⟩, q3⟩) fun _ _ e => e)

theorem callM_of {f y : Str} {as : List Expr} {d : D} (h : callM T E sc ρ f y as = some (ρ', d)) : ∃ F ds das ds', isGlob sc f = true ∧ T.mt f = some F ∧ ρ.lookup y = some (.own (.list ds)) ∧ mapO (E.v sc ρ) as = some das ∧ F ds das = some (ds', d) ∧ ρ' = rset ρ y (.own (.list ds')) := by
  obtain ⟨hg, h⟩ := ite_some h
  obtain ⟨F, hF, h⟩ := obind_some h
  obtain ⟨ds, hds, h⟩ := obind_some h
  obtain ⟨das, hdas, h⟩ := obind_some h
  obtain ⟨⟨ds', d'⟩, hr, h⟩ := obind_some h
  injection h with h
  injection h with h1 h2
  exact ⟨F, ds, das, ds', hg, hF, ownL_inv hds, hdas, h2 ▸ hr, h1.symm⟩

theorem mt_expr {f y : Str} {as : List Expr} {p q cp pos : Pos} (G : Glo hb mg mb c P) (O : EvOk prog w hb P k lc E) (hA : Room k A) (hM : ∀ a, WL sc env a → M a) (hMt : ∀ f F, T.mt f = some F → MtOk prog w hb mg P k f F)
    {d : D} (h : callM T E sc ρ f y as = some (ρ', d)) : Exec prog w hb P lc M n0 sc env A (exec (.Expr (.Call (.Name f p) (.Name y q :: as) [] cp) pos) env) ρ ρ' .next := by
  intro s z Q Ex hn ok ow hQ
  obtain ⟨F, ds, das, ds', hg, hF, hds, hdas, hr, rfl⟩ := callM_of h
  refine wpAny_Expr_any (mt_call G O hA hM ok ow (hMt f F hF) hg hds hdas hr fun v z1 h1 tk1 st ok1 ow1 rv => ?_) (by unfold interactive; rw [ok.eok.kind]; rfl) rfl
  exact hQ _ z1 h1 tk1 (.of hn st ok1 ow1 rfl)

theorem mt_asg {f x y : Str} {as : List Expr} {p q cp px pos : Pos} (G : Glo hb mg mb c P) (O : EvOk prog w hb P k lc E) (hA : Room k A) (hM : ∀ a, WL sc env a → M a) (hMt : ∀ f F, T.mt f = some F → MtOk prog w hb mg P k f F) (hx : storable sc x = true)
    {d : D} (h : callM T E sc ρ f y as = some (ρ', d)) : Exec prog w hb P lc M n0 sc env A (exec (.Assign [.Name x px] (.Call (.Name f p) (.Name y q :: as) [] cp) pos) env) ρ (rset ρ' x (.val d)) .next := by
  intro s z Q Ex hn ok ow hQ
  obtain ⟨F, ds, das, ds', hg, hF, hds, hdas, hr, rfl⟩ := callM_of h
  refine wpAny_Assign_Name (mt_call G O hA hM ok ow (hMt f F hF) hg hds hdas hr fun v z1 h1 tk1 st ok1 ow1 rv => ?_) rfl
  refine store_ok (s := { s with heap := h1, toks := tk1 }) ok1 hx fun h3 tk3 st3 => hQ _ z1 h3 tk3 ?_
  exact .of hn (st.trans (st3.step.mono fun b e => .inl (hM b e))) (st3.val ok1 rv) (st3.owns_val ok1 ow1) rfl

theorem noLC {value : Expr} {tg : Option Expr} {n : Nat} (h : isLC value = false) : swapsWith value tg n env = pure false := by
  cases value <;> first | rfl | cases h
/-- a value that is a new object, or none -/
theorem fresh_cases {value : Expr} : (isFresh value = false ∧ isLC value = false) ∨ (∃ lp, value = .List [] lp) ∨ (∃ lp, value = .Dict [] [] lp) ∨ (∃ elt gs sc' cp, value = .ListComp elt gs sc' cp) ∨ ∀ T E sc ρ, evV T E sc ρ value = none := by
  cases value with
  | List es lp => cases es with
    | nil => exact .inr (.inl ⟨lp, rfl⟩)
    | cons _ _ => exact .inl ⟨rfl, rfl⟩
  | Dict ks vs lp => cases ks with
    | nil => cases vs with
      | nil => exact .inr (.inr (.inl ⟨lp, rfl⟩))
      | cons _ _ => exact .inl ⟨rfl, rfl⟩
    | cons _ _ => cases vs <;> exact .inl ⟨rfl, rfl⟩
  | ListComp elt gs sc' cp => exact .inr (.inr (.inr (.inl ⟨elt, gs, sc', cp, rfl⟩)))
  | SetComp _ _ _ _ => exact .inr (.inr (.inr (.inr fun _ _ _ _ => rfl)))
  | DictComp _ _ _ _ _ => exact .inr (.inr (.inr (.inr fun _ _ _ _ => rfl)))
  | _ => exact .inl ⟨rfl, rfl⟩
theorem own_if (b : Bool) (d : D) : (if (b && true) = true then B.own d else .val d) = ownB b d := by cases b <;> rfl

theorem asgRest_ok {m : Nat} {x : Str} {value : Expr} {p pos : Pos} {ow : Str → Bool} (G : Glo hb mg mb c P) (O : EvOk prog w hb P k lc (evN T (m + 1))) (O' : EvOk prog w hb P k lc (evN T m)) (hA : Room k A) (hM : ∀ a, WL sc env a → M a) (hMnew : (∃ x, ow x = true) → ∀ a, n0 ≤ a → M a) (hx : storable sc x = true)
    (h : asgRest (evN T (m + 1)) ow sc ρ x value = some (ρ', r)) : Exec prog w hb P lc M n0 sc env A (exec (.Assign [.Name x p] value pos) env) ρ ρ' r := by
  obtain ⟨d, h1, h2⟩ := obind_some h
  clear h
  cases h2
  rcases @fresh_cases value with ⟨hf, hl⟩ | ⟨lp, rfl⟩ | ⟨lp, rfl⟩ | ⟨elt, gs, sc', cp, rfl⟩ | hn
  · rw [hf, Bool.and_false]
    intro _ _ _ _
    exact asg_val O hA hM hx h1 (noLC hl)
  · rw [show isFresh (.List [] lp) = true from rfl, own_if]
    cases h1
    intro _ _ _ _
    exact asg_list (ow x) hM (fun e => hMnew ⟨x, e⟩) hx
  · rw [show isFresh (.Dict [] [] lp) = true from rfl, own_if]
    cases h1
    intro _ _ _ _
    exact asg_dict (ow x) G hM (fun e => hMnew ⟨x, e⟩) hx
  · rw [show isFresh (.ListComp elt gs sc' cp) = true from rfl, own_if]
    cases gs with
    | nil => first | exact nn h1 | cases h1
    | cons g gs =>
      intro _ _ _ _
      exact asg_comp (T := T) (ow x) O' hA hM (fun e => hMnew ⟨x, e⟩) hx h1
  · rw [show (evN T (m + 1)).v sc ρ value = none from hn _ _ _ _] at h1
    cases h1

theorem asgName_ok {m : Nat} {x : Str} {value : Expr} {p pos : Pos} {ow : Str → Bool} (G : Glo hb mg mb c P) (O : EvOk prog w hb P k lc (evN T (m + 1))) (O' : EvOk prog w hb P k lc (evN T m)) (hMt : ∀ f F, T.mt f = some F → MtOk prog w hb mg P k f F) (hA : Room k A) (hM : ∀ a, WL sc env a → M a) (hMnew : (∃ x, ow x = true) → ∀ a, n0 ≤ a → M a) (hx : storable sc x = true)
    (h : asgName T (evN T (m + 1)) ow sc ρ x value = some (ρ', r)) : Exec prog w hb P lc M n0 sc env A (exec (.Assign [.Name x p] value pos) env) ρ ρ' r := by
  unfold asgName at h
  cases hp : isPop value with
  | some z =>
    rw [hp] at h
    obtain ⟨q, _, hm, rfl⟩ := isPop_inv hp
    obtain ⟨ds, hds, h⟩ := obind_some h
    obtain ⟨hl, h⟩ := ite_some h
    obtain ⟨d, hd, h⟩ := obind_some h
    cases h
    intro _ _ _ _
    exact pop_ok hM hx hm (ownL_inv hds) hd (dec_t hl)
  | none =>
    rw [hp] at h
    cases hq : isMt value with
    | some z =>
      rw [hq] at h
      have h := ite_or h
      clear hp
      rcases h with ⟨_, h3⟩ | ⟨_, h⟩
      · obtain ⟨p', q, rr, rfl⟩ := isMt_inv hq
        obtain ⟨⟨ρ1, d⟩, h1, h2⟩ := obind_some h3
        cases h2
        intro _ _ _ _
        exact mt_asg G O hA hM hMt hx h1
      · intro _ _ _ _
        exact asgRest_ok G O O' hA hM hMnew hx h
    | none =>
      rw [hq] at h
      intro _ _ _ _
      exact asgRest_ok G O O' hA hM hMnew hx h

theorem exAsg_ok {m : Nat} {t value : Expr} {pos : Pos} {ow : Str → Bool} (G : Glo hb mg mb c P) (O : EvOk prog w hb P k lc (evN T (m + 1))) (O' : EvOk prog w hb P k lc (evN T m)) (hMt : ∀ f F, T.mt f = some F → MtOk prog w hb mg P k f F) (hA : Room k A) (hM : ∀ a, WL sc env a → M a) (hMnew : (∃ x, ow x = true) → ∀ a, n0 ≤ a → M a)
    (h : exAsg T (evN T (m + 1)) ow sc ρ value t = some (ρ', r)) : Exec prog w hb P lc M n0 sc env A (exec (.Assign [t] value pos) env) ρ ρ' r := by
  cases t with
  | Name x q =>
    obtain ⟨hx, h⟩ := ite_some h
    intro _ _ _ _
    exact asgName_ok G O O' hMt hA hM hMnew hx h
  | Tuple es n q =>
    obtain ⟨ht, h⟩ := ite_none h
    obtain ⟨d, hd, h⟩ := obind_some h
    obtain ⟨ρ1, h1, h2⟩ := obind_some h
    cases h2
    intro _ _ _ _
    exact unpack_ok O hA hM ht hd h1
  | Subscript b i q =>
    obtain ⟨x, hx, h⟩ := obind_some h
    obtain ⟨q', rfl⟩ := isNm_inv hx
    obtain ⟨d, hd, h⟩ := obind_some h
    obtain ⟨j, hj, h⟩ := obind_some h
    cases j with
    | int n =>
      obtain ⟨ds, hds, h⟩ := obind_some h
      obtain ⟨hc, h⟩ := ite_some h
      rw [Bool.and_eq_true, Bool.and_eq_true] at hc
      cases h
      intro _ _ _ _
      exact set_list O hA hM hd hj (ownL_inv hds) (dec_t hc.1.1) (dec_t hc.1.2) (dec_t hc.2)
    | str y =>
      obtain ⟨n, hn, h⟩ := obind_some h
      obtain ⟨kv, hkv, h⟩ := obind_some h
      obtain ⟨hc, h⟩ := ite_some h
      cases h
      intro _ _ _ _
      exact set_dict O hA hM (intOf_inv hn ▸ hd) hj (ownK_inv hkv) (dec_t hc)
    | _ => first | exact nn h | cases h
  | _ => first | exact nn h | cases h
theorem exAug_ok {t value : Expr} {pos : Pos} (O : EvOk prog w hb P k lc E) (hA : Room k A) (hM : ∀ a, WL sc env a → M a) (h : exAug E sc ρ value t = some (ρ', r)) : Exec prog w hb P lc M n0 sc env A (exec (.AugAssign t .Add value pos) env) ρ ρ' r := by
  cases t with
  | Name x q =>
    obtain ⟨hx, h⟩ := ite_some h
    obtain ⟨a, ha, h⟩ := obind_some h
    obtain ⟨d, hd, h⟩ := obind_some h
    obtain ⟨n, hn, h⟩ := obind_some h
    cases h
    intro _ _ _ _
    exact aug_ok O hA hM hx (valI_inv ha) (intOf_inv hn ▸ hd)
  | Subscript b i q =>
    obtain ⟨x, hx, h⟩ := obind_some h
    obtain ⟨q', rfl⟩ := isNm_inv hx
    obtain ⟨kv, hkv, h⟩ := obind_some h
    obtain ⟨j, hj, h⟩ := obind_some h
    obtain ⟨y, hy, h⟩ := obind_some h
    obtain ⟨d, hd, h⟩ := obind_some h
    obtain ⟨n, hn, h⟩ := obind_some h
    obtain ⟨a, ha, h⟩ := obind_some h
    obtain ⟨hc, h⟩ := ite_some h
    cases h
    intro _ _ _ _
    exact aug_dict O hA hM (intOf_inv hn ▸ hd) (strOf_inv hy ▸ hj) (ownK_inv hkv) ha (dec_t hc)
  | _ => first | exact nn h | cases h
theorem exCall_ok {e : Expr} {pos : Pos} (G : Glo hb mg mb c P) (O : EvOk prog w hb P k lc E) (hMt : ∀ f F, T.mt f = some F → MtOk prog w hb mg P k f F) (hA : Room k A) (hM : ∀ a, WL sc env a → M a) (h : exCall T E sc ρ e = some (ρ', r)) : Exec prog w hb P lc M n0 sc env A (exec (.Expr e pos) env) ρ ρ' r := by
  cases e with
  | Call f args ks p =>
    cases f with
    | Attribute b nm ap =>
      obtain ⟨hk, h⟩ := ite_some h
      cases isEmpty_inv hk
      obtain ⟨x, hx, h⟩ := obind_some h
      obtain ⟨q', rfl⟩ := isNm_inv hx
      obtain ⟨a, ha, h⟩ := obind_some h
      cases one_inv ha
      obtain ⟨hc, h⟩ := ite_some h
      rw [Bool.and_eq_true, beq_iff_eq] at hc
      obtain ⟨d, hd, h⟩ := obind_some h
      obtain ⟨ds, hds, h⟩ := obind_some h
      obtain ⟨hl, h⟩ := ite_some h
      cases h
      rw [hc.1]
      intro _ _ _ _
      exact append_ok O hA hM hc.2 hd (ownL_inv hds) (dec_t hl)
    | Name f q' =>
      obtain ⟨hk, h⟩ := ite_some h
      cases isEmpty_inv hk
      obtain ⟨as, ha, h⟩ := obind_some h
      obtain ⟨y, hy, h⟩ := obind_some h
      obtain ⟨⟨ρ1, d⟩, h1, h⟩ := obind_some h
      obtain ⟨_, hn, h⟩ := obind_some h
      cases h
      rw [unc_inv ha]
      obtain ⟨q'', e⟩ := isNm_inv hy
      rw [e]
      intro _ _ _ _
      exact mt_expr G O hA hM hMt h1
    | _ => first | exact nn h | cases h
  | _ => first | exact nn h | cases h

theorem exS_ok {m : Nat} {st : Stmt} {X : Bool → Scope → Rho → List Stmt → Option (Rho × R)} {fz : Bool} {ow : Str → Bool} (G : Glo hb mg mb c P) (hT : ∀ f F, T.pure f = some F → FnOk prog w hb mg P k f F) (hMt : ∀ f F, T.mt f = some F → MtOk prog w hb mg P k f F) (hlam : T.lam = true → lc = some c) (hA : Room k A) (hM : ∀ a, WL sc env a → M a) (hMnew : (∃ x, ow x = true) → ∀ a, n0 ≤ a → M a) (hfz : fz = true → ∀ b, M b → n0 ≤ b)
    (hX : ∀ fz ρ ρ' r body (M : Addr → Prop) (n0 : Nat), X fz sc ρ body = some (ρ', r) → (∀ a, WL sc env a → M a) → ((∃ x, ow x = true) → ∀ a, n0 ≤ a → M a) → (fz = true → ∀ b, M b → n0 ≤ b) → Exec prog w hb P lc M n0 sc env A (execs body env) ρ ρ' r)
    (h : exS T (evN T (m + 1)) X fz ow sc ρ st = some (ρ', r)) : Exec prog w hb P lc M n0 sc env A (exec st env) ρ ρ' r := by
  have O := @evN_ok prog w hb mg mb c P k lc T G hT hlam (m + 1)
  have O' := @evN_ok prog w hb mg mb c P k lc T G hT hlam m
  cases st with
  | Return e p =>
    obtain ⟨e, rfl, h⟩ := obind_some h
    rcases ite_or h with ⟨hf, h⟩ | ⟨_, h⟩
    · obtain ⟨d, h1, h2⟩ := obind_some h
      cases h2
      intro _ _ _ _
      exact ret_fz O hA hM (hfz hf) h1
    · obtain ⟨d, h1, h2⟩ := obind_some h
      cases h2
      intro _ _ _ _
      exact ret_ok O hA hM h1
  | Assign ts v p =>
    obtain ⟨t, ht, h⟩ := obind_some h
    rw [one_inv ht]
    intro _ _ _ _
    exact exAsg_ok G O O' hMt hA hM hMnew h
  | AugAssign t op v p =>
    obtain ⟨ho, h⟩ := ite_some h
    rw [isAdd_inv ho]
    intro _ _ _ _
    exact exAug_ok O hA hM h
  | If t b o p =>
    obtain ⟨v, hv, h⟩ := obind_some h
    intro _ _ _ _
    exact if_ok (b := v) O hA hM hv (hX _ _ _ _ _ _ _ h hM hMnew hfz)
  | For t i b o p =>
    obtain ⟨ho, h⟩ := ite_some h
    rw [isEmpty_inv ho]
    obtain ⟨hc, h⟩ := ite_none h
    obtain ⟨ds, hd, h⟩ := obind_some h
    rw [Bool.or_eq_false_iff, Bool.not_eq_false'] at hc
    intro _ _ _ _
    exact for_ok (W := ∃ x, ow x = true) O hA hM hMnew hc.1 hc.2 hd (fun M' n1 q1 q2 ρ ρ' r e => hX false ρ ρ' r _ M' n1 e q1 q2 fun e => nomatch e) h
  | While t b o p =>
    obtain ⟨ho, h⟩ := ite_some h
    rw [isEmpty_inv ho]
    intro _ _ _ _
    exact while_ok O hA hM (fun ρ ρ' r e => hX _ ρ ρ' r _ _ _ e hM hMnew hfz) h
  | Expr e p =>
    intro _ _ _ _
    exact exCall_ok G O hMt hA hM h
  | Continue p => cases h; intro _ _ _ _; exact cont_ok
  | Break p => cases h; intro _ _ _ _; exact brk_ok
  | _ => first | exact nn h | cases h

theorem exN_ok {m : Nat} {ow : Str → Bool} (G : Glo hb mg mb c P) (hT : ∀ f F, T.pure f = some F → FnOk prog w hb mg P k f F) (hMt : ∀ f F, T.mt f = some F → MtOk prog w hb mg P k f F) (hlam : T.lam = true → lc = some c) (hA : Room k A) :
    ∀ n fz (ρ ρ' : Rho) r body (M : Addr → Prop) (n0 : Nat), exN T (evN T (m + 1)) ow n fz sc ρ body = some (ρ', r) → (∀ a, WL sc env a → M a) → ((∃ x, ow x = true) → ∀ a, n0 ≤ a → M a) → (fz = true → ∀ b, M b → n0 ≤ b) → Exec prog w hb P lc M n0 sc env A (execs body env) ρ ρ' r
  | 0, fz, ρ, ρ', r, body, M, n0, h, _, _, _ => by cases h
  | n + 1, fz, ρ, ρ', r, body, M, n0, h, hM, hMnew, hfz => exGo_ok (fun ρ st ρ' r e => exS_ok G hT hMt hlam hA hM hMnew hfz (fun fz ρ ρ' r body M n0 e q1 q2 q3 => exN_ok G hT hMt hlam hA n fz ρ ρ' r body M n0 e q1 q2 q3) e) h
end
end Mine

namespace Mine
open PySem

theorem ofString_inj' {a b : String} (h : Str.ofString a = Str.ofString b) : a = b := by
  rw [Str.ofString_eq_toList, Str.ofString_eq_toList] at h
  injection h with h
  have h2 : a.toList.map Char.toNat = b.toList.map Char.toNat := by simpa using h
  have inj : Function.Injective Char.toNat := fun x y e => Char.ext (UInt32.toNat.inj e)
  have h3 := (List.map_inj_right (f := Char.toNat) fun x y e => inj e).mp h2
  exact String.toList_inj.mp h3
theorem ofString_beq (a b : String) : (Str.ofString a == Str.ofString b) = (a == b) := by
  by_cases h : a = b
  · subst h; simp
  · have : Str.ofString a ≠ Str.ofString b := fun e => h (ofString_inj' e)
    rw [beq_eq_false_iff_ne.mpr this, beq_eq_false_iff_ne.mpr h]

noncomputable def fnsOf : List (Str × List Str × Scope × List Stmt) := Challenge.pw_mj0125_01.main.body.filterMap fun
  | .FunctionDef n a b _ _ _ sc _ _ _ => some (n, a.args.map (·.arg), sc, b)
  | _ => none
noncomputable def psOf (f : String) : List Str := ((fnsOf.lookup (Str.ofString f)).map (·.1)).getD []
noncomputable def scOf (f : String) : Scope := ((fnsOf.lookup (Str.ofString f)).map (·.2.1)).getD default
noncomputable def bdOf (f : String) : List Stmt := ((fnsOf.lookup (Str.ofString f)).map (·.2.2)).getD []

noncomputable def runP (T : Tabs) (ow : Str → Bool) (ps : List Str) (sc : Scope) (body : List Stmt) (args : List D) : Option D :=
  if args.length = ps.length then (match exN T (evN T 12) ow 8 true sc (rho0 sc (ps.zip (args.map .val))) body with
    | some (_, .ret d) => some d
    | some (_, .next) => some .none
    | _ => none) else none
noncomputable def runM (T : Tabs) (p : Str) (ps : List Str) (sc : Scope) (body : List Stmt) (ds args : List D) : Option (List D × D) :=
  if args.length = ps.length then (match exN T (evN T 12) (fun _ => false) 8 false sc (rho0 sc ((p, .own (.list ds)) :: ps.zip (args.map .val))) body with
    | some (ρ, .ret d) => (match ρ.lookup p with
      | some (.own (.list ds')) => some (ds', d)
      | _ => none)
    | some (ρ, .next) => (match ρ.lookup p with
      | some (.own (.list ds')) => some (ds', .none)
      | _ => none)
    | _ => none) else none

end Mine

namespace Mine
open PySem PySem.W PyProof.Rows PySem.Calls PySem.Spec

/-- a function of the text, as it stands at the base -/
noncomputable def FnAt (hb : Heap) (mg : Str → Option Value) (f : Str) (ps : List Str) (sc : Scope) (body : List Stmt) (lc : Option Addr) : Prop :=
  ∃ a o fd, mg f = some (.ref a) ∧ (f == ("__debug__" : Str)) = false ∧ hb.get? a = some o ∧ o.data = .func fd ∧ hb.CodeRec fd.code fd.qualname ∧ fd.body = .stmts body ∧ fd.scope = sc ∧ fd.closure = [] ∧ fd.globals = mainGlobals ∧ fd.builtins = builtinsNs ∧
    (∀ c, lc = some c → fd.code = .ref c ∧ fd.qualname ++ ".<locals>." = lamEnvQual) ∧ (∀ vs : List Value, vs.length = ps.length → bindArgs fd ⟨vs, []⟩ = pure (ps.zip vs))

noncomputable def scChk (sc : Scope) (ps : List Str) : Bool := scOk sc && !sc.isCoroutine && !sc.isGenerator && nodupS ps && sc.names.all (fun p => p.2 != .free) && ps.all (fun x => storable sc x)

section
variable {prog : Program} {w : World} {hb : Heap} {mg mb : Str → Option Value} {c P : Addr} {k : Nat} {lc : Option Addr} {T : Tabs} {E : Ev} {sc sc' : Scope} {env : Env} {A : Around} {ρ ρ' : Rho} {r : R} {M M' : Addr → Prop} {n0 n1 : Nat} {z z' z'' : Z} {h h' h'' : Heap} {s : Shared}

noncomputable def ValB (prog : Program) (w : World) (P L : Addr) (z : Z) (h : Heap) (v : Value) : B → Prop
  | .unb => True
  | .val d => Rep prog w z v d
  | .own d => ∃ l, v = .ref l ∧ l ≠ L ∧ l ≠ P ∧ OwnAt prog w z h l d

inductive BindsR (prog : Program) (w : World) (P L : Addr) (z : Z) (h : Heap) : List (Str × Value) → List (Str × B) → Prop
  | nil : BindsR prog w P L z h [] []
  | cons {x : Str} {v : Value} {b : B} {vs : List (Str × Value)} {bs : List (Str × B)} : ValB prog w P L z h v b → BindsR prog w P L z h vs bs → BindsR prog w P L z h ((x, v) :: vs) ((x, b) :: bs)

theorem BindsR.lookup {L : Addr} {vs : List (Str × Value)} {bs : List (Str × B)} (r : BindsR prog w P L z h vs bs) {x : Str} {b : B} (e : bs.lookup x = some b) : ∃ v, vs.lookup x = some v ∧ ValB prog w P L z h v b := by
  induction r with
  | nil => cases e
  | @cons y v b' vs bs hv hr ih =>
    rw [List.lookup_cons] at e ⊢
    cases hxy : x == y with
    | true => rw [hxy] at e; cases e; exact ⟨v, rfl, hv⟩
    | false => rw [hxy] at e; exact ih e
theorem BindsR.zip {L : Addr} : ∀ {ps : List Str} {vs : List Value} {ds : List D}, Reps prog w z vs ds → BindsR prog w P L z h (ps.zip vs) (ps.zip (ds.map B.val))
  | [], _, _, _ => by simp only [List.zip_nil_left]; exact .nil
  | p :: ps, _, _, .nil => by simp only [List.zip_nil_right, List.map_nil]; exact .nil
  | p :: ps, _, _, .cons x r => by simp only [List.zip_cons_cons, List.map_cons]; exact .cons x (BindsR.zip r)

theorem bindL_not {kd : Str → Option NameKind} : ∀ {bs : List (Str × Value)} {m : Str → Option Value} {x : Str}, x ∉ bs.map (·.1) → bindL kd bs m x = m x
  | [], m, x, _ => rfl
  | (n, v) :: r, m, x, h => by
    simp only [List.map_cons, List.mem_cons, not_or] at h
    unfold bindL
    rw [bindL_not h.2]
    split
    · exact if_neg h.1
    · rfl
theorem bindC_not {kd : Str → Option NameKind} : ∀ {bs : List (Str × Value)} {m : Str → Option Value} {x : Str}, x ∉ bs.map (·.1) → bindC kd bs m x = m x
  | [], m, x, _ => rfl
  | (n, v) :: r, m, x, h => by
    simp only [List.map_cons, List.mem_cons, not_or] at h
    unfold bindC
    rw [bindC_not h.2]
    split
    · rfl
    · exact if_neg h.1
theorem nodupS_cons {x : Str} {r : List Str} (h : nodupS (x :: r) = true) : x ∉ r ∧ nodupS r = true := by
  simp only [nodupS, Bool.and_eq_true, Bool.not_eq_true'] at h
  refine ⟨fun m => ?_, h.2⟩
  have := h.1
  rw [List.contains_eq_mem] at this
  simp [m] at this
theorem bindL_some {kd : Str → Option NameKind} : ∀ {bs : List (Str × Value)} {m : Str → Option Value} {x : Str} {v : Value}, nodupS (bs.map (·.1)) = true → kd x = some .local → bs.lookup x = some v → bindL kd bs m x = some v
  | (n, u) :: r, m, x, v, hn, hk, e => by
    obtain ⟨q1, q2⟩ := nodupS_cons hn
    rw [List.lookup_cons] at e
    unfold bindL
    cases hxn : x == n with
    | true =>
      rw [hxn] at e; cases e
      have := beq_iff_eq.mp hxn
      subst this
      rw [bindL_not q1, if_pos hk, if_pos rfl]
    | false => rw [hxn] at e; exact bindL_some q2 hk e
theorem bindC_some {kd : Str → Option NameKind} : ∀ {bs : List (Str × Value)} {m : Str → Option Value} {x : Str} {v : Value}, nodupS (bs.map (·.1)) = true → kd x ≠ some .local → bs.lookup x = some v → bindC kd bs m x = some v
  | (n, u) :: r, m, x, v, hn, hk, e => by
    obtain ⟨q1, q2⟩ := nodupS_cons hn
    rw [List.lookup_cons] at e
    unfold bindC
    cases hxn : x == n with
    | true =>
      rw [hxn] at e; cases e
      have := beq_iff_eq.mp hxn
      subst this
      rw [bindC_not q1, if_neg hk, if_pos rfl]
    | false => rw [hxn] at e; exact bindC_some q2 hk e

theorem rho0_some {bs : List (Str × B)} {x : Str} {b : B} (h : (rho0 sc bs).lookup x = some b) : ∃ kd, (x, kd) ∈ sc.names ∧ (kd = .local ∨ kd = .cell) ∧ b = (bs.lookup x).getD .unb := by
  have m := mem_of_lookup' h
  unfold rho0 at m
  obtain ⟨p, hp, e⟩ := List.mem_filterMap.mp m
  obtain ⟨y, kd⟩ := p
  cases kd <;> simp only [Option.some.injEq, Prod.mk.injEq, reduceCtorEq] at e
  · obtain ⟨rfl, rfl⟩ := e; exact ⟨_, hp, .inl rfl, rfl⟩
  all_goals first
    | (obtain ⟨rfl, rfl⟩ := e; exact ⟨_, hp, .inr rfl, rfl⟩)
    | cases e

/-- the frame of a call is well at its start -/
theorem start_ok {fd : FuncData} {a : Addr} {ps : List Str} {vs : List (Str × Value)} {bs : List (Str × B)} {s₁ : Shared} (hs : scChk sc ps = true) (hsc : fd.scope = sc) (hg : fd.globals = mainGlobals) (hbi : fd.builtins = builtinsNs) (hl : ∀ c, lc = some c → fd.code = .ref c ∧ fd.qualname ++ ".<locals>." = lamEnvQual)
    (X : InCallC s (callEnvC fd s.heap.objs.size a).locals (bindL (callEnvC fd s.heap.objs.size a).kindOf vs fun _ => none) (callEnvC fd s.heap.objs.size a).cells (bindC (callEnvC fd s.heap.objs.size a).kindOf vs fun _ => none) s₁)
    (on : z.on s.heap) (tab : TabOk P z s.heap) (base : ∀ b o, hb.get? b = some o → z b = some o) (hvs : vs.map (·.1) = ps) (hbr : BindsR prog w P s.heap.objs.size z s.heap vs bs) :
    Ok prog w hb P lc z (callEnvC fd s.heap.objs.size a) sc (rho0 sc bs) s₁.heap := by
  subst hsc
  have keep := X.toInCall.keep
  simp only [scChk, Bool.and_eq_true, Bool.not_eq_true', List.all_eq_true] at hs
  obtain ⟨⟨⟨⟨⟨hsc, hco⟩, hge⟩, hnd⟩, hfr⟩, hst⟩ := hs
  obtain ⟨hk, hnm, hdup⟩ := scOk_of hsc
  have hcells : ∀ x a', (callEnvC fd s.heap.objs.size a).cells.lookup x = some a' → s.heap.objs.size < a' := fun x a' e => X.above x a' (mem_of_lookup e)
  have nofree : ∀ x, fd.scope.names.lookup x ≠ some .free := fun x e => by
    have := hfr _ (mem_of_lookup' e)
    simp at this
  refine ⟨fun b o e => keep b o (on b o e), tab.keep (fun o e => keep _ o e) (fun _ _ e => e) (fun _ _ e => .inl e), ⟨_, X.toInCall.ns⟩, on.none_of_size (Nat.le_refl _), base, ⟨hk, fun x e => e, fun x e => ⟨e, ?_⟩, fun x e => absurd e (nofree x), fun x e => e, hg, hbi, hl⟩, fun x a' h1 h2 => ⟨⟨_, X.cell x a' h2⟩, on.none_of_size (Nat.le_of_lt (hcells x a' h2)), fun y b hy h3 q => ?_⟩, fun x a' e => absurd e (nofree x), fun x b e => ?_, fun x b e => ?_⟩
  · obtain ⟨a', m⟩ := cellsFrom_has fd.scope.names (s.heap.objs.size + 1) [] x (.inl (mem_of_lookup' e))
    exact lookup_of_mem m
  · subst q
    exact hy (name_of_addr X.apart (mem_of_lookup h3) (mem_of_lookup h2))
  · obtain ⟨kd, m, _⟩ := rho0_some e
    exact hnm _ m
  · obtain ⟨kd, m, hkd, rfl⟩ := rho0_some e
    cases hb' : bs.lookup x with
    | none => trivial
    | some b =>
      obtain ⟨v, hv, hvb⟩ := hbr.lookup hb'
      have hlk := nodup_lookup hdup m
      have ld : Loads (callEnvC fd s.heap.objs.size a) s₁.heap x v := by
        rcases hkd with rfl | rfl
        · exact .inl ⟨hlk, _, X.toInCall.ns, bindL_some (by rw [hvs]; exact hnd) hlk hv⟩
        · obtain ⟨a', m'⟩ := cellsFrom_has fd.scope.names (s.heap.objs.size + 1) [] x (.inl m)
          obtain ⟨a'', e''⟩ := lookup_of_mem m'
          refine .inr ⟨.inl hlk, a'', e'', ?_⟩
          have := X.cell x a'' e''
          rw [bindC_some (by rw [hvs]; exact hnd) (by show fd.scope.names.lookup x ≠ _; rw [hlk]; exact fun q => nomatch q) hv] at this
          exact this
      cases b with
      | unb => trivial
      | val d => exact ⟨v, ld, hvb⟩
      | own d =>
        obtain ⟨l, rfl, q1, q2, oa⟩ := hvb
        refine ⟨l, ld, q1, q2, ?_⟩
        cases oa with
        | list e1 rs => exact .list (keep _ _ e1) rs
        | dict e1 y e2 rs => exact .dict (keep _ _ e1) y e2 rs

theorem Room.deeper (hA : Room (k + 1) A) (env : Env) : Room k (A.deeper env) := by
  obtain ⟨h1, h2, h3⟩ := hA
  refine ⟨h1, ?_, ?_⟩
  · show A.depth + 1 + k < _; exact ar157 h2
  · show A.units + 3 + _ < _; exact ar156 h3
theorem Room.less (hA : Room (k + 1) A) : Room k A := ⟨hA.handled, by have := hA.depth; exact ar155 this, by have := hA.units; exact ar154 this⟩
theorem FnOk.up {f : Str} {F : List D → Option D} (h : FnOk prog w hb mg P k f F) : FnOk prog w hb mg P (k + 1) f F := by
  obtain ⟨a, o, fd, h1, h2, h3, h4, sp⟩ := h
  exact ⟨a, o, fd, h1, h2, h3, h4, fun A s z vs ds d Q E hA => sp A s z vs ds d Q E hA.less⟩
theorem FnOk.mono {f : Str} {F F' : List D → Option D} (h : FnOk prog w hb mg P k f F) (hF : ∀ ds d, F' ds = some d → F ds = some d) : FnOk prog w hb mg P k f F' := by
  obtain ⟨a, o, fd, h1, h2, h3, h4, sp⟩ := h
  exact ⟨a, o, fd, h1, h2, h3, h4, fun A s z vs ds d Q E hA on tab base rs e => sp A s z vs ds d Q E hA on tab base rs (hF _ _ e)⟩
end

section
variable {prog : Program} {w : World} {hb : Heap} {mg mb : Str → Option Value} {c P : Addr} {k : Nat} {lc : Option Addr} {T : Tabs} {sc : Scope}

theorem fn_sound {f : Str} {ps : List Str} {body : List Stmt} {ow : Str → Bool} (G : Glo hb mg mb c P) (hf : FnAt hb mg f ps sc body lc) (hs : scChk sc ps = true) (hT : ∀ f F, T.pure f = some F → FnOk prog w hb mg P k f F) (hMt : ∀ f F, T.mt f = some F → MtOk prog w hb mg P k f F) (hlam : T.lam = true → lc = some c) :
    FnOk prog w hb mg P (k + 1) f (runP T ow ps sc body) := by
  obtain ⟨a, o, fd, h1, h2, h3, h4, h5, h6, h7, h8, h9, h10, h11, h12⟩ := hf
  refine ⟨a, o, fd, h1, h2, h3, h4, fun A s z vs ds d Q Ex hA on tab base rs hF hQ => ?_⟩
  unfold runP at hF
  split at hF
  rotate_left
  · cases hF
  rename_i hlen
  have hlv : vs.length = ps.length := rs.length.trans hlen
  have hsc := hs
  simp only [scChk, Bool.and_eq_true, Bool.not_eq_true', List.all_eq_true] at hsc
  obtain ⟨⟨⟨⟨⟨hsk, hco⟩, hge⟩, hnd⟩, hfr⟩, hst⟩ := hsc
  have inb : ∀ b o, hb.get? b = some o → s.heap.get? b = some o := fun b o e => on b o (base b o e)
  have hmap : (ps.zip vs).map (·.1) = ps := by rw [List.map_fst_zip]; exact ar153 hlv
  have hkind : ∀ x ∈ ps.zip vs, fd.scope.names.lookup x.1 = some .local ∨ (fd.scope.names.lookup x.1 = some .cell ∧ ((cellsFrom (s.heap.objs.size + 1) fd.scope.names []).lookup x.1).isSome = true) := fun x m => by
    have hx : x.1 ∈ ps := by rw [← hmap]; exact List.mem_map_of_mem m
    have := hst _ hx
    rw [h7]
    unfold storable at this
    simp only [Bool.or_eq_true, beq_iff_eq] at this
    refine this.imp_right fun q => ⟨q, ?_⟩
    obtain ⟨a', m'⟩ := cellsFrom_has sc.names (s.heap.objs.size + 1) [] x.1 (.inl (mem_of_lookup' q))
    obtain ⟨a'', e''⟩ := lookup_of_mem m'
    rw [e'']; rfl
  refine wpAny_call (codeAny_call_cells (Nat.lt_of_le_of_lt (Nat.le_add_right _ _) hA.depth) (inb _ _ h3) h4 (G.nolimit.keeps inb) (h5.keeps inb) h6 (h12 vs hlv) h8 hkind (fun s₁ X => ?_) (by rw [h7]; exact hco) (by rw [h7]; exact hge) (by rw [h7]; exact (scOk_of hsk).1))
  have ok := start_ok (lc := lc) hs h7 h9 h10 h11 X on tab base hmap (.zip rs)
  obtain ⟨hh1, tk1, rfl, keep⟩ := X.done
  let M : Addr → Prop := fun b => s.heap.objs.size ≤ b
  have hWL : ∀ b, WL sc (callEnvC fd s.heap.objs.size a) b → M b := fun b q => by
    rcases q with rfl | ⟨x, _, q⟩
    · exact Nat.le_refl _
    · exact Nat.le_of_lt (X.above x b (mem_of_lookup q))
  have no : NoOwn (rho0 sc (ps.zip (ds.map B.val))) := fun x d e => by
    obtain ⟨kd, m, _, q⟩ := rho0_some e
    cases hb' : (ps.zip (ds.map B.val)).lookup x with
    | none => rw [hb'] at q; cases q
    | some b =>
      rw [hb'] at q
      have m2 := (List.of_mem_zip (mem_of_lookup' hb')).2
      obtain ⟨d', _, e'⟩ := List.mem_map.mp m2
      subst e'
      cases q
  have size1 : s.heap.objs.size ≤ hh1.objs.size := Nat.le_of_lt X.toInCall.ns.lt
  have fin : ∀ {ρ' r} {f : Flow} {z' h'} (tk : Nat) {v : Value}, Done prog w hb P lc M s.heap.objs.size sc (callEnvC fd s.heap.objs.size a) z hh1 ρ' r f z' h' → Rep prog w z' v d → Q v { s with heap := h', toks := tk } := fun {ρ' r f z' h'} tk {v} dn rv => by
    refine hQ v z' h' tk ⟨dn.weak.le, dn.weak.on, fun b o _ hP e => dn.weak.keep b o (fun q => absurd (Heap.lt_size e) (Nat.not_lt.mpr q)) hP (keep b o e), fun m n => ?_, Nat.le_trans size1 dn.weak.size, dn.weak.new, fun t => dn.weak.tab (t.keep (fun o e => keep _ o e) (fun _ _ e => e) fun _ _ e => .inl e)⟩ rv
    exact absurd rfl (ns_ne tab n)
  split at hF
  · rename_i ρ' d' hex
    cases hF
    refine exN_ok (m := 11) G hT hMt hlam (hA.deeper _) 8 true _ ρ' _ body M s.heap.objs.size hex hWL (fun _ a q => q) (fun _ b q => q) (s := { s with heap := hh1, toks := tk1 }) size1 ok no.owns fun f z' h' tk dn => ?_
    obtain ⟨v, rfl, rv⟩ := dn.flow
    exact fin tk dn rv
  · rename_i ρ' hex
    cases hF
    refine exN_ok (m := 11) G hT hMt hlam (hA.deeper _) 8 true _ ρ' _ body M s.heap.objs.size hex hWL (fun _ a q => q) (fun _ b q => q) (s := { s with heap := hh1, toks := tk1 }) size1 ok no.owns fun f z' h' tk dn => ?_
    cases (show f = .next from dn.flow)
    exact fin tk dn .none
  · cases hF

theorem mt_sound {f p : Str} {ps : List Str} {body : List Stmt} (G : Glo hb mg mb c P) (hf : FnAt hb mg f (p :: ps) sc body lc) (hs : scChk sc (p :: ps) = true) (hT : ∀ f F, T.pure f = some F → FnOk prog w hb mg P k f F) (hMt : ∀ f F, T.mt f = some F → MtOk prog w hb mg P k f F) (hlam : T.lam = true → lc = some c) :
    MtOk prog w hb mg P (k + 1) f (runM T p ps sc body) := by
  obtain ⟨a, o, fd, h1, h2, h3, h4, h5, h6, h7, h8, h9, h10, h11, h12⟩ := hf
  refine ⟨a, o, fd, h1, h2, h3, h4, fun A s z l vs ds as ds' d Q Ex hA on tab base hz hlP oa rs hF hQ => ?_⟩
  unfold runM at hF
  split at hF
  rotate_left
  · cases hF
  rename_i hlen
  have hlv : (Value.ref l :: vs).length = (p :: ps).length := by rw [List.length_cons, List.length_cons, rs.length, hlen]
  have hsc := hs
  simp only [scChk, Bool.and_eq_true, Bool.not_eq_true', List.all_eq_true] at hsc
  obtain ⟨⟨⟨⟨⟨hsk, hco⟩, hge⟩, hnd⟩, hfr⟩, hst⟩ := hsc
  have inb : ∀ b o, hb.get? b = some o → s.heap.get? b = some o := fun b o e => on b o (base b o e)
  have hmap : ((p :: ps).zip (Value.ref l :: vs)).map (·.1) = p :: ps := by rw [List.map_fst_zip]; exact ar153 hlv
  have hkind : ∀ x ∈ (p :: ps).zip (Value.ref l :: vs), fd.scope.names.lookup x.1 = some .local ∨ (fd.scope.names.lookup x.1 = some .cell ∧ ((cellsFrom (s.heap.objs.size + 1) fd.scope.names []).lookup x.1).isSome = true) := fun x m => by
    have hx : x.1 ∈ p :: ps := by rw [← hmap]; exact List.mem_map_of_mem m
    have := hst _ hx
    rw [h7]
    unfold storable at this
    simp only [Bool.or_eq_true, beq_iff_eq] at this
    refine this.imp_right fun q => ⟨q, ?_⟩
    obtain ⟨a', m'⟩ := cellsFrom_has sc.names (s.heap.objs.size + 1) [] x.1 (.inl (mem_of_lookup' q))
    obtain ⟨a'', e''⟩ := lookup_of_mem m'
    rw [e'']; rfl
  refine wpAny_call (codeAny_call_cells (Nat.lt_of_le_of_lt (Nat.le_add_right _ _) hA.depth) (inb _ _ h3) h4 (G.nolimit.keeps inb) (h5.keeps inb) h6 (h12 _ hlv) h8 hkind (fun s₁ X => ?_) (by rw [h7]; exact hco) (by rw [h7]; exact hge) (by rw [h7]; exact (scOk_of hsk).1))
  obtain ⟨ol, eol⟩ := oa.get
  have hlt : l < s.heap.objs.size := Heap.lt_size eol
  have ok := start_ok (lc := lc) hs h7 h9 h10 h11 X on tab base hmap (.cons (x := p) (b := .own (.list ds)) ⟨l, rfl, Nat.ne_of_lt hlt, hlP, oa⟩ (.zip rs))
  obtain ⟨hh1, tk1, rfl, keep⟩ := X.done
  let M : Addr → Prop := fun b => WL sc (callEnvC fd s.heap.objs.size a) b ∨ b = l
  have hWLn : ∀ b, WL sc (callEnvC fd s.heap.objs.size a) b → s.heap.objs.size ≤ b := fun b q => by
    rcases q with rfl | ⟨x, _, q⟩
    · exact Nat.le_refl _
    · exact Nat.le_of_lt (X.above x b (mem_of_lookup q))
  have ow : Owns M (rho0 sc ((p, .own (.list ds)) :: ps.zip (as.map B.val))) z (callEnvC fd s.heap.objs.size a) hh1 := by
    have only : ∀ x d', (rho0 sc ((p, .own (.list ds)) :: ps.zip (as.map B.val))).lookup x = some (.own d') → x = p := fun x d' e => by
      obtain ⟨kd, m, _, q⟩ := rho0_some e
      rw [List.lookup_cons] at q
      cases hxp : x == p with
      | true => exact beq_iff_eq.mp hxp
      | false =>
        rw [hxp] at q
        dsimp only at q
        cases hb' : (ps.zip (as.map B.val)).lookup x with
        | none => rw [hb'] at q; cases q
        | some b =>
          rw [hb'] at q
          have m2 := (List.of_mem_zip (mem_of_lookup' hb')).2
          obtain ⟨d', _, e'⟩ := List.mem_map.mp m2
          subst e'
          cases q
    intro x d' a' e ld
    have hx := only x d' e
    subst hx
    have : a' = l := by
      obtain ⟨kd, m, hkd, q⟩ := rho0_some e
      rw [List.lookup_cons, beq_self_eq_true] at q
      cases q
      have hlk := nodup_lookup (scOk_of hsk).2.2 m
      have hlz : ((x :: ps).zip (Value.ref l :: vs)).lookup x = some (.ref l) := by rw [List.zip_cons_cons, List.lookup_cons, beq_self_eq_true]
      have ld' : Loads (callEnvC fd s.heap.objs.size a) hh1 x (.ref l) := by
        rcases hkd with rfl | rfl
        · exact .inl ⟨by show fd.scope.names.lookup x = _; rw [h7]; exact hlk, _, X.toInCall.ns, bindL_some (by rw [hmap]; exact hnd) (by show fd.scope.names.lookup x = _; rw [h7]; exact hlk) hlz⟩
        · obtain ⟨a1, m1⟩ := cellsFrom_has fd.scope.names (s.heap.objs.size + 1) [] x (.inl (by rw [h7]; exact m))
          obtain ⟨a2, e2⟩ := lookup_of_mem m1
          refine .inr ⟨.inl (by show fd.scope.names.lookup x = _; rw [h7]; exact hlk), a2, e2, ?_⟩
          have := X.cell x a2 e2
          rw [bindC_some (by rw [hmap]; exact hnd) (by show fd.scope.names.lookup x ≠ _; rw [h7, hlk]; exact fun q => nomatch q) hlz] at this
          exact this
      cases ld'.unique ld
      rfl
    subst this
    exact ⟨hz, .inr rfl, fun y d2 a2 hy e2 _ => absurd (only y d2 e2) hy⟩
  have size1 : s.heap.objs.size ≤ hh1.objs.size := Nat.le_of_lt X.toInCall.ns.lt
  have fin : ∀ {ρ' : Rho} {r : R} {f : Flow} {z' : Z} {h' : Heap} (tk : Nat) {v : Value}, Done prog w hb P lc M s.heap.objs.size sc (callEnvC fd s.heap.objs.size a) z hh1 ρ' r f z' h' → ρ'.lookup p = some (.own (.list ds')) → Rep prog w z' v d → Q v { s with heap := h', toks := tk } := fun {ρ' r f z' h'} tk {v} dn hp rv => by
    refine hQ v z' h' tk ⟨dn.weak.le, dn.weak.on, fun b o hbl hP e => dn.weak.keep b o (fun q => q.elim (fun q => absurd (Heap.lt_size e) (Nat.not_lt.mpr (hWLn b q))) hbl) hP (keep b o e), Nat.le_trans size1 dn.weak.size, dn.weak.new, fun t => dn.weak.tab (t.keep (fun o e => keep _ o e) (fun _ _ e => e) fun _ _ e => .inl e)⟩ ?_ rv
    obtain ⟨a', ld, q1, q2, oa'⟩ := dn.ok.vars p _ hp
    rcases (dn.owns p _ a' hp ld).2.1 with q | q
    · exfalso
      rcases q with q | ⟨x, q3, q4⟩
      · exact q1 q
      · obtain ⟨⟨v, hv⟩, _⟩ := dn.ok.cells x a' q3 q4
        exact oa'.ne_cell hv rfl
    · subst q; exact oa'
  split at hF
  · rename_i ρ' d' hex
    split at hF
    rotate_left
    · cases hF
    rename_i ds2 hp
    cases hF
    refine exN_ok (m := 11) G hT hMt hlam (hA.deeper _) 8 false _ ρ' _ body M s.heap.objs.size hex (fun _ q => .inl q) (fun ⟨_, q⟩ => nomatch q) (fun q => nomatch q) (s := { s with heap := hh1, toks := tk1 }) size1 ok ow fun f z' h' tk dn => ?_
    obtain ⟨v, rfl, rv⟩ := dn.flow
    exact fin tk dn hp rv
  · rename_i ρ' hex
    split at hF
    rotate_left
    · cases hF
    rename_i ds2 hp
    cases hF
    refine exN_ok (m := 11) G hT hMt hlam (hA.deeper _) 8 false _ ρ' _ body M s.heap.objs.size hex (fun _ q => .inl q) (fun ⟨_, q⟩ => nomatch q) (fun q => nomatch q) (s := { s with heap := hh1, toks := tk1 }) size1 ok ow fun f z' h' tk dn => ?_
    cases (show f = .next from dn.flow)
    exact fin tk dn hp .none
  · cases hF
end
end Mine

namespace Mine
open PySem

noncomputable def oalt {α β : Type} (o : Option α) (f : α → Option β) (x : Option β) : Option β := match o with
  | some a => f a
  | none => x
theorem oalt_or {α β : Type} {o : Option α} {f : α → Option β} {x : Option β} {r : β} (h : oalt o f x = some r) : (∃ a, o = some a ∧ f a = some r) ∨ (o = none ∧ x = some r) := by
  cases o with
  | none => exact .inr ⟨rfl, h⟩
  | some a => exact .inl ⟨a, rfl, h⟩

section
variable {β : Type}

noncomputable def argsK (ev : Expr → (D → Option β) → Option β) : List Expr → (List D → Option β) → Option β
  | [], k => k []
  | e :: es, k => ev e fun d => argsK ev es fun ds => k (d :: ds)

noncomputable def borK (ev : Expr → (D → Option β) → Option β) (ρ : Rho) (e : Expr) (k : D → Option β) : Option β := oalt (isNm e) (fun x => obind (anyB (ρ.lookup x)) k) (ev e k)

noncomputable def builtinF (f : Str) : Bool := f == Str.ofString "len" || f == Str.ofString "sum" || f == Str.ofString "list" || f == Str.ofString "isinstance"

noncomputable def callK (T : Tabs) (dir : Option D) (ev : Expr → (D → Option β) → Option β) (sc : Scope) (ρ : Rho) (f : Str) (args : List Expr) (k : D → Option β) : Option β :=
  if builtinF f then
    if f == Str.ofString "len" && isGlob sc f then obind (one args) fun a => borK ev ρ a fun d => obind (lenD d) k
    else if f == Str.ofString "sum" && isGlob sc f then obind (one args) fun a => ev a fun d => obind (sumD d) k
    else obind dir k
  else if isGlob sc f then obind (T.pure f) fun F => argsK ev args fun ds => obind (F ds) k
  else none

noncomputable def evK1 (T : Tabs) (LC : Nat → Scope → Rho → Expr → Option D) (n : Nat) (ev : Expr → (D → Option β) → Option β) (sc : Scope) (ρ : Rho) (k : D → Option β) : Expr → Option β
  | .BinOp l op r _ => ev l fun a => ev r fun b => obind (binD op a b) k
  | .Compare l ops rs _ => obind (one ops) fun op => obind (one rs) fun r => ev l fun a => borK ev ρ r fun b => obind (cmpD op a b) fun t => k (.bool t)
  | .Subscript b i p => oalt (isSl i) (fun _ => obind (evV T (evN T n) sc ρ (.Subscript b i p)) k) (borK ev ρ b fun d => ev i fun j => obind (intOf j) fun m => obind (itemD d m) k)
  | .Tuple es _ _ => ocond (decide (es.length ≤ 1000)) (argsK ev es fun ds => k (.tuple ds)) none
  | .List es _ => ocond (decide (es.length ≤ 1000)) (argsK ev es fun ds => k (.list ds)) none
  | .Call f args ks q => oalt (if ks.isEmpty then isNm f else none) (fun g => callK T (evV T (evN T n) sc ρ (.Call f args ks q)) ev sc ρ g args k) (obind (evV T (evN T n) sc ρ (.Call f args ks q)) k)
  | .ListComp elt gs sc' p => obind (LC (n + 1) sc ρ (.ListComp elt gs sc' p)) k
  | e => obind (evV T (evN T n) sc ρ e) k
noncomputable def evK (T : Tabs) (LC : Nat → Scope → Rho → Expr → Option D) : Nat → Scope → Rho → Expr → (D → Option β) → Option β
  | 0, _, _, _, _ => none
  | n + 1, sc, ρ, e, k => evK1 T LC n (evK T LC n sc ρ) sc ρ k e

noncomputable def allK (te : Expr → (Bool → Option β) → Option β) (op : BoolOp) : List Expr → (Bool → Option β) → Option β
  | [], k => k (op == .And)
  | e :: es, k => te e fun b => match op with
    | .And => ocond b (allK te op es k) (k false)
    | .Or => ocond b (k true) (allK te op es k)

noncomputable def teK1 (ev : Expr → (D → Option β) → Option β) (te : Expr → (Bool → Option β) → Option β) (ρ : Rho) (k : Bool → Option β) : Expr → Option β
  | .UnaryOp op x _ => if isNot op then te x fun b => k (!b) else none
  | .BoolOp op vs _ => allK te op vs k
  | .Compare l ops rs _ => obind (one ops) fun op => obind (one rs) fun r => ev l fun a => borK ev ρ r fun b => obind (cmpD op a b) k
  | .Name x p => borK ev ρ (.Name x p) fun d => obind (truthD d) k
  | .Call f as ks p => ev (.Call f as ks p) fun d => obind (truthD d) k
  | _ => none
noncomputable def teK (T : Tabs) (LC : Nat → Scope → Rho → Expr → Option D) : Nat → Scope → Rho → Expr → (Bool → Option β) → Option β
  | 0, _, _, _, _ => none
  | n + 1, sc, ρ, e, k => teK1 (evK T LC n sc ρ) (teK T LC n sc ρ) ρ k e

noncomputable def goK (f : Stmt → Rho → (Rho → R → Option β) → Option β) : List Stmt → Rho → (Rho → R → Option β) → Option β
  | [], ρ, k => k ρ .next
  | s :: r, ρ, k => f s ρ fun ρ' fl => match fl with
    | .next => goK f r ρ' k
    | fl => k ρ' fl

noncomputable def whileK (t : Rho → (Bool → Option β) → Option β) (bd : Rho → (Rho → R → Option β) → Option β) : Nat → Rho → (Rho → R → Option β) → Option β
  | 0, _, _ => none
  | n + 1, ρ, k => t ρ fun b => ocond b (bd ρ fun ρ2 r => match r with
    | .next => whileK t bd n ρ2 k
    | .cont => whileK t bd n ρ2 k
    | .brk => k ρ2 .next
    | .ret d => k ρ2 (.ret d)) (k ρ .next)

noncomputable def forK (bK : Rho → (Rho → R → Option β) → Option β) (bind : D → Rho → Option Rho) : List D → Rho → (Rho → R → Option β) → Option β
  | [], ρ, k => k ρ .next
  | d :: ds, ρ, k => match bind d ρ with
    | none => none
    | some ρ1 => bK ρ1 fun ρ2 r => match r with
      | .next => forK bK bind ds ρ2 k
      | .cont => forK bK bind ds ρ2 k
      | .brk => k ρ2 .next
      | .ret d => k ρ2 (.ret d)

noncomputable def mtK (T : Tabs) (ev : Expr → (D → Option β) → Option β) (sc : Scope) (ρ : Rho) (f y : Str) (as : List Expr) (k : Rho → D → Option β) : Option β :=
  if isGlob sc f then obind (T.mt f) fun FM => obind (ownL (ρ.lookup y)) fun ds => argsK ev as fun das => obind (FM ds das) fun z => k (rset ρ y (.own (.list z.1))) z.2 else none

noncomputable def restK (T : Tabs) (LC : Nat → Scope → Rho → Expr → Option D) (m : Nat) (ow : Str → Bool) (sc : Scope) (ρ : Rho) (x : Str) (value : Expr) (k : Rho → R → Option β) : Option β := evK T LC m sc ρ value fun d => k (rset ρ x (if ow x && isFresh value then .own d else .val d)) .next
noncomputable def asgK (T : Tabs) (LC : Nat → Scope → Rho → Expr → Option D) (m : Nat) (ow : Str → Bool) (sc : Scope) (ρ : Rho) (x : Str) (value : Expr) (k : Rho → R → Option β) : Option β := match isPop value with
  | some z => obind (ownL (ρ.lookup z.1)) fun ds => if decide (ds.length ≤ 1000) then obind ds.getLast? fun d => k (rset (rset ρ z.1 (.own (.list ds.dropLast))) x (.val d)) .next else none
  | none => match isMt value with
    | some z => if (T.mt z.1).isSome then mtK T (evK T LC m sc ρ) sc ρ z.1 z.2.1 z.2.2 fun ρ' d => k (rset ρ' x (.val d)) .next else restK T LC m ow sc ρ x value k
    | none => restK T LC m ow sc ρ x value k

noncomputable def putK (ρ : Rho) (x : Str) (d : D) (k : Rho → R → Option β) : D → Option β
  | .int a => obind (ownL (ρ.lookup x)) fun ds => ocond (decide (0 ≤ a) && decide (a.toNat < ds.length) && decide (ds.length ≤ 1000)) (k (rset ρ x (.own (.list (ds.set a.toNat d)))) .next) none
  | .str y => obind (intOf d) fun a => obind (ownK (ρ.lookup x)) fun kv => ocond (decide (kv.length ≤ 1000)) (k (rset ρ x (.own (.dict (putKey y a kv)))) .next) none
  | _ => none
noncomputable def asK (T : Tabs) (LC : Nat → Scope → Rho → Expr → Option D) (m : Nat) (ow : Str → Bool) (sc : Scope) (ρ : Rho) (value : Expr) (k : Rho → R → Option β) : Expr → Option β
  | .Name x _ => if storable sc x then asgK T LC m ow sc ρ x value k else none
  | .Tuple es j p => if isTup value then none else evK T LC m sc ρ value fun d => obind (bindT sc (.Tuple es j p) d ρ) fun ρ' => k ρ' .next
  | .Subscript b i _ => obind (isNm b) fun x => evK T LC m sc ρ value fun d => evK T LC m sc ρ i fun j => putK ρ x d k j
  | _ => none
noncomputable def augK (T : Tabs) (LC : Nat → Scope → Rho → Expr → Option D) (m : Nat) (sc : Scope) (ρ : Rho) (value : Expr) (k : Rho → R → Option β) : Expr → Option β
  | .Name x _ => if storable sc x then obind (valI (ρ.lookup x)) fun a => evK T LC m sc ρ value fun d => obind (intOf d) fun b => k (rset ρ x (.val (.int (a + b)))) .next else none
  | .Subscript b i _ => obind (isNm b) fun x => obind (ownK (ρ.lookup x)) fun kv => evK T LC m sc ρ i fun j => obind (strOf j) fun y => evK T LC m sc ρ value fun d => obind (intOf d) fun b => obind (kv.lookup y) fun a =>
    ocond (decide (kv.length ≤ 1000)) (k (rset ρ x (.own (.dict (putKey y (a + b) kv)))) .next) none
  | _ => none
noncomputable def noneK (d : D) (x : Option β) : Option β := match d with
  | .none => x
  | _ => none
noncomputable def exprK (T : Tabs) (LC : Nat → Scope → Rho → Expr → Option D) (m : Nat) (sc : Scope) (ρ : Rho) (args : List Expr) (ks : List Keyword) (p : Pos) (k : Rho → R → Option β) : Expr → Option β
  | .Attribute b nm ap => if ks.isEmpty then obind (isNm b) fun x => obind (one args) fun a => if nm == Str.ofString "append" && mOk b ap p then evK T LC m sc ρ a fun d => obind (ownL (ρ.lookup x)) fun ds => ocond (decide (ds.length ≤ 1000)) (k (rset ρ x (.own (.list (ds ++ [d])))) .next) none else none else none
  | .Name f _ => if ks.isEmpty then obind (unc args) fun as => obind (isNm as.1) fun y => mtK T (evK T LC m sc ρ) sc ρ f y as.2 fun ρ' d => noneK d (k ρ' .next) else none
  | _ => none
noncomputable def callStK (T : Tabs) (LC : Nat → Scope → Rho → Expr → Option D) (m : Nat) (sc : Scope) (ρ : Rho) (k : Rho → R → Option β) : Expr → Option β
  | .Call f args ks p => exprK T LC m sc ρ args ks p k f
  | _ => none

noncomputable def stK (T : Tabs) (LC : Nat → Scope → Rho → Expr → Option D) (FO : Nat → Bool → Scope → Rho → Stmt → Option (Rho × R)) (uw : Bool) (m n : Nat) (ow : Str → Bool) (X : Bool → List Stmt → Rho → (Rho → R → Option β) → Option β) (fz : Bool) (sc : Scope) (st : Stmt) (ρ : Rho) (k : Rho → R → Option β) : Option β := match st with
  | .Return e _ => obind e fun e => if fz then evK T LC m sc (freeze ρ) e fun d => k (freeze ρ) (.ret d) else evK T LC m sc ρ e fun d => k ρ (.ret d)
  | .Assign ts value _ => obind (one ts) fun t => asK T LC m ow sc ρ value k t
  | .AugAssign t op value _ => if isAdd op then augK T LC m sc ρ value k t else none
  | .If test body orelse _ => teK T LC m sc ρ test fun b => ocond b (X fz body ρ k) (X fz orelse ρ k)
  | .For target iter body o p => if o.isEmpty then (if uw then (if isSetE iter || !tgtOk target then none else obind ((evN T m).it sc (strip ρ) (isTup target) iter) fun ds => forK (fun ρ k => X false body ρ k) (fun d ρ => bindT sc target d ρ) ds ρ k) else obind (FO n fz sc ρ (.For target iter body o p)) fun z => k z.1 z.2) else none
  | .While test body o p => if o.isEmpty then (if uw then whileK (fun ρ k => teK T LC m sc ρ test k) (fun ρ k => X fz body ρ k) 100 ρ k else obind (FO n fz sc ρ (.While test body o p)) fun z => k z.1 z.2) else none
  | .Expr e _ => callStK T LC m sc ρ k e
  | .Continue _ => k ρ .cont
  | .Break _ => k ρ .brk
  | _ => none

noncomputable def exK (T : Tabs) (LC : Nat → Scope → Rho → Expr → Option D) (FO : Nat → Bool → Scope → Rho → Stmt → Option (Rho × R)) (uw : Bool) (m : Nat) (ow : Str → Bool) : Nat → Bool → Scope → List Stmt → Rho → (Rho → R → Option β) → Option β
  | 0, _, _, _, _, _ => none
  | n + 1, fz, sc, body, ρ, k => goK (fun st ρ k => stK T LC FO uw m n ow (fun fz body ρ k => exK T LC FO uw m ow n fz sc body ρ k) fz sc st ρ k) body ρ k
end

noncomputable def LCs (T : Tabs) : Nat → Scope → Rho → Expr → Option D := fun n sc ρ e => (evN T n).v sc ρ e
noncomputable def FOs (T : Tabs) (m : Nat) (ow : Str → Bool) : Nat → Bool → Scope → Rho → Stmt → Option (Rho × R) := fun n fz sc ρ st => exS T (evN T m) (exN T (evN T m) ow n) fz ow sc ρ st

section
variable {β : Type} {T : Tabs} {sc : Scope} {ρ : Rho}

theorem argsK_ok {ev : Expr → (D → Option β) → Option β} {v : Expr → Option D} (hev : ∀ e k b, ev e k = some b → ∃ d, v e = some d ∧ k d = some b) : ∀ {es : List Expr} {k : List D → Option β} {b : β}, argsK ev es k = some b → ∃ ds, mapO v es = some ds ∧ k ds = some b
  | [], k, b, h => ⟨[], rfl, h⟩
  | e :: es, k, b, h => by
    obtain ⟨d, h1, h2⟩ := hev _ _ _ h
    obtain ⟨ds, h3, h4⟩ := argsK_ok hev h2
    exact ⟨d :: ds, by simp only [mapO, h1, h3], h4⟩

theorem borK_ok {ev : Expr → (D → Option β) → Option β} {v : Scope → Rho → Expr → Option D} (hev : ∀ e k b, ev e k = some b → ∃ d, v sc ρ e = some d ∧ k d = some b) {e : Expr} {k : D → Option β} {b : β} (h : borK ev ρ e k = some b) : ∃ d, borrow v sc ρ e = some d ∧ k d = some b := by
  unfold borrow
  rcases oalt_or h with ⟨x, hx, h⟩ | ⟨hx, h⟩
  · rw [hx]
    exact obind_some h
  · rw [hx]
    exact hev _ _ _ h

theorem callK_ok {n : Nat} {ev : Expr → (D → Option β) → Option β} {f : Str} {args : List Expr} (hev : ∀ e k b, ev e k = some b → ∃ d, (evN T n).v sc ρ e = some d ∧ k d = some b) {k : D → Option β} {b : β}
    (h : callK T (evCall T (evN T n) sc ρ f args) ev sc ρ f args k = some b) : ∃ d, evCall T (evN T n) sc ρ f args = some d ∧ k d = some b := by
  rcases ite_or h with ⟨_, h⟩ | ⟨hb, h⟩
  · rcases ite_or h with ⟨hc, h⟩ | ⟨_, h⟩
    · rw [Bool.and_eq_true] at hc
      obtain ⟨a, ha, h⟩ := obind_some h
      obtain ⟨d, h1, h⟩ := borK_ok (v := (evN T n).v) hev h
      obtain ⟨r, h3, h⟩ := obind_some h
      exact ⟨r, (ite_t hc.2).trans ((ite_t hc.1).trans (obind_of ha (obind_of h1 h3))), h⟩
    · rcases ite_or h with ⟨hc, h⟩ | ⟨_, h⟩
      · rw [Bool.and_eq_true] at hc
        obtain ⟨a, ha, h⟩ := obind_some h
        obtain ⟨d, h1, h⟩ := hev _ _ _ h
        obtain ⟨r, h3, h⟩ := obind_some h
        exact ⟨r, (ite_t hc.2).trans ((ite_f (by rw [beq_iff_eq.mp hc.1, ofString_beq]; decide)).trans ((ite_t hc.1).trans (obind_of ha (obind_of h1 h3)))), h⟩
      · exact obind_some h
  · unfold builtinF at hb
    rw [Bool.or_eq_false_iff, Bool.or_eq_false_iff, Bool.or_eq_false_iff] at hb
    obtain ⟨hg, h⟩ := ite_some h
    obtain ⟨F, hF, h⟩ := obind_some h
    obtain ⟨ds, h1, h⟩ := argsK_ok hev h
    obtain ⟨r, h3, h⟩ := obind_some h
    exact ⟨r, (ite_t hg).trans ((ite_f hb.1.1.1).trans ((ite_f hb.1.1.2).trans ((ite_f hb.1.2).trans ((ite_f hb.2).trans (obind_of hF (obind_of h1 h3)))))), h⟩

theorem evSub_n {E : Ev} {b i : Expr} (h : isSl i = none) : evSub E sc ρ b i = obind (borrow E.v sc ρ b) fun d => obind (E.v sc ρ i) fun j => obind (intOf j) fun k => itemD d k := by
  unfold evSub
  rw [h]
theorem evK1_ok {n : Nat} {ev : Expr → (D → Option β) → Option β} (ih : ∀ e k b, ev e k = some b → ∃ d, (evN T n).v sc ρ e = some d ∧ k d = some b) {e : Expr} {k : D → Option β} {b : β} (h : evK1 T (LCs T) n ev sc ρ k e = some b) : ∃ d, evV T (evN T n) sc ρ e = some d ∧ k d = some b := by
  cases e with
  | BinOp l op r p =>
    obtain ⟨a, h1, h⟩ := ih _ _ _ h
    obtain ⟨c, h3, h⟩ := ih _ _ _ h
    obtain ⟨r, h5, h⟩ := obind_some h
    exact ⟨r, obind_of h1 (obind_of h3 h5), h⟩
  | Compare l ops rs p =>
    obtain ⟨op, ho, h⟩ := obind_some h
    obtain ⟨r, hr, h⟩ := obind_some h
    obtain ⟨a, h1, h⟩ := ih _ _ _ h
    obtain ⟨c, h3, h⟩ := borK_ok (v := (evN T n).v) ih h
    obtain ⟨t, h5, h⟩ := obind_some h
    exact ⟨.bool t, obind_of ho (obind_of hr (obind_of h1 (obind_of h3 (obind_of h5 rfl)))), h⟩
  | Subscript b i p =>
    rcases oalt_or h with ⟨x, hx, h⟩ | ⟨hx, h⟩
    · exact obind_some h
    · obtain ⟨d, h1, h⟩ := borK_ok (v := (evN T n).v) ih h
      obtain ⟨j, h2, h⟩ := ih _ _ _ h
      obtain ⟨m, h3, h⟩ := obind_some h
      obtain ⟨r, h4, h⟩ := obind_some h
      exact ⟨r, (evSub_n hx).trans (obind_of h1 (obind_of h2 (obind_of h3 h4))), h⟩
  | Tuple es c p =>
    obtain ⟨hc, h⟩ := ocond_if h
    obtain ⟨ds, h2, h⟩ := argsK_ok ih h
    exact ⟨.tuple ds, (ite_t hc).trans (obind_of h2 rfl), h⟩
  | List es c =>
    obtain ⟨hc, h⟩ := ocond_if h
    obtain ⟨ds, h2, h⟩ := argsK_ok ih h
    exact ⟨.list ds, (ite_t hc).trans (obind_of h2 rfl), h⟩
  | Call f args ks q =>
    rcases oalt_or h with ⟨g, hg, h⟩ | ⟨_, h⟩
    · obtain ⟨hk, hg⟩ := ite_some hg
      obtain ⟨p, rfl⟩ := isNm_inv hg
      cases isEmpty_inv hk
      exact callK_ok ih h
    · exact obind_some h
  | ListComp elt gs sc' p => exact obind_some h
  | _ => exact obind_some h
theorem evK_ok : ∀ (n : Nat) (e : Expr) (k : D → Option β) (b : β), evK T (LCs T) n sc ρ e k = some b → ∃ d, (evN T n).v sc ρ e = some d ∧ k d = some b
  | 0, e, k, b, h => by cases h
  | n + 1, e, k, b, h => evK1_ok (evK_ok n) h

theorem allK_ok {E : Ev} {te : Expr → (Bool → Option β) → Option β} {op : BoolOp} (hte : ∀ e k b, te e k = some b → ∃ t, E.t sc ρ e = some t ∧ k t = some b) : ∀ {es : List Expr} {k : Bool → Option β} {b : β}, allK te op es k = some b → ∃ t, evAll E sc ρ op es = some t ∧ k t = some b
  | [], k, b, h => ⟨_, rfl, h⟩
  | e :: es, k, b, h => by
    obtain ⟨t, h1, h2⟩ := hte _ _ _ h
    simp only [evAll, h1]
    cases op with
    | And =>
      rcases ocond_some h2 with ⟨rfl, h3⟩ | ⟨rfl, h3⟩
      · exact allK_ok hte h3
      · exact ⟨false, rfl, h3⟩
    | Or =>
      rcases ocond_some h2 with ⟨rfl, h3⟩ | ⟨rfl, h3⟩
      · exact ⟨true, rfl, h3⟩
      · exact allK_ok hte h3

theorem teK1_ok {n : Nat} {ev : Expr → (D → Option β) → Option β} {te : Expr → (Bool → Option β) → Option β} (iv : ∀ e k b, ev e k = some b → ∃ d, (evN T n).v sc ρ e = some d ∧ k d = some b) (ih : ∀ e k b, te e k = some b → ∃ d, (evN T n).t sc ρ e = some d ∧ k d = some b) {e : Expr} {k : Bool → Option β} {b : β} (h : teK1 ev te ρ k e = some b) : ∃ d, evT (evN T n) sc ρ e = some d ∧ k d = some b := by
  cases e with
  | UnaryOp op x p =>
    obtain ⟨ho, h⟩ := ite_some h
    obtain ⟨t, h1, h⟩ := ih _ _ _ h
    exact ⟨!t, (ite_t ho).trans (obind_of h1 rfl), h⟩
  | BoolOp op vs p => exact allK_ok ih h
  | Compare l ops rs p =>
    obtain ⟨op, ho, h⟩ := obind_some h
    obtain ⟨r, hr, h⟩ := obind_some h
    obtain ⟨a, h1, h⟩ := iv _ _ _ h
    obtain ⟨c, h3, h⟩ := borK_ok (v := (evN T n).v) iv h
    obtain ⟨t, h5, h⟩ := obind_some h
    exact ⟨t, obind_of ho (obind_of hr (obind_of h1 (obind_of h3 h5))), h⟩
  | Name x p =>
    obtain ⟨c, h3, h⟩ := borK_ok (v := (evN T n).v) iv h
    obtain ⟨r, h5, h⟩ := obind_some h
    exact ⟨r, obind_of h3 h5, h⟩
  | Call f as ks p =>
    obtain ⟨a, h1, h⟩ := iv _ _ _ h
    obtain ⟨r, h5, h⟩ := obind_some h
    exact ⟨r, obind_of h1 h5, h⟩
  | _ => first | exact nn h | cases h
theorem teK_ok : ∀ (n : Nat) (e : Expr) (k : Bool → Option β) (b : β), teK T (LCs T) n sc ρ e k = some b → ∃ t, (evN T n).t sc ρ e = some t ∧ k t = some b
  | 0, e, k, b, h => by cases h
  | n + 1, e, k, b, h => teK1_ok (evK_ok n) (teK_ok n) h

theorem mtK_ok {m : Nat} {f y : Str} {as : List Expr} {k : Rho → D → Option β} {b : β} (h : mtK T (evK T (LCs T) m sc ρ) sc ρ f y as k = some b) : ∃ ρ' d, callM T (evN T m) sc ρ f y as = some (ρ', d) ∧ k ρ' d = some b := by
  obtain ⟨hg, h⟩ := ite_some h
  obtain ⟨FM, hF, h⟩ := obind_some h
  obtain ⟨ds, hds, h⟩ := obind_some h
  obtain ⟨das, h1, h⟩ := argsK_ok (@evK_ok β T sc ρ m) h
  obtain ⟨z, h3, h4⟩ := obind_some h
  exact ⟨_, _, (ite_t hg).trans (obind_of hF (obind_of hds (obind_of h1 (obind_of h3 rfl)))), h4⟩

theorem restK_ok {m : Nat} {ow : Str → Bool} {x : Str} {value : Expr} {k : Rho → R → Option β} {b : β} (h : restK T (LCs T) m ow sc ρ x value k = some b) : ∃ ρ' r, asgRest (evN T m) ow sc ρ x value = some (ρ', r) ∧ k ρ' r = some b := by
  obtain ⟨d, h1, h2⟩ := evK_ok _ _ _ _ h
  exact ⟨_, _, obind_of h1 rfl, h2⟩
theorem asgK_ok {m : Nat} {ow : Str → Bool} {x : Str} {value : Expr} {k : Rho → R → Option β} {b : β} (h : asgK T (LCs T) m ow sc ρ x value k = some b) : ∃ ρ' r, asgName T (evN T m) ow sc ρ x value = some (ρ', r) ∧ k ρ' r = some b := by
  unfold asgK at h
  unfold asgName
  cases hp : isPop value with
  | some z =>
    rw [hp] at h
    obtain ⟨ds, hds, h⟩ := obind_some h
    obtain ⟨hl, h⟩ := ite_some h
    obtain ⟨d, hd, h⟩ := obind_some h
    exact ⟨_, _, obind_of hds ((ite_t hl).trans (obind_of hd rfl)), h⟩
  | none =>
    rw [hp] at h
    cases hq : isMt value with
    | some z =>
      rw [hq] at h
      have h := ite_or h
      rcases h with ⟨hs, h⟩ | ⟨hs, h⟩
      · obtain ⟨ρ', d, h1, h2⟩ := mtK_ok h
        exact ⟨_, _, (ite_t hs).trans (obind_of h1 rfl), h2⟩
      · obtain ⟨ρ', r, h1, h2⟩ := restK_ok h
        exact ⟨ρ', r, (ite_f hs).trans h1, h2⟩
    | none =>
      rw [hq] at h
      exact restK_ok h

theorem whileK_ok {t : Rho → Option Bool} {bd : Rho → Option (Rho × R)} {tK : Rho → (Bool → Option β) → Option β} {bK : Rho → (Rho → R → Option β) → Option β} (ht : ∀ ρ k b, tK ρ k = some b → ∃ x, t ρ = some x ∧ k x = some b) (hb : ∀ ρ k b, bK ρ k = some b → ∃ ρ' r, bd ρ = some (ρ', r) ∧ k ρ' r = some b) :
    ∀ {n : Nat} {ρ : Rho} {k : Rho → R → Option β} {b : β}, whileK tK bK n ρ k = some b → ∃ ρ' r, whileGo t bd n ρ = some (ρ', r) ∧ k ρ' r = some b
  | 0, ρ, k, b, h => by cases h
  | n + 1, ρ, k, b, h => by
    obtain ⟨x, h1, h2⟩ := ht _ _ _ h
    rcases ocond_some h2 with ⟨rfl, h3⟩ | ⟨rfl, h3⟩
    · obtain ⟨ρ', r, h4, h5⟩ := hb _ _ _ h3
      simp only [whileGo, h1, h4]
      cases r with
      | next => exact whileK_ok ht hb h5
      | cont => exact whileK_ok ht hb h5
      | brk => exact ⟨_, _, rfl, h5⟩
      | ret d => exact ⟨_, _, rfl, h5⟩
    · exact ⟨ρ, .next, by simp only [whileGo, h1], h3⟩

theorem forK_ok {bd : Rho → Option (Rho × R)} {bind : D → Rho → Option Rho} {bK : Rho → (Rho → R → Option β) → Option β} (hb : ∀ ρ k b, bK ρ k = some b → ∃ ρ' r, bd ρ = some (ρ', r) ∧ k ρ' r = some b) :
    ∀ {ds : List D} {ρ : Rho} {k : Rho → R → Option β} {b : β}, forK bK bind ds ρ k = some b → ∃ ρ' r, forGo bd bind ds ρ = some (ρ', r) ∧ k ρ' r = some b
  | [], ρ, k, b, h => ⟨ρ, .next, rfl, h⟩
  | d :: ds, ρ, k, b, h => by
    unfold forK at h
    split at h
    · first | exact nn h | cases h
    · rename_i ρ1 hb1
      obtain ⟨ρ', r, h4, h5⟩ := hb _ _ _ h
      simp only [forGo, hb1, h4]
      cases r with
      | next => exact forK_ok hb h5
      | cont => exact forK_ok hb h5
      | brk => exact ⟨_, _, rfl, h5⟩
      | ret d => exact ⟨_, _, rfl, h5⟩

theorem asK_ok {m : Nat} {ow : Str → Bool} {t value : Expr} {k : Rho → R → Option β} {b : β} (h : asK T (LCs T) m ow sc ρ value k t = some b) : ∃ ρ' r, exAsg T (evN T m) ow sc ρ value t = some (ρ', r) ∧ k ρ' r = some b := by
  cases t with
  | Name x q =>
    obtain ⟨hx, h⟩ := ite_some h
    obtain ⟨ρ', r, h1, h2⟩ := asgK_ok h
    exact ⟨ρ', r, (ite_t hx).trans h1, h2⟩
  | Tuple es n q =>
    obtain ⟨ht, h⟩ := ite_none h
    obtain ⟨d, h1, h2⟩ := evK_ok _ _ _ _ h
    obtain ⟨ρ', h3, h4⟩ := obind_some h2
    exact ⟨_, _, (ite_f ht).trans (obind_of h1 (obind_of h3 rfl)), h4⟩
  | Subscript b0 i q =>
    obtain ⟨x, hx, h⟩ := obind_some h
    obtain ⟨d, h1, h2⟩ := evK_ok _ _ _ _ h
    obtain ⟨j, h3, h4⟩ := evK_ok _ _ _ _ h2
    have key : ∃ ρ' r, putItem ρ x d j = some (ρ', r) ∧ k ρ' r = some b := by
      cases j with
      | int a =>
        obtain ⟨ds, hds, h⟩ := obind_some h4
        obtain ⟨hc, h5⟩ := ocond_if h
        exact ⟨_, _, obind_of hds (ite_t hc), h5⟩
      | str y =>
        obtain ⟨n, hn, h⟩ := obind_some h4
        obtain ⟨kv, hkv, h⟩ := obind_some h
        obtain ⟨hc, h5⟩ := ocond_if h
        exact ⟨_, _, obind_of hn (obind_of hkv (ite_t hc)), h5⟩
      | _ => first | exact nn h4 | cases h4
    obtain ⟨ρ', r, h5, h6⟩ := key
    exact ⟨ρ', r, obind_of hx (obind_of h1 (obind_of h3 h5)), h6⟩
  | _ => first | exact nn h | cases h
theorem augK_ok {m : Nat} {t value : Expr} {k : Rho → R → Option β} {b : β} (h : augK T (LCs T) m sc ρ value k t = some b) : ∃ ρ' r, exAug (evN T m) sc ρ value t = some (ρ', r) ∧ k ρ' r = some b := by
  cases t with
  | Name x q =>
    obtain ⟨hx, h⟩ := ite_some h
    obtain ⟨a, ha, h⟩ := obind_some h
    obtain ⟨d, h1, h⟩ := evK_ok _ _ _ _ h
    obtain ⟨n, hn, h⟩ := obind_some h
    exact ⟨_, _, (ite_t hx).trans (obind_of ha (obind_of h1 (obind_of hn rfl))), h⟩
  | Subscript b i q =>
    obtain ⟨x, hx, h⟩ := obind_some h
    obtain ⟨kv, hkv, h⟩ := obind_some h
    obtain ⟨j, h1, h⟩ := evK_ok _ _ _ _ h
    obtain ⟨y, hy, h⟩ := obind_some h
    obtain ⟨d, h2, h⟩ := evK_ok _ _ _ _ h
    obtain ⟨n, hn, h⟩ := obind_some h
    obtain ⟨a, ha, h⟩ := obind_some h
    obtain ⟨hc, h⟩ := ocond_if h
    exact ⟨_, _, obind_of hx (obind_of hkv (obind_of h1 (obind_of hy (obind_of h2 (obind_of hn (obind_of ha (ite_t hc))))))), h⟩
  | _ => first | exact nn h | cases h
theorem noneK_inv {d : D} {x : Option β} {b : β} (h : noneK d x = some b) : isNone d = some () ∧ x = some b := by
  cases d with
  | none => exact ⟨rfl, h⟩
  | _ => first | exact nn h | cases h
theorem callStK_ok {m : Nat} {e : Expr} {k : Rho → R → Option β} {b : β} (h : callStK T (LCs T) m sc ρ k e = some b) : ∃ ρ' r, exCall T (evN T m) sc ρ e = some (ρ', r) ∧ k ρ' r = some b := by
  cases e with
  | Call f args ks p =>
    cases f with
    | Attribute b nm ap =>
      obtain ⟨hk, h⟩ := ite_some h
      obtain ⟨x, hx, h⟩ := obind_some h
      obtain ⟨a, ha, h⟩ := obind_some h
      obtain ⟨hc, h⟩ := ite_some h
      obtain ⟨d, h1, h⟩ := evK_ok _ _ _ _ h
      obtain ⟨ds, hds, h⟩ := obind_some h
      obtain ⟨hl, h⟩ := ocond_if h
      exact ⟨_, _, (ite_t hk).trans (obind_of hx (obind_of ha ((ite_t hc).trans (obind_of h1 (obind_of hds (ite_t hl)))))), h⟩
    | Name f q' =>
      obtain ⟨hk, h⟩ := ite_some h
      obtain ⟨as, ha, h⟩ := obind_some h
      obtain ⟨y, hy, h⟩ := obind_some h
      obtain ⟨ρ', d, h1, h⟩ := mtK_ok h
      obtain ⟨hn, h⟩ := noneK_inv h
      exact ⟨_, _, (ite_t hk).trans (obind_of ha (obind_of hy (obind_of h1 (obind_of hn rfl)))), h⟩
    | _ => first | exact nn h | cases h
  | _ => first | exact nn h | cases h

theorem stK_ok {m n : Nat} {uw : Bool} {ow : Str → Bool} {fz : Bool} {st : Stmt} {X : Bool → List Stmt → Rho → (Rho → R → Option β) → Option β} (hX : ∀ fz body ρ k b, X fz body ρ k = some b → ∃ ρ' r, exN T (evN T m) ow n fz sc ρ body = some (ρ', r) ∧ k ρ' r = some b)
    {k : Rho → R → Option β} {b : β} (h : stK T (LCs T) (FOs T m ow) uw m n ow X fz sc st ρ k = some b) : ∃ ρ' r, exS T (evN T m) (exN T (evN T m) ow n) fz ow sc ρ st = some (ρ', r) ∧ k ρ' r = some b := by
  cases st with
  | Return e p =>
    obtain ⟨e', he, h⟩ := obind_some h
    rcases ite_or h with ⟨hf, h⟩ | ⟨hf, h⟩
    · obtain ⟨d, h1, h2⟩ := evK_ok _ _ _ _ h
      exact ⟨_, _, obind_of he ((ite_t hf).trans (obind_of h1 rfl)), h2⟩
    · obtain ⟨d, h1, h2⟩ := evK_ok _ _ _ _ h
      exact ⟨_, _, obind_of he ((ite_f hf).trans (obind_of h1 rfl)), h2⟩
  | Assign ts v p =>
    obtain ⟨t, ht, h⟩ := obind_some h
    obtain ⟨ρ', r, h1, h2⟩ := asK_ok h
    exact ⟨ρ', r, obind_of ht h1, h2⟩
  | AugAssign t op v p =>
    obtain ⟨ho, h⟩ := ite_some h
    obtain ⟨ρ', r, h1, h2⟩ := augK_ok h
    exact ⟨ρ', r, (ite_t ho).trans h1, h2⟩
  | If t b o p =>
    obtain ⟨v, h1, h2⟩ := teK_ok _ _ _ _ h
    rcases ocond_some h2 with ⟨rfl, h3⟩ | ⟨rfl, h3⟩
    · obtain ⟨ρ', r, h4, h5⟩ := hX _ _ _ _ _ h3
      exact ⟨ρ', r, obind_of h1 h4, h5⟩
    · obtain ⟨ρ', r, h4, h5⟩ := hX _ _ _ _ _ h3
      exact ⟨ρ', r, obind_of h1 h4, h5⟩
  | For t i b o p =>
    obtain ⟨ho, h⟩ := ite_some h
    rcases ite_or h with ⟨_, h⟩ | ⟨_, h⟩
    · obtain ⟨hc, h⟩ := ite_none h
      obtain ⟨ds, hd, h⟩ := obind_some h
      obtain ⟨ρ', r, h1, h2⟩ := forK_ok (bd := fun ρ => exN T (evN T m) ow n false sc ρ _) (fun ρ k b h => hX _ _ _ _ _ h) h
      exact ⟨ρ', r, (ite_t ho).trans ((ite_f hc).trans (obind_of hd h1)), h2⟩
    · obtain ⟨z, h1, h2⟩ := obind_some h
      exact ⟨z.1, z.2, h1, h2⟩
  | While t b o p =>
    obtain ⟨ho, h⟩ := ite_some h
    rcases ite_or h with ⟨_, h⟩ | ⟨_, h⟩
    · obtain ⟨ρ', r, h1, h2⟩ := whileK_ok (t := fun ρ => (evN T m).t sc ρ _) (bd := fun ρ => exN T (evN T m) ow n fz sc ρ _) (fun ρ k b h => teK_ok _ _ _ _ h) (fun ρ k b h => hX _ _ _ _ _ h) h
      exact ⟨ρ', r, (ite_t ho).trans h1, h2⟩
    · obtain ⟨z, h1, h2⟩ := obind_some h
      exact ⟨z.1, z.2, h1, h2⟩
  | Expr e p => exact callStK_ok h
  | Continue p => exact ⟨ρ, .cont, rfl, h⟩
  | Break p => exact ⟨ρ, .brk, rfl, h⟩
  | _ => first | exact nn h | cases h

theorem goK_ok {f : Rho → Stmt → Option (Rho × R)} {fK : Stmt → Rho → (Rho → R → Option β) → Option β} (hf : ∀ st ρ k b, fK st ρ k = some b → ∃ ρ' r, f ρ st = some (ρ', r) ∧ k ρ' r = some b) : ∀ {body : List Stmt} {ρ : Rho} {k : Rho → R → Option β} {b : β}, goK fK body ρ k = some b → ∃ ρ' r, exGo f body ρ = some (ρ', r) ∧ k ρ' r = some b
  | [], ρ, k, b, h => ⟨ρ, .next, rfl, h⟩
  | s :: r, ρ, k, b, h => by
    obtain ⟨ρ', fl, h1, h2⟩ := hf _ _ _ _ h
    simp only [exGo, h1]
    cases fl with
    | next => exact goK_ok hf h2
    | brk => exact ⟨_, _, rfl, h2⟩
    | cont => exact ⟨_, _, rfl, h2⟩
    | ret d => exact ⟨_, _, rfl, h2⟩

theorem exK_ok {m : Nat} {uw : Bool} {ow : Str → Bool} : ∀ (n : Nat) (fz : Bool) (body : List Stmt) (ρ : Rho) (k : Rho → R → Option β) (b : β), exK T (LCs T) (FOs T m ow) uw m ow n fz sc body ρ k = some b → ∃ ρ' r, exN T (evN T m) ow n fz sc ρ body = some (ρ', r) ∧ k ρ' r = some b
  | 0, fz, body, ρ, k, b, h => by cases h
  | n + 1, fz, body, ρ, k, b, h => goK_ok (f := fun ρ st => exS T (evN T m) (exN T (evN T m) ow n) fz ow sc ρ st) (fun st ρ k b h => stK_ok (fun fz body ρ k b h => exK_ok n fz body ρ k b h) h) h
end

theorem exN_of_K {T : Tabs} {m n : Nat} {uw fz : Bool} {ow : Str → Bool} {sc : Scope} {body : List Stmt} {ρ : Rho} {z : Rho × R} (h : exK T (LCs T) (FOs T m ow) uw m ow n fz sc body ρ (fun ρ r => some (ρ, r)) = some z) : exN T (evN T m) ow n fz sc ρ body = some z := by
  obtain ⟨ρ', r, h1, h2⟩ := exK_ok _ _ _ _ _ _ h
  rw [h1, h2]
theorem exS_of_K {T : Tabs} {m n : Nat} {uw fz : Bool} {ow : Str → Bool} {sc : Scope} {st : Stmt} {ρ : Rho} {z : Rho × R} (h : stK T (LCs T) (FOs T m ow) uw m n ow (fun fz body ρ k => exK T (LCs T) (FOs T m ow) uw m ow n fz sc body ρ k) fz sc st ρ (fun ρ r => some (ρ, r)) = some z) : exS T (evN T m) (exN T (evN T m) ow n) fz ow sc ρ st = some z := by
  obtain ⟨ρ', r, h1, h2⟩ := stK_ok (fun fz body ρ k b h => exK_ok n fz body ρ k b h) h
  rw [h1, h2]

/-- a run by continuations -/
noncomputable def runK (T : Tabs) (LC : Nat → Scope → Rho → Expr → Option D) (FO : Nat → Bool → Scope → Rho → Stmt → Option (Rho × R)) (ow : Str → Bool) (ps : List Str) (sc : Scope) (body : List Stmt) (args : List D) : Option D :=
  exK T LC FO false 12 ow 8 true sc body (rho0 sc (ps.zip (args.map .val))) fun _ r => match r with
    | .ret d => some d
    | .next => some .none
    | _ => none
theorem runK_ok {T : Tabs} {ow : Str → Bool} {ps : List Str} {sc : Scope} {body : List Stmt} {args : List D} {d : D} (hl : args.length = ps.length) (h : runK T (LCs T) (FOs T 12 ow) ow ps sc body args = some d) : runP T ow ps sc body args = some d := by
  obtain ⟨ρ', r, h1, h2⟩ := exK_ok _ _ _ _ _ _ h
  unfold runP
  rw [if_pos hl, h1]
  cases r <;> first | exact h2 | cases h2
noncomputable def runMK (T : Tabs) (LC : Nat → Scope → Rho → Expr → Option D) (FO : Nat → Bool → Scope → Rho → Stmt → Option (Rho × R)) (p : Str) (ps : List Str) (sc : Scope) (body : List Stmt) (ds args : List D) : Option (List D × D) :=
  exK T LC FO true 12 (fun _ => false) 8 false sc body (rho0 sc ((p, .own (.list ds)) :: ps.zip (args.map .val))) fun ρ r => match r with
    | .ret d => (match ρ.lookup p with
      | some (.own (.list ds')) => some (ds', d)
      | _ => none)
    | .next => (match ρ.lookup p with
      | some (.own (.list ds')) => some (ds', .none)
      | _ => none)
    | _ => none
theorem runMK_ok {T : Tabs} {p : Str} {ps : List Str} {sc : Scope} {body : List Stmt} {ds args : List D} {z : List D × D} (hl : args.length = ps.length) (h : runMK T (LCs T) (FOs T 12 fun _ => false) p ps sc body ds args = some z) : runM T p ps sc body ds args = some z := by
  obtain ⟨ρ', r, h1, h2⟩ := exK_ok _ _ _ _ _ _ h
  unfold runM
  rw [if_pos hl, h1]
  cases r <;> first | exact h2 | cases h2
end Mine

namespace Mine
open PySem PySem.W PyProof.Rows

noncomputable abbrev LCt := Nat → Scope → Rho → Expr → Option D
noncomputable abbrev FOt := Nat → Bool → Scope → Rho → Stmt → Option (Rho × R)
noncomputable def tab0 : Tabs := ⟨fun _ => none, fun _ => none, false⟩
noncomputable def tab1 (f : String) (F : List D → Option D) : Tabs := ⟨fun g => if g == Str.ofString f then some F else none, fun _ => none, false⟩
noncomputable def tabM (f : String) (F : List D → List D → Option (List D × D)) : Tabs := ⟨fun _ => none, fun g => if g == Str.ofString f then some F else none, false⟩
noncomputable def tD (a b c d : Int) (kv : List (Str × Int)) : D := .tuple [.int a, .int b, .int c, .int d, .dict kv]
noncomputable def now : Str → Bool := fun _ => false

/-- what lies on the heap: a name, a profile's number, a place -/
noncomputable abbrev HI := Str × Int × Int
noncomputable def hD (p : HI) : D := .tuple [.str p.1, .int p.2.1, .int p.2.2]
noncomputable def ltH (p q : HI) : Bool := if p.1 == q.1 then (if p.2.1 == q.2.1 then decide (p.2.2 < q.2.2) else decide (p.2.1 < q.2.1)) else strLt p.1 q.1

section
variable (LC : LCt) (FO : FOt)
noncomputable abbrev rM (T : Tabs) (f : String) := runMK T LC FO ((psOf f).headD default) ((psOf f).tail) (scOf f) (bdOf f)

theorem sd1 (a : HI) : rM LC FO tab0 "_siftdown" [hD a] [.int 0, .int 0] = some ([hD a], .none) := by kernel_rfl
theorem sd2 (a b : HI) : rM LC FO tab0 "_siftdown" [hD a, hD b] [.int 0, .int 1] = ocond (ltH b a) (some ([hD b, hD a], .none)) (some ([hD a, hD b], .none)) := by kernel_rfl
theorem sd31 (a b c : HI) : rM LC FO tab0 "_siftdown" [hD a, hD b, hD c] [.int 0, .int 1] = ocond (ltH b a) (some ([hD b, hD a, hD c], .none)) (some ([hD a, hD b, hD c], .none)) := by kernel_rfl
theorem sd32 (a b c : HI) : rM LC FO tab0 "_siftdown" [hD a, hD b, hD c] [.int 0, .int 2] = ocond (ltH c a) (some ([hD c, hD b, hD a], .none)) (some ([hD a, hD b, hD c], .none)) := by kernel_rfl

variable (F : List D → List D → Option (List D × D))
noncomputable def nonR (z : List D × D) : Option (List D × D) := match z.2 with
  | .none => some (z.1, .none)
  | _ => none
theorem su1 (a : HI) : rM LC FO (tabM "_siftdown" F) "_siftup" [hD a] [.int 0] = obind (F [hD a] [.int 0, .int 0]) nonR := by kernel_rfl
theorem su2 (a b : HI) : rM LC FO (tabM "_siftdown" F) "_siftup" [hD a, hD b] [.int 0] = obind (F [hD b, hD a] [.int 0, .int 1]) nonR := by kernel_rfl
theorem su3 (a b c : HI) : rM LC FO (tabM "_siftdown" F) "_siftup" [hD a, hD b, hD c] [.int 0] = ocond (!ltH b c) (obind (F [hD c, hD b, hD a] [.int 0, .int 2]) nonR) (obind (F [hD b, hD a, hD c] [.int 0, .int 1]) nonR) := by kernel_rfl

noncomputable def retR (a : HI) (z : List D × D) : Option (List D × D) := match z.2 with
  | .none => some (z.1, hD a)
  | _ => none
theorem hp1 (a : HI) : rM LC FO (tabM "_siftup" F) "heappop" [hD a] [] = some ([], hD a) := by kernel_rfl
theorem hp2 (a b : HI) : rM LC FO (tabM "_siftup" F) "heappop" [hD a, hD b] [] = obind (F [hD b] [.int 0]) (retR a) := by kernel_rfl
theorem hp3 (a b c : HI) : rM LC FO (tabM "_siftup" F) "heappop" [hD a, hD b, hD c] [] = obind (F [hD c, hD b] [.int 0]) (retR a) := by kernel_rfl
theorem hr1 (a i : HI) : rM LC FO (tabM "_siftup" F) "heapreplace" [hD a] [hD i] = obind (F [hD i] [.int 0]) (retR a) := by kernel_rfl
theorem hr2 (a b i : HI) : rM LC FO (tabM "_siftup" F) "heapreplace" [hD a, hD b] [hD i] = obind (F [hD i, hD b] [.int 0]) (retR a) := by kernel_rfl
theorem hr3 (a b c i : HI) : rM LC FO (tabM "_siftup" F) "heapreplace" [hD a, hD b, hD c] [hD i] = obind (F [hD i, hD b, hD c] [.int 0]) (retR a) := by kernel_rfl
theorem hf0 : rM LC FO (tabM "_siftup" F) "heapify" [] [] = some ([], .none) := by kernel_rfl
theorem hf1 (a : HI) : rM LC FO (tabM "_siftup" F) "heapify" [hD a] [] = some ([hD a], .none) := by kernel_rfl
theorem hf2 (a b : HI) : rM LC FO (tabM "_siftup" F) "heapify" [hD a, hD b] [] = obind (F [hD a, hD b] [.int 0]) nonR := by kernel_rfl
theorem hf3 (a b c : HI) : rM LC FO (tabM "_siftup" F) "heapify" [hD a, hD b, hD c] [] = obind (F [hD a, hD b, hD c] [.int 0]) nonR := by kernel_rfl
end

noncomputable abbrev rP (T : Tabs) (LC : LCt) (FO : FOt) (ow : Str → Bool) (f : String) := runK T LC FO ow (psOf f) (scOf f) (bdOf f)
noncomputable abbrev gP (T : Tabs) (ow : Str → Bool) (f : String) := runP T ow (psOf f) (scOf f) (bdOf f)
noncomputable abbrev gM (T : Tabs) (f : String) := runM T ((psOf f).headD default) ((psOf f).tail) (scOf f) (bdOf f)

/-- the functions of the text, as the interpreter runs them -/
noncomputable def Fsd := gM tab0 "_siftdown"
noncomputable def Fsu := gM (tabM "_siftdown" Fsd) "_siftup"
noncomputable def Fpop := gM (tabM "_siftup" Fsu) "heappop"
noncomputable def Frep := gM (tabM "_siftup" Fsu) "heapreplace"
noncomputable def Fify := gM (tabM "_siftup" Fsu) "heapify"

theorem ps_sd : (psOf "_siftdown").tail.length = 2 := by kernel_rfl
theorem ps_su : (psOf "_siftup").tail.length = 1 := by kernel_rfl
theorem ps_pop : (psOf "heappop").tail.length = 0 := by kernel_rfl
theorem ps_rep : (psOf "heapreplace").tail.length = 1 := by kernel_rfl
theorem ps_ify : (psOf "heapify").tail.length = 0 := by kernel_rfl

theorem ok_sd {ds args : List D} {z : List D × D} (hl : args.length = 2) (h : rM (LCs tab0) (FOs tab0 12 fun _ => false) tab0 "_siftdown" ds args = some z) : Fsd ds args = some z := runMK_ok (hl.trans ps_sd.symm) h
theorem ok_su {ds args : List D} {z : List D × D} (hl : args.length = 1) (h : rM (LCs (tabM "_siftdown" Fsd)) (FOs (tabM "_siftdown" Fsd) 12 fun _ => false) (tabM "_siftdown" Fsd) "_siftup" ds args = some z) : Fsu ds args = some z := runMK_ok (hl.trans ps_su.symm) h
theorem ok_pop {ds args : List D} {z : List D × D} (hl : args.length = 0) (h : rM (LCs (tabM "_siftup" Fsu)) (FOs (tabM "_siftup" Fsu) 12 fun _ => false) (tabM "_siftup" Fsu) "heappop" ds args = some z) : Fpop ds args = some z := runMK_ok (hl.trans ps_pop.symm) h
theorem ok_rep {ds args : List D} {z : List D × D} (hl : args.length = 1) (h : rM (LCs (tabM "_siftup" Fsu)) (FOs (tabM "_siftup" Fsu) 12 fun _ => false) (tabM "_siftup" Fsu) "heapreplace" ds args = some z) : Frep ds args = some z := runMK_ok (hl.trans ps_rep.symm) h
theorem ok_ify {ds args : List D} {z : List D × D} (hl : args.length = 0) (h : rM (LCs (tabM "_siftup" Fsu)) (FOs (tabM "_siftup" Fsu) 12 fun _ => false) (tabM "_siftup" Fsu) "heapify" ds args = some z) : Fify ds args = some z := runMK_ok (hl.trans ps_ify.symm) h
theorem Fsd1 (a : HI) : Fsd [hD a] [.int 0, .int 0] = some ([hD a], .none) := ok_sd rfl (sd1 _ _ a)
theorem Fsd2 (a b : HI) : Fsd [hD a, hD b] [.int 0, .int 1] = some (if ltH b a then [hD b, hD a] else [hD a, hD b], .none) := ok_sd rfl ((sd2 _ _ a b).trans (by cases ltH b a <;> rfl))
theorem Fsd31 (a b c : HI) : Fsd [hD a, hD b, hD c] [.int 0, .int 1] = some (if ltH b a then [hD b, hD a, hD c] else [hD a, hD b, hD c], .none) := ok_sd rfl ((sd31 _ _ a b c).trans (by cases ltH b a <;> rfl))
theorem Fsd32 (a b c : HI) : Fsd [hD a, hD b, hD c] [.int 0, .int 2] = some (if ltH c a then [hD c, hD b, hD a] else [hD a, hD b, hD c], .none) := ok_sd rfl ((sd32 _ _ a b c).trans (by cases ltH c a <;> rfl))

theorem Fsu1 (a : HI) : Fsu [hD a] [.int 0] = some ([hD a], .none) := ok_su rfl ((su1 _ _ _ a).trans (by rw [Fsd1]; rfl))
theorem Fsu2 (a b : HI) : Fsu [hD a, hD b] [.int 0] = some (if ltH a b then [hD a, hD b] else [hD b, hD a], .none) := ok_su rfl ((su2 _ _ _ a b).trans (by rw [Fsd2]; rfl))
theorem Fsu3 (a b c : HI) : Fsu [hD a, hD b, hD c] [.int 0] = some (if ltH b c then (if ltH a b then [hD a, hD b, hD c] else [hD b, hD a, hD c]) else (if ltH a c then [hD a, hD b, hD c] else [hD c, hD b, hD a]), .none) :=
  ok_su rfl ((su3 _ _ _ a b c).trans (by rw [Fsd32, Fsd31]; cases ltH b c <;> rfl))

/-- the first is not above any other -/
noncomputable def MinH : List HI → Prop
  | [] => True
  | a :: r => ∀ b ∈ r, ltH b a = false

theorem strL_trans {x y z : Str} (h1 : strLt x y = true) (h2 : strLt y z = true) : strLt x z = true := by
  simp only [strLt, decide_eq_true_eq] at *
  exact List.lt_trans h1 h2
theorem strL_irrefl (x : Str) : strLt x x = false := by
  simp only [strLt, decide_eq_false_iff_not]
  exact List.lt_irrefl _
theorem strL_asymm {x y : Str} (h1 : strLt x y = true) : strLt y x = false := by
  cases h : strLt y x with
  | false => rfl
  | true => have := strL_trans h1 h; rw [strL_irrefl] at this; cases this
theorem strL_total {x y : Str} (h1 : strLt x y = false) (h2 : strLt y x = false) : x = y := by
  simp only [strLt, decide_eq_false_iff_not] at *
  have := List.le_antisymm (List.not_lt.mp h2) (List.not_lt.mp h1)
  obtain ⟨x⟩ := x
  obtain ⟨y⟩ := y
  simp only [Str.mk.injEq]
  exact Array.toList_inj.mp this

theorem ltH_iff {p q : HI} : ltH p q = true ↔ strLt p.1 q.1 = true ∨ (p.1 = q.1 ∧ (p.2.1 < q.2.1 ∨ (p.2.1 = q.2.1 ∧ p.2.2 < q.2.2))) := by
  unfold ltH
  by_cases h1 : p.1 = q.1
  · rw [if_pos (by simpa using h1)]
    have : strLt p.1 q.1 = false := by rw [h1]; exact strL_irrefl _
    by_cases h2 : p.2.1 = q.2.1
    · rw [if_pos (by simpa using h2)]
      simp [h1, h2, strL_irrefl]
    · rw [if_neg (by simpa using h2)]
      simp [h1, h2, strL_irrefl]
  · rw [if_neg (by simpa using h1)]
    simp [h1]
theorem ltH_trans {a b c : HI} (h1 : ltH a b = true) (h2 : ltH b c = true) : ltH a c = true := by
  rw [ltH_iff] at *
  rcases h1 with h1 | ⟨e1, h1⟩ <;> rcases h2 with h2 | ⟨e2, h2⟩
  · exact .inl (strL_trans h1 h2)
  · exact .inl (e2 ▸ h1)
  · exact .inl (e1 ▸ h2)
  · exact .inr ⟨e1.trans e2, by exact ar159 h1 h2⟩
theorem ltH_asymm {a b : HI} (h1 : ltH a b = true) : ltH b a = false := by
  cases h : ltH b a with
  | false => rfl
  | true =>
    have := ltH_trans h1 h
    rw [ltH_iff] at this
    rcases this with h | ⟨_, h⟩
    · rw [strL_irrefl] at h; cases h
    · exact (ar158 h).elim

theorem su_spec : ∀ l : List HI, 0 < l.length → l.length ≤ 3 → ∃ l', Fsu (l.map hD) [.int 0] = some (l'.map hD, .none) ∧ l'.Perm l ∧ MinH l'
  | [], h, _ => absurd h (by decide)
  | [a], _, _ => ⟨[a], Fsu1 a, .refl _, fun b m => nomatch m⟩
  | [a, b], _, _ => by
    cases h : ltH a b with
    | true => exact ⟨[a, b], by show Fsu [hD a, hD b] _ = _; rw [Fsu2, h]; rfl, .refl _, fun x m => by rw [List.mem_singleton.mp m]; exact ltH_asymm h⟩
    | false => exact ⟨[b, a], by show Fsu [hD a, hD b] _ = _; rw [Fsu2, h]; rfl, .swap _ _ _, fun x m => by rw [List.mem_singleton.mp m]; exact h⟩
  | [a, b, c], _, _ => by
    have e : Fsu (([a, b, c] : List HI).map hD) [.int 0] = _ := Fsu3 a b c
    cases h1 : ltH b c with
    | true =>
      cases h2 : ltH a b with
      | true =>
        refine ⟨[a, b, c], by rw [e, h1, h2]; rfl, .refl _, fun x m => ?_⟩
        rcases List.mem_cons.mp m with rfl | m
        · exact ltH_asymm h2
        · rw [List.mem_singleton.mp m]; exact ltH_asymm (ltH_trans h2 h1)
      | false =>
        refine ⟨[b, a, c], by rw [e, h1, h2]; rfl, .swap _ _ _, fun x m => ?_⟩
        rcases List.mem_cons.mp m with rfl | m
        · exact h2
        · rw [List.mem_singleton.mp m]; exact ltH_asymm h1
    | false =>
      cases h2 : ltH a c with
      | true =>
        refine ⟨[a, b, c], by rw [e, h1, h2]; rfl, .refl _, fun x m => ?_⟩
        rcases List.mem_cons.mp m with rfl | m
        · cases h3 : ltH x a with
          | false => rfl
          | true => rw [ltH_trans h3 h2] at h1; cases h1
        · rw [List.mem_singleton.mp m]; exact ltH_asymm h2
      | false =>
        refine ⟨[c, b, a], by rw [e, h1, h2]; rfl, ?_, fun x m => ?_⟩
        · exact (List.Perm.swap _ _ _).trans ((List.Perm.cons b (.swap a c [])).trans (.swap a b [c]))
        · rcases List.mem_cons.mp m with rfl | m
          · exact h1
          · rw [List.mem_singleton.mp m]; exact h2
  | _ :: _ :: _ :: _ :: _, _, h => absurd h (by simp)

theorem pop_spec : ∀ (a : HI) (r : List HI), r.length ≤ 2 → ∃ l', Fpop ((a :: r).map hD) [] = some (l'.map hD, hD a) ∧ l'.Perm r ∧ MinH l'
  | a, [], _ => ⟨[], ok_pop rfl (hp1 _ _ _ a), .refl _, trivial⟩
  | a, [b], _ => by
    obtain ⟨l', h1, h2, h3⟩ := su_spec [b] (by simp) (by simp)
    exact ⟨l', ok_pop rfl ((hp2 _ _ _ a b).trans (by rw [show ([hD b] : List D) = [b].map hD from rfl, h1]; rfl)), h2, h3⟩
  | a, [b, c], _ => by
    obtain ⟨l', h1, h2, h3⟩ := su_spec [c, b] (by simp) (by simp)
    exact ⟨l', ok_pop rfl ((hp3 _ _ _ a b c).trans (by rw [show ([hD c, hD b] : List D) = [c, b].map hD from rfl, h1]; rfl)), h2.trans (.swap _ _ _), h3⟩
  | a, _ :: _ :: _ :: _, h => absurd h (by simp)
theorem rep_spec : ∀ (a i : HI) (r : List HI), r.length ≤ 2 → ∃ l', Frep ((a :: r).map hD) [hD i] = some (l'.map hD, hD a) ∧ l'.Perm (i :: r) ∧ MinH l'
  | a, i, [], _ => by
    obtain ⟨l', h1, h2, h3⟩ := su_spec [i] (by simp) (by simp)
    exact ⟨l', ok_rep rfl ((hr1 _ _ _ a i).trans (by rw [show ([hD i] : List D) = [i].map hD from rfl, h1]; rfl)), h2, h3⟩
  | a, i, [b], _ => by
    obtain ⟨l', h1, h2, h3⟩ := su_spec [i, b] (by simp) (by simp)
    exact ⟨l', ok_rep rfl ((hr2 _ _ _ a b i).trans (by rw [show ([hD i, hD b] : List D) = [i, b].map hD from rfl, h1]; rfl)), h2, h3⟩
  | a, i, [b, c], _ => by
    obtain ⟨l', h1, h2, h3⟩ := su_spec [i, b, c] (by simp) (by simp)
    exact ⟨l', ok_rep rfl ((hr3 _ _ _ a b c i).trans (by rw [show ([hD i, hD b, hD c] : List D) = [i, b, c].map hD from rfl, h1]; rfl)), h2, h3⟩
  | a, i, _ :: _ :: _ :: _, h => absurd h (by simp)
theorem ify_spec : ∀ (r : List HI), r.length ≤ 3 → ∃ l', Fify (r.map hD) [] = some (l'.map hD, .none) ∧ l'.Perm r ∧ MinH l'
  | [], _ => ⟨[], ok_ify rfl (hf0 _ _ _), .refl _, trivial⟩
  | [b], _ => ⟨[b], ok_ify rfl (hf1 _ _ _ b), .refl _, fun x m => nomatch m⟩
  | [b, c], _ => by
    obtain ⟨l', h1, h2, h3⟩ := su_spec [b, c] (by simp) (by simp)
    exact ⟨l', ok_ify rfl ((hf2 _ _ _ b c).trans (by rw [show ([hD b, hD c] : List D) = [b, c].map hD from rfl, h1]; rfl)), h2, h3⟩
  | [a, b, c], _ => by
    obtain ⟨l', h1, h2, h3⟩ := su_spec [a, b, c] (by simp) (by simp)
    exact ⟨l', ok_ify rfl ((hf3 _ _ _ a b c).trans (by rw [show ([hD a, hD b, hD c] : List D) = [a, b, c].map hD from rfl, h1]; rfl)), h2, h3⟩
  | _ :: _ :: _ :: _ :: _, h => absurd h (by simp)
end Mine

namespace Mine
open PySem PySem.W PyProof.Rows

noncomputable def forTgt : Stmt → Expr
  | .For t _ _ _ _ => t
  | _ => .Name default default
noncomputable def forIter : Stmt → Expr
  | .For _ i _ _ _ => i
  | _ => .Name default default
noncomputable def forBd : Stmt → List Stmt
  | .For _ _ b _ _ => b
  | .While _ b _ _ => b
  | _ => []
noncomputable def forPos : Stmt → Pos
  | .For _ _ _ _ p => p
  | .While _ _ _ p => p
  | _ => default
noncomputable def whTest : Stmt → Expr
  | .While t _ _ _ => t
  | _ => .Name default default
noncomputable def nthS (f : String) (i : Nat) : Stmt := (bdOf f).getD i (.Continue default)

theorem exS_for {T : Tabs} {E : Ev} {X : Bool → Scope → Rho → List Stmt → Option (Rho × R)} {fz : Bool} {ow : Str → Bool} {sc : Scope} {ρ : Rho} {st : Stmt} {t it : Expr} {bd : List Stmt} {p : Pos} {ds : List D} (h0 : st = .For t it bd [] p) (h1 : (isSetE it || !tgtOk t) = false) (h2 : E.it sc (strip ρ) (isTup t) it = some ds) :
    exS T E X fz ow sc ρ st = forGo (fun ρ => X false sc ρ bd) (fun d ρ => bindT sc t d ρ) ds ρ := by
  subst h0
  exact (ite_f h1).trans (obind_of h2 rfl)
theorem exS_while {T : Tabs} {E : Ev} {X : Bool → Scope → Rho → List Stmt → Option (Rho × R)} {fz : Bool} {ow : Str → Bool} {sc : Scope} {ρ : Rho} {st : Stmt} {t : Expr} {bd : List Stmt} {p : Pos} (h0 : st = .While t bd [] p) :
    exS T E X fz ow sc ρ st = whileGo (fun ρ => E.t sc ρ t) (fun ρ => X fz sc ρ bd) 100 ρ := by
  subst h0
  rfl

theorem forGo_fold {α β : Type} {bd : Rho → Option (Rho × R)} {bind : D → Rho → Option Rho} (mk : α → Rho) (stp : α → β → α) (q : β → D) (P : α → List β → Prop)
    (hstep : ∀ a b r, P a (b :: r) → ∃ ρ1, bind (q b) (mk a) = some ρ1 ∧ bd ρ1 = some (mk (stp a b), .next) ∧ P (stp a b) r) : ∀ (l : List β) (a : α), P a l → forGo bd bind (l.map q) (mk a) = some (mk (l.foldl stp a), .next)
  | [], a, _ => rfl
  | b :: r, a, h => by
    obtain ⟨ρ1, h1, h2, h3⟩ := hstep a b r h
    simp only [List.map_cons, forGo, h1, h2, List.foldl_cons]
    exact forGo_fold mk stp q P hstep r _ h3

theorem exGo_next {f : Rho → Stmt → Option (Rho × R)} {s : Stmt} {r : List Stmt} {ρ ρ' : Rho} (h : f ρ s = some (ρ', .next)) : exGo f (s :: r) ρ = exGo f r ρ' := by
  simp only [exGo, h]
theorem exGo_ret {f : Rho → Stmt → Option (Rho × R)} {s : Stmt} {r : List Stmt} {ρ ρ' : Rho} {d : D} (h : f ρ s = some (ρ', .ret d)) : exGo f (s :: r) ρ = some (ρ', .ret d) := by
  simp only [exGo, h]
theorem runP_of {T : Tabs} {ow : Str → Bool} {ps : List Str} {sc : Scope} {body : List Stmt} {args : List D} {d : D} (hl : args.length = ps.length) (h : ∃ ρ', exGo (fun ρ s => exS T (evN T 12) (exN T (evN T 12) ow 7) true ow sc ρ s) body (rho0 sc (ps.zip (args.map .val))) = some (ρ', .ret d)) : runP T ow ps sc body args = some d := by
  obtain ⟨ρ', h⟩ := h
  unfold runP
  rw [if_pos hl]
  have e : exN T (evN T 12) ow 8 true sc (rho0 sc (ps.zip (args.map .val))) body = some (ρ', .ret d) := h
  rw [e]

/-- one more of a caller's calls -/
noncomputable def put : List (Str × Int) → Str × Int → List (Str × Int)
  | [], p => [p]
  | (y, j) :: r, p => if y == p.1 then (y, j + p.2) :: r else (y, j) :: put r p
theorem putKey_put_in {x : Str} {i : Int} : ∀ {kv : List (Str × Int)}, keyIn x kv = true → ∃ a, kv.lookup x = some a ∧ putKey x (a + i) kv = put kv (x, i)
  | [], h => by simp [keyIn] at h
  | (y, j) :: r, h => by
    by_cases hy : y = x
    · subst hy
      exact ⟨j, by simp, by simp [putKey, put]⟩
    · have h' : keyIn x r = true := by simpa [keyIn, hy] using h
      obtain ⟨a, h1, h2⟩ := putKey_put_in (i := i) h'
      have e : (x == y) = false := by simpa using fun q => hy q.symm
      have e' : (y == x) = false := by simpa using hy
      refine ⟨a, by rw [List.lookup_cons, e]; exact h1, ?_⟩
      simp only [putKey, put, e', h2, Bool.false_eq_true, if_false]
theorem putKey_put_out {x : Str} {i : Int} : ∀ {kv : List (Str × Int)}, keyIn x kv = false → putKey x i kv = put kv (x, i)
  | [], h => rfl
  | (y, j) :: r, h => by
    have hy : y ≠ x := fun e => by subst e; simp [keyIn] at h
    have h' : keyIn x r = false := by simpa [keyIn, hy] using h
    have e' : (y == x) = false := by simpa using hy
    simp only [putKey, put, e', putKey_put_out h', Bool.false_eq_true, if_false]
theorem putKey_new {x : Str} {i : Int} : ∀ {kv : List (Str × Int)}, x ∉ kv.map (·.1) → putKey x i kv = kv ++ [(x, i)]
  | [], h => rfl
  | (y, j) :: r, h => by
    simp only [List.map_cons, List.mem_cons, not_or] at h
    have e' : (y == x) = false := by simpa using fun q => h.1 q.symm
    simp only [putKey, e', putKey_new h.2]
    rfl
theorem put_length (kv : List (Str × Int)) (p : Str × Int) : (put kv p).length ≤ kv.length + 1 := by
  induction kv with
  | nil => simp [put]
  | cons q r ih =>
    obtain ⟨y, j⟩ := q
    simp only [put]
    split
    · simp
    · simp only [List.length_cons]; exact ar152 ih

/-! add_callers -/
noncomputable def owA : Str → Bool := fun x => x == Str.ofString "new_callers"
noncomputable def rhoA (t s : List (Str × Int)) (nc fn cl : B) : Rho := [(Str.ofString "target", .val (.dict t)), (Str.ofString "source", .val (.dict s)), (Str.ofString "new_callers", nc), (Str.ofString "func", fn), (Str.ofString "caller", cl)]
noncomputable def Fac := gP tab0 owA "add_callers"
noncomputable abbrev scA := scOf "add_callers"

theorem ac_body : bdOf "add_callers" = [nthS "add_callers" 0, nthS "add_callers" 1, nthS "add_callers" 2, nthS "add_callers" 3] := by kernel_rfl
theorem ac_0 (t s : List (Str × Int)) : exS tab0 (evN tab0 12) (exN tab0 (evN tab0 12) owA 7) true owA scA (rhoA t s .unb .unb .unb) (nthS "add_callers" 0) = some (rhoA t s (.own (.dict [])) .unb .unb, .next) := by kernel_rfl
theorem ac_3 (t s nc : List (Str × Int)) (f c : B) : exS tab0 (evN tab0 12) (exN tab0 (evN tab0 12) owA 7) true owA scA (rhoA t s (.own (.dict nc)) f c) (nthS "add_callers" 3) = some (freeze (rhoA t s (.own (.dict nc)) f c), .ret (.dict nc)) := by kernel_rfl
theorem ac_f1 : nthS "add_callers" 1 = .For (forTgt (nthS "add_callers" 1)) (forIter (nthS "add_callers" 1)) (forBd (nthS "add_callers" 1)) [] (forPos (nthS "add_callers" 1)) := by kernel_rfl
theorem ac_f2 : nthS "add_callers" 2 = .For (forTgt (nthS "add_callers" 2)) (forIter (nthS "add_callers" 2)) (forBd (nthS "add_callers" 2)) [] (forPos (nthS "add_callers" 2)) := by kernel_rfl
theorem ac_g1 : (isSetE (forIter (nthS "add_callers" 1)) || !tgtOk (forTgt (nthS "add_callers" 1))) = false := by kernel_rfl
theorem ac_g2 : (isSetE (forIter (nthS "add_callers" 2)) || !tgtOk (forTgt (nthS "add_callers" 2))) = false := by kernel_rfl
theorem ac_i1 (t s nc : List (Str × Int)) : (evN tab0 12).it scA (strip (rhoA t s (.own (.dict nc)) .unb .unb)) (isTup (forTgt (nthS "add_callers" 1))) (forIter (nthS "add_callers" 1)) = some (pairsD t) := by kernel_rfl
theorem ac_i2 (t s nc : List (Str × Int)) (f c : B) : (evN tab0 12).it scA (strip (rhoA t s (.own (.dict nc)) f c)) (isTup (forTgt (nthS "add_callers" 2))) (forIter (nthS "add_callers" 2)) = some (pairsD s) := by kernel_rfl
theorem ac_b1 (t s nc : List (Str × Int)) (x : Str) (i : Int) (f c : B) : bindT scA (forTgt (nthS "add_callers" 1)) (.tuple [.str x, .int i]) (rhoA t s (.own (.dict nc)) f c) = some (rhoA t s (.own (.dict nc)) (.val (.str x)) (.val (.int i))) := by kernel_rfl
theorem ac_b2 (t s nc : List (Str × Int)) (x : Str) (i : Int) (f c : B) : bindT scA (forTgt (nthS "add_callers" 2)) (.tuple [.str x, .int i]) (rhoA t s (.own (.dict nc)) f c) = some (rhoA t s (.own (.dict nc)) (.val (.str x)) (.val (.int i))) := by kernel_rfl
theorem ac_t1 (LC : LCt) (FO : FOt) (t s nc : List (Str × Int)) (x : Str) (i : Int) : exK tab0 LC FO false 12 owA 7 false scA (forBd (nthS "add_callers" 1)) (rhoA t s (.own (.dict nc)) (.val (.str x)) (.val (.int i))) (fun ρ r => some (ρ, r)) =
    ocond (decide (nc.length ≤ 1000)) (some (rhoA t s (.own (.dict (putKey x i nc))) (.val (.str x)) (.val (.int i)), .next)) none := by kernel_rfl
theorem ac_t2 (LC : LCt) (FO : FOt) (t s nc : List (Str × Int)) (x : Str) (i : Int) : exK tab0 LC FO false 12 owA 7 false scA (forBd (nthS "add_callers" 2)) (rhoA t s (.own (.dict nc)) (.val (.str x)) (.val (.int i))) (fun ρ r => some (ρ, r)) =
    ocond (keyIn x nc) (obind (nc.lookup x) fun a => ocond (decide (nc.length ≤ 1000)) (some (rhoA t s (.own (.dict (putKey x (a + i) nc))) (.val (.str x)) (.val (.int i)), .next)) none)
      (ocond (decide (nc.length ≤ 1000)) (some (rhoA t s (.own (.dict (putKey x i nc))) (.val (.str x)) (.val (.int i)), .next)) none) := by kernel_rfl
theorem ac_start (t s : List (Str × Int)) : rho0 scA ((psOf "add_callers").zip ([.dict t, .dict s].map .val)) = rhoA t s .unb .unb .unb := by kernel_rfl
theorem ac_len : (psOf "add_callers").length = 2 := by kernel_rfl

theorem foldl_putKey : ∀ (l acc : List (Str × Int)), ((acc ++ l).map (·.1)).Nodup → l.foldl (fun nc p => putKey p.1 p.2 nc) acc = acc ++ l
  | [], acc, _ => by simp
  | (x, i) :: r, acc, h => by
    have hx : x ∉ acc.map (·.1) := fun m => by
      rw [List.map_append, List.map_cons] at h
      exact (List.nodup_append.mp h).2.2 x m x (by simp) rfl
    rw [List.foldl_cons, putKey_new hx, foldl_putKey r (acc ++ [(x, i)]) (by simpa using h)]
    simp

noncomputable def stA1 (a : B × B × List (Str × Int)) (p : Str × Int) : B × B × List (Str × Int) := (.val (.str p.1), .val (.int p.2), putKey p.1 p.2 a.2.2)
noncomputable def stA2 (a : B × B × List (Str × Int)) (p : Str × Int) : B × B × List (Str × Int) := (.val (.str p.1), .val (.int p.2), put a.2.2 p)
theorem stA1_fold : ∀ (l : List (Str × Int)) (a : B × B × List (Str × Int)), (l.foldl stA1 a).2.2 = l.foldl (fun nc p => putKey p.1 p.2 nc) a.2.2
  | [], a => rfl
  | p :: r, a => stA1_fold r _
theorem stA2_fold : ∀ (l : List (Str × Int)) (a : B × B × List (Str × Int)), (l.foldl stA2 a).2.2 = l.foldl put a.2.2
  | [], a => rfl
  | p :: r, a => stA2_fold r _
theorem putKey_len (x : Str) (n : Int) : ∀ kv : List (Str × Int), (putKey x n kv).length ≤ kv.length + 1
  | [] => by simp [putKey]
  | (y, j) :: r => by
    simp only [putKey]
    split
    · simp
    · have := putKey_len x n r
      simp only [List.length_cons]; exact ar152 this

theorem Fac_eq (t s : List (Str × Int)) (ht : (t.map (·.1)).Nodup) (hl : t.length + s.length ≤ 900) : Fac [.dict t, .dict s] = some (.dict (s.foldl put t)) := by
  let mk : B × B × List (Str × Int) → Rho := fun a => rhoA t s (.own (.dict a.2.2)) a.1 a.2.1
  let q : Str × Int → D := fun p => .tuple [.str p.1, .int p.2]
  have L1 := forGo_fold (bd := fun ρ => exN tab0 (evN tab0 12) owA 7 false scA ρ (forBd (nthS "add_callers" 1))) (bind := fun d ρ => bindT scA (forTgt (nthS "add_callers" 1)) d ρ) mk stA1 q (fun a l => a.2.2.length + l.length ≤ 1000) (fun a b r h => by
    refine ⟨_, ac_b1 t s a.2.2 b.1 b.2 a.1 a.2.1, exN_of_K ((ac_t1 _ _ t s a.2.2 b.1 b.2).trans ?_), ?_⟩
    · rw [decide_eq_true (show a.2.2.length ≤ 1000 by simp only [List.length_cons] at h; exact ar162 h)]
      rfl
    · have := putKey_len b.1 b.2 a.2.2
      simp only [List.length_cons] at h
      show (putKey b.1 b.2 a.2.2).length + r.length ≤ 1000
      exact ar161 h this) t (.unb, .unb, []) (by simp; exact ar163 hl)
  have L2 := fun fc : B × B => forGo_fold (bd := fun ρ => exN tab0 (evN tab0 12) owA 7 false scA ρ (forBd (nthS "add_callers" 2))) (bind := fun d ρ => bindT scA (forTgt (nthS "add_callers" 2)) d ρ) mk stA2 q (fun a l => a.2.2.length + l.length ≤ 1000) (fun a b r h => by
    have hle : decide (a.2.2.length ≤ 1000) = true := decide_eq_true (by simp only [List.length_cons] at h; exact ar162 h)
    refine ⟨_, ac_b2 t s a.2.2 b.1 b.2 a.1 a.2.1, exN_of_K ((ac_t2 _ _ t s a.2.2 b.1 b.2).trans ?_), ?_⟩
    · rw [hle]
      cases hk : keyIn b.1 a.2.2 with
      | true =>
        obtain ⟨v, h1, h2⟩ := putKey_put_in (i := b.2) hk
        show obind (a.2.2.lookup b.1) _ = _
        rw [h1]
        show some (rhoA t s (.own (.dict (putKey b.1 (v + b.2) a.2.2))) _ _, R.next) = _
        rw [h2]
        rfl
      | false =>
        show some (rhoA t s (.own (.dict (putKey b.1 b.2 a.2.2))) _ _, R.next) = _
        rw [putKey_put_out hk]
        rfl
    · have := put_length a.2.2 b
      simp only [List.length_cons] at h
      show (put a.2.2 b).length + r.length ≤ 1000
      exact ar161 h this) s (fc.1, fc.2, t) (by simp; exact ar160 hl)
  have e1 : (t.foldl stA1 (.unb, .unb, [])).2.2 = t := by
    rw [stA1_fold]
    exact foldl_putKey t [] (by simpa using ht)
  generalize t.foldl stA1 (.unb, .unb, []) = A1 at L1 e1
  obtain ⟨f1, c1, n1⟩ := A1
  dsimp only at e1
  subst e1
  have L2 := L2 (f1, c1)
  have e2 := stA2_fold s (f1, c1, n1)
  dsimp only at L2 e2
  generalize s.foldl stA2 (f1, c1, n1) = A2 at L2 e2
  obtain ⟨f2, c2, n2⟩ := A2
  dsimp only at e2
  subst e2
  refine runP_of (by rw [ac_len]; rfl) ⟨freeze (rhoA n1 s (.own (.dict (s.foldl put n1))) f2 c2), ?_⟩
  rw [ac_body]
  rw [show rho0 (scOf "add_callers") ((psOf "add_callers").zip (List.map B.val [.dict n1, .dict s])) = rhoA n1 s .unb .unb .unb from ac_start n1 s]
  rw [exGo_next (ac_0 n1 s)]
  rw [exGo_next ((exS_for ac_f1 ac_g1 (ac_i1 n1 s [])).trans L1)]
  rw [exGo_next ((exS_for ac_f2 ac_g2 (ac_i2 n1 s n1 f1 c1)).trans L2)]
  exact exGo_ret (ac_3 n1 s _ f2 c2)
end Mine

namespace Mine
open PySem PySem.W PyProof.Rows

/-- an entry: four counts, and the callers -/
structure Ent where
  a : Int
  b : Int
  c : Int
  d : Int
  kv : List (Str × Int)
noncomputable def entD (e : Ent) : D := tD e.a e.b e.c e.d e.kv
noncomputable abbrev Row := Str × Ent
noncomputable def rowD (r : Row) : D := .tuple [.str r.1, entD r.2]
noncomputable def Ent.add (t e : Ent) : Ent := ⟨e.a + t.a, e.b + t.b, e.c + t.c, e.d + t.d, e.kv.foldl put t.kv⟩
noncomputable def Ent.zero : Ent := ⟨0, 0, 0, 0, []⟩

/-! add_func_stats -/
noncomputable def Tfs := tab1 "add_callers" Fac
noncomputable def Ffst := gP Tfs now "add_func_stats"
theorem fst_tree (LC : LCt) (FO : FOt) (F : List D → Option D) (t e : Ent) :
    rP (tab1 "add_callers" F) LC FO now "add_func_stats" [entD t, entD e] = obind (F [.dict t.kv, .dict e.kv]) fun r => some (.tuple [.int (e.a + t.a), .int (e.b + t.b), .int (e.c + t.c), .int (e.d + t.d), r]) := by
  kernel_rfl
theorem fst_len : (psOf "add_func_stats").length = 2 := by kernel_rfl
theorem ok_fst {args : List D} {d : D} (hl : args.length = 2) (h : rP Tfs (LCs Tfs) (FOs Tfs 12 now) now "add_func_stats" args = some d) : Ffst args = some d := runK_ok (hl.trans fst_len.symm) h
theorem Ffst_eq (t e : Ent) (ht : (t.kv.map (·.1)).Nodup) (hl : t.kv.length + e.kv.length ≤ 900) : Ffst [entD t, entD e] = some (entD (t.add e)) :=
  ok_fst rfl ((fst_tree _ _ Fac t e).trans (by rw [Fac_eq _ _ ht hl]; rfl))

/-! count_calls -/
noncomputable def Fcc := gP tab0 now "count_calls"
noncomputable def rhoC (kv : List (Str × Int)) (nc cl : B) : Rho := [(Str.ofString "callers", .val (.dict kv)), (Str.ofString "nc", nc), (Str.ofString "calls", cl)]
noncomputable abbrev scC := scOf "count_calls"
theorem cc_body : bdOf "count_calls" = [nthS "count_calls" 0, nthS "count_calls" 1, nthS "count_calls" 2] := by kernel_rfl
theorem cc_len : (psOf "count_calls").length = 1 := by kernel_rfl
theorem cc_start (kv : List (Str × Int)) : rho0 scC ((psOf "count_calls").zip ([.dict kv].map .val)) = rhoC kv .unb .unb := by kernel_rfl
theorem cc_0 (kv : List (Str × Int)) : exS tab0 (evN tab0 12) (exN tab0 (evN tab0 12) now 7) true now scC (rhoC kv .unb .unb) (nthS "count_calls" 0) = some (rhoC kv (.val (.int 0)) .unb, .next) := by kernel_rfl
theorem cc_2 (kv : List (Str × Int)) (n : Int) (c : B) : exS tab0 (evN tab0 12) (exN tab0 (evN tab0 12) now 7) true now scC (rhoC kv (.val (.int n)) c) (nthS "count_calls" 2) = some (freeze (rhoC kv (.val (.int n)) c), .ret (.int n)) := by kernel_rfl
theorem cc_f1 : nthS "count_calls" 1 = .For (forTgt (nthS "count_calls" 1)) (forIter (nthS "count_calls" 1)) (forBd (nthS "count_calls" 1)) [] (forPos (nthS "count_calls" 1)) := by kernel_rfl
theorem cc_g1 : (isSetE (forIter (nthS "count_calls" 1)) || !tgtOk (forTgt (nthS "count_calls" 1))) = false := by kernel_rfl
theorem cc_i1 (kv : List (Str × Int)) : (evN tab0 12).it scC (strip (rhoC kv (.val (.int 0)) .unb)) (isTup (forTgt (nthS "count_calls" 1))) (forIter (nthS "count_calls" 1)) = some (kv.map fun p => .int p.2) := by kernel_rfl
theorem cc_b1 (kv : List (Str × Int)) (n i : Int) (c : B) : bindT scC (forTgt (nthS "count_calls" 1)) (.int i) (rhoC kv (.val (.int n)) c) = some (rhoC kv (.val (.int n)) (.val (.int i))) := by kernel_rfl
theorem cc_t1 (kv : List (Str × Int)) (n i : Int) : exN tab0 (evN tab0 12) now 7 false scC (rhoC kv (.val (.int n)) (.val (.int i))) (forBd (nthS "count_calls" 1)) = some (rhoC kv (.val (.int (n + i))) (.val (.int i)), .next) := by kernel_rfl
noncomputable def stC (a : Int × B) (p : Str × Int) : Int × B := (a.1 + p.2, .val (.int p.2))
theorem stC_fold : ∀ (l : List (Str × Int)) (a : Int × B), (l.foldl stC a).1 = a.1 + (l.map (·.2)).sum
  | [], a => by simp
  | p :: r, a => by
    rw [List.foldl_cons, stC_fold r, List.map_cons, List.sum_cons]
    show a.1 + p.2 + _ = _
    exact ar165
theorem Fcc_eq (kv : List (Str × Int)) : Fcc [.dict kv] = some (.int (kv.map (·.2)).sum) := by
  let mk : Int × B → Rho := fun a => rhoC kv (.val (.int a.1)) a.2
  have L1 := forGo_fold (bd := fun ρ => exN tab0 (evN tab0 12) now 7 false scC ρ (forBd (nthS "count_calls" 1))) (bind := fun d ρ => bindT scC (forTgt (nthS "count_calls" 1)) d ρ) mk stC (fun p => D.int p.2) (fun _ _ => True) (fun a b r h => ⟨_, cc_b1 kv a.1 b.2 a.2, cc_t1 kv a.1 b.2, trivial⟩) kv (0, .unb) trivial
  have e := stC_fold kv (0, .unb)
  generalize kv.foldl stC (0, .unb) = A1 at L1 e
  obtain ⟨n1, c1⟩ := A1
  dsimp only at e
  rw [Int.zero_add] at e
  subst e
  refine runP_of (by rw [cc_len]; rfl) ⟨freeze (rhoC kv (.val (.int (kv.map (·.2)).sum)) c1), ?_⟩
  rw [cc_body]
  rw [show rho0 (scOf "count_calls") ((psOf "count_calls").zip (List.map B.val [.dict kv])) = rhoC kv .unb .unb from cc_start kv]
  rw [exGo_next (cc_0 kv)]
  rw [exGo_next ((exS_for cc_f1 cc_g1 (cc_i1 kv)).trans L1)]
  exact exGo_ret (cc_2 kv _ c1)

/-! func_std_string, _law_functions -/
noncomputable def Ffss := gP tab0 now "func_std_string"
noncomputable def fD (a : String) (n : Int) (b : String) : D := .tuple [.str (Str.ofString a), .int n, .str (Str.ofString b)]
noncomputable def fnList : List D := [fD "a.py" 1 "f", fD "a.py" 2 "f", fD "a.py" 10 "g", fD "b.py" 1 "f", fD "~" 0 "<len>", fD "~" 0 "len>"]
noncomputable def nmList : List Str := [Str.ofString "a.py:1(f)", Str.ofString "a.py:2(f)", Str.ofString "a.py:10(g)", Str.ofString "b.py:1(f)", Str.ofString "{len}", Str.ofString "len>"]
noncomputable def nm (i : Int) : Str := nmList.getD i.toNat default
noncomputable def Flf : List D → Option D
  | [] => some (.list fnList)
  | _ => none
theorem Flf_run : gP tab0 now "_law_functions" [] = some (.list fnList) := by kernel_rfl
theorem Ffss_0 : Ffss [fD "a.py" 1 "f"] = some (.str (Str.ofString "a.py:1(f)")) := by kernel_rfl
theorem Ffss_1 : Ffss [fD "a.py" 2 "f"] = some (.str (Str.ofString "a.py:2(f)")) := by kernel_rfl
theorem Ffss_2 : Ffss [fD "a.py" 10 "g"] = some (.str (Str.ofString "a.py:10(g)")) := by kernel_rfl
theorem Ffss_3 : Ffss [fD "b.py" 1 "f"] = some (.str (Str.ofString "b.py:1(f)")) := by kernel_rfl
theorem Ffss_4 : Ffss [fD "~" 0 "<len>"] = some (.str (Str.ofString "{len}")) := by kernel_rfl
theorem Ffss_5 : Ffss [fD "~" 0 "len>"] = some (.str (Str.ofString "len>")) := by kernel_rfl
theorem fn_nm (i : Int) (h0 : 0 ≤ i) (h6 : i < 6) : ∃ f, itemD (.list fnList) i = some f ∧ Ffss [f] = some (.str (nm i)) := by
  have : i = 0 ∨ i = 1 ∨ i = 2 ∨ i = 3 ∨ i = 4 ∨ i = 5 := by exact ar164 h0 h6
  rcases this with rfl | rfl | rfl | rfl | rfl | rfl
  · exact ⟨_, rfl, Ffss_0⟩
  · exact ⟨_, rfl, Ffss_1⟩
  · exact ⟨_, rfl, Ffss_2⟩
  · exact ⟨_, rfl, Ffss_3⟩
  · exact ⟨_, rfl, Ffss_4⟩
  · exact ⟨_, rfl, Ffss_5⟩

/-! _law_piece -/
noncomputable def tabP (F : List D → Option D) : Tabs := ⟨fun g => if g == Str.ofString "_law_functions" then some Flf else if g == Str.ofString "func_std_string" then some F else none, fun _ => none, false⟩
noncomputable def owP : Str → Bool := fun x => x == Str.ofString "callers"
noncomputable def Fpc := gP (tabP Ffss) owP "_law_piece"
noncomputable def strK {β : Type} (d : D) (k : Str → Option β) : Option β := match d with
  | .int _ => none
  | .str y => k y
  | _ => none
noncomputable def pcFin (F : List D → Option D) (v : Int) (kv : List (Str × Int)) : Option D :=
  obind (itemD (.list fnList) (v.fmod 6)) fun f => obind (F [f]) fun nm => some (.tuple [nm, .tuple [.int ((v.fdiv 18).fmod 4), .int ((v.fdiv 18).fmod 4 + ((v.fdiv 18).fdiv 4).fmod 3), .int (((v.fdiv 18).fdiv 12).fmod 5 - 1), .int (((v.fdiv 18).fdiv 5).fmod 7), .dict kv]])
theorem pc_tree (LC : LCt) (FO : FOt) (F : List D → Option D) (v : Int) :
    rP (tabP F) LC FO owP "_law_piece" [.int v] = ocond (decide (0 < (v.fdiv 18).fmod 4)) (obind (itemD (.list fnList) (((v.fdiv 18).fdiv 3).fmod 6)) fun f1 => obind (F [f1]) fun k1 => strK k1 fun y1 =>
      ocond (((v.fdiv 18).fdiv 2).fmod 3 == 0) (obind (itemD (.list fnList) (((v.fdiv 18).fdiv 3 + 1 + ((v.fdiv 18).fdiv 7).fmod 5).fmod 6)) fun f2 => obind (F [f2]) fun k2 => strK k2 fun y2 =>
          pcFin F v (putKey y2 ((v.fdiv 18).fmod 4 + 1) [(y1, (v.fdiv 18).fmod 4 + ((v.fdiv 18).fdiv 4).fmod 3)]))
        (pcFin F v [(y1, (v.fdiv 18).fmod 4 + ((v.fdiv 18).fdiv 4).fmod 3)])) (pcFin F v []) := by
  kernel_rfl

/-- the piece of a number -/
noncomputable def pieceKv (v : Int) : List (Str × Int) := if 0 < (v.fdiv 18).fmod 4 then
    (if ((v.fdiv 18).fdiv 2).fmod 3 = 0 then putKey (nm (((v.fdiv 18).fdiv 3 + 1 + ((v.fdiv 18).fdiv 7).fmod 5).fmod 6)) ((v.fdiv 18).fmod 4 + 1) [(nm (((v.fdiv 18).fdiv 3).fmod 6), (v.fdiv 18).fmod 4 + ((v.fdiv 18).fdiv 4).fmod 3)]
      else [(nm (((v.fdiv 18).fdiv 3).fmod 6), (v.fdiv 18).fmod 4 + ((v.fdiv 18).fdiv 4).fmod 3)])
  else []
noncomputable def pieceE (v : Int) : Ent := ⟨(v.fdiv 18).fmod 4, (v.fdiv 18).fmod 4 + ((v.fdiv 18).fdiv 4).fmod 3, ((v.fdiv 18).fdiv 12).fmod 5 - 1, ((v.fdiv 18).fdiv 5).fmod 7, pieceKv v⟩
noncomputable def piece (v : Int) : Row := (nm (v.fmod 6), pieceE v)
theorem fmod6 (x : Int) : 0 ≤ x.fmod 6 ∧ x.fmod 6 < 6 := ⟨Int.fmod_nonneg_of_pos _ (by decide), Int.fmod_lt_of_pos _ (by decide)⟩
theorem pcFin_eq (v : Int) (kv : List (Str × Int)) : pcFin Ffss v kv = some (rowD (nm (v.fmod 6), ⟨(v.fdiv 18).fmod 4, (v.fdiv 18).fmod 4 + ((v.fdiv 18).fdiv 4).fmod 3, ((v.fdiv 18).fdiv 12).fmod 5 - 1, ((v.fdiv 18).fdiv 5).fmod 7, kv⟩)) := by
  obtain ⟨f, h1, h2⟩ := fn_nm (v.fmod 6) (fmod6 v).1 (fmod6 v).2
  unfold pcFin
  rw [h1]
  show obind (Ffss [f]) _ = _
  rw [h2]
  rfl
theorem pc_len : (psOf "_law_piece").length = 1 := by kernel_rfl
theorem ok_pc {args : List D} {d : D} (hl : args.length = 1) (h : rP (tabP Ffss) (LCs (tabP Ffss)) (FOs (tabP Ffss) 12 owP) owP "_law_piece" args = some d) : Fpc args = some d := runK_ok (hl.trans pc_len.symm) h
theorem Fpc_eq (v : Int) : Fpc [.int v] = some (rowD (piece v)) := by
  refine ok_pc rfl ((pc_tree _ _ Ffss v).trans ?_)
  unfold piece pieceE pieceKv
  by_cases h0 : 0 < (v.fdiv 18).fmod 4
  · obtain ⟨f1, h1, h2⟩ := fn_nm (((v.fdiv 18).fdiv 3).fmod 6) (fmod6 _).1 (fmod6 _).2
    rw [decide_eq_true h0, if_pos h0]
    by_cases h3 : ((v.fdiv 18).fdiv 2).fmod 3 = 0
    · have h3' : (((v.fdiv 18).fdiv 2).fmod 3 == 0) = true := by simpa using h3
      obtain ⟨f4, h4, h5⟩ := fn_nm (((v.fdiv 18).fdiv 3 + 1 + ((v.fdiv 18).fdiv 7).fmod 5).fmod 6) (fmod6 _).1 (fmod6 _).2
      rw [if_pos h3]
      simp only [ocond_t, h1, obind_s, h2, strK, h3', h4, h5]
      exact pcFin_eq v _
    · have h3' : (((v.fdiv 18).fdiv 2).fmod 3 == 0) = false := by simpa using h3
      rw [if_neg h3]
      simp only [ocond_t, h1, obind_s, h2, strK, h3', ocond_f]
      exact pcFin_eq v _
  · rw [decide_eq_false h0, if_neg h0]
    exact pcFin_eq v _
end Mine

namespace Mine
open PySem PySem.W PyProof.Rows

noncomputable def lcElt : Expr → Expr
  | .ListComp e _ _ _ => e
  | e => e
noncomputable def lcGen (i : Nat) : Expr → Comprehension
  | .ListComp _ gs _ _ => gs.getD i ⟨.Name default default, .Name default default, [], 0⟩
  | _ => ⟨.Name default default, .Name default default, [], 0⟩
noncomputable def lcSc : Expr → Scope
  | .ListComp _ _ sc _ => sc
  | _ => default
noncomputable def lcPos : Expr → Pos
  | .ListComp _ _ _ p => p
  | _ => default

noncomputable def dstep (E : Ev) (sc : Scope) (g : Comprehension) (elt : Expr) (ρ : Rho) (d : D) : Option (List D) := match bindT sc g.target d ρ with
  | none => none
  | some ρ' => match allT (E.t sc) ρ' g.ifs with
    | some true => (E.v sc ρ' elt).map fun x => [x]
    | some false => some []
    | none => none

noncomputable def ifsK {β : Type} (te : Expr → (Bool → Option β) → Option β) : List Expr → (Bool → Option β) → Option β
  | [], k => k true
  | e :: es, k => te e fun b => ocond b (ifsK te es k) (k false)
noncomputable def stepC (T : Tabs) (LC : LCt) (n : Nat) (sc : Scope) (g : Comprehension) (elt : Expr) (ρ : Rho) (d : D) : Option (List D) := match bindT sc g.target d ρ with
  | none => none
  | some ρ' => ifsK (teK T LC n sc ρ') g.ifs fun b => ocond b (evK T LC n sc ρ' elt fun x => some [x]) (some [])

theorem ifsK_ok {β : Type} {E : Ev} {sc : Scope} {ρ : Rho} {te : Expr → (Bool → Option β) → Option β} (hte : ∀ e k b, te e k = some b → ∃ t, E.t sc ρ e = some t ∧ k t = some b) : ∀ {es : List Expr} {k : Bool → Option β} {b : β}, ifsK te es k = some b → ∃ t, allT (E.t sc) ρ es = some t ∧ k t = some b
  | [], k, b, h => ⟨true, rfl, h⟩
  | e :: es, k, b, h => by
    obtain ⟨t, h1, h2⟩ := hte _ _ _ h
    rcases ocond_some h2 with ⟨rfl, h3⟩ | ⟨rfl, h3⟩
    · obtain ⟨t, h4, h5⟩ := ifsK_ok hte h3
      exact ⟨t, by simp only [allT, h1, h4], h5⟩
    · exact ⟨false, by simp only [allT, h1], h3⟩
theorem stepC_ok {T : Tabs} {n : Nat} {sc : Scope} {g : Comprehension} {elt : Expr} {ρ : Rho} {d : D} {out : List D} (h : stepC T (LCs T) n sc g elt ρ d = some out) : dstep (evN T n) sc g elt ρ d = some out := by
  unfold stepC at h
  unfold dstep
  split at h
  · first | exact nn h | cases h
  · rename_i ρ' hb
    obtain ⟨t, h1, h2⟩ := ifsK_ok (E := evN T n) (fun e k b h => teK_ok _ _ _ _ h) h
    rcases ocond_some h2 with ⟨rfl, h3⟩ | ⟨rfl, h3⟩
    · obtain ⟨x, h4, h5⟩ := evK_ok _ _ _ _ h3
      cases h5
      simp only [h1, h4, Option.map_some]
    · first | exact nn h3 | cases h3
      simp only [h1]

theorem flatO_map {α : Type} {f : D → Option (List D)} {q : α → D} {out : α → List D} : ∀ {l : List α}, (∀ a ∈ l, f (q a) = some (out a)) → flatO f (l.map q) = some (l.flatMap out)
  | [], _ => rfl
  | a :: l, h => by
    simp only [List.map_cons, flatO, h a (List.mem_cons_self ..), flatO_map fun b m => h b (List.mem_cons_of_mem _ m), List.flatMap_cons]

theorem evN_v (T : Tabs) (n : Nat) : (evN T (n + 1)).v = evV T (evN T n) := rfl
section
variable {T : Tabs} {sc : Scope} {ρ : Rho}
theorem evV_lc {E : Ev} {elt : Expr} {g : Comprehension} {gs : List Comprehension} {sc' : Scope} {p : Pos} {ds out : List D} (hc : (scOk sc' && freeOk sc sc' && (g :: gs).all genOk && decide ((g :: gs).length ≤ 2)) = true) (hit : E.it sc ρ (isTup g.target) g.iter = some ds) (ho : compGo E sc' elt (g :: gs) ds (compRho sc' ρ) = some out) (hl : out.length ≤ 1000) : evV T E sc ρ (.ListComp elt (g :: gs) sc' p) = some (.list out) :=
  show (if (scOk sc' && freeOk sc sc' && (g :: gs).all genOk && decide ((g :: gs).length ≤ 2)) = true then obind (E.it sc ρ (isTup g.target) g.iter) fun ds => obind (compGo E sc' elt (g :: gs) ds (compRho sc' ρ)) fun out => if decide (out.length ≤ 1000) then some (D.list out) else none else none) = _ from
  (ite_t hc).trans (obind_of hit (obind_of ho (ite_t (decide_eq_true hl))))
theorem comp1 {n : Nat} {e elt : Expr} {g : Comprehension} {sc' : Scope} {p : Pos} (he : e = .ListComp elt [g] sc' p) (hc : (scOk sc' && freeOk sc sc' && [g].all genOk && unbT (compRho sc' ρ) g.target) = true) {α : Type} (l : List α) (q : α → D) (out : α → List D)
    (hit : (evN T n).it sc ρ (isTup g.target) g.iter = some (l.map q)) (hstep : ∀ a ∈ l, dstep (evN T n) sc' g elt (compRho sc' ρ) (q a) = some (out a)) (hlen : (l.flatMap out).length ≤ 1000) : (evN T (n + 1)).v sc ρ e = some (.list (l.flatMap out)) := by
  subst he
  rw [Bool.and_eq_true] at hc
  rw [evN_v]
  have : compGo (evN T n) sc' elt [g] (l.map q) (compRho sc' ρ) = some (l.flatMap out) := by
    unfold compGo
    rw [if_pos hc.2]
    exact flatO_map hstep
  exact evV_lc (by rw [Bool.and_eq_true]; exact ⟨hc.1, rfl⟩) hit this hlen

theorem comp2 {n : Nat} {e elt : Expr} {g g' : Comprehension} {sc' : Scope} {p : Pos} (he : e = .ListComp elt [g, g'] sc' p) (hc : (scOk sc' && freeOk sc sc' && [g, g'].all genOk && unbT (compRho sc' ρ) g.target) = true) {α β : Type} (l : List α) (q : α → D) (l2 : α → List β) (q2 : β → D) (rh : α → Rho) (out : α → β → List D)
    (hit : (evN T n).it sc ρ (isTup g.target) g.iter = some (l.map q)) (hifs : g.ifs = []) (hb : ∀ a ∈ l, bindT sc' g.target (q a) (compRho sc' ρ) = some (rh a) ∧ (evN T n).it sc' (rh a) (isTup g'.target) g'.iter = some ((l2 a).map q2) ∧ unbT (rh a) g'.target = true ∧ ∀ b ∈ l2 a, dstep (evN T n) sc' g' elt (rh a) (q2 b) = some (out a b))
    (hlen : (l.flatMap fun a => (l2 a).flatMap (out a)).length ≤ 1000) : (evN T (n + 1)).v sc ρ e = some (.list (l.flatMap fun a => (l2 a).flatMap (out a))) := by
  subst he
  rw [Bool.and_eq_true] at hc
  rw [evN_v]
  have : compGo (evN T n) sc' elt [g, g'] (l.map q) (compRho sc' ρ) = some (l.flatMap fun a => (l2 a).flatMap (out a)) := by
    unfold compGo
    rw [if_pos hc.2]
    refine flatO_map fun a m => ?_
    obtain ⟨h1, h2, h3, h4⟩ := hb a m
    simp only [h1, hifs, allT, h2]
    unfold compGo
    rw [if_pos h3]
    exact flatO_map h4
  exact evV_lc (by rw [Bool.and_eq_true]; exact ⟨hc.1, rfl⟩) hit this hlen

theorem sorted1 {n : Nat} {e a : Expr} {f k : Str} {lam : Expr} {fp kp q : Pos} {d r : D} (he : e = .Call (.Name f fp) [a] [⟨some k, lam, kp⟩] q) (hc : (isGlob sc f && f == Str.ofString "sorted" && k == Str.ofString "key" && isKeyLam lam && T.lam) = true) (ha : (evN T n).v sc ρ a = some d) (hs : sortD d = some r) :
    (evN T (n + 1)).v sc ρ e = some r := by
  subst he
  rw [evN_v]
  exact show (if (isGlob sc f && f == Str.ofString "sorted" && k == Str.ofString "key" && isKeyLam lam && T.lam) = true then obind ((evN T n).v sc ρ a) sortD else none) = _ from (ite_t hc).trans (obind_of ha hs)
end

/-! _law_flat -/
noncomputable def Ffl := gP tab0 now "_law_flat"
noncomputable def rhoF (rows : D) : Rho := [(Str.ofString "rows", .val rows)]
noncomputable def retE : Stmt → Expr
  | .Return (some e) _ => e
  | _ => .Name default default
noncomputable abbrev flE : Expr := retE (nthS "_law_flat" 0)
noncomputable abbrev scFl := scOf "_law_flat"
noncomputable def flatRow (r : Row) : D := .tuple [.str r.1, .list [.int r.2.a, .int r.2.b, .int r.2.c, .int r.2.d], .list (pairsD r.2.kv)]
theorem fl_tree (LC : LCt) (FO : FOt) (rows : D) : rP tab0 LC FO now "_law_flat" [rows] = obind (LC 12 scFl (rhoF rows) flE) some := by kernel_rfl
theorem fl_e : flE = .ListComp (lcElt flE) [lcGen 0 flE] (lcSc flE) (lcPos flE) := by kernel_rfl
theorem fl_c (rows : D) : (scOk (lcSc flE) && freeOk scFl (lcSc flE) && [lcGen 0 flE].all genOk && unbT (compRho (lcSc flE) (rhoF rows)) (lcGen 0 flE).target) = true := by kernel_rfl
theorem fl_i (rows : List D) : (evN tab0 11).it scFl (rhoF (.list rows)) (isTup (lcGen 0 flE).target) (lcGen 0 flE).iter = some rows := by kernel_rfl
theorem fl_s (LC : LCt) (rows : D) (r : Row) : stepC tab0 LC 11 (lcSc flE) (lcGen 0 flE) (lcElt flE) (compRho (lcSc flE) (rhoF rows)) (rowD r) =
    obind (if decide (r.2.kv.length ≤ 1000) = true then some (D.list (pairsD r.2.kv)) else none) fun c => some [.tuple [.str r.1, .list [.int r.2.a, .int r.2.b, .int r.2.c, .int r.2.d], c]] := by kernel_rfl
theorem fl_len : (psOf "_law_flat").length = 1 := by kernel_rfl
theorem ok_fl {args : List D} {d : D} (hl : args.length = 1) (h : rP tab0 (LCs tab0) (FOs tab0 12 now) now "_law_flat" args = some d) : Ffl args = some d := runK_ok (hl.trans fl_len.symm) h
theorem flatMap_single {α β : Type} (f : α → β) : ∀ l : List α, l.flatMap (fun a => [f a]) = l.map f
  | [] => rfl
  | a :: l => by simp [List.flatMap_cons, flatMap_single f l]
theorem Ffl_eq (rows : List Row) (hl : rows.length ≤ 1000) (hk : ∀ r ∈ rows, r.2.kv.length ≤ 1000) : Ffl [.list (rows.map rowD)] = some (.list (rows.map flatRow)) := by
  have h := comp1 (T := tab0) (n := 11) fl_e (fl_c (.list (rows.map rowD))) rows rowD (fun r => [flatRow r]) (fl_i _) (fun r m => stepC_ok ((fl_s _ _ r).trans (by rw [decide_eq_true (hk r m)]; rfl))) (by rw [flatMap_single]; simpa using hl)
  rw [flatMap_single] at h
  exact ok_fl rfl ((fl_tree _ _ _).trans (by unfold LCs; rw [h]; rfl))
end Mine

namespace Mine
open PySem PySem.W PyProof.Rows

/-- rows by their names, like ones as they came -/
noncomputable def insR (r : Row) : List Row → List Row
  | [] => [r]
  | y :: t => if strLt r.1 y.1 then r :: y :: t else y :: insR r t
noncomputable def sortR (l : List Row) : List Row := l.foldl (fun acc r => insR r acc) []
noncomputable def tgR (r : Row) : Str × D := (r.1, rowD r)
theorem insD_map (r : Row) : ∀ l : List Row, insD r.1 (rowD r) (l.map tgR) = (insR r l).map tgR
  | [] => rfl
  | y :: t => by
    show (if strLt r.1 y.1 then _ else _) = _
    unfold insR
    split
    · rfl
    · show (y.1, rowD y) :: insD r.1 (rowD r) (t.map tgR) = _
      rw [insD_map r t]; rfl
theorem sortP_map : ∀ l acc : List Row, sortP (l.map tgR) (acc.map tgR) = (l.foldl (fun acc r => insR r acc) acc).map tgR
  | [], acc => rfl
  | r :: l, acc => by
    show sortP (l.map tgR) (insD r.1 (rowD r) (acc.map tgR)) = _
    rw [insD_map, sortP_map l]
    rfl
theorem zip_tg (l : List Row) : (l.map (·.1)).zip (l.map rowD) = l.map tgR := by
  induction l with
  | nil => rfl
  | cons r l ih => simp only [List.map_cons, List.zip_cons_cons, ih]; rfl
theorem mapO_key (l : List Row) : mapO keyD (l.map rowD) = some (l.map (·.1)) := by
  induction l with
  | nil => rfl
  | cons r l ih => simp only [List.map_cons, mapO, ih]; rfl
theorem sortD_eq (l : List Row) (h : l.length < 64) : sortD (.list (l.map rowD)) = some (.list ((sortR l).map rowD)) := by
  have hd : decide ((l.map rowD).length < 64) = true := decide_eq_true (by simpa using h)
  simp only [sortD, mapO_key, hd, if_true, zip_tg]
  have := sortP_map l []
  simp only [List.map_nil] at this
  rw [this, List.map_map]
  rfl

/-! _law_profiles -/
noncomputable def tabL (F : List D → Option D) : Tabs := ⟨fun g => if g == Str.ofString "_law_piece" then some F else none, fun _ => none, true⟩
noncomputable def Fpr := gP (tabL Fpc) now "_law_profiles"
noncomputable def filt (i : Int) (ns : List Int) : List Row := (ns.filter fun v => (v.fdiv 6).fmod 3 == i).map piece
noncomputable def prof (i : Int) (ns : List Int) : List Row := sortR (filt i ns)
noncomputable def numD (ns : List Int) : D := .list (ns.map .int)
noncomputable def rhoPr (ns : D) : Rho := [(Str.ofString "numbers", .val ns)]
noncomputable abbrev prE : Expr := retE (nthS "_law_profiles" 0)
noncomputable abbrev scPr := scOf "_law_profiles"
noncomputable def clArg : Expr → Expr
  | .Call _ (a :: _) _ _ => a
  | e => e
noncomputable def clFn : Expr → Str × Pos
  | .Call (.Name f p) _ _ _ => (f, p)
  | _ => default
noncomputable def clKw : Expr → Str × Expr × Pos
  | .Call _ _ [⟨some k, e, p⟩] _ => (k, e, p)
  | e => (default, e, default)
noncomputable def clPos : Expr → Pos
  | .Call _ _ _ p => p
  | _ => default
noncomputable abbrev prS : Expr := lcElt prE
noncomputable abbrev prI : Expr := clArg prS
noncomputable def rhoPo (ns : D) (n : B) : Rho := [(Str.ofString ".0", .unb), (Str.ofString "n", n), (Str.ofString "numbers", .val ns)]
theorem pr_tree (F : List D → Option D) (LC : LCt) (FO : FOt) (ns : D) : rP (tabL F) LC FO now "_law_profiles" [ns] = obind (LC 12 scPr (rhoPr ns) prE) some := by kernel_rfl
theorem pr_e : prE = .ListComp prS [lcGen 0 prE] (lcSc prE) (lcPos prE) := by kernel_rfl
theorem pr_c (ns : D) : (scOk (lcSc prE) && freeOk scPr (lcSc prE) && [lcGen 0 prE].all genOk && unbT (compRho (lcSc prE) (rhoPr ns)) (lcGen 0 prE).target) = true := by kernel_rfl
theorem pr_i (F : List D → Option D) (ns : D) : (evN (tabL F) 11).it scPr (rhoPr ns) (isTup (lcGen 0 prE).target) (lcGen 0 prE).iter = some (([0, 1, 2] : List Int).map D.int) := by kernel_rfl
theorem pr_r (ns : D) : compRho (lcSc prE) (rhoPr ns) = rhoPo ns .unb := by kernel_rfl
theorem pr_b (ns : D) (i : Int) : bindT (lcSc prE) (lcGen 0 prE).target (.int i) (rhoPo ns .unb) = some (rhoPo ns (.val (.int i))) := by kernel_rfl
theorem pr_if : (lcGen 0 prE).ifs = [] := by kernel_rfl
theorem pr_s : prS = .Call (.Name (clFn prS).1 (clFn prS).2) [prI] [⟨some (clKw prS).1, (clKw prS).2.1, (clKw prS).2.2⟩] (clPos prS) := by kernel_rfl
theorem pr_sc (F : List D → Option D) : (isGlob (lcSc prE) (clFn prS).1 && (clFn prS).1 == Str.ofString "sorted" && (clKw prS).1 == Str.ofString "key" && isKeyLam (clKw prS).2.1 && (tabL F).lam) = true := by kernel_rfl
theorem pr_ie : prI = .ListComp (lcElt prI) [lcGen 0 prI] (lcSc prI) (lcPos prI) := by kernel_rfl
theorem pr_ic (ns : D) (i : Int) : (scOk (lcSc prI) && freeOk (lcSc prE) (lcSc prI) && [lcGen 0 prI].all genOk && unbT (compRho (lcSc prI) (rhoPo ns (.val (.int i)))) (lcGen 0 prI).target) = true := by kernel_rfl
theorem pr_ii (F : List D → Option D) (ns : List D) (i : Int) : (evN (tabL F) 9).it (lcSc prE) (rhoPo (.list ns) (.val (.int i))) (isTup (lcGen 0 prI).target) (lcGen 0 prI).iter = some ns := by kernel_rfl
theorem pr_is (LC : LCt) (F : List D → Option D) (ns : D) (i v : Int) : stepC (tabL F) LC 9 (lcSc prI) (lcGen 0 prI) (lcElt prI) (compRho (lcSc prI) (rhoPo ns (.val (.int i)))) (.int v) = ocond ((v.fdiv 6).fmod 3 == i) (obind (F [.int v]) fun x => some [x]) (some []) := by kernel_rfl
theorem pr_len : (psOf "_law_profiles").length = 1 := by kernel_rfl
theorem ok_pr {args : List D} {d : D} (hl : args.length = 1) (h : rP (tabL Fpc) (LCs (tabL Fpc)) (FOs (tabL Fpc) 12 now) now "_law_profiles" args = some d) : Fpr args = some d := runK_ok (hl.trans pr_len.symm) h

theorem filt_flat (i : Int) : ∀ ns : List Int, ns.flatMap (fun v => if ((v.fdiv 6).fmod 3 == i) = true then [rowD (piece v)] else []) = (filt i ns).map rowD
  | [] => rfl
  | v :: ns => by
    have ih := filt_flat i ns
    unfold filt at ih ⊢
    rw [List.flatMap_cons, ih, List.filter_cons]
    split
    · rfl
    · rfl
theorem filt_len (i : Int) (ns : List Int) : (filt i ns).length ≤ ns.length := by
  unfold filt
  rw [List.length_map]
  exact List.length_filter_le _ _

theorem Fpr_eq (ns : List Int) (hl : ns.length ≤ 60) : Fpr [numD ns] = some (.list (([0, 1, 2] : List Int).map fun i => .list ((prof i ns).map rowD))) := by
  have inner : ∀ i : Int, (evN (tabL Fpc) 10).v (lcSc prE) (rhoPo (numD ns) (.val (.int i))) prI = some (.list ((filt i ns).map rowD)) := fun i => by
    have h := comp1 (T := tabL Fpc) (n := 9) pr_ie (pr_ic (numD ns) i) ns D.int (fun v => if ((v.fdiv 6).fmod 3 == i) = true then [rowD (piece v)] else []) (pr_ii _ _ i) (fun v _ => stepC_ok ((pr_is _ _ (numD ns) i v).trans (by
      rw [Fpc_eq]
      cases (v.fdiv 6).fmod 3 == i <;> rfl))) (by
      rw [filt_flat, List.length_map]
      have := filt_len i ns
      exact ar167 hl this)
    rw [filt_flat] at h
    exact h
  have srt : ∀ i : Int, (evN (tabL Fpc) 11).v (lcSc prE) (rhoPo (numD ns) (.val (.int i))) prS = some (.list ((prof i ns).map rowD)) := fun i =>
    sorted1 (n := 10) pr_s (pr_sc Fpc) (inner i) (sortD_eq _ (by have := filt_len i ns; exact ar166 hl this))
  have h := comp1 (T := tabL Fpc) (n := 11) pr_e (pr_c (numD ns)) [0, 1, 2] D.int (fun i => [.list ((prof i ns).map rowD)]) (pr_i _ _) (fun i _ => by
    unfold dstep
    rw [pr_r, pr_b]
    simp only [pr_if, allT, srt i, Option.map_some]) (by simp)
  exact ok_pr rfl ((pr_tree _ _ _ _).trans (by unfold LCs; rw [h]; rfl))
end Mine

namespace Mine
open PySem PySem.W PyProof.Rows

/-! _law_merged: trees -/
noncomputable abbrev FMt := List D → List D → Option (List D × D)
noncomputable def tabG (F : List D → Option D) (Fi Fr Fp : FMt) : Tabs := ⟨fun g => if g == Str.ofString "add_func_stats" then some F else none, fun g => if g == Str.ofString "heapify" then some Fi else if g == Str.ofString "heapreplace" then some Fr else if g == Str.ofString "heappop" then some Fp else none, false⟩
noncomputable def owG : Str → Bool := fun x => x == Str.ofString "heap"
noncomputable abbrev scG := scOf "_law_merged"
noncomputable def rhoG (ps : D) (n heap told name place entry gone : B) : Rho := [(Str.ofString "profiles", .val ps), (Str.ofString "n", n), (Str.ofString "heap", heap), (Str.ofString "told", told), (Str.ofString "name", name), (Str.ofString "place", place), (Str.ofString "entry", entry), (Str.ofString "gone", gone)]
noncomputable abbrev mS (i : Nat) := nthS "_law_merged" i
noncomputable def asgV : Stmt → Expr
  | .Assign _ v _ => v
  | _ => .Name default default
noncomputable abbrev mgE : Expr := asgV (mS 0)

section
variable (F : List D → Option D) (Fi Fr Fp : FMt) (LC : LCt) (FO : FOt)
theorem mg_body : bdOf "_law_merged" = [mS 0, mS 1, mS 2, mS 3, mS 4] := by kernel_rfl
theorem mg_len : (psOf "_law_merged").length = 1 := by kernel_rfl
theorem mg_start (ps : D) : rho0 scG ((psOf "_law_merged").zip ([ps].map .val)) = rhoG ps .unb .unb .unb .unb .unb .unb .unb := by kernel_rfl
theorem mg_0 (ps : D) (X) : stK (tabG F Fi Fr Fp) LC FO false 12 7 owG X true scG (mS 0) (rhoG ps .unb .unb .unb .unb .unb .unb .unb) (fun ρ r => some (ρ, r)) = obind (LC 12 scG (rhoG ps .unb .unb .unb .unb .unb .unb .unb) mgE) fun d => some (rhoG ps .unb (.own d) .unb .unb .unb .unb .unb, .next) := by kernel_rfl
theorem mg_1 (ps : D) (hs : List D) (X) : stK (tabG F Fi Fr Fp) LC FO false 12 7 owG X true scG (mS 1) (rhoG ps .unb (.own (.list hs)) .unb .unb .unb .unb .unb) (fun ρ r => some (ρ, r)) = obind (Fi hs []) fun z => (match z.2 with
    | .none => some (rhoG ps .unb (.own (.list z.1)) .unb .unb .unb .unb .unb, .next)
    | _ => none) := by kernel_rfl
theorem mg_2 (ps : D) (hs : List D) (X) : stK (tabG F Fi Fr Fp) LC FO false 12 7 owG X true scG (mS 2) (rhoG ps .unb (.own (.list hs)) .unb .unb .unb .unb .unb) (fun ρ r => some (ρ, r)) = some (rhoG ps .unb (.own (.list hs)) (.val (.list [])) .unb .unb .unb .unb, .next) := by kernel_rfl
theorem mg_4 (ps : D) (n heap name place entry gone : B) (td : List D) (X) : stK (tabG F Fi Fr Fp) LC FO false 12 7 owG X true scG (mS 4) (rhoG ps n heap (.val (.list td)) name place entry gone) (fun ρ r => some (ρ, r)) = some (freeze (rhoG ps n heap (.val (.list td)) name place entry gone), .ret (.list td)) := by kernel_rfl
theorem mg_w : mS 3 = .While (whTest (mS 3)) (forBd (mS 3)) [] (forPos (mS 3)) := by kernel_rfl
theorem mg_t (ps : D) (n : B) (hs : List D) (told name place entry gone : B) : (evN (tabG F Fi Fr Fp) 12).t scG (rhoG ps n (.own (.list hs)) told name place entry gone) (whTest (mS 3)) = if decide (hs.length ≤ 1000) = true then some (!hs.isEmpty) else none := by kernel_rfl
theorem mg_e : mgE = .ListComp (lcElt mgE) [lcGen 0 mgE] (lcSc mgE) (lcPos mgE) := by kernel_rfl
theorem mg_c (ps : D) : (scOk (lcSc mgE) && freeOk scG (lcSc mgE) && [lcGen 0 mgE].all genOk && unbT (compRho (lcSc mgE) (rhoG ps .unb .unb .unb .unb .unb .unb .unb)) (lcGen 0 mgE).target) = true := by kernel_rfl
theorem mg_i (ps : List D) : (evN (tabG F Fi Fr Fp) 11).it scG (rhoG (.list ps) .unb .unb .unb .unb .unb .unb .unb) (isTup (lcGen 0 mgE).target) (lcGen 0 mgE).iter = some (((List.range ps.length).zip ps).map fun (p : Nat × D) => D.tuple [.int (p.1 : Int), p.2]) := by kernel_rfl
theorem mg_s0 (ps : D) (n : Int) : stepC (tabG F Fi Fr Fp) LC 11 (lcSc mgE) (lcGen 0 mgE) (lcElt mgE) (compRho (lcSc mgE) (rhoG ps .unb .unb .unb .unb .unb .unb .unb)) (.tuple [.int n, .list []]) = some [] := by kernel_rfl
theorem mg_s1 (ps : D) (n : Int) (r : Row) (t : List D) : stepC (tabG F Fi Fr Fp) LC 11 (lcSc mgE) (lcGen 0 mgE) (lcElt mgE) (compRho (lcSc mgE) (rhoG ps .unb .unb .unb .unb .unb .unb .unb)) (.tuple [.int n, .list (rowD r :: t)]) =
    obind (if decide ((rowD r :: t).length ≤ 1000) = true then some true else none) fun b => ocond b (some [hD (r.1, n, 0)]) (some []) := by kernel_rfl

/-- the end of a turn -/
noncomputable def mgFin (ps : D) (h : HI) (told ent : D) (z : List D × D) : Option (Rho × R) := obind (cmpD .NotEq z.2 (hD h)) fun b4 =>
  ocond b4 (some (freeze (rhoG ps (.val (.int h.2.1)) (.own (.list z.1)) (.val told) (.val (.str h.1)) (.val (.int h.2.2)) (.val ent) (.val z.2)), .ret (.list []))) (some (rhoG ps (.val (.int h.2.1)) (.own (.list z.1)) (.val told) (.val (.str h.1)) (.val (.int h.2.2)) (.val ent) (.val z.2), .next))
noncomputable def mgEnd (ps : D) (h : HI) (hs : List D) (ent told : D) : Option (Rho × R) := obind (itemD ps h.2.1) fun p => obind (lenD p) fun ln => obind (cmpD .Lt (.int (h.2.2 + 1)) ln) fun b3 =>
  ocond b3 (obind (itemD ps h.2.1) fun p => obind (itemD p (h.2.2 + 1)) fun row => obind (itemD row 0) fun nm' => obind (Fr (hD h :: hs) [.tuple [nm', .int h.2.1, .int (h.2.2 + 1)]]) (mgFin ps h told ent))
    (obind (Fp (hD h :: hs) []) (mgFin ps h told ent))
noncomputable def mgTold (ps : D) (h : HI) (hs td : List D) (ent : D) : Option (Rho × R) := obind (truthD (.list td)) fun b1 =>
  ocond b1 (obind (itemD (.list td) (-1)) fun last => obind (itemD last 0) fun nm0 => obind (cmpD .Eq nm0 (.str h.1)) fun b2 =>
      ocond b2 (obind (sliceD (.list td) none (some (-1))) fun dl => obind (itemD (.list td) (-1)) fun last2 => obind (itemD last2 1) fun e1 => obind (F [e1, ent]) fun e2 => obind (binD .Add dl (.list [.tuple [.str h.1, e2]])) (mgEnd Fr Fp ps h hs ent))
        (obind (F [tD 0 0 0 0 [], ent]) fun e2 => obind (binD .Add (.list td) (.list [.tuple [.str h.1, e2]])) (mgEnd Fr Fp ps h hs ent)))
    (obind (F [tD 0 0 0 0 [], ent]) fun e2 => obind (binD .Add (.list td) (.list [.tuple [.str h.1, e2]])) (mgEnd Fr Fp ps h hs ent))
theorem mg_turn (ps : D) (h : HI) (hs td : List D) (n name place entry gone : B) : exK (tabG F Fi Fr Fp) LC FO false 12 owG 7 true scG (forBd (mS 3)) (rhoG ps n (.own (.list (hD h :: hs))) (.val (.list td)) name place entry gone) (fun ρ r => some (ρ, r)) =
    obind (itemD ps h.2.1) fun p => obind (itemD p h.2.2) fun row => obind (itemD row 1) fun ent => mgTold F Fr Fp ps h hs td ent := by kernel_rfl
end
end Mine

namespace Mine
open PySem PySem.W PyProof.Rows

noncomputable def pD (p : List Row) : D := .list (p.map rowD)
noncomputable def psD (ps : List (List Row)) : D := .list (ps.map pD)

theorem nm_strOk : ∀ x ∈ nmList, PyData.strOk x = true := by decide +kernel

/-- callers by the six names, each once -/
noncomputable def GoodE (e : Ent) : Prop := (e.kv.map (·.1)).Nodup ∧ ∀ k ∈ e.kv.map (·.1), k ∈ nmList
noncomputable def GoodR (r : Row) : Prop := r.1 ∈ nmList ∧ GoodE r.2

theorem nodup_len {α : Type} [BEq α] [LawfulBEq α] : ∀ {l m : List α}, l.Nodup → (∀ x ∈ l, x ∈ m) → l.length ≤ m.length
  | [], m, _, _ => Nat.zero_le _
  | a :: l, m, hn, hs => by
    rw [List.nodup_cons] at hn
    have ha : a ∈ m := hs a (List.mem_cons_self ..)
    have := nodup_len (l := l) (m := m.erase a) hn.2 fun x hx => (List.mem_erase_of_ne (a := x) (b := a) (fun e : x = a => hn.1 (e ▸ hx))).mpr (hs x (List.mem_cons_of_mem _ hx))
    rw [List.length_erase_of_mem ha] at this
    have hp : 0 < m.length := List.length_pos_of_mem ha
    simp only [List.length_cons]; exact ar172 this hp
theorem GoodE.len {e : Ent} (g : GoodE e) : e.kv.length ≤ 6 := by
  have := nodup_len g.1 g.2
  rw [List.length_map] at this
  exact this

theorem put_keys (p : Str × Int) : ∀ kv : List (Str × Int), (put kv p).map (·.1) = if p.1 ∈ kv.map (·.1) then kv.map (·.1) else kv.map (·.1) ++ [p.1]
  | [] => rfl
  | (y, j) :: r => by
    by_cases hy : y = p.1
    · subst hy
      simp [put]
    · have e : (y == p.1) = false := by simpa using hy
      have e2 : ¬ p.1 = y := fun q => hy q.symm
      simp only [put, e, Bool.false_eq_true, if_false, List.map_cons, put_keys p r, List.mem_cons, e2, false_or]
      split <;> rfl
theorem put_good {kv : List (Str × Int)} {p : Str × Int} (h1 : (kv.map (·.1)).Nodup) (h2 : ∀ k ∈ kv.map (·.1), k ∈ nmList) (h3 : p.1 ∈ nmList) : ((put kv p).map (·.1)).Nodup ∧ ∀ k ∈ (put kv p).map (·.1), k ∈ nmList := by
  rw [put_keys]
  split
  · exact ⟨h1, h2⟩
  · rename_i h
    refine ⟨List.nodup_append.mpr ⟨h1, by simp, fun a ha b hb e => ?_⟩, fun k m => ?_⟩
    · rw [List.mem_singleton.mp hb] at e; exact h (e ▸ ha)
    · rcases List.mem_append.mp m with m | m
      · exact h2 k m
      · rw [List.mem_singleton.mp m]; exact h3
theorem fold_good : ∀ {s t : List (Str × Int)}, (t.map (·.1)).Nodup → (∀ k ∈ t.map (·.1), k ∈ nmList) → (∀ k ∈ s.map (·.1), k ∈ nmList) → ((s.foldl put t).map (·.1)).Nodup ∧ ∀ k ∈ (s.foldl put t).map (·.1), k ∈ nmList
  | [], t, h1, h2, _ => ⟨h1, h2⟩
  | p :: s, t, h1, h2, h3 => by
    obtain ⟨q1, q2⟩ := put_good h1 h2 (h3 p.1 (by simp))
    exact fold_good (s := s) (t := put t p) q1 q2 fun k m => h3 k (by rw [List.map_cons]; exact List.mem_cons_of_mem _ m)
theorem GoodE.add {t e : Ent} (ht : GoodE t) (he : GoodE e) : GoodE (t.add e) := fold_good ht.1 ht.2 he.2
theorem GoodE.zero : GoodE .zero := ⟨List.Pairwise.nil, fun k m => nomatch m⟩

theorem Ffst_good {t e : Ent} (ht : GoodE t) (he : GoodE e) : Ffst [entD t, entD e] = some (entD (t.add e)) := Ffst_eq t e ht.1 (by have := ht.len; have := he.len; exact ar171 (by assumption) this)

/-- a row is told -/
noncomputable def tstep (told : List Row) (r : Row) : List Row := match told.getLast? with
  | some l => if l.1 == r.1 then told.dropLast ++ [(r.1, l.2.add r.2)] else told ++ [(r.1, Ent.zero.add r.2)]
  | none => told ++ [(r.1, Ent.zero.add r.2)]
theorem tstep_good {told : List Row} {r : Row} (ht : ∀ x ∈ told, GoodR x) (hr : GoodR r) : ∀ x ∈ tstep told r, GoodR x := by
  have new : GoodR (r.1, Ent.zero.add r.2) := ⟨hr.1, GoodE.zero.add hr.2⟩
  unfold tstep
  split
  · rename_i l hl
    have hlm : l ∈ told := List.mem_of_getLast? hl
    split
    · intro x m
      rcases List.mem_append.mp m with m | m
      · exact ht x (List.dropLast_subset _ m)
      · rw [List.mem_singleton.mp m]; exact ⟨hr.1, (ht l hlm).2.add hr.2⟩
    · intro x m
      rcases List.mem_append.mp m with m | m
      · exact ht x m
      · rw [List.mem_singleton.mp m]; exact new
  · intro x m
    rcases List.mem_append.mp m with m | m
    · exact ht x m
    · rw [List.mem_singleton.mp m]; exact new
theorem tstep_len (told : List Row) (r : Row) : (tstep told r).length ≤ told.length + 1 := by
  unfold tstep
  split
  · split
    · simp only [List.length_append, List.length_dropLast, List.length_singleton]; exact ar170
    · simp
  · simp

theorem truth_list (l : List D) (h : l.length ≤ 1000) : truthD (.list l) = some (!l.isEmpty) := by simp only [truthD, decide_eq_true h, if_true]
theorem item_last (l : List D) : itemD (.list l) (-1) = l.getLast? := rfl
theorem item_at (l : List D) (i : Int) (h0 : 0 ≤ i) (h1 : i < 1000) : itemD (.list l) i = l[i.toNat]? := by
  simp only [itemD, decide_eq_true h0, decide_eq_true h1, if_true]
theorem slice_last (l : List D) (h : l.length ≤ 1000) : sliceD (.list l) none (some (-1)) = some (.list l.dropLast) := by
  have : sliceL l none (some (-1)) = l.dropLast := by
    unfold sliceL
    show (l.drop 0).take (l.length - 1 - 0) = _
    rw [List.drop_zero, List.dropLast_eq_take]
    rfl
  simp only [sliceD, decide_eq_true h, if_true, this]
theorem eq_str {x y : Str} (hx : PyData.strOk x = true) (hy : PyData.strOk y = true) : cmpD .Eq (.str x) (.str y) = some (x == y) := by
  show (if (PyData.strOk x && PyData.strOk y) = true then some (x == y) else none) = _
  rw [hx, hy]
  rfl
theorem ne_hD {h : HI} (hx : PyData.strOk h.1 = true) : cmpD .NotEq (hD h) (hD h) = some false := by
  show (if ((PyData.strOk h.1 && true) && (PyData.strOk h.1 && true)) = true then some (!((h.1 == h.1) && ((h.2.1 == h.2.1) && ((h.2.2 == h.2.2) && true)))) else none) = _
  rw [hx, beq_self_eq_true, beq_self_eq_true, beq_self_eq_true]
  rfl
theorem add_lists (a b : List D) (h : a.length + b.length ≤ 1000) : binD .Add (.list a) (.list b) = some (.list (a ++ b)) := by
  show (if decide (a.length + b.length ≤ 1000) = true then some (D.list (a ++ b)) else none) = _
  exact if_pos (decide_eq_true h)

noncomputable abbrev Tmg := tabG Ffst Fify Frep Fpop
noncomputable def Fmg := gP Tmg owG "_law_merged"

/-- a turn's telling -/
theorem told_turn {ps : D} {h : HI} {hs : List D} {told : List Row} {e : Ent} {r : Option (Rho × R)} (hl : told.length ≤ 500) (ht : ∀ x ∈ told, GoodR x) (hr : GoodR (h.1, e)) (hE : mgEnd Frep Fpop ps h hs (entD e) (.list ((tstep told (h.1, e)).map rowD)) = r) :
    mgTold Ffst Frep Fpop ps h hs (told.map rowD) (entD e) = r := by
  have zero : obind (Ffst [tD 0 0 0 0 [], entD e]) (fun e2 => obind (binD .Add (.list (told.map rowD)) (.list [.tuple [.str h.1, e2]])) (mgEnd Frep Fpop ps h hs (entD e))) = mgEnd Frep Fpop ps h hs (entD e) (.list ((told ++ [(h.1, Ent.zero.add e)]).map rowD)) := by
    rw [show tD 0 0 0 0 [] = entD .zero from rfl, Ffst_good GoodE.zero hr.2, obind_s, add_lists _ _ (by simp; exact ar169 hl), obind_s, List.map_append]
    rfl
  unfold mgTold
  rw [truth_list _ (by simp; exact ar168 hl), obind_s]
  cases hlast : told.getLast? with
  | none =>
    have : told = [] := List.getLast?_eq_none_iff.mp hlast
    subst this
    rw [show (!(List.map rowD []).isEmpty) = false from rfl, ocond_f, zero, ← hE]
    rfl
  | some l =>
    have hm := List.mem_of_getLast? hlast
    have hne : (!(told.map rowD).isEmpty) = true := by
      cases told with
      | nil => cases hm
      | cons _ _ => rfl
    have e1 : (told.map rowD).getLast? = some (rowD l) := by rw [List.getLast?_map, hlast]; rfl
    have e3 : itemD (rowD l) 0 = some (.str l.1) := rfl
    have e4 : itemD (rowD l) 1 = some (entD l.2) := rfl
    rw [hne, ocond_t, item_last, e1, obind_s, e3, obind_s, eq_str (nm_strOk _ (ht l hm).1) (nm_strOk _ hr.1), obind_s]
    cases hq : l.1 == h.1 with
    | true =>
      rw [ocond_t, slice_last _ (by simp; exact ar168 hl), obind_s, obind_s, e4, obind_s, Ffst_good (ht l hm).2 hr.2, obind_s, add_lists _ _ (by simp; exact ar168 hl), obind_s, ← hE]
      unfold tstep
      rw [hlast]
      simp only [hq, if_true, List.map_append, List.map_dropLast]
      rfl
    | false =>
      rw [ocond_f, zero, ← hE]
      unfold tstep
      rw [hlast]
      simp only [hq, Bool.false_eq_true, if_false]
end Mine

namespace Mine
open PySem PySem.W PyProof.Rows

/-- a profile's number, the next place, what is left of it -/
noncomputable abbrev SE := Int × Int × List Row
noncomputable def headOf (s : SE) : Option HI := s.2.2.head?.map fun r => (r.1, s.1, s.2.1)
noncomputable def rem (st : List SE) : List Row := st.flatMap (·.2.2)
noncomputable def Srt (l : List Row) : Prop := l.Pairwise fun a b => strLt b.1 a.1 = false

structure InvS (ps : List (List Row)) (st : List SE) : Prop where
  pl : ∀ s ∈ st, 0 ≤ s.1 ∧ s.1 < 1000 ∧ 0 ≤ s.2.1 ∧ ∃ p, ps[s.1.toNat]? = some p ∧ p.drop s.2.1.toNat = s.2.2 ∧ p.length ≤ 500
  inc : (st.map (·.1)).Pairwise (· < ·)
  srt : ∀ s ∈ st, Srt s.2.2
  good : ∀ s ∈ st, ∀ r ∈ s.2.2, GoodR r

theorem strL_le_trans {a b c : Str} (h1 : strLt b a = false) (h2 : strLt c b = false) : strLt c a = false := by
  cases h : strLt c a with
  | false => rfl
  | true =>
    cases h3 : strLt a b with
    | true => rw [strL_trans h h3] at h2; cases h2
    | false =>
      have := strL_total h1 h3
      subst this
      rw [h] at h2; cases h2

theorem mem_rem {st : List SE} {r : Row} : r ∈ rem st ↔ ∃ s ∈ st, r ∈ s.2.2 := by
  unfold rem; exact List.mem_flatMap

section
variable {ps : List (List Row)} {st A Bs : List SE} {n0 pl0 : Int} {row : Row} {rest : List Row} {H T : List HI}

theorem head_mem {s : SE} {r : Row} (hs : s ∈ st) (hr : r ∈ s.2.2) : ∃ r0 t, s.2.2 = r0 :: t ∧ (r0.1, s.1, s.2.1) ∈ st.filterMap headOf := by
  cases e : s.2.2 with
  | nil => rw [e] at hr; cases hr
  | cons r0 t => exact ⟨r0, t, rfl, List.mem_filterMap.mpr ⟨s, hs, by unfold headOf; rw [e]; rfl⟩⟩

theorem min_all (I : InvS ps st) (hp : (((row.1, n0, pl0) : HI) :: T).Perm (st.filterMap headOf)) (hm : MinH (((row.1, n0, pl0) : HI) :: T)) : ∀ r ∈ rem st, strLt r.1 row.1 = false := by
  intro r hr
  obtain ⟨s, hs, hrs⟩ := mem_rem.mp hr
  obtain ⟨r0, t, e, m⟩ := head_mem hs hrs
  have m' := hp.mem_iff.mpr m
  have h0 : strLt r0.1 row.1 = false := by
    rcases List.mem_cons.mp m' with q | q
    · have : r0.1 = row.1 := congrArg (fun x : HI => x.1) q
      rw [this]; exact strL_irrefl _
    · have := hm _ q
      cases h : strLt r0.1 row.1 with
      | false => rfl
      | true => rw [ltH_iff.mpr (.inl h)] at this; cases this
  have hs' := I.srt s hs
  rw [e] at hs' hrs
  rcases List.mem_cons.mp hrs with rfl | q
  · exact h0
  · exact strL_le_trans h0 ((List.pairwise_cons.mp hs').1 r q)

theorem none_before (I : InvS ps (A ++ (n0, pl0, row :: rest) :: Bs)) (hp : (((row.1, n0, pl0) : HI) :: T).Perm ((A ++ (n0, pl0, row :: rest) :: Bs).filterMap headOf)) (hm : MinH (((row.1, n0, pl0) : HI) :: T)) : ∀ r ∈ rem A, r.1 ≠ row.1 := by
  intro r hr
  obtain ⟨s, hs, hrs⟩ := mem_rem.mp hr
  have hs1 : s ∈ A ++ (n0, pl0, row :: rest) :: Bs := List.mem_append_left _ hs
  obtain ⟨r0, t, e, m⟩ := head_mem hs1 hrs
  have m' := hp.mem_iff.mpr m
  have hlt : s.1 < n0 := by
    have := I.inc
    rw [List.map_append, List.map_cons] at this
    exact (List.pairwise_append.mp this).2.2 s.1 (List.mem_map_of_mem hs) n0 (List.mem_cons_self ..)
  have h0 : strLt row.1 r0.1 = true := by
    rcases List.mem_cons.mp m' with q | q
    · have : s.1 = n0 := congrArg (fun x : HI => x.2.1) q
      exact (ar185 hlt this).elim
    · have q' := hm _ q
      have h1 : strLt r0.1 row.1 = false := by
        cases h : strLt r0.1 row.1 with
        | false => rfl
        | true => rw [ltH_iff.mpr (.inl h)] at q'; cases q'
      cases h2 : strLt row.1 r0.1 with
      | true => rfl
      | false =>
        have := strL_total h1 h2
        rw [ltH_iff.mpr (.inr ⟨this, .inl hlt⟩)] at q'; cases q'
  have hs' := I.srt s hs1
  rw [e] at hs' hrs
  intro hne
  rcases List.mem_cons.mp hrs with rfl | q
  · rw [hne, strL_irrefl] at h0; cases h0
  · have := (List.pairwise_cons.mp hs').1 r q
    rw [hne, h0] at this; cases this

theorem filter_pop (hA : ∀ r ∈ rem A, r.1 ≠ row.1) (x : Str) : (rem (A ++ (n0, pl0, row :: rest) :: Bs)).filter (·.1 == x) = (if row.1 == x then [row] else []) ++ (rem (A ++ (n0, pl0 + 1, rest) :: Bs)).filter (·.1 == x) := by
  simp only [rem, List.flatMap_append, List.flatMap_cons, List.filter_append, List.filter_cons]
  by_cases h : row.1 = x
  · have e : (row.1 == x) = true := by simpa using h
    have : (A.flatMap (·.2.2)).filter (·.1 == x) = [] := by
      rw [List.filter_eq_nil_iff]
      intro r m q
      exact hA r m ((beq_iff_eq.mp q).trans h.symm)
    rw [this, e]
    simp
  · have e : (row.1 == x) = false := by simpa using h
    rw [e]
    simp

theorem InvS.next (I : InvS ps (A ++ (n0, pl0, row :: rest) :: Bs)) : InvS ps (A ++ (n0, pl0 + 1, rest) :: Bs) := by
  have hm : (n0, pl0, row :: rest) ∈ A ++ (n0, pl0, row :: rest) :: Bs := List.mem_append_right _ (List.mem_cons_self ..)
  have old : ∀ s ∈ A ++ (n0, pl0 + 1, rest) :: Bs, s = (n0, pl0 + 1, rest) ∨ s ∈ A ++ (n0, pl0, row :: rest) :: Bs := fun s m => by
    rcases List.mem_append.mp m with m | m
    · exact .inr (List.mem_append_left _ m)
    · rcases List.mem_cons.mp m with m | m
      · exact .inl m
      · exact .inr (List.mem_append_right _ (List.mem_cons_of_mem _ m))
  refine ⟨fun s m => ?_, ?_, fun s m => ?_, fun s m => ?_⟩
  · rcases old s m with rfl | m
    · obtain ⟨h1, h2, h3, p, h4, h5, h6⟩ := I.pl _ hm
      dsimp only at h1 h2 h3 h4 h5 ⊢
      refine ⟨h1, h2, by exact ar180 h3, p, h4, ?_, h6⟩
      have : (pl0 + 1).toNat = pl0.toNat + 1 := by exact ar178 h3
      rw [this, ← List.tail_drop, h5]
      rfl
    · exact I.pl s m
  · have := I.inc
    simpa using this
  · rcases old s m with rfl | m
    · exact (List.pairwise_cons.mp (I.srt _ hm)).2
    · exact I.srt s m
  · rcases old s m with rfl | m
    · exact fun r hr => I.good _ hm r (List.mem_cons_of_mem _ hr)
    · exact I.good s m
end

theorem lt_int (a b : Int) : cmpD .Lt (.int a) (.int b) = some (decide (a < b)) := rfl

/-- one turn -/
theorem mg_one {ps : List (List Row)} {A Bs : List SE} {n0 pl0 : Int} {row : Row} {rest : List Row} {T : List HI} {told : List Row} {n name place entry gone : B}
    (I : InvS ps (A ++ (n0, pl0, row :: rest) :: Bs)) (hT : T.length ≤ 2) (hl : told.length ≤ 400) (ht : ∀ x ∈ told, GoodR x) :
    ∃ H', exN Tmg (evN Tmg 12) owG 7 true scG (rhoG (psD ps) n (.own (.list ((((row.1, n0, pl0) : HI) :: T).map hD))) (.val (.list (told.map rowD))) name place entry gone) (forBd (mS 3)) =
        some (rhoG (psD ps) (.val (.int n0)) (.own (.list (H'.map hD))) (.val (.list ((tstep told row).map rowD))) (.val (.str row.1)) (.val (.int pl0)) (.val (entD row.2)) (.val (hD (row.1, n0, pl0))), .next) ∧
      H'.Perm ((headOf (n0, pl0 + 1, rest)).toList ++ T) ∧ MinH H' := by
  obtain ⟨h1, h2, h3, p, h4, h5, h6⟩ := I.pl (n0, pl0, row :: rest) (List.mem_append_right _ (List.mem_cons_self ..))
  have hgood := I.good (n0, pl0, row :: rest) (List.mem_append_right _ (List.mem_cons_self ..)) row (List.mem_cons_self ..)
  dsimp only at h1 h2 h3 h4 h5
  have hp0 : p[pl0.toNat]? = some row := by
    have := congrArg List.head? h5
    rw [List.head?_drop] at this
    exact this
  have hp1 : p[pl0.toNat + 1]? = rest.head? := by
    have := congrArg (fun l => l.tail.head?) h5
    rw [List.tail_drop, List.head?_drop] at this
    exact this
  have hplt : pl0.toNat < p.length := (List.getElem?_eq_some_iff.mp hp0).1
  have i1 : itemD (psD ps) n0 = some (pD p) := by
    unfold psD
    rw [item_at _ _ h1 h2, List.getElem?_map, h4]; rfl
  have i2 : itemD (pD p) pl0 = some (rowD row) := by
    unfold pD
    rw [item_at _ _ h3 (by exact ar184 h6 hplt), List.getElem?_map, hp0]; rfl
  have i3 : itemD (rowD row) 1 = some (entD row.2) := rfl
  have hlen : lenD (pD p) = some (.int p.length) := by
    show (if decide ((p.map rowD).length ≤ 1000) = true then some (D.int (p.map rowD).length) else none) = _
    rw [if_pos (by rw [List.length_map]; exact decide_eq_true (by exact ar168 h6)), List.length_map]
  have hfin : ∀ (H' : List HI) (z : List D × D), z = (H'.map hD, hD (row.1, n0, pl0)) → mgFin (psD ps) (row.1, n0, pl0) (.list ((tstep told row).map rowD)) (entD row.2) z = some (rhoG (psD ps) (.val (.int n0)) (.own (.list (H'.map hD))) (.val (.list ((tstep told row).map rowD))) (.val (.str row.1)) (.val (.int pl0)) (.val (entD row.2)) (.val (hD (row.1, n0, pl0))), .next) := by
    intro H' z e
    subst e
    unfold mgFin
    rw [ne_hD (nm_strOk _ hgood.1), obind_s, ocond_f]
  have fin : ∀ r, mgEnd Frep Fpop (psD ps) (row.1, n0, pl0) (T.map hD) (entD row.2) (.list ((tstep told row).map rowD)) = r →
      exK Tmg (LCs Tmg) (FOs Tmg 12 owG) false 12 owG 7 true scG (forBd (mS 3)) (rhoG (psD ps) n (.own (.list ((((row.1, n0, pl0) : HI) :: T).map hD))) (.val (.list (told.map rowD))) name place entry gone) (fun ρ r => some (ρ, r)) = r := fun r hr => by
    refine (mg_turn Ffst Fify Frep Fpop _ _ (psD ps) (row.1, n0, pl0) (T.map hD) (told.map rowD) n name place entry gone).trans ?_
    rw [i1, obind_s, i2, obind_s, i3, obind_s]
    exact told_turn (by exact ar183 hl) ht hgood hr
  have hend : mgEnd Frep Fpop (psD ps) (row.1, n0, pl0) (T.map hD) (entD row.2) (.list ((tstep told row).map rowD)) =
      ocond (decide (pl0 + 1 < (p.length : Int))) (obind (itemD (psD ps) n0) fun p => obind (itemD p (pl0 + 1)) fun row' => obind (itemD row' 0) fun nm' => obind (Frep (hD (row.1, n0, pl0) :: T.map hD) [.tuple [nm', .int n0, .int (pl0 + 1)]]) (mgFin (psD ps) (row.1, n0, pl0) (.list ((tstep told row).map rowD)) (entD row.2)))
        (obind (Fpop (hD (row.1, n0, pl0) :: T.map hD) []) (mgFin (psD ps) (row.1, n0, pl0) (.list ((tstep told row).map rowD)) (entD row.2))) := by
    unfold mgEnd
    rw [i1, obind_s, hlen, obind_s, lt_int, obind_s]
  cases rest with
  | nil =>
    have : p.length = pl0.toNat + 1 := by
      have q := List.getElem?_eq_none_iff.mp hp1
      exact ar182 hplt q
    obtain ⟨l', q1, q2, q3⟩ := pop_spec (row.1, n0, pl0) T hT
    refine ⟨l', exN_of_K (fin _ (hend.trans ?_)), q2, q3⟩
    rw [decide_eq_false (by exact ar181 h3 this), ocond_f, show hD (row.1, n0, pl0) :: T.map hD = (((row.1, n0, pl0) : HI) :: T).map hD from rfl, q1, obind_s]
    exact hfin l' _ rfl
  | cons row' rest' =>
    have hlt : pl0.toNat + 1 < p.length := (List.getElem?_eq_some_iff.mp hp1).1
    obtain ⟨l', q1, q2, q3⟩ := rep_spec (row.1, n0, pl0) (row'.1, n0, pl0 + 1) T hT
    have i4 : itemD (pD p) (pl0 + 1) = some (rowD row') := by
      unfold pD
      rw [item_at _ _ (by exact ar180 h3) (by exact ar179 h6 hlt), List.getElem?_map, show (pl0 + 1).toNat = pl0.toNat + 1 by exact ar178 h3, hp1]; rfl
    have i5 : itemD (rowD row') 0 = some (.str row'.1) := rfl
    refine ⟨l', exN_of_K (fin _ (hend.trans ?_)), q2, q3⟩
    rw [decide_eq_true (by exact ar177 hlt), ocond_t, i1, obind_s, i4, obind_s, i5, obind_s, show hD (row.1, n0, pl0) :: T.map hD = (((row.1, n0, pl0) : HI) :: T).map hD from rfl, show D.tuple [.str row'.1, .int n0, .int (pl0 + 1)] = hD (row'.1, n0, pl0 + 1) from rfl, q1, obind_s]
    exact hfin l' _ rfl

theorem mg_loop (ps : List (List Row)) : ∀ (fuel : Nat) (st : List SE) (H : List HI) (told : List Row) (n name place entry gone : B), InvS ps st → H.Perm (st.filterMap headOf) → MinH H → st.length ≤ 3 → (rem st).length < fuel → told.length + (rem st).length ≤ 400 → (∀ x ∈ told, GoodR x) →
    ∃ (seq : List Row) (n' name' place' entry' gone' : B), whileGo (fun ρ => (evN Tmg 12).t scG ρ (whTest (mS 3))) (fun ρ => exN Tmg (evN Tmg 12) owG 7 true scG ρ (forBd (mS 3))) fuel (rhoG (psD ps) n (.own (.list (H.map hD))) (.val (.list (told.map rowD))) name place entry gone) =
        some (rhoG (psD ps) n' (.own (.list [])) (.val (.list ((seq.foldl tstep told).map rowD))) name' place' entry' gone', .next) ∧ (∀ x, seq.filter (·.1 == x) = (rem st).filter (·.1 == x)) ∧ Srt seq
  | 0, st, H, told, n, name, place, entry, gone, I, hp, hm, h3, hf, hl, ht => absurd hf (Nat.not_lt_zero _)
  | fuel + 1, st, H, told, n, name, place, entry, gone, I, hp, hm, h3, hf, hl, ht => by
    have hHlen : H.length ≤ 3 := by
      rw [hp.length_eq]
      exact Nat.le_trans (List.length_filterMap_le _ _) h3
    have hdec : decide ((H.map hD).length ≤ 1000) = true := decide_eq_true (by rw [List.length_map]; exact ar176 hHlen)
    simp only [whileGo, mg_t, hdec, if_true]
    cases H with
    | nil =>
      have hrem : rem st = [] := by
        cases e : rem st with
        | nil => rfl
        | cons r t =>
          obtain ⟨s, hs, hr⟩ := mem_rem.mp (show r ∈ rem st by rw [e]; exact List.mem_cons_self ..)
          obtain ⟨r0, t0, _, m⟩ := head_mem hs hr
          have := hp.mem_iff.mpr m
          cases this
      exact ⟨[], n, name, place, entry, gone, rfl, fun x => by rw [hrem], List.Pairwise.nil⟩
    | cons h T =>
      have hmem : h ∈ st.filterMap headOf := hp.mem_iff.mp (List.mem_cons_self ..)
      obtain ⟨s, hs, hsh⟩ := List.mem_filterMap.mp hmem
      obtain ⟨A, Bs, rfl⟩ := List.append_of_mem hs
      obtain ⟨n0, pl0, suf⟩ := s
      cases suf with
      | nil => cases hsh
      | cons row rest =>
        have hh : h = (row.1, n0, pl0) := (Option.some.inj hsh).symm
        subst hh
        obtain ⟨H', q1, q2, q3⟩ := mg_one (n := n) (name := name) (place := place) (entry := entry) (gone := gone) (told := told) I (T := T) (by simp at hHlen; exact ar175 hHlen) (by exact ar174 hl) ht
        have hTp : T.Perm (A.filterMap headOf ++ Bs.filterMap headOf) := by
          have e : (A ++ (n0, pl0, row :: rest) :: Bs).filterMap headOf = A.filterMap headOf ++ (row.1, n0, pl0) :: Bs.filterMap headOf := by
            rw [List.filterMap_append, List.filterMap_cons]; rfl
          rw [e] at hp
          exact (List.perm_cons (row.1, n0, pl0)).mp (hp.trans List.perm_middle)
        have hH' : H'.Perm ((A ++ (n0, pl0 + 1, rest) :: Bs).filterMap headOf) := by
          have e : ((A ++ (n0, pl0 + 1, rest) :: Bs).filterMap headOf) = A.filterMap headOf ++ ((headOf (n0, pl0 + 1, rest)).toList ++ Bs.filterMap headOf) := by
            rw [List.filterMap_append, List.filterMap_cons]
            cases headOf (n0, pl0 + 1, rest) <;> rfl
          rw [e]
          refine q2.trans ((List.Perm.append_left _ hTp).trans ?_)
          rw [← List.append_assoc, ← List.append_assoc]
          exact List.Perm.append_right _ List.perm_append_comm
        have hlen : (rem (A ++ (n0, pl0, row :: rest) :: Bs)).length = (rem (A ++ (n0, pl0 + 1, rest) :: Bs)).length + 1 := by
          simp only [rem, List.flatMap_append, List.flatMap_cons, List.length_append, List.length_cons]; exact ar173
        have hg := I.good (n0, pl0, row :: rest) (List.mem_append_right _ (List.mem_cons_self ..)) row (List.mem_cons_self ..)
        have htl := tstep_len told row
        obtain ⟨seq, n', name', place', entry', gone', w1, w2, w3⟩ := mg_loop ps fuel (A ++ (n0, pl0 + 1, rest) :: Bs) H' (tstep told row) (.val (.int n0)) (.val (.str row.1)) (.val (.int pl0)) (.val (entD row.2)) (.val (hD (row.1, n0, pl0))) I.next hH' q3 (by simpa using h3) (by omega) (by omega) (tstep_good ht hg)
        refine ⟨row :: seq, n', name', place', entry', gone', ?_, fun x => ?_, List.pairwise_cons.mpr ⟨fun r hr => ?_, w3⟩⟩
        · rw [show (!((((row.1, n0, pl0) : HI) :: T).map hD).isEmpty) = true from rfl]
          simp only [q1]
          exact w1
        · rw [filter_pop (none_before I hp hm) x, ← w2 x, List.filter_cons]
          cases row.1 == x <;> rfl
        · have m : r ∈ seq.filter (·.1 == r.1) := List.mem_filter.mpr ⟨hr, by simp⟩
          rw [w2] at m
          have m2 := (List.mem_filter.mp m).1
          refine min_all I hp hm r ?_
          obtain ⟨s', hs', hrs'⟩ := mem_rem.mp m2
          rcases List.mem_append.mp hs' with q | q
          · exact mem_rem.mpr ⟨s', List.mem_append_left _ q, hrs'⟩
          · rcases List.mem_cons.mp q with rfl | q
            · exact mem_rem.mpr ⟨(n0, pl0, row :: rest), List.mem_append_right _ (List.mem_cons_self ..), List.mem_cons_of_mem _ hrs'⟩
            · exact mem_rem.mpr ⟨s', List.mem_append_right _ (List.mem_cons_of_mem _ q), hrs'⟩
end Mine

namespace Mine
open PySem PySem.W PyProof.Rows

noncomputable def zp (ps : List (List Row)) : List (Nat × List Row) := (List.range ps.length).zip ps
noncomputable def st0 (ps : List (List Row)) : List SE := (zp ps).map fun p => ((p.1 : Int), 0, p.2)
theorem zp_get {ps : List (List Row)} {n : Nat} {p : List Row} (h : (n, p) ∈ zp ps) : ps[n]? = some p := by
  obtain ⟨i, hi⟩ := List.mem_iff_getElem?.mp h
  obtain ⟨h1, h2⟩ := List.getElem?_zip_eq_some.mp hi
  obtain ⟨h3, h4⟩ := List.getElem?_eq_some_iff.mp h1
  rw [List.getElem_range] at h4
  dsimp only at h4 h2
  rw [← h4]; exact h2
theorem zp_fst (ps : List (List Row)) : (zp ps).map (·.1) = List.range ps.length := by
  unfold zp; rw [List.map_fst_zip]; simp
theorem zp_snd (ps : List (List Row)) : (zp ps).map (·.2) = ps := by
  unfold zp; rw [List.map_snd_zip]; simp
theorem rem_st0 (ps : List (List Row)) : rem (st0 ps) = ps.flatten := by
  unfold rem st0
  rw [List.flatMap_map]
  show (zp ps).flatMap (fun p => p.2) = _
  rw [← List.flatten_map_eq_flatMap', zp_snd]
where
  List.flatten_map_eq_flatMap' : ((zp ps).map (·.2)).flatten = (zp ps).flatMap (fun p => p.2) := by rw [List.flatMap_def]
theorem mem_len {ps : List (List Row)} {p : List Row} (h : p ∈ ps) : p.length ≤ ps.flatten.length := (List.sublist_flatten_of_mem h).length_le
theorem inv_st0 {ps : List (List Row)} (h3 : ps.length ≤ 3) (hl : ps.flatten.length ≤ 90) (hg : ∀ p ∈ ps, ∀ r ∈ p, GoodR r) (hs : ∀ p ∈ ps, Srt p) : InvS ps (st0 ps) := by
  have mem : ∀ s ∈ st0 ps, ∃ n p, (n, p) ∈ zp ps ∧ s = ((n : Int), 0, p) := fun s m => by
    obtain ⟨⟨n, p⟩, h1, h2⟩ := List.mem_map.mp m
    exact ⟨n, p, h1, h2.symm⟩
  have inps : ∀ {n : Nat} {p : List Row}, (n, p) ∈ zp ps → p ∈ ps := fun h => List.mem_of_getElem? (zp_get h)
  refine ⟨fun s m => ?_, ?_, fun s m => ?_, fun s m => ?_⟩
  · obtain ⟨n, p, h1, rfl⟩ := mem s m
    have h2 := zp_get h1
    have h4 := (List.getElem?_eq_some_iff.mp h2).1
    have h5 := mem_len (inps h1)
    exact ⟨by dsimp only; exact ar194, by dsimp only; exact ar193 h3 h4, by dsimp only; exact ar192, p, by simpa using h2, rfl, by exact ar191 hl h5⟩
  · have : (st0 ps).map (·.1) = (List.range ps.length).map fun (n : Nat) => (n : Int) := by
      unfold st0
      rw [List.map_map, ← zp_fst, List.map_map]; rfl
    rw [this, List.pairwise_map]
    exact List.pairwise_lt_range.imp fun h => by exact ar190 h
  · obtain ⟨n, p, h1, rfl⟩ := mem s m
    exact hs p (inps h1)
  · obtain ⟨n, p, h1, rfl⟩ := mem s m
    exact hg p (inps h1)

noncomputable def outH (a : Nat × List Row) : List D := match a.2 with
  | [] => []
  | r :: _ => [hD (r.1, (a.1 : Int), 0)]
theorem heads_eq : ∀ l : List (Nat × List Row), l.flatMap outH = ((l.map fun p => (((p.1 : Int), 0, p.2) : SE)).filterMap headOf).map hD
  | [] => rfl
  | (n, []) :: l => by
    rw [List.flatMap_cons, heads_eq l]; rfl
  | (n, r :: t) :: l => by
    rw [List.flatMap_cons, heads_eq l]; rfl

theorem Fmg_run (ps : List (List Row)) (h3 : ps.length ≤ 3) (hl : ps.flatten.length ≤ 90) (hg : ∀ p ∈ ps, ∀ r ∈ p, GoodR r) (hs : ∀ p ∈ ps, Srt p) :
    ∃ seq : List Row, Fmg [psD ps] = some (.list ((seq.foldl tstep []).map rowD)) ∧ (∀ x, seq.filter (·.1 == x) = ps.flatten.filter (·.1 == x)) ∧ Srt seq := by
  have I := inv_st0 h3 hl hg hs
  have hzl : (zp ps).length ≤ 3 := by unfold zp; rw [List.length_zip]; simp; exact ar189 h3
  have hfl : ((st0 ps).filterMap headOf).length ≤ 3 := Nat.le_trans (List.length_filterMap_le _ _) (by unfold st0; rw [List.length_map]; exact hzl)
  have hcomp : (evN Tmg 12).v scG (rhoG (psD ps) .unb .unb .unb .unb .unb .unb .unb) mgE = some (.list (((st0 ps).filterMap headOf).map hD)) := by
    have h := comp1 (T := Tmg) (n := 11) mg_e (mg_c (psD ps)) (zp ps) (fun a => D.tuple [.int (a.1 : Int), pD a.2]) outH ((mg_i Ffst Fify Frep Fpop (ps.map pD)).trans (by
        congr 1
        rw [List.length_map, List.zip_map_right, List.map_map]
        rfl)) (fun a m => by
        obtain ⟨n, p⟩ := a
        have hp := mem_len (List.mem_of_getElem? (zp_get m))
        cases p with
        | nil => exact stepC_ok (mg_s0 Ffst Fify Frep Fpop _ (psD ps) n)
        | cons r t => exact stepC_ok ((mg_s1 Ffst Fify Frep Fpop _ (psD ps) n r (t.map rowD)).trans (by
            rw [decide_eq_true (by simp only [List.length_cons, List.length_map] at hp ⊢; exact ar188 hl hp)]; rfl))) (by
        rw [heads_eq, List.length_map]
        exact Nat.le_trans hfl (by decide))
    rw [heads_eq] at h
    exact h
  obtain ⟨H, q1, q2, q3⟩ := ify_spec ((st0 ps).filterMap headOf) hfl
  obtain ⟨seq, n', name', place', entry', gone', w1, w2, w3⟩ := mg_loop ps 100 (st0 ps) H [] .unb .unb .unb .unb .unb I q2 q3 (by unfold st0; rw [List.length_map]; exact hzl) (by rw [rem_st0]; exact ar187 hl) (by rw [rem_st0, List.length_nil]; exact ar186 hl) (fun x m => nomatch m)
  rw [rem_st0] at w2
  refine ⟨seq, ?_, w2, w3⟩
  refine runP_of (by rw [mg_len]; rfl) ⟨freeze (rhoG (psD ps) n' (.own (.list [])) (.val (.list ((seq.foldl tstep []).map rowD))) name' place' entry' gone'), ?_⟩
  rw [mg_body]
  rw [show rho0 (scOf "_law_merged") ((psOf "_law_merged").zip (List.map B.val [psD ps])) = rhoG (psD ps) .unb .unb .unb .unb .unb .unb .unb from mg_start (psD ps)]
  rw [exGo_next (exS_of_K ((mg_0 Ffst Fify Frep Fpop _ _ (psD ps) _).trans (by unfold LCs; rw [hcomp]; rfl)))]
  rw [exGo_next (exS_of_K ((mg_1 Ffst Fify Frep Fpop _ _ (psD ps) (((st0 ps).filterMap headOf).map hD) _).trans (by rw [q1]; rfl)))]
  rw [exGo_next (exS_of_K (mg_2 Ffst Fify Frep Fpop _ _ (psD ps) (H.map hD) _))]
  rw [exGo_next (((exS_while mg_w).trans w1 : exS Tmg (evN Tmg 12) (exN Tmg (evN Tmg 12) owG 7) true owG scG (rhoG (psD ps) .unb (.own (.list (H.map hD))) (.val (.list [])) .unb .unb .unb .unb) (mS 3) = _))]
  exact exGo_ret (exS_of_K (mg_4 Ffst Fify Frep Fpop _ _ (psD ps) n' (.own (.list [])) name' place' entry' gone' _ _))

/-! what is told, name by name -/
noncomputable def sumE (es : List Ent) : Ent := es.foldl Ent.add .zero
noncomputable def entsOf (x : Str) (L : List Row) : List Ent := (L.filter (·.1 == x)).map (·.2)
noncomputable def canonOn (SN : List Str) (L : List Row) : List Row := SN.filterMap fun x => if (entsOf x L).isEmpty then none else some (x, sumE (entsOf x L))
noncomputable def SN : List Str := [nm 0, nm 2, nm 1, nm 3, nm 5, nm 4]
noncomputable def canon (L : List Row) : List Row := canonOn SN L
theorem SN_sorted : SN.Pairwise fun a b => strLt a b = true := by decide +kernel
theorem SN_mem : ∀ x ∈ nmList, x ∈ SN := by decide +kernel
theorem SN_nm : ∀ x ∈ SN, x ∈ nmList := by decide +kernel

theorem tell_block (x : Str) : ∀ (es : List Row) (told : List Row) (e : Ent), (∀ r ∈ es, r.1 = x) → es.foldl tstep (told ++ [(x, e)]) = told ++ [(x, (es.map (·.2)).foldl Ent.add e)]
  | [], told, e, _ => rfl
  | r :: es, told, e, h => by
    have hr : r.1 = x := h r (List.mem_cons_self ..)
    have : tstep (told ++ [(x, e)]) r = told ++ [(x, e.add r.2)] := by
      unfold tstep
      rw [List.getLast?_concat]
      simp [hr]
    rw [List.foldl_cons, this, tell_block x es told _ fun r m => h r (List.mem_cons_of_mem _ m)]
    rfl
theorem tell_first (x : Str) (es : List Row) (told : List Row) (hne : es ≠ []) (h : ∀ r ∈ es, r.1 = x) (ht : ∀ l, told.getLast? = some l → l.1 ≠ x) : es.foldl tstep told = told ++ [(x, sumE (es.map (·.2)))] := by
  cases es with
  | nil => exact absurd rfl hne
  | cons r es =>
    have hr : r.1 = x := h r (List.mem_cons_self ..)
    have : tstep told r = told ++ [(x, Ent.zero.add r.2)] := by
      unfold tstep
      cases hl : told.getLast? with
      | none => simp [hr]
      | some l =>
        have : (l.1 == x) = false := by simpa using ht l hl
        simp only [hr, this, Bool.false_eq_true, if_false]
    rw [List.foldl_cons, this, tell_block x es told _ fun r m => h r (List.mem_cons_of_mem _ m)]
    rfl

theorem split_first {x : Str} : ∀ {seq : List Row}, Srt seq → (∀ r ∈ seq, r.1 = x ∨ strLt x r.1 = true) → seq = seq.filter (·.1 == x) ++ seq.filter (fun r => !(r.1 == x))
  | [], _, _ => rfl
  | r :: seq, hs, h => by
    obtain ⟨h1, h2⟩ := List.pairwise_cons.mp hs
    by_cases hr : r.1 = x
    · have e : (r.1 == x) = true := by simpa using hr
      have ih := split_first h2 fun r m => h r (List.mem_cons_of_mem _ m)
      rw [List.filter_cons, List.filter_cons, e]
      simp only [Bool.not_true, Bool.false_eq_true, if_false, if_true, List.cons_append]
      rw [← ih]
    · have e : (r.1 == x) = false := by simpa using hr
      have hlt : strLt x r.1 = true := (h r (List.mem_cons_self ..)).resolve_left hr
      have none : ∀ r' ∈ seq, (r'.1 == x) = false := fun r' m => by
        have := h1 r' m
        simp only [beq_eq_false_iff_ne]
        intro q
        rw [q, hlt] at this; cases this
      have e1 : seq.filter (·.1 == x) = [] := by
        rw [List.filter_eq_nil_iff]; intro r' m; rw [none r' m]; exact Bool.false_ne_true
      have e2 : seq.filter (fun r => !(r.1 == x)) = seq := by
        rw [List.filter_eq_self]; intro r' m; rw [none r' m]; rfl
      rw [List.filter_cons, List.filter_cons, e]
      simp only [Bool.not_false, Bool.false_eq_true, if_false, if_true]
      rw [e1, e2]
      rfl

theorem entsOf_other {x y : Str} (h : y ≠ x) (L : List Row) : entsOf y (L.filter fun r => !(r.1 == x)) = entsOf y L := by
  unfold entsOf
  rw [List.filter_filter]
  congr 1
  apply List.filter_congr
  intro r _
  by_cases hy : r.1 = y
  · have : (r.1 == x) = false := by rw [hy]; simpa using h
    simp [hy, h]
  · have : (r.1 == y) = false := by simpa using hy
    simp [this]

theorem canonOn_congr {SN : List Str} {L L' : List Row} (h : ∀ x ∈ SN, entsOf x L = entsOf x L') : canonOn SN L = canonOn SN L' := by
  unfold canonOn
  induction SN with
  | nil => rfl
  | cons x S ih =>
    rw [List.filterMap_cons, List.filterMap_cons, h x (List.mem_cons_self ..), ih fun y m => h y (List.mem_cons_of_mem _ m)]

theorem tell_all : ∀ (S : List Str) (seq told : List Row), S.Pairwise (fun a b => strLt a b = true) → Srt seq → (∀ r ∈ seq, r.1 ∈ S) → (∀ l, told.getLast? = some l → l.1 ∉ S) → seq.foldl tstep told = told ++ canonOn S seq
  | [], seq, told, _, _, hm, _ => by
    cases seq with
    | nil => simp [canonOn]
    | cons r _ => exact absurd (hm r (List.mem_cons_self ..)) (by simp)
  | x :: S, seq, told, hS, hs, hm, ht => by
    obtain ⟨hx, hS'⟩ := List.pairwise_cons.mp hS
    have hsp := split_first hs fun r m => (List.mem_cons.mp (hm r m)).imp_right fun q => hx _ q
    have hxS : x ∉ S := fun m => by have := hx x m; rw [strL_irrefl] at this; cases this
    have rest : ∀ told', (∀ l, told'.getLast? = some l → l.1 ∉ S) → (seq.filter fun r => !(r.1 == x)).foldl tstep told' = told' ++ canonOn S seq := fun told' h' => by
      rw [tell_all S (seq.filter fun r => !(r.1 == x)) told' hS' (hs.sublist List.filter_sublist) (fun r m => by
        obtain ⟨m1, m2⟩ := List.mem_filter.mp m
        rcases List.mem_cons.mp (hm r m1) with q | q
        · simp [q] at m2
        · exact q) h']
      congr 1
      exact canonOn_congr fun y m => entsOf_other (fun q : y = x => hxS (q ▸ m)) seq
    have hcan : canonOn (x :: S) seq = (if (entsOf x seq).isEmpty then [] else [(x, sumE (entsOf x seq))]) ++ canonOn S seq := by
      unfold canonOn
      rw [List.filterMap_cons]
      split
      · rename_i h
        split at h
        · rename_i he; rw [if_pos he]; rfl
        · first | exact nn h | cases h
      · rename_i b h
        split at h
        · first | exact nn h | cases h
        · rename_i he; cases h; rw [if_neg he]; rfl
    rw [hsp, List.foldl_append, ← hsp]
    cases he : seq.filter (·.1 == x) with
    | nil =>
      have : entsOf x seq = [] := by unfold entsOf; rw [he]; rfl
      rw [hcan, this]
      show List.foldl tstep told _ = told ++ ([] ++ _)
      rw [List.nil_append]
      exact rest told fun l hl m => ht l hl (List.mem_cons_of_mem _ m)
    | cons r0 t0 =>
      have hall : ∀ r ∈ r0 :: t0, r.1 = x := fun r m => by
        rw [← he] at m
        exact beq_iff_eq.mp (List.mem_filter.mp m).2
      have hents : entsOf x seq = (r0 :: t0).map (·.2) := by unfold entsOf; rw [he]
      rw [tell_first x (r0 :: t0) told (List.cons_ne_nil _ _) hall fun l hl q => ht l hl (q ▸ List.mem_cons_self ..)]
      rw [rest _ fun l hl => by
        rw [List.getLast?_concat] at hl
        cases hl
        exact hxS]
      rw [hcan, hents]
      simp

theorem Fmg_eq (ps : List (List Row)) (h3 : ps.length ≤ 3) (hl : ps.flatten.length ≤ 90) (hg : ∀ p ∈ ps, ∀ r ∈ p, GoodR r) (hs : ∀ p ∈ ps, Srt p) : Fmg [psD ps] = some (pD (canon ps.flatten)) := by
  obtain ⟨seq, h1, h2, h4⟩ := Fmg_run ps h3 hl hg hs
  rw [h1]
  have hn : ∀ r ∈ seq, r.1 ∈ SN := fun r m => by
    have m1 : r ∈ seq.filter (·.1 == r.1) := List.mem_filter.mpr ⟨m, by simp⟩
    rw [h2] at m1
    obtain ⟨p, hp, hr⟩ := List.mem_flatten.mp (List.mem_filter.mp m1).1
    exact SN_mem _ (hg p hp r hr).1
  rw [tell_all SN seq [] SN_sorted h4 hn (fun l hl => by cases hl), List.nil_append]
  unfold pD canon
  rw [canonOn_congr (L' := ps.flatten) fun x _ => by unfold entsOf; rw [h2]]
end Mine

namespace Mine
open PySem PySem.W PyProof.Rows

/-! _law_due: trees -/
noncomputable def nth (l : List Stmt) (i : Nat) : Stmt := l.getD i (.Continue default)
noncomputable def ifBd : Stmt → List Stmt
  | .If _ b _ _ => b
  | _ => []
noncomputable def ifOr : Stmt → List Stmt
  | .If _ _ b _ => b
  | _ => []
noncomputable def ifT : Stmt → Expr
  | .If t _ _ _ => t
  | _ => .Name default default
noncomputable def ifPos : Stmt → Pos
  | .If _ _ _ p => p
  | _ => default
noncomputable def exArg : Stmt → Expr
  | .Expr (.Call _ (a :: _) _ _) _ => a
  | _ => .Name default default
noncomputable def tupAt (i : Nat) : Expr → Expr
  | .Tuple es _ _ => es.getD i (.Name default default)
  | e => e
noncomputable abbrev Tdu (F : List D → Option D) := tab1 "_law_piece" F
noncomputable def owDu : Str → Bool := fun x => x == Str.ofString "due" || x == Str.ofString "order"
noncomputable abbrev scDu := scOf "_law_due"
noncomputable abbrev duS (i : Nat) := nthS "_law_due" i
noncomputable abbrev duB (i : Nat) := nth (forBd (duS 3)) i
noncomputable abbrev duC (i : Nat) := nth (ifBd (duB 1)) i
/-- what the names stand for -/
structure DuS where
  names : B
  pieces : B
  due : B
  k : B
  entries : B
  sums : B
  calls : B
  order : B
  caller : B
  count : B
noncomputable def rhoD (ns : D) (s : DuS) : Rho := [(Str.ofString "numbers", .val ns), (Str.ofString "names", s.names), (Str.ofString "pieces", s.pieces), (Str.ofString "due", s.due), (Str.ofString "k", s.k), (Str.ofString "entries", s.entries), (Str.ofString "sums", s.sums), (Str.ofString "calls", s.calls), (Str.ofString "order", s.order), (Str.ofString "caller", s.caller), (Str.ofString "count", s.count)]
noncomputable def namesD : D := .list (nmList.map .str)
noncomputable def ds0 : DuS := ⟨.unb, .unb, .unb, .unb, .unb, .unb, .unb, .unb, .unb, .unb⟩
noncomputable abbrev KX {β : Type} := Bool → List Stmt → Rho → (Rho → R → Option β) → Option β

section
variable (F : List D → Option D) (LC : LCt) (FO : FOt)
noncomputable abbrev stD (n : Nat) (X : KX (β := Rho × R)) (fz : Bool) (st : Stmt) (ρ : Rho) : Option (Rho × R) := stK (Tdu F) LC FO false 12 n owDu X fz scDu st ρ fun ρ r => some (ρ, r)

theorem du_body : bdOf "_law_due" = [duS 0, duS 1, duS 2, duS 3, duS 4] := by kernel_rfl
theorem du_len : (psOf "_law_due").length = 1 := by kernel_rfl
theorem du_start (ns : D) : rho0 scDu ((psOf "_law_due").zip ([ns].map .val)) = rhoD ns ds0 := by kernel_rfl
theorem du_0 (ns : D) (X) : stD F LC FO 7 X true (duS 0) (rhoD ns ds0) = some (rhoD ns { ds0 with names := .val namesD }, .next) := by kernel_rfl
theorem du_1 (ns : D) (X) : stD F LC FO 7 X true (duS 1) (rhoD ns { ds0 with names := .val namesD }) = obind (LC 12 scDu (rhoD ns { ds0 with names := .val namesD }) (asgV (duS 1))) fun d => some (rhoD ns { ds0 with names := .val namesD, pieces := .val d }, .next) := by kernel_rfl
theorem du_2 (ns pcs : D) (X) : stD F LC FO 7 X true (duS 2) (rhoD ns { ds0 with names := .val namesD, pieces := .val pcs }) = some (rhoD ns { ds0 with names := .val namesD, pieces := .val pcs, due := .own (.list []) }, .next) := by kernel_rfl
theorem du_4 (ns : D) (due : List D) (s : DuS) (X) : stD F LC FO 7 X true (duS 4) (rhoD ns { s with due := .own (.list due) }) = some (freeze (rhoD ns { s with due := .own (.list due) }), .ret (.list due)) := by kernel_rfl
theorem du_f : duS 3 = .For (forTgt (duS 3)) (forIter (duS 3)) (forBd (duS 3)) [] (forPos (duS 3)) := by kernel_rfl
theorem du_g : (isSetE (forIter (duS 3)) || !tgtOk (forTgt (duS 3))) = false := by kernel_rfl
theorem du_i (ns : D) (s : DuS) : (evN (Tdu F) 12).it scDu (strip (rhoD ns s)) (isTup (forTgt (duS 3))) (forIter (duS 3)) = some (([0, 2, 1, 3, 5, 4] : List Int).map D.int) := by kernel_rfl
theorem du_b (ns : D) (s : DuS) (k : Int) : bindT scDu (forTgt (duS 3)) (.int k) (rhoD ns s) = some (rhoD ns { s with k := .val (.int k) }) := by kernel_rfl
theorem du_fb : forBd (duS 3) = [duB 0, duB 1] := by kernel_rfl

/-- the pieces -/
noncomputable abbrev pcE : Expr := asgV (duS 1)
theorem pc_e : pcE = .ListComp (lcElt pcE) [lcGen 0 pcE, lcGen 1 pcE] (lcSc pcE) (lcPos pcE) := by kernel_rfl
theorem pc_c (ns : D) : (scOk (lcSc pcE) && freeOk scDu (lcSc pcE) && [lcGen 0 pcE, lcGen 1 pcE].all genOk && unbT (compRho (lcSc pcE) (rhoD ns { ds0 with names := .val namesD })) (lcGen 0 pcE).target) = true := by kernel_rfl
theorem pc_i (ns : D) : (evN (Tdu F) 11).it scDu (rhoD ns { ds0 with names := .val namesD }) (isTup (lcGen 0 pcE).target) (lcGen 0 pcE).iter = some (([0, 1, 2] : List Int).map D.int) := by kernel_rfl
theorem pc_if : (lcGen 0 pcE).ifs = [] := by kernel_rfl
noncomputable def rhoPc (ns : D) (n v : B) : Rho := [(Str.ofString ".0", .unb), (Str.ofString "n", n), (Str.ofString "v", v), (Str.ofString "numbers", .val ns)]
theorem pc_b (ns : D) (i : Int) : bindT (lcSc pcE) (lcGen 0 pcE).target (.int i) (compRho (lcSc pcE) (rhoD ns { ds0 with names := .val namesD })) = some (rhoPc ns (.val (.int i)) .unb) := by kernel_rfl
theorem pc_i2 (ns : List D) (i : Int) : (evN (Tdu F) 11).it (lcSc pcE) (rhoPc (.list ns) (.val (.int i)) .unb) (isTup (lcGen 1 pcE).target) (lcGen 1 pcE).iter = some ns := by kernel_rfl
theorem pc_u (ns : D) (i : Int) : unbT (rhoPc ns (.val (.int i)) .unb) (lcGen 1 pcE).target = true := by kernel_rfl
theorem pc_s (ns : D) (i v : Int) : stepC (Tdu F) LC 11 (lcSc pcE) (lcGen 1 pcE) (lcElt pcE) (rhoPc ns (.val (.int i)) .unb) (.int v) = ocond ((v.fdiv 6).fmod 3 == i) (obind (F [.int v]) fun r => obind (itemD r 1) fun e => some [.tuple [.int (v.fmod 6), e]]) (some []) := by kernel_rfl

/-- the entries of a function -/
noncomputable abbrev enE : Expr := asgV (duB 0)
theorem en_0 (ns : D) (s : DuS) (X) : stD F LC FO 6 X false (duB 0) (rhoD ns s) = obind (LC 12 scDu (rhoD ns s) enE) fun d => some (rhoD ns { s with entries := .val d }, .next) := by kernel_rfl
theorem en_e : enE = .ListComp (lcElt enE) [lcGen 0 enE] (lcSc enE) (lcPos enE) := by kernel_rfl
theorem en_c (ns : D) (s : DuS) (k : Int) : (scOk (lcSc enE) && freeOk scDu (lcSc enE) && [lcGen 0 enE].all genOk && unbT (compRho (lcSc enE) (rhoD ns { s with k := .val (.int k) })) (lcGen 0 enE).target) = true := by kernel_rfl
theorem en_i (ns : D) (s : DuS) (k : Int) (pcs : List D) : (evN (Tdu F) 11).it scDu (rhoD ns { s with k := .val (.int k), pieces := .val (.list pcs) }) (isTup (lcGen 0 enE).target) (lcGen 0 enE).iter = some pcs := by kernel_rfl
theorem en_s (ns : D) (s : DuS) (k i : Int) (e : D) : stepC (Tdu F) LC 11 (lcSc enE) (lcGen 0 enE) (lcElt enE) (compRho (lcSc enE) (rhoD ns { s with k := .val (.int k) })) (.tuple [.int i, e]) = ocond (i == k) (some [e]) (some []) := by kernel_rfl

theorem if_e : duB 1 = .If (ifT (duB 1)) (ifBd (duB 1)) (ifOr (duB 1)) (ifPos (duB 1)) := by kernel_rfl
theorem if_or : ifOr (duB 1) = [] := by kernel_rfl
theorem if_t (ns : D) (s : DuS) (es : List D) : (evN (Tdu F) 12).t scDu (rhoD ns { s with entries := .val (.list es) }) (ifT (duB 1)) = if decide (es.length ≤ 1000) = true then some (!es.isEmpty) else none := by kernel_rfl
theorem if_b : ifBd (duB 1) = [duC 0, duC 1, duC 2, duC 3, duC 4] := by kernel_rfl

/-- the sums -/
noncomputable abbrev smE : Expr := asgV (duC 0)
noncomputable abbrev smI : Expr := clArg (lcElt smE)
theorem sm_0 (ns : D) (s : DuS) (X) : stD F LC FO 5 X false (duC 0) (rhoD ns s) = obind (LC 12 scDu (rhoD ns s) smE) fun d => some (rhoD ns { s with sums := .val d }, .next) := by kernel_rfl
theorem sm_e : smE = .ListComp (lcElt smE) [lcGen 0 smE] (lcSc smE) (lcPos smE) := by kernel_rfl
noncomputable def rhoSm (es : D) (c : B) : Rho := [(Str.ofString ".0", .unb), (Str.ofString "column", c), (Str.ofString "entries", .val es)]
theorem sm_r (ns es : D) (s : DuS) : compRho (lcSc smE) (rhoD ns { s with entries := .val es }) = rhoSm es .unb := by kernel_rfl
theorem sm_c (ns es : D) (s : DuS) : (scOk (lcSc smE) && freeOk scDu (lcSc smE) && [lcGen 0 smE].all genOk && unbT (rhoSm es .unb) (lcGen 0 smE).target) = true := by kernel_rfl
theorem sm_i (ns : D) (s : DuS) : (evN (Tdu F) 11).it scDu (rhoD ns s) (isTup (lcGen 0 smE).target) (lcGen 0 smE).iter = some (([0, 1, 2, 3] : List Int).map D.int) := by kernel_rfl
theorem sm_s (es : D) (c : Int) : stepC (Tdu F) LC 11 (lcSc smE) (lcGen 0 smE) (lcElt smE) (rhoSm es .unb) (.int c) = obind (LC 10 (lcSc smE) (rhoSm es (.val (.int c))) smI) fun d => obind (sumD d) fun x => some [x] := by kernel_rfl
theorem si_e : smI = .ListComp (lcElt smI) [lcGen 0 smI] (lcSc smI) (lcPos smI) := by kernel_rfl
theorem si_c (es : D) (c : Int) : (scOk (lcSc smI) && freeOk (lcSc smE) (lcSc smI) && [lcGen 0 smI].all genOk && unbT (compRho (lcSc smI) (rhoSm es (.val (.int c)))) (lcGen 0 smI).target) = true := by kernel_rfl
theorem si_i (es : List D) (c : Int) : (evN (Tdu F) 9).it (lcSc smE) (rhoSm (.list es) (.val (.int c))) (isTup (lcGen 0 smI).target) (lcGen 0 smI).iter = some es := by kernel_rfl
theorem si_s (es e : D) (c : Int) : stepC (Tdu F) LC 9 (lcSc smI) (lcGen 0 smI) (lcElt smI) (compRho (lcSc smI) (rhoSm es (.val (.int c)))) e = obind (itemD e c) fun x => some [x] := by kernel_rfl

/-- the calls -/
noncomputable abbrev caE : Expr := asgV (duC 1)
theorem ca_0 (ns : D) (s : DuS) (X) : stD F LC FO 5 X false (duC 1) (rhoD ns s) = obind (LC 12 scDu (rhoD ns s) caE) fun d => some (rhoD ns { s with calls := .val d }, .next) := by kernel_rfl
theorem ca_e : caE = .ListComp (lcElt caE) [lcGen 0 caE, lcGen 1 caE] (lcSc caE) (lcPos caE) := by kernel_rfl
theorem ca_c (ns : D) (s : DuS) : (scOk (lcSc caE) && freeOk scDu (lcSc caE) && [lcGen 0 caE, lcGen 1 caE].all genOk && unbT (compRho (lcSc caE) (rhoD ns s)) (lcGen 0 caE).target) = true := by kernel_rfl
theorem ca_i (ns : D) (s : DuS) (es : List D) : (evN (Tdu F) 11).it scDu (rhoD ns { s with entries := .val (.list es) }) (isTup (lcGen 0 caE).target) (lcGen 0 caE).iter = some es := by kernel_rfl
theorem ca_if : (lcGen 0 caE).ifs = [] := by kernel_rfl
noncomputable def rhoCa (e p : B) : Rho := [(Str.ofString ".0", .unb), (Str.ofString "entry", e), (Str.ofString "pair", p)]
theorem ca_b (ns : D) (s : DuS) (e : D) : bindT (lcSc caE) (lcGen 0 caE).target e (compRho (lcSc caE) (rhoD ns s)) = some (rhoCa (.val e) .unb) := by kernel_rfl
theorem ca_i2 (e : Ent) : (evN (Tdu F) 11).it (lcSc caE) (rhoCa (.val (entD e)) .unb) (isTup (lcGen 1 caE).target) (lcGen 1 caE).iter = some (pairsD e.kv) := by kernel_rfl
theorem ca_u (e : D) : unbT (rhoCa (.val e) .unb) (lcGen 1 caE).target = true := by kernel_rfl
theorem ca_s (e p : D) : stepC (Tdu F) LC 11 (lcSc caE) (lcGen 1 caE) (lcElt caE) (rhoCa (.val e) .unb) p = some [p] := by kernel_rfl

/-- the order of the callers -/
theorem or_0 (ns : D) (s : DuS) (X) : stD F LC FO 5 X false (duC 2) (rhoD ns s) = some (rhoD ns { s with order := .own (.list []) }, .next) := by kernel_rfl
theorem or_f : duC 3 = .For (forTgt (duC 3)) (forIter (duC 3)) (forBd (duC 3)) [] (forPos (duC 3)) := by kernel_rfl
theorem or_g : (isSetE (forIter (duC 3)) || !tgtOk (forTgt (duC 3))) = false := by kernel_rfl
theorem or_i (ns : D) (s : DuS) (cs : List D) : (evN (Tdu F) 12).it scDu (strip (rhoD ns { s with calls := .val (.list cs) })) (isTup (forTgt (duC 3))) (forIter (duC 3)) = some cs := by kernel_rfl
theorem or_b (ns : D) (s : DuS) (x : Str) (i : Int) : bindT scDu (forTgt (duC 3)) (.tuple [.str x, .int i]) (rhoD ns s) = some (rhoD ns { s with caller := .val (.str x), count := .val (.int i) }) := by kernel_rfl
theorem or_t (ns : D) (s : DuS) (x : Str) (ord : List D) : exK (Tdu F) LC FO false 12 owDu 5 false scDu (forBd (duC 3)) (rhoD ns { s with caller := .val (.str x), order := .own (.list ord) }) (fun ρ r => some (ρ, r)) =
    obind (cmpD .NotIn (.str x) (.list ord)) fun b => ocond b (ocond (decide (ord.length ≤ 1000)) (some (rhoD ns { s with caller := .val (.str x), order := .own (.list (ord ++ [.str x])) }, .next)) none) (some (rhoD ns { s with caller := .val (.str x), order := .own (.list ord) }, .next)) := by kernel_rfl

/-- the row that is due -/
noncomputable abbrev rwE : Expr := tupAt 2 (exArg (duC 4))
noncomputable abbrev rwI : Expr := clArg (tupAt 1 (lcElt rwE))
theorem rw_0 (ns sums : D) (due : List D) (k : Int) (s : DuS) (X) : stD F LC FO 5 X false (duC 4) (rhoD ns { s with names := .val namesD, due := .own (.list due), k := .val (.int k), sums := .val sums }) =
    obind (itemD namesD k) fun nm => obind (LC 11 scDu (rhoD ns { s with names := .val namesD, due := .own (.list due), k := .val (.int k), sums := .val sums }) rwE) fun cs => ocond (decide (due.length ≤ 1000)) (some (rhoD ns { s with names := .val namesD, due := .own (.list (due ++ [.tuple [nm, sums, cs]])), k := .val (.int k), sums := .val sums }, .next)) none := by kernel_rfl
theorem rw_e : rwE = .ListComp (lcElt rwE) [lcGen 0 rwE] (lcSc rwE) (lcPos rwE) := by kernel_rfl
noncomputable def rhoRw (cs : D) (c : B) : Rho := [(Str.ofString ".0", .unb), (Str.ofString "caller", c), (Str.ofString "calls", .val cs)]
theorem rw_r (ns cs : D) (s : DuS) : compRho (lcSc rwE) (rhoD ns { s with calls := .val cs }) = rhoRw cs .unb := by kernel_rfl
theorem rw_c (cs : D) : (scOk (lcSc rwE) && freeOk scDu (lcSc rwE) && [lcGen 0 rwE].all genOk && unbT (rhoRw cs .unb) (lcGen 0 rwE).target) = true := by kernel_rfl
theorem rw_i (ns : D) (s : DuS) (ord : List D) : (evN (Tdu F) 10).it scDu (rhoD ns { s with order := .own (.list ord) }) (isTup (lcGen 0 rwE).target) (lcGen 0 rwE).iter = some ord := by kernel_rfl
theorem rw_s (cs : D) (x : Str) : stepC (Tdu F) LC 10 (lcSc rwE) (lcGen 0 rwE) (lcElt rwE) (rhoRw cs .unb) (.str x) = obind (LC 8 (lcSc rwE) (rhoRw cs (.val (.str x))) rwI) fun d => obind (sumD d) fun n => some [.tuple [.str x, n]] := by kernel_rfl
theorem ri_e : rwI = .ListComp (lcElt rwI) [lcGen 0 rwI] (lcSc rwI) (lcPos rwI) := by kernel_rfl
theorem ri_c (cs : D) (x : Str) : (scOk (lcSc rwI) && freeOk (lcSc rwE) (lcSc rwI) && [lcGen 0 rwI].all genOk && unbT (compRho (lcSc rwI) (rhoRw cs (.val (.str x)))) (lcGen 0 rwI).target) = true := by kernel_rfl
theorem ri_i (cs : List D) (x : Str) : (evN (Tdu F) 7).it (lcSc rwE) (rhoRw (.list cs) (.val (.str x))) (isTup (lcGen 0 rwI).target) (lcGen 0 rwI).iter = some cs := by kernel_rfl
theorem ri_s (cs : D) (x y : Str) (i : Int) : stepC (Tdu F) LC 7 (lcSc rwI) (lcGen 0 rwI) (lcElt rwI) (compRho (lcSc rwI) (rhoRw cs (.val (.str x)))) (.tuple [.str y, .int i]) = obind (cmpD .Eq (.str y) (.str x)) fun b => ocond b (some [.int i]) (some []) := by kernel_rfl
end
end Mine

namespace Mine
open PySem PySem.W PyProof.Rows

/-! _law_due: what it gives -/
noncomputable def pcD (p : Int × Ent) : D := .tuple [.int p.1, entD p.2]
noncomputable def pcs (ns : List Int) : List (Int × Ent) := ([0, 1, 2] : List Int).flatMap fun i => (ns.filter fun v => (v.fdiv 6).fmod 3 == i).map fun v => (v.fmod 6, pieceE v)
noncomputable def esOf (k : Int) (ps : List (Int × Ent)) : List Ent := (ps.filter (·.1 == k)).map (·.2)
noncomputable def callsOf (es : List Ent) : List (Str × Int) := es.flatMap (·.kv)
noncomputable def ordStep (o : List Str) (p : Str × Int) : List Str := if o.any (· == p.1) then o else o ++ [p.1]
noncomputable def ordOf (cs : List (Str × Int)) : List Str := cs.foldl ordStep []
noncomputable def cnt (cs : List (Str × Int)) (x : Str) : Int := ((cs.filter (·.1 == x)).map (·.2)).sum
noncomputable def sumsD (es : List Ent) : D := .list [.int (es.map (·.a)).sum, .int (es.map (·.b)).sum, .int (es.map (·.c)).sum, .int (es.map (·.d)).sum]
noncomputable def calD (cs : List (Str × Int)) : D := .list ((ordOf cs).map fun x => .tuple [.str x, .int (cnt cs x)])
noncomputable def dueRow (k : Int) (es : List Ent) : D := .tuple [.str (nm k), sumsD es, calD (callsOf es)]
noncomputable def dueK (ps : List (Int × Ent)) (k : Int) : List D := if (esOf k ps).isEmpty then [] else [dueRow k (esOf k ps)]
noncomputable def due (ns : List Int) : List D := ([0, 2, 1, 3, 5, 4] : List Int).flatMap (dueK (pcs ns))

theorem sum_ints (l : List Int) : sumD (.list (l.map .int)) = some (.int l.sum) := by
  have : intsD (l.map .int) = some l := by
    induction l with
    | nil => rfl
    | cons a l ih => simp only [List.map_cons, intsD, ih, Option.map_some]
  simp only [sumD, this]
theorem strs_map (l : List Str) : strsD (l.map .str) = some l := by
  induction l with
  | nil => rfl
  | cons a l ih => simp only [List.map_cons, strsD, ih, Option.map_some]
theorem notIn_strs (x : Str) (l : List Str) : cmpD .NotIn (.str x) (.list (l.map .str)) = some (!l.any (· == x)) := by
  show (obind ((strsD (l.map .str)).map fun ss => ss.any (· == x)) fun t => some (!t)) = _
  rw [strs_map]
  rfl

theorem nm_mem (i : Int) (h0 : 0 ≤ i) (h6 : i < 6) : nm i ∈ nmList := by
  have : i = 0 ∨ i = 1 ∨ i = 2 ∨ i = 3 ∨ i = 4 ∨ i = 5 := by exact ar164 h0 h6
  rcases this with rfl | rfl | rfl | rfl | rfl | rfl <;> decide +kernel
theorem piece_good (v : Int) : GoodE (pieceE v) := by
  have hn : ∀ x : Int, nm (x.fmod 6) ∈ nmList := fun x => nm_mem _ (fmod6 x).1 (fmod6 x).2
  unfold GoodE pieceE pieceKv
  dsimp only
  split
  · split
    · simp only [putKey]
      split
      · refine ⟨by simp, fun k m => ?_⟩
        simp only [List.map_cons, List.map_nil, List.mem_singleton] at m
        rw [m]; exact hn _
      · rename_i h
        refine ⟨by simpa using h, fun k m => ?_⟩
        simp only [List.map_cons, List.map_nil, List.mem_cons, List.not_mem_nil, or_false] at m
        rcases m with rfl | rfl <;> exact hn _
    · refine ⟨by simp, fun k m => ?_⟩
      simp only [List.map_cons, List.map_nil, List.mem_singleton] at m
      rw [m]; exact hn _
  · exact ⟨List.Pairwise.nil, fun k m => nomatch m⟩

theorem pcs_flat (ns : List Int) : (([0, 1, 2] : List Int).flatMap fun i => ns.flatMap fun v => if ((v.fdiv 6).fmod 3 == i) = true then [pcD (v.fmod 6, pieceE v)] else []) = (pcs ns).map pcD := by
  have one : ∀ i : Int, ns.flatMap (fun v => if ((v.fdiv 6).fmod 3 == i) = true then [pcD (v.fmod 6, pieceE v)] else []) = ((ns.filter fun v => (v.fdiv 6).fmod 3 == i).map fun v => (v.fmod 6, pieceE v)).map pcD := fun i => by
    induction ns with
    | nil => rfl
    | cons v ns ih =>
      rw [List.flatMap_cons, ih, List.filter_cons]
      split <;> rfl
  unfold pcs
  simp only [one, List.flatMap_cons, List.flatMap_nil, List.map_append, List.append_nil]
theorem pcs_len (ns : List Int) : (pcs ns).length ≤ 3 * ns.length := by
  unfold pcs
  simp only [List.flatMap_cons, List.flatMap_nil, List.length_append, List.length_map, List.length_nil]
  have h0 := List.length_filter_le (fun v : Int => (v.fdiv 6).fmod 3 == 0) ns
  have h1 := List.length_filter_le (fun v : Int => (v.fdiv 6).fmod 3 == 1) ns
  have h2 := List.length_filter_le (fun v : Int => (v.fdiv 6).fmod 3 == 2) ns
  exact ar206 h0 h1 h2
theorem pcs_good {ns : List Int} {p : Int × Ent} (h : p ∈ pcs ns) : GoodE p.2 := by
  unfold pcs at h
  obtain ⟨i, _, h⟩ := List.mem_flatMap.mp h
  obtain ⟨v, _, rfl⟩ := List.mem_map.mp h
  exact piece_good v
theorem esOf_len (k : Int) (ps : List (Int × Ent)) : (esOf k ps).length ≤ ps.length := by
  unfold esOf
  rw [List.length_map]
  exact List.length_filter_le _ _
theorem callsOf_len : ∀ {es : List Ent}, (∀ e ∈ es, GoodE e) → (callsOf es).length ≤ 6 * es.length
  | [], _ => Nat.le_refl _
  | e :: es, h => by
    have := callsOf_len (es := es) fun x m => h x (List.mem_cons_of_mem _ m)
    have h1 := (h e (List.mem_cons_self ..)).len
    unfold callsOf at this ⊢
    rw [List.flatMap_cons, List.length_append, List.length_cons]
    exact ar205 this h1

noncomputable abbrev Td := Tdu Fpc
noncomputable def Fdu := gP Td owDu "_law_due"

section
variable {ns : List Int} {s : DuS}
theorem pieces_eq (hl : ns.length ≤ 20) : (evN Td 12).v scDu (rhoD (numD ns) { ds0 with names := .val namesD }) pcE = some (.list ((pcs ns).map pcD)) := by
  have h := comp2 (T := Td) (n := 11) pc_e (pc_c (numD ns)) [0, 1, 2] D.int (fun _ => ns) D.int (fun i => rhoPc (numD ns) (.val (.int i)) .unb) (fun i v => if ((v.fdiv 6).fmod 3 == i) = true then [pcD (v.fmod 6, pieceE v)] else []) (pc_i _ _) pc_if (fun i _ => ⟨pc_b _ i, pc_i2 _ _ i, pc_u _ i, fun v _ => stepC_ok ((pc_s _ _ _ i v).trans (by
    rw [Fpc_eq]
    cases (v.fdiv 6).fmod 3 == i <;> rfl))⟩) (by
    rw [pcs_flat, List.length_map]
    have := pcs_len ns
    exact ar204 hl this)
  rw [pcs_flat] at h
  exact h

theorem entries_flat (k : Int) : ∀ ps : List (Int × Ent), ps.flatMap (fun p => if (p.1 == k) = true then [entD p.2] else []) = (esOf k ps).map entD
  | [] => rfl
  | p :: ps => by
    have ih := entries_flat k ps
    unfold esOf at ih ⊢
    rw [List.flatMap_cons, ih, List.filter_cons]
    split <;> rfl
theorem entries_eq (nsD : D) (ps : List (Int × Ent)) (hl : ps.length ≤ 1000) (k : Int) : (evN Td 12).v scDu (rhoD nsD { s with k := .val (.int k), pieces := .val (.list (ps.map pcD)) }) enE = some (.list ((esOf k ps).map entD)) := by
  have h := comp1 (T := Td) (n := 11) (sc := scDu) (ρ := rhoD nsD { s with k := .val (.int k), pieces := .val (.list (ps.map pcD)) }) en_e (en_c nsD { s with pieces := .val (.list (ps.map pcD)) } k) ps pcD (fun p => if (p.1 == k) = true then [entD p.2] else []) (en_i _ _ s k _) (fun p _ => stepC_ok ((en_s _ _ nsD { s with pieces := .val (.list (ps.map pcD)) } k p.1 (entD p.2)).trans (by
    cases p.1 == k <;> rfl))) (by
    rw [entries_flat, List.length_map]
    exact Nat.le_trans (esOf_len k ps) hl)
  rw [entries_flat] at h
  exact h

theorem inner_sum (es : List Ent) (hl : es.length ≤ 1000) (c : Int) (f : Ent → Int) (hf : ∀ e, itemD (entD e) c = some (.int (f e))) : (evN Td 10).v (lcSc smE) (rhoSm (.list (es.map entD)) (.val (.int c))) smI = some (.list ((es.map f).map .int)) := by
  have h := comp1 (T := Td) (n := 9) si_e (si_c (.list (es.map entD)) c) es entD (fun e => [.int (f e)]) (si_i _ _ c) (fun e _ => stepC_ok ((si_s _ _ (.list (es.map entD)) (entD e) c).trans (by rw [hf]; rfl))) (by rw [flatMap_single, List.length_map]; exact hl)
  rw [flatMap_single] at h
  rw [h, List.map_map]
  rfl
theorem sums_eq (nsD : D) (es : List Ent) (hl : es.length ≤ 1000) : (evN Td 12).v scDu (rhoD nsD { s with entries := .val (.list (es.map entD)) }) smE = some (sumsD es) := by
  have key : ∀ (c : Int) (f : Ent → Int), (∀ e, itemD (entD e) c = some (.int (f e))) → dstep (evN Td 11) (lcSc smE) (lcGen 0 smE) (lcElt smE) (rhoSm (.list (es.map entD)) .unb) (.int c) = some [.int (es.map f).sum] := fun c f hf =>
    stepC_ok ((sm_s _ _ _ c).trans (by unfold LCs; rw [inner_sum es hl c f hf, obind_s, sum_ints]; rfl))
  have h := comp1 (T := Td) (n := 11) (sc := scDu) (ρ := rhoD nsD { s with entries := .val (.list (es.map entD)) }) sm_e (by rw [sm_r]; exact sm_c nsD _ s) [0, 1, 2, 3] D.int (fun c => [.int (es.map fun e => if c = 0 then e.a else if c = 1 then e.b else if c = 2 then e.c else e.d).sum]) (sm_i _ _ _) (fun c m => by
    rw [sm_r]
    have : c = 0 ∨ c = 1 ∨ c = 2 ∨ c = 3 := by simpa using m
    rcases this with rfl | rfl | rfl | rfl
    · exact key 0 _ fun e => rfl
    · exact key 1 _ fun e => rfl
    · exact key 2 _ fun e => rfl
    · exact key 3 _ fun e => rfl) (by simp)
  exact h

theorem calls_flat (es : List Ent) : (es.flatMap fun e => e.kv.flatMap fun p => [D.tuple [.str p.1, .int p.2]]) = pairsD (callsOf es) := by
  unfold pairsD callsOf
  induction es with
  | nil => rfl
  | cons e es ih => rw [List.flatMap_cons, List.flatMap_cons, List.map_append, ih, flatMap_single]
theorem calls_eq (nsD : D) (es : List Ent) (hl : (callsOf es).length ≤ 1000) : (evN Td 12).v scDu (rhoD nsD { s with entries := .val (.list (es.map entD)) }) caE = some (.list (pairsD (callsOf es))) := by
  have h := comp2 (T := Td) (n := 11) (sc := scDu) (ρ := rhoD nsD { s with entries := .val (.list (es.map entD)) }) ca_e (ca_c nsD _) es entD (fun e => e.kv) (fun p => D.tuple [.str p.1, .int p.2]) (fun e => rhoCa (.val (entD e)) .unb) (fun e p => [D.tuple [.str p.1, .int p.2]]) (ca_i _ _ s _) ca_if (fun e _ => ⟨ca_b nsD _ (entD e), ca_i2 _ e, ca_u _, fun p _ => stepC_ok (ca_s _ _ _ _)⟩) (by
    rw [calls_flat]
    unfold pairsD
    rw [List.length_map]; exact hl)
  rw [calls_flat] at h
  exact h

theorem ord_len (o : List Str) (p : Str × Int) : (ordStep o p).length ≤ o.length + 1 := by
  unfold ordStep
  split
  · exact Nat.le_succ _
  · simp
/-- the loop for the order -/
theorem order_loop (nsD : D) : ∀ (cs : List (Str × Int)) (o : List Str) (s : DuS), o.length + cs.length ≤ 1000 →
    ∃ s' : DuS, forGo (fun ρ => exN Td (evN Td 12) owDu 5 false scDu ρ (forBd (duC 3))) (fun d ρ => bindT scDu (forTgt (duC 3)) d ρ) (pairsD cs) (rhoD nsD { s with order := .own (.list (o.map .str)) }) = some (rhoD nsD { s with order := .own (.list ((cs.foldl ordStep o).map .str)), caller := s'.caller, count := s'.count }, .next)
  | [], o, s, _ => ⟨s, rfl⟩
  | (x, i) :: cs, o, s, hl => by
    simp only [List.length_cons] at hl
    have hol := ord_len o (x, i)
    obtain ⟨s', h'⟩ := order_loop nsD cs (ordStep o (x, i)) { s with caller := .val (.str x), count := .val (.int i) } (by exact ar161 hl hol)
    refine ⟨s', ?_⟩
    have hb := or_b nsD { s with order := .own (.list (o.map .str)) } x i
    have ht : exN Td (evN Td 12) owDu 5 false scDu (rhoD nsD { s with order := .own (.list (o.map .str)), caller := .val (.str x), count := .val (.int i) }) (forBd (duC 3)) = some (rhoD nsD { s with order := .own (.list ((ordStep o (x, i)).map .str)), caller := .val (.str x), count := .val (.int i) }, .next) := by
      refine exN_of_K ((or_t _ _ _ nsD { s with count := .val (.int i) } x (o.map .str)).trans ?_)
      rw [notIn_strs, obind_s, decide_eq_true (by rw [List.length_map]; exact ar162 hl)]
      unfold ordStep
      cases o.any (· == x) with
      | true => rfl
      | false => 
        simp only [Bool.not_false, ocond_t, Bool.false_eq_true, if_false, List.map_append]
        rfl
    simp only [pairsD, List.map_cons, forGo, hb, ht]
    exact h'

theorem inner_cnt (cs : List (Str × Int)) (hl : cs.length ≤ 1000) (hn : ∀ p ∈ cs, p.1 ∈ nmList) (x : Str) (hx : x ∈ nmList) : (evN Td 8).v (lcSc rwE) (rhoRw (.list (pairsD cs)) (.val (.str x))) rwI = some (.list (((cs.filter (·.1 == x)).map (·.2)).map .int)) := by
  have fl : ∀ cs : List (Str × Int), cs.flatMap (fun p => if (p.1 == x) = true then [D.int p.2] else []) = ((cs.filter (·.1 == x)).map (·.2)).map .int := fun cs => by
    induction cs with
    | nil => rfl
    | cons p cs ih =>
      rw [List.flatMap_cons, ih, List.filter_cons]
      split <;> rfl
  have h := comp1 (T := Td) (n := 7) ri_e (ri_c (.list (pairsD cs)) x) cs (fun p => D.tuple [.str p.1, .int p.2]) (fun p => if (p.1 == x) = true then [D.int p.2] else []) (ri_i _ _ x) (fun p m => stepC_ok ((ri_s _ _ _ x p.1 p.2).trans (by
    rw [eq_str (nm_strOk _ (hn p m)) (nm_strOk _ hx), obind_s]
    cases p.1 == x <;> rfl))) (by
    rw [fl, List.length_map, List.length_map]
    exact Nat.le_trans (List.length_filter_le _ _) hl)
  rw [fl] at h
  exact h
theorem rowc_eq (nsD : D) (cs : List (Str × Int)) (o : List Str) (hl : cs.length ≤ 1000) (ho : o.length ≤ 1000) (hn : ∀ p ∈ cs, p.1 ∈ nmList) (hon : ∀ x ∈ o, x ∈ nmList) : (evN Td 11).v scDu (rhoD nsD { s with calls := .val (.list (pairsD cs)), order := .own (.list (o.map .str)) }) rwE = some (.list (o.map fun x => .tuple [.str x, .int (cnt cs x)])) := by
  have h := comp1 (T := Td) (n := 10) (sc := scDu) (ρ := rhoD nsD { s with calls := .val (.list (pairsD cs)), order := .own (.list (o.map .str)) }) rw_e (by
      rw [show compRho (lcSc rwE) (rhoD nsD { s with calls := .val (.list (pairsD cs)), order := .own (.list (o.map .str)) }) = _ from rw_r nsD (.list (pairsD cs)) { s with order := .own (.list (o.map .str)) }]; exact rw_c _) o D.str (fun x => [D.tuple [.str x, .int (cnt cs x)]]) (rw_i _ nsD { s with calls := .val (.list (pairsD cs)) } _) (fun x m => by
      rw [show compRho (lcSc rwE) (rhoD nsD { s with calls := .val (.list (pairsD cs)), order := .own (.list (o.map .str)) }) = _ from rw_r nsD (.list (pairsD cs)) { s with order := .own (.list (o.map .str)) }]
      exact stepC_ok ((rw_s _ _ _ x).trans (by unfold LCs; rw [inner_cnt cs hl hn x (hon x m), obind_s, sum_ints]; rfl))) (by rw [flatMap_single, List.length_map]; exact ho)
  rw [flatMap_single] at h
  exact h
end

theorem exS_if {T : Tabs} {E : Ev} {X : Bool → Scope → Rho → List Stmt → Option (Rho × R)} {fz : Bool} {ow : Str → Bool} {sc : Scope} {ρ : Rho} {st : Stmt} {t : Expr} {b o : List Stmt} {p : Pos} {v : Bool} (h0 : st = .If t b o p) (h1 : E.t sc ρ t = some v) :
    exS T E X fz ow sc ρ st = X fz sc ρ (if v then b else o) := by
  subst h0
  exact obind_of h1 rfl

theorem ordOf_mem : ∀ (cs : List (Str × Int)) (o : List Str), (∀ x ∈ o, x ∈ nmList) → (∀ p ∈ cs, p.1 ∈ nmList) → ∀ x ∈ cs.foldl ordStep o, x ∈ nmList
  | [], o, h1, _ => h1
  | p :: cs, o, h1, h2 => ordOf_mem cs (ordStep o p) (fun x m => by
      unfold ordStep at m
      split at m
      · exact h1 x m
      · rcases List.mem_append.mp m with m | m
        · exact h1 x m
        · rw [List.mem_singleton.mp m]; exact h2 p (List.mem_cons_self ..)) fun q m => h2 q (List.mem_cons_of_mem _ m)
theorem ordOf_len : ∀ (cs : List (Str × Int)) (o : List Str), (cs.foldl ordStep o).length ≤ o.length + cs.length
  | [], o => Nat.le_refl _
  | p :: cs, o => by
    have h1 := ordOf_len cs (ordStep o p)
    have h2 := ord_len o p
    simp only [List.foldl_cons, List.length_cons]; exact ar203 h1 h2

/-- one function of the six -/
theorem due_one (nsD : D) (ps : List (Int × Ent)) (hp : ps.length ≤ 60) (hg : ∀ p ∈ ps, GoodE p.2) (k : Int) (h0 : 0 ≤ k) (h6 : k < 6) (due : List D) (hd : due.length ≤ 900) (s : DuS) :
    ∃ s' : DuS, exN Td (evN Td 12) owDu 7 false scDu (rhoD nsD { s with names := .val namesD, pieces := .val (.list (ps.map pcD)), due := .own (.list due), k := .val (.int k) }) (forBd (duS 3)) = some (rhoD nsD { s' with names := .val namesD, pieces := .val (.list (ps.map pcD)), due := .own (.list (due ++ dueK ps k)) }, .next) := by
  have hes : (esOf k ps).length ≤ 60 := Nat.le_trans (esOf_len k ps) hp
  have heg : ∀ e ∈ esOf k ps, GoodE e := fun e m => by
    obtain ⟨p, hp, rfl⟩ := List.mem_map.mp m
    exact hg p (List.mem_filter.mp hp).1
  have hcl := callsOf_len heg
  have hcn : ∀ p ∈ callsOf (esOf k ps), p.1 ∈ nmList := fun p m => by
    obtain ⟨e, me, mp⟩ := List.mem_flatMap.mp m
    exact (heg e me).2 p.1 (List.mem_map_of_mem mp)
  have e0 : exS Td (evN Td 12) (exN Td (evN Td 12) owDu 6) false owDu scDu (rhoD nsD { s with names := .val namesD, pieces := .val (.list (ps.map pcD)), due := .own (.list due), k := .val (.int k) }) (duB 0) = some (rhoD nsD { s with names := .val namesD, pieces := .val (.list (ps.map pcD)), due := .own (.list due), k := .val (.int k), entries := .val (.list ((esOf k ps).map entD)) }, .next) :=
    exS_of_K ((en_0 _ _ _ nsD _ _).trans (by
      unfold LCs
      rw [entries_eq (s := { s with names := .val namesD, due := .own (.list due) }) nsD ps (by exact ar201 hp) k]; rfl))
  have et := if_t Fpc nsD { s with names := .val namesD, pieces := .val (.list (ps.map pcD)), due := .own (.list due), k := .val (.int k) } ((esOf k ps).map entD)
  rw [if_pos (decide_eq_true (by rw [List.length_map]; exact ar201 hes))] at et
  have run : ∀ z, exN Td (evN Td 12) owDu 6 false scDu (rhoD nsD { s with names := .val namesD, pieces := .val (.list (ps.map pcD)), due := .own (.list due), k := .val (.int k), entries := .val (.list ((esOf k ps).map entD)) }) (if !((esOf k ps).map entD).isEmpty then ifBd (duB 1) else ifOr (duB 1)) = some (z, .next) → exN Td (evN Td 12) owDu 7 false scDu (rhoD nsD { s with names := .val namesD, pieces := .val (.list (ps.map pcD)), due := .own (.list due), k := .val (.int k) }) (forBd (duS 3)) = some (z, .next) := fun z hz => by
    rw [du_fb]
    refine (exGo_next e0).trans ((exGo_next (ρ' := z) ?_).trans rfl)
    exact (exS_if if_e et).trans hz
  by_cases he : (esOf k ps).isEmpty = true
  · refine ⟨{ s with k := .val (.int k), entries := .val (.list ((esOf k ps).map entD)) }, run _ ?_⟩
    have : (!((esOf k ps).map entD).isEmpty) = false := by rw [List.isEmpty_map, he]; rfl
    unfold dueK
    rw [this, if_pos he, List.append_nil, if_or]
    rfl
  · have hem : (!((esOf k ps).map entD).isEmpty) = true := by rw [List.isEmpty_map]; simpa using he
    obtain ⟨s1, ho⟩ := order_loop nsD (callsOf (esOf k ps)) [] { s with names := .val namesD, pieces := .val (.list (ps.map pcD)), due := .own (.list due), k := .val (.int k), entries := .val (.list ((esOf k ps).map entD)), sums := .val (sumsD (esOf k ps)), calls := .val (.list (pairsD (callsOf (esOf k ps)))) } (by simp only [List.length_nil]; exact ar202 hes hcl)
    refine ⟨{ s with k := .val (.int k), entries := .val (.list ((esOf k ps).map entD)), sums := .val (sumsD (esOf k ps)), calls := .val (.list (pairsD (callsOf (esOf k ps)))), order := .own (.list ((ordOf (callsOf (esOf k ps))).map .str)), caller := s1.caller, count := s1.count }, run _ ?_⟩
    rw [hem, if_pos rfl, if_b]
    have hol := ordOf_len (callsOf (esOf k ps)) []
    have c0 : exS Td (evN Td 12) (exN Td (evN Td 12) owDu 5) false owDu scDu (rhoD nsD { s with names := .val namesD, pieces := .val (.list (ps.map pcD)), due := .own (.list due), k := .val (.int k), entries := .val (.list ((esOf k ps).map entD)) }) (duC 0) = some (rhoD nsD { s with names := .val namesD, pieces := .val (.list (ps.map pcD)), due := .own (.list due), k := .val (.int k), entries := .val (.list ((esOf k ps).map entD)), sums := .val (sumsD (esOf k ps)) }, .next) :=
      exS_of_K ((sm_0 _ _ _ nsD _ _).trans (by
        unfold LCs
        rw [sums_eq (s := { s with names := .val namesD, pieces := .val (.list (ps.map pcD)), due := .own (.list due), k := .val (.int k) }) nsD (esOf k ps) (by exact ar201 hes)]; rfl))
    have c1 : exS Td (evN Td 12) (exN Td (evN Td 12) owDu 5) false owDu scDu (rhoD nsD { s with names := .val namesD, pieces := .val (.list (ps.map pcD)), due := .own (.list due), k := .val (.int k), entries := .val (.list ((esOf k ps).map entD)), sums := .val (sumsD (esOf k ps)) }) (duC 1) = some (rhoD nsD { s with names := .val namesD, pieces := .val (.list (ps.map pcD)), due := .own (.list due), k := .val (.int k), entries := .val (.list ((esOf k ps).map entD)), sums := .val (sumsD (esOf k ps)), calls := .val (.list (pairsD (callsOf (esOf k ps)))) }, .next) :=
      exS_of_K ((ca_0 _ _ _ nsD _ _).trans (by
        unfold LCs
        rw [calls_eq (s := { s with names := .val namesD, pieces := .val (.list (ps.map pcD)), due := .own (.list due), k := .val (.int k), sums := .val (sumsD (esOf k ps)) }) nsD (esOf k ps) (by exact ar200 hes hcl)]; rfl))
    have c2 := exS_of_K (T := Td) (or_0 Fpc (LCs Td) (FOs Td 12 owDu) nsD { s with names := .val namesD, pieces := .val (.list (ps.map pcD)), due := .own (.list due), k := .val (.int k), entries := .val (.list ((esOf k ps).map entD)), sums := .val (sumsD (esOf k ps)), calls := .val (.list (pairsD (callsOf (esOf k ps)))) } (fun fz body ρ kk => exK Td (LCs Td) (FOs Td 12 owDu) false 12 owDu 5 fz scDu body ρ kk))
    have c3 := (exS_for (T := Td) (E := evN Td 12) (X := exN Td (evN Td 12) owDu 5) (fz := false) (ow := owDu) or_f or_g (or_i Fpc nsD { s with names := .val namesD, pieces := .val (.list (ps.map pcD)), due := .own (.list due), k := .val (.int k), entries := .val (.list ((esOf k ps).map entD)), sums := .val (sumsD (esOf k ps)), order := .own (.list []) } (pairsD (callsOf (esOf k ps))))).trans ho
    refine (exGo_next c0).trans ((exGo_next c1).trans ((exGo_next c2).trans ((exGo_next c3).trans ((exGo_next (ρ' := rhoD nsD { s with names := .val namesD, pieces := .val (.list (ps.map pcD)), due := .own (.list (due ++ dueK ps k)), k := .val (.int k), entries := .val (.list ((esOf k ps).map entD)), sums := .val (sumsD (esOf k ps)), calls := .val (.list (pairsD (callsOf (esOf k ps)))), order := .own (.list ((ordOf (callsOf (esOf k ps))).map .str)), caller := s1.caller, count := s1.count }) ?_).trans rfl))))
    refine exS_of_K ((rw_0 Fpc _ _ nsD (sumsD (esOf k ps)) due k { s with pieces := .val (.list (ps.map pcD)), entries := .val (.list ((esOf k ps).map entD)), calls := .val (.list (pairsD (callsOf (esOf k ps)))), order := .own (.list ((ordOf (callsOf (esOf k ps))).map .str)), caller := s1.caller, count := s1.count } _).trans ?_)
    have hi : itemD namesD k = some (.str (nm k)) := by
      have : k = 0 ∨ k = 1 ∨ k = 2 ∨ k = 3 ∨ k = 4 ∨ k = 5 := by exact ar164 h0 h6
      rcases this with rfl | rfl | rfl | rfl | rfl | rfl <;> rfl
    rw [hi, obind_s]
    unfold LCs
    rw [rowc_eq (s := { s with names := .val namesD, pieces := .val (.list (ps.map pcD)), due := .own (.list due), k := .val (.int k), entries := .val (.list ((esOf k ps).map entD)), sums := .val (sumsD (esOf k ps)), caller := s1.caller, count := s1.count }) nsD (callsOf (esOf k ps)) (ordOf (callsOf (esOf k ps))) (by exact ar200 hes hcl) (by unfold ordOf; simp only [List.length_nil] at hol; exact ar199 hes hcl hol) hcn (ordOf_mem _ [] (fun x m => nomatch m) hcn), obind_s, decide_eq_true (by exact ar198 hd), ocond_t]
    unfold dueK
    rw [if_neg he]
    rfl

theorem dueK_len (ps : List (Int × Ent)) (k : Int) : (dueK ps k).length ≤ 1 := by
  unfold dueK; split <;> simp
theorem due_loop (nsD : D) (ps : List (Int × Ent)) (hp : ps.length ≤ 60) (hg : ∀ p ∈ ps, GoodE p.2) : ∀ (l : List Int) (due : List D) (s : DuS), (∀ k ∈ l, 0 ≤ k ∧ k < 6) → due.length + l.length ≤ 900 →
    ∃ s' : DuS, forGo (fun ρ => exN Td (evN Td 12) owDu 7 false scDu ρ (forBd (duS 3))) (fun d ρ => bindT scDu (forTgt (duS 3)) d ρ) (l.map D.int) (rhoD nsD { s with names := .val namesD, pieces := .val (.list (ps.map pcD)), due := .own (.list due) }) = some (rhoD nsD { s' with names := .val namesD, pieces := .val (.list (ps.map pcD)), due := .own (.list (due ++ l.flatMap (dueK ps))) }, .next)
  | [], due, s, _, _ => ⟨s, by simp [forGo]⟩
  | k :: l, due, s, hk, hl => by
    simp only [List.length_cons] at hl
    obtain ⟨s1, h1⟩ := due_one nsD ps hp hg k (hk k (List.mem_cons_self ..)).1 (hk k (List.mem_cons_self ..)).2 due (by exact ar197 hl) s
    have hd := dueK_len ps k
    obtain ⟨s2, h2⟩ := due_loop nsD ps hp hg l (due ++ dueK ps k) s1 (fun k m => hk k (List.mem_cons_of_mem _ m)) (by rw [List.length_append]; exact ar196 hl hd)
    refine ⟨s2, ?_⟩
    have hb := du_b nsD { s with names := .val namesD, pieces := .val (.list (ps.map pcD)), due := .own (.list due) } k
    rw [List.flatMap_cons, ← List.append_assoc]
    simp only [List.map_cons, forGo, hb, h1]
    exact h2

theorem Fdu_eq (ns : List Int) (hl : ns.length ≤ 20) : Fdu [numD ns] = some (.list (due ns)) := by
  have hpl := pcs_len ns
  obtain ⟨s', hloop⟩ := due_loop (numD ns) (pcs ns) (by exact ar195 hl hpl) (fun p m => pcs_good m) [0, 2, 1, 3, 5, 4] [] ds0 (by decide) (by decide)
  rw [List.nil_append] at hloop
  refine runP_of (by rw [du_len]; rfl) ⟨freeze (rhoD (numD ns) { s' with names := .val namesD, pieces := .val (.list ((pcs ns).map pcD)), due := .own (.list (due ns)) }), ?_⟩
  rw [du_body]
  rw [show rho0 (scOf "_law_due") ((psOf "_law_due").zip (List.map B.val [numD ns])) = rhoD (numD ns) ds0 from du_start (numD ns)]
  refine (exGo_next (exS_of_K (du_0 Fpc _ _ (numD ns) _))).trans ?_
  refine (exGo_next (exS_of_K ((du_1 Fpc _ _ (numD ns) _).trans (by unfold LCs; rw [pieces_eq hl]; rfl)))).trans ?_
  refine (exGo_next (exS_of_K (du_2 Fpc _ _ (numD ns) (.list ((pcs ns).map pcD)) _))).trans ?_
  refine (exGo_next ((exS_for du_f du_g (du_i Fpc (numD ns) _)).trans hloop)).trans ?_
  exact exGo_ret (exS_of_K (du_4 Fpc _ _ (numD ns) (due ns) { s' with names := .val namesD, pieces := .val (.list ((pcs ns).map pcD)) } _))
end Mine

namespace Mine
open PySem PySem.W PyProof.Rows

/-! callers' tables -/
noncomputable def keys (kv : List (Str × Int)) : List Str := kv.map (·.1)
theorem mem_keys_put {d : List (Str × Int)} {p : Str × Int} {x : Str} (h : x ∈ keys d) : x ∈ keys (put d p) := by
  unfold keys at h ⊢
  rw [put_keys]
  split
  · exact h
  · exact List.mem_append_left _ h
theorem put_put (x : Str) (i j : Int) : ∀ t : List (Str × Int), put (put t (x, j)) (x, i) = put t (x, j + i)
  | [] => by simp [put]
  | (y, k) :: r => by
    by_cases h : y = x
    · subst h; simp [put, Int.add_assoc]
    · have e : (y == x) = false := by simpa using h
      simp only [put, e, Bool.false_eq_true, if_false, put_put x i j r]
theorem put_comm (p q : Str × Int) : ∀ d : List (Str × Int), p.1 ∈ keys d → put (put d q) p = put (put d p) q
  | [], h => by cases h
  | (y, j) :: r, h => by
    by_cases hp : y = p.1
    · have ep : (y == p.1) = true := by simpa using hp
      by_cases hq : y = q.1
      · have eq : (y == q.1) = true := by simpa using hq
        simp only [put, ep, eq, if_true]
        rw [Int.add_right_comm]
      · have eq : (y == q.1) = false := by simpa using hq
        simp only [put, ep, eq, if_true, Bool.false_eq_true, if_false]
    · have ep : (y == p.1) = false := by simpa using hp
      have hm : p.1 ∈ keys r := by
        unfold keys at h ⊢
        rw [List.map_cons] at h
        exact (List.mem_cons.mp h).resolve_left fun e => hp e.symm
      by_cases hq : y = q.1
      · have eq : (y == q.1) = true := by simpa using hq
        simp only [put, ep, eq, if_true, Bool.false_eq_true, if_false]
      · have eq : (y == q.1) = false := by simpa using hq
        simp only [put, ep, eq, Bool.false_eq_true, if_false, put_comm p q r hm]
theorem put_foldl (p : Str × Int) : ∀ (r d : List (Str × Int)), p.1 ∈ keys d → put (r.foldl put d) p = r.foldl put (put d p)
  | [], d, _ => rfl
  | q :: r, d, h => by
    rw [List.foldl_cons, List.foldl_cons, put_foldl p r (put d q) (mem_keys_put h), put_comm p q d h]
theorem self_keys (t : List (Str × Int)) (p : Str × Int) : p.1 ∈ keys (put t p) := by
  unfold keys
  rw [put_keys]
  split
  · assumption
  · simp
theorem put_fold (p : Str × Int) : ∀ (acc t : List (Str × Int)), (put acc p).foldl put t = put (acc.foldl put t) p
  | [], t => rfl
  | (y, j) :: r, t => by
    by_cases h : y = p.1
    · have e : (y == p.1) = true := by simpa using h
      obtain ⟨x, i⟩ := p
      dsimp only at h e
      subst h
      simp only [put, e, if_true, List.foldl_cons]
      rw [put_foldl (y, i) r (put t (y, j)) (self_keys t (y, j)), put_put]
    · have e : (y == p.1) = false := by simpa using h
      simp only [put, e, Bool.false_eq_true, if_false, List.foldl_cons]
      exact put_fold p r _
theorem fold_assoc : ∀ (l acc t : List (Str × Int)), (l.foldl put acc).foldl put t = l.foldl put (acc.foldl put t)
  | [], acc, t => rfl
  | p :: l, acc, t => by rw [List.foldl_cons, List.foldl_cons, fold_assoc l (put acc p) t, put_fold]
theorem put_new {x : Str} {i : Int} : ∀ {kv : List (Str × Int)}, x ∉ keys kv → put kv (x, i) = kv ++ [(x, i)]
  | [], h => rfl
  | (y, j) :: r, h => by
    unfold keys at h
    simp only [List.map_cons, List.mem_cons, not_or] at h
    have e : (y == x) = false := by simpa using fun q => h.1 q.symm
    simp only [put, e, Bool.false_eq_true, if_false, put_new (kv := r) h.2, List.cons_append]
theorem fold_nodup : ∀ (l acc : List (Str × Int)), (keys (acc ++ l)).Nodup → l.foldl put acc = acc ++ l
  | [], acc, _ => by simp
  | (x, i) :: r, acc, h => by
    have hx : x ∉ keys acc := fun m => by
      unfold keys at h m
      rw [List.map_append, List.map_cons] at h
      exact (List.nodup_append.mp h).2.2 x m x (by simp) rfl
    rw [List.foldl_cons, put_new hx, fold_nodup r (acc ++ [(x, i)]) (by simpa using h)]
    simp

/-! entries -/
theorem Ent.ext' {e f : Ent} (h1 : e.a = f.a) (h2 : e.b = f.b) (h3 : e.c = f.c) (h4 : e.d = f.d) (h5 : e.kv = f.kv) : e = f := by
  cases e; cases f; simp_all
theorem zero_add {e : Ent} (h : GoodE e) : Ent.zero.add e = e := by
  refine Ent.ext' ?_ ?_ ?_ ?_ ?_
  · show e.a + 0 = _; exact ar210
  · show e.b + 0 = _; exact ar210
  · show e.c + 0 = _; exact ar210
  · show e.d + 0 = _; exact ar210
  · exact fold_nodup e.kv [] (by rw [List.nil_append]; exact h.1)
theorem add_zero (e : Ent) : e.add .zero = e := by
  refine Ent.ext' ?_ ?_ ?_ ?_ rfl
  · show 0 + e.a = _; exact ar209
  · show 0 + e.b = _; exact ar209
  · show 0 + e.c = _; exact ar209
  · show 0 + e.d = _; exact ar209
theorem add_assoc' (t e f : Ent) : t.add (e.add f) = (t.add e).add f := by
  refine Ent.ext' ?_ ?_ ?_ ?_ ?_
  · show f.a + e.a + t.a = f.a + (e.a + t.a); exact ar165
  · show f.b + e.b + t.b = f.b + (e.b + t.b); exact ar165
  · show f.c + e.c + t.c = f.c + (e.c + t.c); exact ar165
  · show f.d + e.d + t.d = f.d + (e.d + t.d); exact ar165
  · exact fold_assoc f.kv e.kv t.kv
theorem add_fold : ∀ (fs : List Ent) (t acc : Ent), t.add (fs.foldl Ent.add acc) = fs.foldl Ent.add (t.add acc)
  | [], t, acc => rfl
  | f :: fs, t, acc => by rw [List.foldl_cons, List.foldl_cons, add_fold fs, add_assoc']
theorem sum_good {es : List Ent} (h : ∀ e ∈ es, GoodE e) : GoodE (sumE es) := by
  have : ∀ (es : List Ent) (acc : Ent), GoodE acc → (∀ e ∈ es, GoodE e) → GoodE (es.foldl Ent.add acc) := by
    intro es
    induction es with
    | nil => intro acc ha _; exact ha
    | cons e es ih => intro acc ha h; exact ih _ (ha.add (h e (List.mem_cons_self ..))) fun x m => h x (List.mem_cons_of_mem _ m)
  exact this es _ GoodE.zero h
theorem sum_left {es fs : List Ent} (h : ∀ e ∈ es, GoodE e) : sumE (sumE es :: fs) = sumE (es ++ fs) := by
  unfold sumE
  rw [List.foldl_cons, List.foldl_append, show Ent.zero.add (es.foldl Ent.add .zero) = es.foldl Ent.add .zero from zero_add (sum_good h)]
theorem sum_right (es fs : List Ent) : sumE (es ++ [sumE fs]) = sumE (es ++ fs) := by
  unfold sumE
  rw [List.foldl_append, List.foldl_append, List.foldl_cons, List.foldl_nil, add_fold, add_zero]

/-! what is told, put together -/
theorem SN_nodup : SN.Nodup := SN_sorted.imp fun h e => by subst e; rw [strL_irrefl] at h; cases h
theorem ents_canonOn {L : List Row} {x : Str} : ∀ {S : List Str}, S.Nodup → entsOf x (canonOn S L) = if x ∈ S ∧ (entsOf x L).isEmpty = false then [sumE (entsOf x L)] else []
  | [], _ => by simp [canonOn, entsOf]
  | y :: S, h => by
    rw [List.nodup_cons] at h
    have ih := ents_canonOn (L := L) (x := x) h.2
    have hc : canonOn (y :: S) L = (if (entsOf y L).isEmpty then [] else [(y, sumE (entsOf y L))]) ++ canonOn S L := by
      unfold canonOn
      rw [List.filterMap_cons]
      cases (entsOf y L).isEmpty <;> rfl
    have ha : ∀ A B : List Row, entsOf x (A ++ B) = entsOf x A ++ entsOf x B := fun A B => by unfold entsOf; rw [List.filter_append, List.map_append]
    rw [hc, ha, ih]
    by_cases hy : y = x
    · subst hy
      have : ¬ (y ∈ S ∧ (entsOf y L).isEmpty = false) := fun q => h.1 q.1
      rw [if_neg this, List.append_nil]
      cases he : (entsOf y L).isEmpty with
      | true => simp [entsOf]
      | false => simp [entsOf]
    · have e : (y == x) = false := by simpa using hy
      have : entsOf x (if (entsOf y L).isEmpty then [] else [(y, sumE (entsOf y L))]) = [] := by
        split
        · rfl
        · unfold entsOf; simp [e]
      rw [this, List.nil_append]
      have hx : ¬ x = y := fun q => hy q.symm
      simp [hx]
theorem ents_app (x : Str) (A B : List Row) : entsOf x (A ++ B) = entsOf x A ++ entsOf x B := by unfold entsOf; rw [List.filter_append, List.map_append]
theorem ents_good {L : List Row} (h : ∀ r ∈ L, GoodR r) (x : Str) : ∀ e ∈ entsOf x L, GoodE e := fun e m => by
  obtain ⟨r, hr, rfl⟩ := List.mem_map.mp m
  exact (h r (List.mem_filter.mp hr).1).2
theorem canon_cong {L L' : List Row} (h : ∀ x ∈ SN, (entsOf x L).isEmpty = (entsOf x L').isEmpty ∧ sumE (entsOf x L) = sumE (entsOf x L')) : canon L = canon L' := by
  unfold canon canonOn
  generalize SN = S at h
  induction S with
  | nil => rfl
  | cons x S ih =>
    obtain ⟨h1, h2⟩ := h x (List.mem_cons_self ..)
    rw [List.filterMap_cons, List.filterMap_cons, h1, h2, ih fun y m => h y (List.mem_cons_of_mem _ m)]
theorem isEmpty_app {α : Type} (a b : List α) : (a ++ b).isEmpty = (a.isEmpty && b.isEmpty) := by cases a <;> rfl
theorem canon_left {A Bs : List Row} (h : ∀ r ∈ A, GoodR r) : canon (canon A ++ Bs) = canon (A ++ Bs) := canon_cong fun x hx => by
  rw [ents_app, ents_app, show entsOf x (canon A) = _ from ents_canonOn SN_nodup]
  cases he : (entsOf x A).isEmpty with
  | true =>
    rw [if_neg (by simp), List.isEmpty_iff.mp he]
    exact ⟨rfl, rfl⟩
  | false =>
    rw [if_pos ⟨hx, rfl⟩]
    refine ⟨?_, ?_⟩
    · rw [isEmpty_app (entsOf x A), he]; rfl
    · exact sum_left (ents_good h x)
theorem canon_right {A Bs : List Row} : canon (A ++ canon Bs) = canon (A ++ Bs) := canon_cong fun x hx => by
  rw [ents_app, ents_app, show entsOf x (canon Bs) = _ from ents_canonOn SN_nodup]
  cases he : (entsOf x Bs).isEmpty with
  | true =>
    rw [if_neg (by simp), List.isEmpty_iff.mp he]
    exact ⟨rfl, rfl⟩
  | false =>
    rw [if_pos ⟨hx, rfl⟩]
    refine ⟨?_, sum_right _ _⟩
    rw [isEmpty_app, isEmpty_app, he]; simp
theorem canon_good {L : List Row} (h : ∀ r ∈ L, GoodR r) : ∀ r ∈ canon L, GoodR r := fun r m => by
  unfold canon canonOn at m
  obtain ⟨x, hx, e⟩ := List.mem_filterMap.mp m
  split at e
  · cases e
  · cases e; exact ⟨SN_nm x hx, sum_good (ents_good h x)⟩
theorem canonOn_srt {L : List Row} : ∀ {S : List Str}, S.Pairwise (fun a b => strLt a b = true) → Srt (canonOn S L)
  | [], _ => List.Pairwise.nil
  | x :: S, h => by
    obtain ⟨h1, h2⟩ := List.pairwise_cons.mp h
    have ih := canonOn_srt (L := L) h2
    have hm : ∀ r ∈ canonOn S L, r.1 ∈ S := fun r m => by
      unfold canonOn at m
      obtain ⟨y, hy, e⟩ := List.mem_filterMap.mp m
      split at e
      · cases e
      · cases e; exact hy
    unfold canonOn
    rw [List.filterMap_cons]
    cases (entsOf x L).isEmpty with
    | true => exact ih
    | false => exact List.pairwise_cons.mpr ⟨fun r m => strL_asymm (h1 _ (hm r m)), ih⟩
theorem canon_srt (L : List Row) : Srt (canon L) := canonOn_srt SN_sorted
theorem canon_len (L : List Row) : (canon L).length ≤ 6 := List.length_filterMap_le _ _

/-! profiles -/
theorem ins_mem {r x : Row} : ∀ {l : List Row}, x ∈ insR r l → x = r ∨ x ∈ l
  | [], h => .inl (List.mem_singleton.mp h)
  | y :: t, h => by
    unfold insR at h
    split at h
    · exact List.mem_cons.mp h
    · rcases List.mem_cons.mp h with q | q
      · exact .inr (q ▸ List.mem_cons_self ..)
      · exact (ins_mem q).imp_right fun m => List.mem_cons_of_mem _ m
theorem ins_srt {r : Row} : ∀ {l : List Row}, Srt l → Srt (insR r l)
  | [], _ => List.pairwise_singleton _ _
  | y :: t, h => by
    obtain ⟨h1, h2⟩ := List.pairwise_cons.mp h
    unfold insR
    split
    · rename_i hlt
      refine List.pairwise_cons.mpr ⟨fun z m => ?_, h⟩
      rcases List.mem_cons.mp m with rfl | m
      · exact strL_asymm hlt
      · exact strL_le_trans (strL_asymm hlt) (h1 z m)
    · rename_i hlt
      refine List.pairwise_cons.mpr ⟨fun z m => ?_, ins_srt h2⟩
      rcases ins_mem m with rfl | m
      · simpa using hlt
      · exact h1 z m
theorem ins_filter {r : Row} (x : Str) : ∀ {l : List Row}, Srt l → (insR r l).filter (·.1 == x) = l.filter (·.1 == x) ++ (if r.1 == x then [r] else [])
  | [], _ => by
    unfold insR
    rw [List.filter_cons]
    cases r.1 == x <;> rfl
  | y :: t, h => by
    obtain ⟨h1, h2⟩ := List.pairwise_cons.mp h
    unfold insR
    split
    · rename_i hlt
      by_cases hx : r.1 = x
      · have e : (r.1 == x) = true := by simpa using hx
        have none : (y :: t).filter (·.1 == x) = [] := by
          rw [List.filter_eq_nil_iff]
          intro z m q
          have hz : z.1 = x := beq_iff_eq.mp q
          rcases List.mem_cons.mp m with rfl | m
          · rw [hz, ← hx, strL_irrefl] at hlt; cases hlt
          · have := h1 z m
            rw [hz, ← hx, hlt] at this; cases this
        rw [List.filter_cons, none, e]; rfl
      · have e : (r.1 == x) = false := by simpa using hx
        rw [List.filter_cons, e]; simp
    · rw [List.filter_cons, List.filter_cons, ins_filter x h2]
      split <;> rfl
theorem fold_ins (x : Str) : ∀ (l acc : List Row), Srt acc → Srt (l.foldl (fun acc r => insR r acc) acc) ∧ (l.foldl (fun acc r => insR r acc) acc).filter (·.1 == x) = acc.filter (·.1 == x) ++ l.filter (·.1 == x)
  | [], acc, h => ⟨h, by simp⟩
  | r :: l, acc, h => by
    obtain ⟨h1, h2⟩ := fold_ins x l (insR r acc) (ins_srt h)
    refine ⟨h1, ?_⟩
    rw [List.foldl_cons, h2, ins_filter x h, List.filter_cons, List.append_assoc]
    cases r.1 == x <;> rfl
theorem fold_ins_mem {z : Row} : ∀ (l acc : List Row), z ∈ l.foldl (fun acc r => insR r acc) acc → z ∈ l ∨ z ∈ acc
  | [], acc, h => .inr h
  | r :: l, acc, h => by
    rcases fold_ins_mem l (insR r acc) h with q | q
    · exact .inl (List.mem_cons_of_mem _ q)
    · rcases ins_mem q with rfl | q
      · exact .inl (List.mem_cons_self ..)
      · exact .inr q
theorem ins_len (r : Row) : ∀ l : List Row, (insR r l).length = l.length + 1
  | [] => rfl
  | y :: t => by
    unfold insR
    split
    · rfl
    · rw [List.length_cons, ins_len r t, List.length_cons]
theorem fold_ins_len : ∀ (l acc : List Row), (l.foldl (fun acc r => insR r acc) acc).length = l.length + acc.length
  | [], acc => by simp
  | r :: l, acc => by rw [List.foldl_cons, fold_ins_len l, ins_len, List.length_cons]; exact ar208

theorem prof_srt (i : Int) (ns : List Int) : Srt (prof i ns) := (fold_ins default (filt i ns) [] List.Pairwise.nil).1
theorem prof_ents (x : Str) (i : Int) (ns : List Int) : entsOf x (prof i ns) = entsOf x (filt i ns) := by
  unfold entsOf prof sortR
  rw [(fold_ins x (filt i ns) [] List.Pairwise.nil).2]
  rfl
theorem prof_good (i : Int) (ns : List Int) : ∀ r ∈ prof i ns, GoodR r := fun r m => by
  rcases fold_ins_mem _ _ m with q | q
  · obtain ⟨v, _, rfl⟩ := List.mem_map.mp q
    exact ⟨nm_mem _ (fmod6 v).1 (fmod6 v).2, piece_good v⟩
  · cases q
theorem prof_len (i : Int) (ns : List Int) : (prof i ns).length ≤ ns.length := by
  unfold prof sortR
  rw [fold_ins_len]
  exact filt_len i ns

theorem nm_inj {a b : Int} (h0 : 0 ≤ a) (h6 : a < 6) (k0 : 0 ≤ b) (k6 : b < 6) : (nm a == nm b) = (a == b) := by
  have ha : a = 0 ∨ a = 1 ∨ a = 2 ∨ a = 3 ∨ a = 4 ∨ a = 5 := by exact ar164 h0 h6
  have hb : b = 0 ∨ b = 1 ∨ b = 2 ∨ b = 3 ∨ b = 4 ∨ b = 5 := by exact ar164 k0 k6
  rcases ha with rfl | rfl | rfl | rfl | rfl | rfl <;> rcases hb with rfl | rfl | rfl | rfl | rfl | rfl <;> decide +kernel

theorem filt_ents (k : Int) (h0 : 0 ≤ k) (h6 : k < 6) (i : Int) (ns : List Int) : entsOf (nm k) (filt i ns) = ((ns.filter fun v => (v.fdiv 6).fmod 3 == i).filter fun v => v.fmod 6 == k).map pieceE := by
  unfold entsOf filt
  rw [List.filter_map, List.map_map]
  congr 1
  apply List.filter_congr
  intro v _
  exact nm_inj (fmod6 v).1 (fmod6 v).2 h0 h6
theorem es_pcs (k : Int) (ns : List Int) : esOf k (pcs ns) = ([0, 1, 2] : List Int).flatMap fun i => ((ns.filter fun v => (v.fdiv 6).fmod 3 == i).filter fun v => v.fmod 6 == k).map pieceE := by
  have one : ∀ l : List Int, ((l.map fun v => (v.fmod 6, pieceE v)).filter (·.1 == k)).map (·.2) = (l.filter fun v => v.fmod 6 == k).map pieceE := fun l => by
    rw [List.filter_map, List.map_map]; rfl
  unfold esOf pcs
  simp only [List.flatMap_cons, List.flatMap_nil, List.append_nil, List.filter_append, List.map_append, one]
noncomputable def allP (ns : List Int) : List Row := prof 0 ns ++ (prof 1 ns ++ prof 2 ns)
theorem all_ents (k : Int) (h0 : 0 ≤ k) (h6 : k < 6) (ns : List Int) : entsOf (nm k) (allP ns) = esOf k (pcs ns) := by
  unfold allP
  rw [ents_app, ents_app, prof_ents, prof_ents, prof_ents, filt_ents k h0 h6, filt_ents k h0 h6, filt_ents k h0 h6, es_pcs]
  simp only [List.flatMap_cons, List.flatMap_nil, List.append_nil]
theorem all_good (ns : List Int) : ∀ r ∈ allP ns, GoodR r := fun r m => by
  unfold allP at m
  rcases List.mem_append.mp m with m | m
  · exact prof_good _ _ r m
  · rcases List.mem_append.mp m with m | m
    · exact prof_good _ _ r m
    · exact prof_good _ _ r m

/-! the sums -/
theorem fold_a : ∀ (es : List Ent) (acc : Ent), (es.foldl Ent.add acc).a = acc.a + (es.map (·.a)).sum
  | [], acc => by simp
  | e :: es, acc => by
    rw [List.foldl_cons, fold_a es, List.map_cons, List.sum_cons]
    show e.a + acc.a + _ = _; exact ar207
theorem fold_b : ∀ (es : List Ent) (acc : Ent), (es.foldl Ent.add acc).b = acc.b + (es.map (·.b)).sum
  | [], acc => by simp
  | e :: es, acc => by
    rw [List.foldl_cons, fold_b es, List.map_cons, List.sum_cons]
    show e.b + acc.b + _ = _; exact ar207
theorem fold_c : ∀ (es : List Ent) (acc : Ent), (es.foldl Ent.add acc).c = acc.c + (es.map (·.c)).sum
  | [], acc => by simp
  | e :: es, acc => by
    rw [List.foldl_cons, fold_c es, List.map_cons, List.sum_cons]
    show e.c + acc.c + _ = _; exact ar207
theorem fold_d : ∀ (es : List Ent) (acc : Ent), (es.foldl Ent.add acc).d = acc.d + (es.map (·.d)).sum
  | [], acc => by simp
  | e :: es, acc => by
    rw [List.foldl_cons, fold_d es, List.map_cons, List.sum_cons]
    show e.d + acc.d + _ = _; exact ar207
theorem fold_kv : ∀ (es : List Ent) (acc : Ent), (es.foldl Ent.add acc).kv = (callsOf es).foldl put acc.kv
  | [], acc => rfl
  | e :: es, acc => by
    rw [List.foldl_cons, fold_kv es]
    unfold callsOf
    rw [List.flatMap_cons, List.foldl_append]
    rfl

noncomputable def repT (o : List Str) (f : Str → Int) : List (Str × Int) := o.map fun x => (x, f x)
theorem repT_congr {o : List Str} {f g : Str → Int} (h : ∀ x ∈ o, f x = g x) : repT o f = repT o g := by
  unfold repT
  exact List.map_congr_left fun x m => by rw [h x m]
theorem put_repT (x : Str) (i : Int) (f : Str → Int) : ∀ (o : List Str), o.Nodup → (x ∉ o → f x = 0) → put (repT o f) (x, i) = repT (if o.any (· == x) then o else o ++ [x]) (fun y => if y = x then f x + i else f y)
  | [], _, h => by
    have := h (by simp)
    simp [repT, put, this]
  | y :: o, hn, h => by
    rw [List.nodup_cons] at hn
    by_cases hy : y = x
    · subst hy
      have e : repT o (fun z => if z = y then f y + i else f z) = repT o f := repT_congr fun z m => if_neg fun q : z = y => hn.1 (q ▸ m)
      have : ((y :: o).any (· == y)) = true := by simp
      rw [this, if_pos rfl]
      show put ((y, f y) :: repT o f) (y, i) = (y, if y = y then f y + i else f y) :: repT o _
      rw [e]
      simp [put]
    · have e : (y == x) = false := by simpa using hy
      have ih := put_repT x i f o hn.2 fun q => h fun m => q ((List.mem_cons.mp m).resolve_left fun q => hy q.symm)
      have ha : ((y :: o).any (· == x)) = o.any (· == x) := by rw [List.any_cons, e, Bool.false_or]
      rw [ha]
      show put ((y, f y) :: repT o f) (x, i) = _
      simp only [put, e, Bool.false_eq_true, if_false, ih]
      have key : ∀ l : List Str, (y, f y) :: repT l (fun z => if z = x then f x + i else f z) = repT (y :: l) (fun z => if z = x then f x + i else f z) := fun l => by
        show _ = (y, if y = x then f x + i else f y) :: repT l _
        rw [if_neg hy]
      rw [key]
      cases o.any (· == x) <;> rfl
theorem ordStep_nodup {o : List Str} {p : Str × Int} (h : o.Nodup) : (ordStep o p).Nodup := by
  unfold ordStep
  split
  · exact h
  · rename_i hn
    refine List.nodup_append.mpr ⟨h, by simp, fun a ha b hb e => hn ?_⟩
    rw [List.mem_singleton.mp hb] at e
    rw [List.any_eq_true]
    exact ⟨a, ha, by simpa using e⟩
theorem cnt_snoc (cs : List (Str × Int)) (p : Str × Int) (y : Str) : cnt (cs ++ [p]) y = if y = p.1 then cnt cs p.1 + p.2 else cnt cs y := by
  unfold cnt
  rw [List.filter_append, List.map_append, List.sum_append]
  by_cases h : y = p.1
  · subst h; simp
  · have e : (p.1 == y) = false := by simpa using fun q => h q.symm
    simp [e, h]
theorem fold_rep : ∀ (l cs : List (Str × Int)) (o : List Str), o.Nodup → (∀ x, x ∉ o → cnt cs x = 0) → l.foldl put (repT o (cnt cs)) = repT (l.foldl ordStep o) (cnt (cs ++ l))
  | [], cs, o, _, _ => by simp
  | (x, i) :: l, cs, o, hn, hz => by
    rw [List.foldl_cons, List.foldl_cons, put_repT x i (cnt cs) o hn (hz x)]
    have e : (fun y => if y = x then cnt cs x + i else cnt cs y) = cnt (cs ++ [(x, i)]) := funext fun y => (cnt_snoc cs (x, i) y).symm
    rw [e]
    have := fold_rep l (cs ++ [(x, i)]) (ordStep o (x, i)) (ordStep_nodup hn) (fun y hy => by
      rw [cnt_snoc]
      unfold ordStep at hy
      split at hy
      · rename_i ha
        obtain ⟨z, hz1, hz2⟩ := List.any_eq_true.mp ha
        have hzx : z = x := by simpa using hz2
        rw [if_neg (fun q => hy (by rw [q, ← hzx]; exact hz1))]
        exact hz y hy
      · rw [List.mem_append, not_or] at hy
        rw [if_neg (fun q => hy.2 (by rw [q]; simp))]
        exact hz y hy.1)
    rw [List.append_assoc, List.singleton_append] at this
    exact this
theorem fold_put_eq (cs : List (Str × Int)) : cs.foldl put [] = repT (ordOf cs) (cnt cs) := fold_rep cs [] [] List.Pairwise.nil fun x _ => rfl

theorem flat_due (k : Int) (es : List Ent) : flatRow (nm k, sumE es) = dueRow k es := by
  unfold flatRow dueRow sumsD calD sumE
  dsimp only
  rw [fold_a, fold_b, fold_c, fold_d, fold_kv]
  show D.tuple [_, .list [.int (0 + _), .int (0 + _), .int (0 + _), .int (0 + _)], .list (pairsD (List.foldl put [] _))] = _
  rw [fold_put_eq]
  simp only [Int.zero_add]
  unfold pairsD repT
  rw [List.map_map]
  rfl
theorem flat_all (ns : List Int) : (canon (allP ns)).map flatRow = due ns := by
  have : ∀ ks : List Int, (∀ k ∈ ks, 0 ≤ k ∧ k < 6) → (canonOn (ks.map nm) (allP ns)).map flatRow = ks.flatMap (dueK (pcs ns)) := by
    intro ks
    induction ks with
    | nil => intro _; rfl
    | cons k ks ih =>
      intro h
      have hk := h k (List.mem_cons_self ..)
      have hc : canonOn ((k :: ks).map nm) (allP ns) = (if (esOf k (pcs ns)).isEmpty then [] else [(nm k, sumE (esOf k (pcs ns)))]) ++ canonOn (ks.map nm) (allP ns) := by
        unfold canonOn
        rw [List.map_cons, List.filterMap_cons, all_ents k hk.1 hk.2]
        cases (esOf k (pcs ns)).isEmpty <;> rfl
      rw [hc, List.map_append, ih fun k m => h k (List.mem_cons_of_mem _ m), List.flatMap_cons]
      congr 1
      unfold dueK
      cases (esOf k (pcs ns)).isEmpty with
      | true => rfl
      | false => exact congrArg (fun x => [x]) (flat_due k _)
  exact this [0, 2, 1, 3, 5, 4] (by decide)

/-! equal to itself -/
theorem eqD_refl : ∀ (n : Nat) (d : D), okEq n d = true → eqD d d = true
  | n, .int i, _ => by simp [eqD]
  | n, .str x, _ => by simp [eqD]
  | n, .none, h => by cases n <;> cases h
  | n, .bool _, h => by cases n <;> cases h
  | n, .dict _, h => by cases n <;> cases h
  | 0, .tuple _, h => by cases h
  | 0, .list _, h => by cases h
  | n + 1, .tuple ds, h => by
    have : ∀ ds : List D, ds.all (okEq n) = true → eqDs ds ds = true := fun ds => by
      induction ds with
      | nil => intro _; rfl
      | cons d ds ih =>
        intro h
        rw [List.all_cons, Bool.and_eq_true] at h
        simp only [eqDs, eqD_refl n d h.1, ih h.2, Bool.and_self]
    simp only [okEq] at h
    simp only [eqD, this ds h]
  | n + 1, .list ds, h => by
    have : ∀ ds : List D, ds.all (okEq n) = true → eqDs ds ds = true := fun ds => by
      induction ds with
      | nil => intro _; rfl
      | cons d ds ih =>
        intro h
        rw [List.all_cons, Bool.and_eq_true] at h
        simp only [eqDs, eqD_refl n d h.1, ih h.2, Bool.and_self]
    simp only [okEq] at h
    simp only [eqD, this ds h]
theorem ne_refl {d : D} (h : okEq 8 d = true) : cmpD .NotEq d d = some false := by
  show (if (okEq 8 d && okEq 8 d) = true then some (!eqD d d) else none) = _
  rw [h, eqD_refl 8 d h]
  rfl
theorem eq_refl' {d : D} (h : okEq 8 d = true) : cmpD .Eq d d = some true := by
  show (if (okEq 8 d && okEq 8 d) = true then some (eqD d d) else none) = _
  rw [h, eqD_refl 8 d h]
  rfl
theorem ok_flat {r : Row} (h : GoodR r) (n : Nat) : okEq (n + 3) (flatRow r) = true := by
  unfold flatRow
  simp only [okEq, List.all_cons, List.all_nil, Bool.and_true, nm_strOk _ h.1, Bool.true_and, List.all_eq_true]
  intro d m
  unfold pairsD at m
  obtain ⟨p, hp, rfl⟩ := List.mem_map.mp m
  simp only [okEq, List.all_cons, List.all_nil, Bool.and_true, nm_strOk _ (h.2.2 p.1 (List.mem_map_of_mem hp))]
theorem ok_flats {l : List Row} (h : ∀ r ∈ l, GoodR r) (n : Nat) : okEq (n + 4) (.list (l.map flatRow)) = true := by
  simp only [okEq, List.all_eq_true]
  intro d m
  obtain ⟨r, hr, rfl⟩ := List.mem_map.mp m
  exact ok_flat (h r hr) n
theorem ok_ints (l : List Int) (n : Nat) : okEq (n + 1) (.list (l.map .int)) = true := by
  simp only [okEq, List.all_eq_true]
  intro d m
  obtain ⟨i, _, rfl⟩ := List.mem_map.mp m
  cases n <;> rfl
end Mine

namespace Mine
open PySem PySem.W PyProof.Rows

/-! law: trees -/
noncomputable abbrev Ft := List D → Option D
noncomputable def tabW (Fs Fp Fd Fm Ff Fc : Ft) : Tabs := ⟨fun g => if g == Str.ofString "_law_functions" then some Flf else if g == Str.ofString "func_std_string" then some Fs else if g == Str.ofString "_law_profiles" then some Fp else if g == Str.ofString "_law_due" then some Fd else if g == Str.ofString "_law_merged" then some Fm else if g == Str.ofString "_law_flat" then some Ff else if g == Str.ofString "count_calls" then some Fc else none, fun _ => none, false⟩
noncomputable abbrev scW := scOf "law"
noncomputable abbrev wS (i : Nat) := nthS "law" i
structure WS where
  numbers : B
  profiles : B
  due : B
  whole : B
  first : B
  last : B
noncomputable def rhoW (s : D) (w : WS) : Rho := [(Str.ofString "script", .val s), (Str.ofString "numbers", w.numbers), (Str.ofString "profiles", w.profiles), (Str.ofString "due", w.due), (Str.ofString "whole", w.whole), (Str.ofString "first", w.first), (Str.ofString "last", w.last)]
noncomputable def ws0 : WS := ⟨.unb, .unb, .unb, .unb, .unb, .unb⟩
noncomputable def binL : Expr → Expr
  | .BinOp l _ _ _ => l
  | e => e
noncomputable def cmpL : Expr → Expr
  | .Compare l _ _ _ => l
  | e => e
noncomputable def cmpR : Expr → Expr
  | .Compare _ _ [r] _ => r
  | e => e

section
variable (Fs Fp Fd Fm Ff Fc : Ft) (LC : LCt) (FO : FOt)
noncomputable abbrev stW (X : KX (β := Rho × R)) (st : Stmt) (ρ : Rho) : Option (Rho × R) := stK (tabW Fs Fp Fd Fm Ff Fc) LC FO false 12 7 now X true scW st ρ fun ρ r => some (ρ, r)
noncomputable def retF (ρ : Rho) (b : Bool) : Option (Rho × R) := ocond b (some (freeze ρ, .ret (.bool false))) (some (ρ, .next))

theorem w_body : bdOf "law" = [wS 0, wS 1, wS 2, wS 3, wS 4, wS 5, wS 6, wS 7, wS 8, wS 9] := by kernel_rfl
theorem w_start (s : D) : rho0 scW ((psOf "law").zip ([s].map .val)) = rhoW s ws0 := by kernel_rfl
theorem w_0 (s : D) (X) : stW Fs Fp Fd Fm Ff Fc LC FO X (wS 0) (rhoW s ws0) = obind (LC 11 scW (rhoW s ws0) (binL (asgV (wS 0)))) fun d => obind (binD .Add d (.list [.int 127, .int 380, .int 104])) fun r => some (rhoW s { ws0 with numbers := .val r }, .next) := by kernel_rfl
theorem w_1 (s : D) (w : WS) : stW Fs Fp Fd Fm Ff Fc LC FO (fun fz body ρ k => exK (tabW Fs Fp Fd Fm Ff Fc) LC FO false 12 now 7 fz scW body ρ k) (wS 1) (rhoW s w) = obind (LC 11 scW (rhoW s w) (cmpL (ifT (wS 1)))) fun d => obind (cmpD .NotEq d namesD) (retF (rhoW s w)) := by kernel_rfl
theorem w_2 (s ns : D) (w : WS) (X) : stW Fs Fp Fd Fm Ff Fc LC FO X (wS 2) (rhoW s { w with numbers := .val ns }) = obind (Fp [ns]) fun d => some (rhoW s { w with numbers := .val ns, profiles := .val d }, .next) := by kernel_rfl
theorem w_3 (s ns : D) (w : WS) (X) : stW Fs Fp Fd Fm Ff Fc LC FO X (wS 3) (rhoW s { w with numbers := .val ns }) = obind (Fd [ns]) fun d => some (rhoW s { w with numbers := .val ns, due := .val d }, .next) := by kernel_rfl
theorem w_4 (s ps : D) (w : WS) (X) : stW Fs Fp Fd Fm Ff Fc LC FO X (wS 4) (rhoW s { w with profiles := .val ps }) = obind (Fm [ps]) fun d => some (rhoW s { w with profiles := .val ps, whole := .val d }, .next) := by kernel_rfl
theorem w_5 (s p q r : D) (w : WS) (X) : stW Fs Fp Fd Fm Ff Fc LC FO X (wS 5) (rhoW s { w with profiles := .val (.list [p, q, r]) }) = obind (Fm [.list [p, q]]) fun m => obind (Fm [.list [m, r]]) fun d => some (rhoW s { w with profiles := .val (.list [p, q, r]), first := .val d }, .next) := by kernel_rfl
theorem w_6 (s p q r : D) (w : WS) (X) : stW Fs Fp Fd Fm Ff Fc LC FO X (wS 6) (rhoW s { w with profiles := .val (.list [p, q, r]) }) = obind (Fm [.list [q, r]]) fun m => obind (Fm [.list [p, m]]) fun d => some (rhoW s { w with profiles := .val (.list [p, q, r]), last := .val d }, .next) := by kernel_rfl
theorem w_7 (s du a b c : D) (w : WS) : stW Fs Fp Fd Fm Ff Fc LC FO (fun fz body ρ k => exK (tabW Fs Fp Fd Fm Ff Fc) LC FO false 12 now 7 fz scW body ρ k) (wS 7) (rhoW s { w with due := .val du, whole := .val a, first := .val b, last := .val c }) =
    obind (Ff [a]) fun f1 => obind (cmpD .NotEq f1 du) fun b1 => ocond b1 (retF (rhoW s { w with due := .val du, whole := .val a, first := .val b, last := .val c }) true)
      (obind (Ff [b]) fun f2 => obind (cmpD .NotEq f2 du) fun b2 => ocond b2 (retF (rhoW s { w with due := .val du, whole := .val a, first := .val b, last := .val c }) true)
        (obind (Ff [c]) fun f3 => obind (cmpD .NotEq f3 du) fun b3 => ocond b3 (retF (rhoW s { w with due := .val du, whole := .val a, first := .val b, last := .val c }) true) (retF (rhoW s { w with due := .val du, whole := .val a, first := .val b, last := .val c }) false))) := by kernel_rfl
theorem w_8 (s : D) (w : WS) : stW Fs Fp Fd Fm Ff Fc LC FO (fun fz body ρ k => exK (tabW Fs Fp Fd Fm Ff Fc) LC FO false 12 now 7 fz scW body ρ k) (wS 8) (rhoW s w) = obind (LC 11 scW (rhoW s w) (cmpL (ifT (wS 8)))) fun a => obind (LC 11 scW (rhoW s w) (cmpR (ifT (wS 8)))) fun b => obind (cmpD .NotEq a b) (retF (rhoW s w)) := by kernel_rfl
theorem w_9 (s : D) (w : WS) (X) : stW Fs Fp Fd Fm Ff Fc LC FO X (wS 9) (rhoW s w) = obind (LC 11 scW (freeze (rhoW s w)) (cmpL (retE (wS 9)))) fun a => obind (LC 11 scW (freeze (rhoW s w)) (cmpR (retE (wS 9)))) fun b => obind (cmpD .Eq a b) fun t => some (freeze (rhoW s w), .ret (.bool t)) := by kernel_rfl

/-- the numbers -/
noncomputable abbrev nuE : Expr := binL (asgV (wS 0))
theorem nu_e : nuE = .ListComp (lcElt nuE) [lcGen 0 nuE] (lcSc nuE) (lcPos nuE) := by kernel_rfl
theorem nu_c (s : D) (w : WS) : (scOk (lcSc nuE) && freeOk scW (lcSc nuE) && [lcGen 0 nuE].all genOk && unbT (compRho (lcSc nuE) (rhoW s w)) (lcGen 0 nuE).target) = true := by kernel_rfl
theorem nu_i (s : List D) (w : WS) : (evN (tabW Fs Fp Fd Fm Ff Fc) 10).it scW (rhoW (.list s) w) (isTup (lcGen 0 nuE).target) (lcGen 0 nuE).iter = obind (if decide (s.length ≤ 1000) = true then some (D.list (sliceL s none (some 7))) else none) listOf := by kernel_rfl
theorem nu_s (s : D) (w : WS) (v : Int) : stepC (tabW Fs Fp Fd Fm Ff Fc) LC 10 (lcSc nuE) (lcGen 0 nuE) (lcElt nuE) (compRho (lcSc nuE) (rhoW s w)) (.int v) = some [.int (v.fmod 4320)] := by kernel_rfl

/-- the names of the six -/
theorem fs_v (s : D) (w : WS) : (evN (tabW Ffss Fp Fd Fm Ff Fc) 11).v scW (rhoW s w) (cmpL (ifT (wS 1))) = some namesD := by kernel_rfl

/-- the counts -/
noncomputable abbrev ctE : Expr := cmpL (ifT (wS 8))
theorem ct_e : ctE = .ListComp (lcElt ctE) [lcGen 0 ctE] (lcSc ctE) (lcPos ctE) := by kernel_rfl
theorem ct_c (s : D) (w : WS) : (scOk (lcSc ctE) && freeOk scW (lcSc ctE) && [lcGen 0 ctE].all genOk && unbT (compRho (lcSc ctE) (rhoW s w)) (lcGen 0 ctE).target) = true := by kernel_rfl
theorem ct_i (s : D) (w : WS) (l : List D) : (evN (tabW Fs Fp Fd Fm Ff Fc) 10).it scW (rhoW s { w with whole := .val (.list l) }) (isTup (lcGen 0 ctE).target) (lcGen 0 ctE).iter = some l := by kernel_rfl
theorem ct_s (s : D) (w : WS) (r : Row) : stepC (tabW Fs Fp Fd Fm Ff Fc) LC 10 (lcSc ctE) (lcGen 0 ctE) (lcElt ctE) (compRho (lcSc ctE) (rhoW s w)) (rowD r) = obind (Fc [.dict r.2.kv]) fun x => some [x] := by kernel_rfl
noncomputable abbrev cuE : Expr := cmpR (ifT (wS 8))
noncomputable abbrev cuI : Expr := clArg (lcElt cuE)
theorem cu_e : cuE = .ListComp (lcElt cuE) [lcGen 0 cuE] (lcSc cuE) (lcPos cuE) := by kernel_rfl
theorem cu_c (s : D) (w : WS) : (scOk (lcSc cuE) && freeOk scW (lcSc cuE) && [lcGen 0 cuE].all genOk && unbT (compRho (lcSc cuE) (rhoW s w)) (lcGen 0 cuE).target) = true := by kernel_rfl
theorem cu_i (s : D) (w : WS) (l : List D) : (evN (tabW Fs Fp Fd Fm Ff Fc) 10).it scW (rhoW s { w with due := .val (.list l) }) (isTup (lcGen 0 cuE).target) (lcGen 0 cuE).iter = some l := by kernel_rfl
noncomputable def rhoCu (a b c : D) : Rho := [(Str.ofString ".0", .unb), (Str.ofString "name", .val a), (Str.ofString "sums", .val b), (Str.ofString "calls", .val c)]
theorem cu_s (s : D) (w : WS) (a b c : D) : stepC (tabW Fs Fp Fd Fm Ff Fc) LC 10 (lcSc cuE) (lcGen 0 cuE) (lcElt cuE) (compRho (lcSc cuE) (rhoW s w)) (.tuple [a, b, c]) = obind (LC 9 (lcSc cuE) (rhoCu a b c) cuI) fun d => obind (sumD d) fun x => some [x] := by kernel_rfl
theorem ci_e : cuI = .ListComp (lcElt cuI) [lcGen 0 cuI] (lcSc cuI) (lcPos cuI) := by kernel_rfl
theorem ci_c (a b c : D) : (scOk (lcSc cuI) && freeOk (lcSc cuE) (lcSc cuI) && [lcGen 0 cuI].all genOk && unbT (compRho (lcSc cuI) (rhoCu a b c)) (lcGen 0 cuI).target) = true := by kernel_rfl
theorem ci_i (a b : D) (c : List D) : (evN (tabW Fs Fp Fd Fm Ff Fc) 8).it (lcSc cuE) (rhoCu a b (.list c)) (isTup (lcGen 0 cuI).target) (lcGen 0 cuI).iter = some c := by kernel_rfl
theorem ci_s (a b c : D) (x : Str) (i : Int) : stepC (tabW Fs Fp Fd Fm Ff Fc) LC 8 (lcSc cuI) (lcGen 0 cuI) (lcElt cuI) (compRho (lcSc cuI) (rhoCu a b c)) (.tuple [.str x, .int i]) = some [.int i] := by kernel_rfl

/-- the profiles, flat -/
noncomputable abbrev paE : Expr := cmpL (retE (wS 9))
noncomputable abbrev pbE : Expr := cmpR (retE (wS 9))
theorem pa_e : paE = .ListComp (lcElt paE) [lcGen 0 paE] (lcSc paE) (lcPos paE) := by kernel_rfl
theorem pa_c (s : D) (w : WS) : (scOk (lcSc paE) && freeOk scW (lcSc paE) && [lcGen 0 paE].all genOk && unbT (compRho (lcSc paE) (freeze (rhoW s w))) (lcGen 0 paE).target) = true := by kernel_rfl
theorem pa_i (s : D) (w : WS) (l : List D) : (evN (tabW Fs Fp Fd Fm Ff Fc) 10).it scW (freeze (rhoW s { w with profiles := .val (.list l) })) (isTup (lcGen 0 paE).target) (lcGen 0 paE).iter = some l := by kernel_rfl
theorem pa_s (s : D) (w : WS) (p : D) : stepC (tabW Fs Fp Fd Fm Ff Fc) LC 10 (lcSc paE) (lcGen 0 paE) (lcElt paE) (compRho (lcSc paE) (freeze (rhoW s w))) p = obind (Ff [p]) fun x => some [x] := by kernel_rfl
theorem pb_e : pbE = .ListComp (lcElt pbE) [lcGen 0 pbE] (lcSc pbE) (lcPos pbE) := by kernel_rfl
theorem pb_c (s : D) (w : WS) : (scOk (lcSc pbE) && freeOk scW (lcSc pbE) && [lcGen 0 pbE].all genOk && unbT (compRho (lcSc pbE) (freeze (rhoW s w))) (lcGen 0 pbE).target) = true := by kernel_rfl
theorem pb_i (s : D) (w : WS) (ns : D) : (evN (tabW Fs Fp Fd Fm Ff Fc) 10).it scW (freeze (rhoW s { w with numbers := .val ns })) (isTup (lcGen 0 pbE).target) (lcGen 0 pbE).iter = obind (Fp [ns]) listOf := by kernel_rfl
theorem pb_s (s : D) (w : WS) (p : D) : stepC (tabW Fs Fp Fd Fm Ff Fc) LC 10 (lcSc pbE) (lcGen 0 pbE) (lcElt pbE) (compRho (lcSc pbE) (freeze (rhoW s w))) p = obind (Ff [p]) fun x => some [x] := by kernel_rfl
end
end Mine

namespace Mine
open PySem PySem.W PyProof.Rows

noncomputable abbrev Tw := tabW Ffss Fpr Fdu Fmg Ffl Fcc
noncomputable def numsOf (s : List Int) : List Int := (s.take 7).map (·.fmod 4320) ++ [127, 380, 104]
theorem nums_len (s : List Int) : (numsOf s).length ≤ 10 := by
  unfold numsOf
  rw [List.length_append, List.length_map, List.length_take]
  simp only [List.length_cons, List.length_nil]; omega

theorem nu_v (s : List Int) (hl : s.length ≤ 63) (w : WS) : (evN Tw 11).v scW (rhoW (numD s) w) nuE = some (.list ((s.take 7).map fun v => .int (v.fmod 4320))) := by
  have hs : sliceL (s.map D.int) none (some 7) = (s.take 7).map D.int := by
    unfold sliceL
    show ((s.map D.int).drop 0).take (min 7 (s.map D.int).length - 0) = _
    rw [List.drop_zero, Nat.sub_zero, List.length_map, ← List.map_take, List.take_eq_take_iff.mpr]
    omega
  have h := comp1 (T := Tw) (n := 10) nu_e (nu_c (numD s) w) (s.take 7) D.int (fun v => [.int (v.fmod 4320)]) ((nu_i _ _ _ _ _ _ (s.map .int) w).trans (by
    rw [if_pos (decide_eq_true (by rw [List.length_map]; exact ar221 hl)), hs]; rfl)) (fun v _ => stepC_ok (nu_s _ _ _ _ _ _ _ (numD s) w v)) (by rw [flatMap_single, List.length_map, List.length_take]; omega)
  rw [flatMap_single] at h
  exact h

theorem ct_v (sD : D) (w : WS) (l : List Row) (hl : l.length ≤ 1000) : (evN Tw 11).v scW (rhoW sD { w with whole := .val (pD l) }) ctE = some (.list ((l.map fun r => (r.2.kv.map (·.2)).sum).map .int)) := by
  have h := comp1 (T := Tw) (n := 10) ct_e (ct_c sD { w with whole := .val (pD l) }) l rowD (fun r => [.int (r.2.kv.map (·.2)).sum]) (ct_i _ _ _ _ _ _ sD w _) (fun r _ => stepC_ok ((ct_s _ _ _ _ _ _ _ sD _ r).trans (by rw [Fcc_eq]; rfl))) (by rw [flatMap_single, List.length_map]; exact hl)
  rw [flatMap_single] at h
  rw [h, List.map_map]; rfl
theorem ci_v (a b : D) (kv : List (Str × Int)) (hk : kv.length ≤ 1000) : (evN Tw 9).v (lcSc cuE) (rhoCu a b (.list (pairsD kv))) cuI = some (.list ((kv.map (·.2)).map .int)) := by
  have h := comp1 (T := Tw) (n := 8) ci_e (ci_c a b (.list (pairsD kv))) kv (fun p => D.tuple [.str p.1, .int p.2]) (fun p => [.int p.2]) (ci_i _ _ _ _ _ _ a b _) (fun p _ => stepC_ok (ci_s _ _ _ _ _ _ _ a b _ p.1 p.2)) (by rw [flatMap_single, List.length_map]; exact hk)
  rw [flatMap_single] at h
  rw [h, List.map_map]; rfl
theorem cu_v (sD : D) (w : WS) (l : List Row) (hl : l.length ≤ 1000) (hg : ∀ r ∈ l, GoodR r) : (evN Tw 11).v scW (rhoW sD { w with due := .val (.list (l.map flatRow)) }) cuE = some (.list ((l.map fun r => (r.2.kv.map (·.2)).sum).map .int)) := by
  have h := comp1 (T := Tw) (n := 10) cu_e (cu_c sD { w with due := .val (.list (l.map flatRow)) }) l flatRow (fun r => [.int (r.2.kv.map (·.2)).sum]) (cu_i _ _ _ _ _ _ sD w _) (fun r m => stepC_ok ((cu_s _ _ _ _ _ _ _ sD _ _ _ _).trans (by
    unfold LCs
    rw [ci_v _ _ r.2.kv (by have := (hg r m).2.len; exact ar213 this), obind_s, sum_ints]; rfl))) (by rw [flatMap_single, List.length_map]; exact hl)
  rw [flatMap_single] at h
  rw [h, List.map_map]; rfl
theorem pa_v (sD : D) (w : WS) (ps : List (List Row)) (hp : ps.length ≤ 1000) (hl : ∀ p ∈ ps, p.length ≤ 1000 ∧ ∀ r ∈ p, GoodR r) : (evN Tw 11).v scW (freeze (rhoW sD { w with profiles := .val (psD ps) })) paE = some (.list (ps.map fun p => .list (p.map flatRow))) := by
  have h := comp1 (T := Tw) (n := 10) pa_e (pa_c sD { w with profiles := .val (psD ps) }) ps pD (fun p => [.list (p.map flatRow)]) (pa_i _ _ _ _ _ _ sD w _) (fun p m => stepC_ok ((pa_s _ _ _ _ _ _ _ sD _ (pD p)).trans (by
    rw [show Ffl [pD p] = _ from Ffl_eq p (hl p m).1 fun r mr => by have := ((hl p m).2 r mr).2.len; exact ar213 this]; rfl))) (by rw [flatMap_single, List.length_map]; exact hp)
  rw [flatMap_single] at h
  exact h
theorem pb_v (sD : D) (w : WS) (ns : List Int) (hn : ns.length ≤ 20) : (evN Tw 11).v scW (freeze (rhoW sD { w with numbers := .val (numD ns) })) pbE = some (.list ([prof 0 ns, prof 1 ns, prof 2 ns].map fun p => .list (p.map flatRow))) := by
  have good : ∀ p ∈ [prof 0 ns, prof 1 ns, prof 2 ns], p.length ≤ 1000 ∧ ∀ r ∈ p, GoodR r := by
    intro p m
    simp only [List.mem_cons, List.not_mem_nil, or_false] at m
    rcases m with rfl | rfl | rfl
    · exact ⟨by have := prof_len 0 ns; exact ar220 hn this, prof_good 0 ns⟩
    · exact ⟨by have := prof_len 1 ns; exact ar220 hn this, prof_good 1 ns⟩
    · exact ⟨by have := prof_len 2 ns; exact ar220 hn this, prof_good 2 ns⟩
  have h := comp1 (T := Tw) (n := 10) pb_e (pb_c sD { w with numbers := .val (numD ns) }) [prof 0 ns, prof 1 ns, prof 2 ns] pD (fun p => [.list (p.map flatRow)]) ((pb_i _ _ _ _ _ _ sD w _).trans (by rw [Fpr_eq ns (by exact ar219 hn)]; rfl)) (fun p m => stepC_ok ((pb_s _ _ _ _ _ _ _ sD _ (pD p)).trans (by
    rw [show Ffl [pD p] = _ from Ffl_eq p (good p m).1 fun r mr => by have := ((good p m).2 r mr).2.len; exact ar213 this]; rfl))) (by simp)
  rw [flatMap_single] at h
  exact h

theorem ok_names : okEq 8 namesD = true := by decide +kernel

theorem law_run (s : List Int) (hl : s.length ≤ 63) : ∃ ρ, exN Tw (evN Tw 12) now 8 true scW (rhoW (numD s) ws0) (bdOf "law") = some (ρ, .ret (.bool true)) := by
  have hn := nums_len s
  generalize hns : numsOf s = ns at hn
  have g := fun i => prof_good i ns
  have l0 := prof_len 0 ns
  have l1 := prof_len 1 ns
  have l2 := prof_len 2 ns
  have ga := all_good ns
  have cg := canon_good ga
  have cl := canon_len (allP ns)
  -- the merges
  have m3 : Fmg [psD [prof 0 ns, prof 1 ns, prof 2 ns]] = some (pD (canon (allP ns))) := by
    have h := Fmg_eq [prof 0 ns, prof 1 ns, prof 2 ns] (by simp) (by simp only [List.flatten_cons, List.flatten_nil, List.length_append, List.length_nil]; exact ar218 hn l0 l1 l2) (fun p m => by
      simp only [List.mem_cons, List.not_mem_nil, or_false] at m
      rcases m with rfl | rfl | rfl
      · exact g 0
      · exact g 1
      · exact g 2) (fun p m => by
      simp only [List.mem_cons, List.not_mem_nil, or_false] at m
      rcases m with rfl | rfl | rfl <;> exact prof_srt _ _)
    rw [h]
    simp [allP]
  have two : ∀ A Bs : List Row, A.length ≤ 40 → Bs.length ≤ 40 → (∀ r ∈ A, GoodR r) → (∀ r ∈ Bs, GoodR r) → Srt A → Srt Bs → Fmg [.list [pD A, pD Bs]] = some (pD (canon (A ++ Bs))) := fun A Bs la lb gA gB sA sB => by
    have h := Fmg_eq [A, Bs] (by simp) (by simp only [List.flatten_cons, List.flatten_nil, List.length_append, List.length_nil]; exact ar217 la lb) (fun p m => by
      simp only [List.mem_cons, List.not_mem_nil, or_false] at m
      rcases m with rfl | rfl
      · exact gA
      · exact gB) (fun p m => by
      simp only [List.mem_cons, List.not_mem_nil, or_false] at m
      rcases m with rfl | rfl
      · exact sA
      · exact sB)
    refine Eq.trans h ?_
    simp
  have f1 := two (prof 0 ns) (prof 1 ns) (by exact ar216 hn l0) (by exact ar216 hn l1) (g 0) (g 1) (prof_srt _ _) (prof_srt _ _)
  have g01 : ∀ r ∈ prof 0 ns ++ prof 1 ns, GoodR r := fun r m => (List.mem_append.mp m).elim (g 0 r) (g 1 r)
  have c01 := canon_len (prof 0 ns ++ prof 1 ns)
  have f2 := two (canon (prof 0 ns ++ prof 1 ns)) (prof 2 ns) (by exact ar215 c01) (by exact ar216 hn l2) (canon_good g01) (g 2) (canon_srt _) (prof_srt _ _)
  rw [canon_left g01, show prof 0 ns ++ prof 1 ns ++ prof 2 ns = allP ns by simp [allP]] at f2
  have f3 := two (prof 1 ns) (prof 2 ns) (by exact ar216 hn l1) (by exact ar216 hn l2) (g 1) (g 2) (prof_srt _ _) (prof_srt _ _)
  have g12 : ∀ r ∈ prof 1 ns ++ prof 2 ns, GoodR r := fun r m => (List.mem_append.mp m).elim (g 1 r) (g 2 r)
  have c12 := canon_len (prof 1 ns ++ prof 2 ns)
  have f4 := two (prof 0 ns) (canon (prof 1 ns ++ prof 2 ns)) (by exact ar216 hn l0) (by exact ar215 c12) (g 0) (canon_good g12) (prof_srt _ _) (canon_srt _)
  rw [canon_right, show prof 0 ns ++ (prof 1 ns ++ prof 2 ns) = allP ns from rfl] at f4
  have fl : Ffl [pD (canon (allP ns))] = some (.list (due ns)) := by
    rw [show Ffl [pD (canon (allP ns))] = _ from Ffl_eq (canon (allP ns)) (by exact ar213 cl) fun r m => by have := (cg r m).2.len; exact ar213 this, flat_all]
  have okd : okEq 8 (.list (due ns)) = true := by rw [← flat_all]; exact ok_flats cg 4
  have ned := ne_refl okd
  -- the run
  let w1 : WS := { ws0 with numbers := .val (numD ns) }
  let w2 : WS := { w1 with profiles := .val (psD [prof 0 ns, prof 1 ns, prof 2 ns]) }
  let w3 : WS := { w2 with due := .val (.list (due ns)) }
  let w4 : WS := { w3 with whole := .val (pD (canon (allP ns))) }
  let w5 : WS := { w4 with first := .val (pD (canon (allP ns))) }
  let w6 : WS := { w5 with last := .val (pD (canon (allP ns))) }
  let X : KX (β := Rho × R) := fun fz body ρ k => exK Tw (LCs Tw) (FOs Tw 12 now) false 12 now 7 fz scW body ρ k
  have s0 : exS Tw (evN Tw 12) (exN Tw (evN Tw 12) now 7) true now scW (rhoW (numD s) ws0) (wS 0) = some (rhoW (numD s) w1, .next) := exS_of_K ((w_0 _ _ _ _ _ _ _ _ (numD s) X).trans (by
    unfold LCs
    rw [nu_v s hl, obind_s, add_lists _ _ (by rw [List.length_map, List.length_take]; simp only [List.length_cons, List.length_nil]; omega), obind_s]
    show some (rhoW (numD s) { ws0 with numbers := .val (.list (List.map (fun v => D.int (v.fmod 4320)) (s.take 7) ++ [.int 127, .int 380, .int 104])) }, R.next) = some (rhoW (numD s) { ws0 with numbers := .val (numD ns) }, R.next)
    rw [← hns]
    unfold numsOf numD
    rw [List.map_append, List.map_map]
    rfl))
  have s1 : exS Tw (evN Tw 12) (exN Tw (evN Tw 12) now 7) true now scW (rhoW (numD s) w1) (wS 1) = some (rhoW (numD s) w1, .next) := exS_of_K ((w_1 _ _ _ _ _ _ _ _ (numD s) w1).trans (by
    unfold LCs
    rw [fs_v, obind_s, ne_refl ok_names]; rfl))
  have s2 : exS Tw (evN Tw 12) (exN Tw (evN Tw 12) now 7) true now scW (rhoW (numD s) w1) (wS 2) = some (rhoW (numD s) w2, .next) := exS_of_K ((w_2 _ _ _ _ _ _ _ _ (numD s) (numD ns) ws0 X).trans (by
    rw [Fpr_eq ns (by exact ar214 hn)]; rfl))
  have s3 : exS Tw (evN Tw 12) (exN Tw (evN Tw 12) now 7) true now scW (rhoW (numD s) w2) (wS 3) = some (rhoW (numD s) w3, .next) := exS_of_K ((w_3 _ _ _ _ _ _ _ _ (numD s) (numD ns) w2 X).trans (by
    rw [Fdu_eq ns (by exact ar211 hn)]; rfl))
  have s4 : exS Tw (evN Tw 12) (exN Tw (evN Tw 12) now 7) true now scW (rhoW (numD s) w3) (wS 4) = some (rhoW (numD s) w4, .next) := exS_of_K ((w_4 _ _ _ _ _ _ _ _ (numD s) (psD [prof 0 ns, prof 1 ns, prof 2 ns]) w3 X).trans (by
    rw [m3]; rfl))
  have s5 : exS Tw (evN Tw 12) (exN Tw (evN Tw 12) now 7) true now scW (rhoW (numD s) w4) (wS 5) = some (rhoW (numD s) w5, .next) := exS_of_K ((w_5 _ _ _ _ _ _ _ _ (numD s) (pD (prof 0 ns)) (pD (prof 1 ns)) (pD (prof 2 ns)) w4 X).trans (by
    rw [f1, obind_s, f2]; rfl))
  have s6 : exS Tw (evN Tw 12) (exN Tw (evN Tw 12) now 7) true now scW (rhoW (numD s) w5) (wS 6) = some (rhoW (numD s) w6, .next) := exS_of_K ((w_6 _ _ _ _ _ _ _ _ (numD s) (pD (prof 0 ns)) (pD (prof 1 ns)) (pD (prof 2 ns)) w5 X).trans (by
    rw [f3, obind_s, f4]; rfl))
  have s7 : exS Tw (evN Tw 12) (exN Tw (evN Tw 12) now 7) true now scW (rhoW (numD s) w6) (wS 7) = some (rhoW (numD s) w6, .next) := exS_of_K ((w_7 _ _ _ _ _ _ _ _ (numD s) (.list (due ns)) (pD (canon (allP ns))) (pD (canon (allP ns))) (pD (canon (allP ns))) w6).trans (by
    rw [fl, obind_s, ned, obind_s, ocond_f, obind_s, ned, obind_s, ocond_f, obind_s, ned, obind_s, ocond_f]; rfl))
  have s8 : exS Tw (evN Tw 12) (exN Tw (evN Tw 12) now 7) true now scW (rhoW (numD s) w6) (wS 8) = some (rhoW (numD s) w6, .next) := exS_of_K ((w_8 _ _ _ _ _ _ _ _ (numD s) w6).trans (by
    have a1 := ct_v (numD s) w6 (canon (allP ns)) (by exact ar213 cl)
    have a2 := cu_v (numD s) w6 (canon (allP ns)) (by exact ar213 cl) cg
    rw [flat_all] at a2
    unfold LCs
    rw [show (evN Tw 11).v scW (rhoW (numD s) w6) (cmpL (ifT (wS 8))) = _ from a1, obind_s, show (evN Tw 11).v scW (rhoW (numD s) w6) (cmpR (ifT (wS 8))) = _ from a2, obind_s, ne_refl (ok_ints _ 7)]; rfl))
  have s9 : exS Tw (evN Tw 12) (exN Tw (evN Tw 12) now 7) true now scW (rhoW (numD s) w6) (wS 9) = some (freeze (rhoW (numD s) w6), .ret (.bool true)) := exS_of_K ((w_9 _ _ _ _ _ _ _ _ (numD s) w6 X).trans (by
    have good : ∀ p ∈ [prof 0 ns, prof 1 ns, prof 2 ns], p.length ≤ 1000 ∧ ∀ r ∈ p, GoodR r := by
      intro p m
      simp only [List.mem_cons, List.not_mem_nil, or_false] at m
      rcases m with rfl | rfl | rfl
      · exact ⟨by exact ar212 hn l0, g 0⟩
      · exact ⟨by exact ar212 hn l1, g 1⟩
      · exact ⟨by exact ar212 hn l2, g 2⟩
    have a1 := pa_v (numD s) w6 [prof 0 ns, prof 1 ns, prof 2 ns] (by simp) good
    have a2 := pb_v (numD s) w6 ns (by exact ar211 hn)
    have okp : okEq 8 (.list ([prof 0 ns, prof 1 ns, prof 2 ns].map fun p => .list (p.map flatRow))) = true := by
      simp only [okEq, List.all_eq_true]
      intro d m
      obtain ⟨p, hp, rfl⟩ := List.mem_map.mp m
      exact ok_flats (good p hp).2 3
    unfold LCs
    rw [show (evN Tw 11).v scW (freeze (rhoW (numD s) w6)) (cmpL (retE (wS 9))) = _ from a1, obind_s, show (evN Tw 11).v scW (freeze (rhoW (numD s) w6)) (cmpR (retE (wS 9))) = _ from a2, obind_s, eq_refl' okp]; rfl))
  refine ⟨freeze (rhoW (numD s) w6), ?_⟩
  rw [w_body]
  exact (exGo_next s0).trans ((exGo_next s1).trans ((exGo_next s2).trans ((exGo_next s3).trans ((exGo_next s4).trans ((exGo_next s5).trans ((exGo_next s6).trans ((exGo_next s7).trans ((exGo_next s8).trans (exGo_ret s9)))))))))
end Mine

namespace Mine
open PySem PySem.W PyProof.Rows PySem.Calls PySem.Spec

noncomputable def prmOf (f : String) : Arguments := ((Challenge.pw_mj0125_01.main.body.findSome? fun
  | .FunctionDef n a _ _ _ _ _ _ _ _ => if n == Str.ofString f then some a else none
  | _ => none)).getD ⟨[], [], none, [], [], none, []⟩
/-- the text without its three bindings of a name -/
noncomputable def qv : Program := view Challenge.pw_mj0125_01 [1, 2, 3, 4, 6, 7, 8, 9, 10, 12, 13, 14, 15, 16, 17, 18]
noncomputable def recAt (f : String) : Option DefRec := (recsOf qv).find? fun d => d.name == Str.ofString f
noncomputable def isRec (f : String) : Prop := (recAt f).map (fun d => (d.name, d.params, d.body, d.scope)) = some (Str.ofString f, prmOf f, bdOf f, scOf f)

section
variable {h : Heap} {c P : Addr} {loose : List Str} {mean : ExcName → Option Value} {mg mb : Str → Option Value}
noncomputable abbrev gh (h : Heap) (c P : Addr) : Heap := ghostOf h [(c, P)]
theorem codeRec_gh (hT : TabsAt [(c, P)] h) {cd : Value} {q : Str} (x : h.CodeRec cd q) : (gh h c P).CodeRec cd q := by
  obtain ⟨b, o, vs, t, e, g, hd, hv⟩ := x
  refine ⟨b, o, vs, t, e, ghost_get hT g fun q => ?_, hd, hv⟩
  rw [q] at hd
  injection hd with hd
  rw [← hd] at hv
  nomatch hv
theorem fn_at {f : String} {lc : Option Addr} (T : Top qv loose mean mg mb h) (hT : TabsAt [(c, P)] h) (hr : isRec f) (hd : (Str.ofString f == ("__debug__" : Str)) = false)
    (hl : ∀ c, lc = some c → Str.ofString f ++ ".<locals>." = lamEnvQual ∧ ∀ a o fd, mg (Str.ofString f) = some (.ref a) → h.get? a = some o → o.data = .func fd → fd.code = .ref c)
    (hb' : ∀ (pm cd doc : Value) (vs : List Value), vs.length = (psOf f).length → bindArgs (docDef (Str.ofString f) (prmOf f) (bdOf f) (scOf f) pm cd doc) ⟨vs, []⟩ = pure ((psOf f).zip vs)) :
    FnAt (gh h c P) mg (Str.ofString f) (psOf f) (scOf f) (bdOf f) lc := by
  obtain ⟨d, hf, he⟩ := Option.map_eq_some_iff.mp hr
  obtain ⟨a, o, pm, cd, doc, h1, h2, h3, h4⟩ := T.fn d (List.mem_of_find?_eq_some hf)
  have e1 : d.name = Str.ofString f := congrArg (·.1) he
  have e2 : d.params = prmOf f := congrArg (·.2.1) he
  have e3 : d.body = bdOf f := congrArg (·.2.2.1) he
  have e4 : d.scope = scOf f := congrArg (·.2.2.2) he
  rw [e1] at h1 h3 h4
  rw [e2, e3, e4] at h3
  exact ⟨a, o, _, h1, hd, ghost_get hT h2 (fun q => by rw [q] at h3; nomatch h3), h3, codeRec_gh hT h4, rfl, rfl, rfl, rfl, rfl, fun c e => ⟨(hl c e).2 a o _ h1 h2 h3, (hl c e).1⟩, fun vs hv => hb' pm cd doc vs hv⟩
theorem tab_at {f : String} (T : Top qv loose mean mg mb h) (hr : isRec f) : ∃ c P, TabsAt [(c, P)] h ∧ ∀ a o fd, mg (Str.ofString f) = some (.ref a) → h.get? a = some o → o.data = .func fd → fd.code = .ref c := by
  obtain ⟨d, hf, he⟩ := Option.map_eq_some_iff.mp hr
  obtain ⟨a, o, fd, c, P, h1, h2, h3, h4, h5, h6⟩ := T.tab d (List.mem_of_find?_eq_some hf)
  have e1 : d.name = Str.ofString f := congrArg (·.1) he
  refine ⟨c, P, List.forall_mem_cons.mpr ⟨⟨CodeHd.of h5 h6, h6.2⟩, fun _ q => nomatch q⟩, fun a' o' fd' q1 q2 q3 => ?_⟩
  rw [e1, q1] at h1
  cases h1
  rw [h2] at q2
  cases q2
  rw [h3] at q3
  cases q3
  exact h4
end

theorem len1 {α : Type} {l : List α} (h : l.length = 1) : ∃ a, l = [a] := List.length_eq_one_iff.mp h
theorem len2 {α : Type} {l : List α} (h : l.length = 2) : ∃ a b, l = [a, b] := by
  match l, h with
  | [a, b], _ => exact ⟨a, b, rfl⟩
theorem len3 {α : Type} {l : List α} (h : l.length = 3) : ∃ a b c, l = [a, b, c] := by
  match l, h with
  | [a, b, c], _ => exact ⟨a, b, c, rfl⟩
theorem bind_func_std_string (pm cd doc : Value) (vs : List Value) (h : vs.length = (psOf "func_std_string").length) : bindArgs (docDef (Str.ofString "func_std_string") (prmOf "func_std_string") (bdOf "func_std_string") (scOf "func_std_string") pm cd doc) ⟨vs, []⟩ = pure ((psOf "func_std_string").zip vs) := by
  rw [show (psOf "func_std_string").length = 1 by kernel_rfl] at h
  obtain ⟨a, e⟩ := len1 h
  rw [e]
  kernel_rfl
theorem dbg_func_std_string : (Str.ofString "func_std_string" == ("__debug__" : Str)) = false := by decide +kernel
theorem chk_func_std_string : scChk (scOf "func_std_string") (psOf "func_std_string") = true := by kernel_rfl
theorem bind_add_func_stats (pm cd doc : Value) (vs : List Value) (h : vs.length = (psOf "add_func_stats").length) : bindArgs (docDef (Str.ofString "add_func_stats") (prmOf "add_func_stats") (bdOf "add_func_stats") (scOf "add_func_stats") pm cd doc) ⟨vs, []⟩ = pure ((psOf "add_func_stats").zip vs) := by
  rw [show (psOf "add_func_stats").length = 2 by kernel_rfl] at h
  obtain ⟨a, b, e⟩ := len2 h
  rw [e]
  kernel_rfl
theorem dbg_add_func_stats : (Str.ofString "add_func_stats" == ("__debug__" : Str)) = false := by decide +kernel
theorem chk_add_func_stats : scChk (scOf "add_func_stats") (psOf "add_func_stats") = true := by kernel_rfl
theorem bind_add_callers (pm cd doc : Value) (vs : List Value) (h : vs.length = (psOf "add_callers").length) : bindArgs (docDef (Str.ofString "add_callers") (prmOf "add_callers") (bdOf "add_callers") (scOf "add_callers") pm cd doc) ⟨vs, []⟩ = pure ((psOf "add_callers").zip vs) := by
  rw [show (psOf "add_callers").length = 2 by kernel_rfl] at h
  obtain ⟨a, b, e⟩ := len2 h
  rw [e]
  kernel_rfl
theorem dbg_add_callers : (Str.ofString "add_callers" == ("__debug__" : Str)) = false := by decide +kernel
theorem chk_add_callers : scChk (scOf "add_callers") (psOf "add_callers") = true := by kernel_rfl
theorem bind_count_calls (pm cd doc : Value) (vs : List Value) (h : vs.length = (psOf "count_calls").length) : bindArgs (docDef (Str.ofString "count_calls") (prmOf "count_calls") (bdOf "count_calls") (scOf "count_calls") pm cd doc) ⟨vs, []⟩ = pure ((psOf "count_calls").zip vs) := by
  rw [show (psOf "count_calls").length = 1 by kernel_rfl] at h
  obtain ⟨a, e⟩ := len1 h
  rw [e]
  kernel_rfl
theorem dbg_count_calls : (Str.ofString "count_calls" == ("__debug__" : Str)) = false := by decide +kernel
theorem chk_count_calls : scChk (scOf "count_calls") (psOf "count_calls") = true := by kernel_rfl
theorem bind_heappop (pm cd doc : Value) (vs : List Value) (h : vs.length = (psOf "heappop").length) : bindArgs (docDef (Str.ofString "heappop") (prmOf "heappop") (bdOf "heappop") (scOf "heappop") pm cd doc) ⟨vs, []⟩ = pure ((psOf "heappop").zip vs) := by
  rw [show (psOf "heappop").length = 1 by kernel_rfl] at h
  obtain ⟨a, e⟩ := len1 h
  rw [e]
  kernel_rfl
theorem dbg_heappop : (Str.ofString "heappop" == ("__debug__" : Str)) = false := by decide +kernel
theorem chk_heappop : scChk (scOf "heappop") (psOf "heappop") = true := by kernel_rfl
theorem bind_heapreplace (pm cd doc : Value) (vs : List Value) (h : vs.length = (psOf "heapreplace").length) : bindArgs (docDef (Str.ofString "heapreplace") (prmOf "heapreplace") (bdOf "heapreplace") (scOf "heapreplace") pm cd doc) ⟨vs, []⟩ = pure ((psOf "heapreplace").zip vs) := by
  rw [show (psOf "heapreplace").length = 2 by kernel_rfl] at h
  obtain ⟨a, b, e⟩ := len2 h
  rw [e]
  kernel_rfl
theorem dbg_heapreplace : (Str.ofString "heapreplace" == ("__debug__" : Str)) = false := by decide +kernel
theorem chk_heapreplace : scChk (scOf "heapreplace") (psOf "heapreplace") = true := by kernel_rfl
theorem bind_heapify (pm cd doc : Value) (vs : List Value) (h : vs.length = (psOf "heapify").length) : bindArgs (docDef (Str.ofString "heapify") (prmOf "heapify") (bdOf "heapify") (scOf "heapify") pm cd doc) ⟨vs, []⟩ = pure ((psOf "heapify").zip vs) := by
  rw [show (psOf "heapify").length = 1 by kernel_rfl] at h
  obtain ⟨a, e⟩ := len1 h
  rw [e]
  kernel_rfl
theorem dbg_heapify : (Str.ofString "heapify" == ("__debug__" : Str)) = false := by decide +kernel
theorem chk_heapify : scChk (scOf "heapify") (psOf "heapify") = true := by kernel_rfl
theorem bind_siftdown (pm cd doc : Value) (vs : List Value) (h : vs.length = (psOf "_siftdown").length) : bindArgs (docDef (Str.ofString "_siftdown") (prmOf "_siftdown") (bdOf "_siftdown") (scOf "_siftdown") pm cd doc) ⟨vs, []⟩ = pure ((psOf "_siftdown").zip vs) := by
  rw [show (psOf "_siftdown").length = 3 by kernel_rfl] at h
  obtain ⟨a, b, c, e⟩ := len3 h
  rw [e]
  kernel_rfl
theorem dbg_siftdown : (Str.ofString "_siftdown" == ("__debug__" : Str)) = false := by decide +kernel
theorem chk_siftdown : scChk (scOf "_siftdown") (psOf "_siftdown") = true := by kernel_rfl
theorem bind_siftup (pm cd doc : Value) (vs : List Value) (h : vs.length = (psOf "_siftup").length) : bindArgs (docDef (Str.ofString "_siftup") (prmOf "_siftup") (bdOf "_siftup") (scOf "_siftup") pm cd doc) ⟨vs, []⟩ = pure ((psOf "_siftup").zip vs) := by
  rw [show (psOf "_siftup").length = 2 by kernel_rfl] at h
  obtain ⟨a, b, e⟩ := len2 h
  rw [e]
  kernel_rfl
theorem dbg_siftup : (Str.ofString "_siftup" == ("__debug__" : Str)) = false := by decide +kernel
theorem chk_siftup : scChk (scOf "_siftup") (psOf "_siftup") = true := by kernel_rfl
theorem bind_law_functions (pm cd doc : Value) (vs : List Value) (h : vs.length = (psOf "_law_functions").length) : bindArgs (docDef (Str.ofString "_law_functions") (prmOf "_law_functions") (bdOf "_law_functions") (scOf "_law_functions") pm cd doc) ⟨vs, []⟩ = pure ((psOf "_law_functions").zip vs) := by
  rw [show (psOf "_law_functions").length = 0 by kernel_rfl] at h
  rw [List.length_eq_zero_iff.mp h]
  kernel_rfl
theorem dbg_law_functions : (Str.ofString "_law_functions" == ("__debug__" : Str)) = false := by decide +kernel
theorem chk_law_functions : scChk (scOf "_law_functions") (psOf "_law_functions") = true := by kernel_rfl
theorem bind_law_piece (pm cd doc : Value) (vs : List Value) (h : vs.length = (psOf "_law_piece").length) : bindArgs (docDef (Str.ofString "_law_piece") (prmOf "_law_piece") (bdOf "_law_piece") (scOf "_law_piece") pm cd doc) ⟨vs, []⟩ = pure ((psOf "_law_piece").zip vs) := by
  rw [show (psOf "_law_piece").length = 1 by kernel_rfl] at h
  obtain ⟨a, e⟩ := len1 h
  rw [e]
  kernel_rfl
theorem dbg_law_piece : (Str.ofString "_law_piece" == ("__debug__" : Str)) = false := by decide +kernel
theorem chk_law_piece : scChk (scOf "_law_piece") (psOf "_law_piece") = true := by kernel_rfl
theorem bind_law_profiles (pm cd doc : Value) (vs : List Value) (h : vs.length = (psOf "_law_profiles").length) : bindArgs (docDef (Str.ofString "_law_profiles") (prmOf "_law_profiles") (bdOf "_law_profiles") (scOf "_law_profiles") pm cd doc) ⟨vs, []⟩ = pure ((psOf "_law_profiles").zip vs) := by
  rw [show (psOf "_law_profiles").length = 1 by kernel_rfl] at h
  obtain ⟨a, e⟩ := len1 h
  rw [e]
  kernel_rfl
theorem dbg_law_profiles : (Str.ofString "_law_profiles" == ("__debug__" : Str)) = false := by decide +kernel
theorem chk_law_profiles : scChk (scOf "_law_profiles") (psOf "_law_profiles") = true := by kernel_rfl
theorem bind_law_merged (pm cd doc : Value) (vs : List Value) (h : vs.length = (psOf "_law_merged").length) : bindArgs (docDef (Str.ofString "_law_merged") (prmOf "_law_merged") (bdOf "_law_merged") (scOf "_law_merged") pm cd doc) ⟨vs, []⟩ = pure ((psOf "_law_merged").zip vs) := by
  rw [show (psOf "_law_merged").length = 1 by kernel_rfl] at h
  obtain ⟨a, e⟩ := len1 h
  rw [e]
  kernel_rfl
theorem dbg_law_merged : (Str.ofString "_law_merged" == ("__debug__" : Str)) = false := by decide +kernel
theorem chk_law_merged : scChk (scOf "_law_merged") (psOf "_law_merged") = true := by kernel_rfl
theorem bind_law_flat (pm cd doc : Value) (vs : List Value) (h : vs.length = (psOf "_law_flat").length) : bindArgs (docDef (Str.ofString "_law_flat") (prmOf "_law_flat") (bdOf "_law_flat") (scOf "_law_flat") pm cd doc) ⟨vs, []⟩ = pure ((psOf "_law_flat").zip vs) := by
  rw [show (psOf "_law_flat").length = 1 by kernel_rfl] at h
  obtain ⟨a, e⟩ := len1 h
  rw [e]
  kernel_rfl
theorem dbg_law_flat : (Str.ofString "_law_flat" == ("__debug__" : Str)) = false := by decide +kernel
theorem chk_law_flat : scChk (scOf "_law_flat") (psOf "_law_flat") = true := by kernel_rfl
theorem bind_law_due (pm cd doc : Value) (vs : List Value) (h : vs.length = (psOf "_law_due").length) : bindArgs (docDef (Str.ofString "_law_due") (prmOf "_law_due") (bdOf "_law_due") (scOf "_law_due") pm cd doc) ⟨vs, []⟩ = pure ((psOf "_law_due").zip vs) := by
  rw [show (psOf "_law_due").length = 1 by kernel_rfl] at h
  obtain ⟨a, e⟩ := len1 h
  rw [e]
  kernel_rfl
theorem dbg_law_due : (Str.ofString "_law_due" == ("__debug__" : Str)) = false := by decide +kernel
theorem chk_law_due : scChk (scOf "_law_due") (psOf "_law_due") = true := by kernel_rfl
theorem hdp_heappop : psOf "heappop" = (psOf "heappop").headD default :: (psOf "heappop").tail := by kernel_rfl
theorem hdp_heapreplace : psOf "heapreplace" = (psOf "heapreplace").headD default :: (psOf "heapreplace").tail := by kernel_rfl
theorem hdp_heapify : psOf "heapify" = (psOf "heapify").headD default :: (psOf "heapify").tail := by kernel_rfl
theorem hdp_siftdown : psOf "_siftdown" = (psOf "_siftdown").headD default :: (psOf "_siftdown").tail := by kernel_rfl
theorem hdp_siftup : psOf "_siftup" = (psOf "_siftup").headD default :: (psOf "_siftup").tail := by kernel_rfl

theorem rec_func_std_string : isRec "func_std_string" := by unfold isRec; kernel_rfl
theorem rec_add_func_stats : isRec "add_func_stats" := by unfold isRec; kernel_rfl
theorem rec_add_callers : isRec "add_callers" := by unfold isRec; kernel_rfl
theorem rec_count_calls : isRec "count_calls" := by unfold isRec; kernel_rfl
theorem rec_heappop : isRec "heappop" := by unfold isRec; kernel_rfl
theorem rec_heapreplace : isRec "heapreplace" := by unfold isRec; kernel_rfl
theorem rec_heapify : isRec "heapify" := by unfold isRec; kernel_rfl
theorem rec_siftdown : isRec "_siftdown" := by unfold isRec; kernel_rfl
theorem rec_siftup : isRec "_siftup" := by unfold isRec; kernel_rfl
theorem rec_law_functions : isRec "_law_functions" := by unfold isRec; kernel_rfl
theorem rec_law_piece : isRec "_law_piece" := by unfold isRec; kernel_rfl
theorem rec_law_profiles : isRec "_law_profiles" := by unfold isRec; kernel_rfl
theorem rec_law_merged : isRec "_law_merged" := by unfold isRec; kernel_rfl
theorem rec_law_flat : isRec "_law_flat" := by unfold isRec; kernel_rfl
theorem rec_law_due : isRec "_law_due" := by unfold isRec; kernel_rfl
theorem rec_law : isRec "law" := by unfold isRec; kernel_rfl
theorem lam_q : Str.ofString "_law_profiles" ++ ".<locals>." = lamEnvQual := by decide +kernel

section
variable {prog : Program} {w : World} {h : Heap} {loose : List Str} {mean : ExcName → Option Value} {mg mb : Str → Option Value} {c P : Addr}

structure Bs (loose : List Str) (mean : ExcName → Option Value) (mg mb : Str → Option Value) (h : Heap) (c P : Addr) : Prop where
  T : Top qv loose mean mg mb h
  t : TabsAt [(c, P)] h
  G : Glo (gh h c P) mg mb c P
  code : ∀ a o fd, mg (Str.ofString "_law_profiles") = some (.ref a) → h.get? a = some o → o.data = .func fd → fd.code = .ref c
theorem Bs.at {f : String} (B : Bs loose mean mg mb h c P) (hr : isRec f) (hd : (Str.ofString f == ("__debug__" : Str)) = false)
    (hb' : ∀ (pm cd doc : Value) (vs : List Value), vs.length = (psOf f).length → bindArgs (docDef (Str.ofString f) (prmOf f) (bdOf f) (scOf f) pm cd doc) ⟨vs, []⟩ = pure ((psOf f).zip vs)) : FnAt (gh h c P) mg (Str.ofString f) (psOf f) (scOf f) (bdOf f) none :=
  fn_at B.T B.t hr hd (fun c e => nomatch e) hb'

theorem tab0_p {k : Nat} : ∀ f F, tab0.pure f = some F → FnOk prog w (gh h c P) mg P k f F := fun f F e => nomatch e
theorem tab0_m {k : Nat} : ∀ f F, tab0.mt f = some F → MtOk prog w (gh h c P) mg P k f F := fun f F e => nomatch e
theorem tab1_p {k : Nat} {g : String} {F : List D → Option D} (hF : FnOk prog w (gh h c P) mg P k (Str.ofString g) F) : ∀ f F', (tab1 g F).pure f = some F' → FnOk prog w (gh h c P) mg P k f F' := fun f F' e => by
  unfold tab1 at e
  dsimp only at e
  split at e
  · rename_i q; cases e; rw [beq_iff_eq.mp q]; exact hF
  · cases e
theorem tabM_m {k : Nat} {g : String} {F : FMt} (hF : MtOk prog w (gh h c P) mg P k (Str.ofString g) F) : ∀ f F', (tabM g F).mt f = some F' → MtOk prog w (gh h c P) mg P k f F' := fun f F' e => by
  unfold tabM at e
  dsimp only at e
  split at e
  · rename_i q; cases e; rw [beq_iff_eq.mp q]; exact hF
  · cases e

theorem ok_fss (B : Bs loose mean mg mb h c P) : FnOk prog w (gh h c P) mg P 1 (Str.ofString "func_std_string") Ffss :=
  fn_sound (T := tab0) (k := 0) B.G (B.at rec_func_std_string dbg_func_std_string bind_func_std_string) chk_func_std_string tab0_p tab0_m (fun e => nomatch e)
theorem ok_lf (B : Bs loose mean mg mb h c P) : FnOk prog w (gh h c P) mg P 1 (Str.ofString "_law_functions") Flf :=
  (fn_sound (T := tab0) (ow := now) (k := 0) B.G (B.at rec_law_functions dbg_law_functions bind_law_functions) chk_law_functions tab0_p tab0_m (fun e => nomatch e)).mono fun ds d e => by
    unfold Flf at e
    split at e
    · cases e; exact Flf_run
    · cases e
theorem ok_ac (B : Bs loose mean mg mb h c P) : FnOk prog w (gh h c P) mg P 1 (Str.ofString "add_callers") Fac :=
  fn_sound (T := tab0) (k := 0) B.G (B.at rec_add_callers dbg_add_callers bind_add_callers) chk_add_callers tab0_p tab0_m (fun e => nomatch e)
theorem ok_fst' (B : Bs loose mean mg mb h c P) : FnOk prog w (gh h c P) mg P 2 (Str.ofString "add_func_stats") Ffst :=
  fn_sound (T := Tfs) (k := 1) B.G (B.at rec_add_func_stats dbg_add_func_stats bind_add_func_stats) chk_add_func_stats (tab1_p (ok_ac B)) (fun f F e => nomatch e) (fun e => nomatch e)
theorem ok_cc (B : Bs loose mean mg mb h c P) : FnOk prog w (gh h c P) mg P 1 (Str.ofString "count_calls") Fcc :=
  fn_sound (T := tab0) (k := 0) B.G (B.at rec_count_calls dbg_count_calls bind_count_calls) chk_count_calls tab0_p tab0_m (fun e => nomatch e)
theorem ok_flat' (B : Bs loose mean mg mb h c P) : FnOk prog w (gh h c P) mg P 1 (Str.ofString "_law_flat") Ffl :=
  fn_sound (T := tab0) (k := 0) B.G (B.at rec_law_flat dbg_law_flat bind_law_flat) chk_law_flat tab0_p tab0_m (fun e => nomatch e)
theorem ok_sdn (B : Bs loose mean mg mb h c P) : MtOk prog w (gh h c P) mg P 1 (Str.ofString "_siftdown") Fsd :=
  mt_sound (T := tab0) (k := 0) B.G (hdp_siftdown ▸ B.at rec_siftdown dbg_siftdown bind_siftdown) (hdp_siftdown ▸ chk_siftdown) tab0_p tab0_m (fun e => nomatch e)
theorem ok_sup (B : Bs loose mean mg mb h c P) : MtOk prog w (gh h c P) mg P 2 (Str.ofString "_siftup") Fsu :=
  mt_sound (T := tabM "_siftdown" Fsd) (k := 1) B.G (hdp_siftup ▸ B.at rec_siftup dbg_siftup bind_siftup) (hdp_siftup ▸ chk_siftup) (fun f F e => nomatch e) (tabM_m (ok_sdn B)) (fun e => nomatch e)
theorem ok_hpop (B : Bs loose mean mg mb h c P) : MtOk prog w (gh h c P) mg P 3 (Str.ofString "heappop") Fpop :=
  mt_sound (T := tabM "_siftup" Fsu) (k := 2) B.G (hdp_heappop ▸ B.at rec_heappop dbg_heappop bind_heappop) (hdp_heappop ▸ chk_heappop) (fun f F e => nomatch e) (tabM_m (ok_sup B)) (fun e => nomatch e)
theorem ok_hrep (B : Bs loose mean mg mb h c P) : MtOk prog w (gh h c P) mg P 3 (Str.ofString "heapreplace") Frep :=
  mt_sound (T := tabM "_siftup" Fsu) (k := 2) B.G (hdp_heapreplace ▸ B.at rec_heapreplace dbg_heapreplace bind_heapreplace) (hdp_heapreplace ▸ chk_heapreplace) (fun f F e => nomatch e) (tabM_m (ok_sup B)) (fun e => nomatch e)
theorem ok_hify (B : Bs loose mean mg mb h c P) : MtOk prog w (gh h c P) mg P 3 (Str.ofString "heapify") Fify :=
  mt_sound (T := tabM "_siftup" Fsu) (k := 2) B.G (hdp_heapify ▸ B.at rec_heapify dbg_heapify bind_heapify) (hdp_heapify ▸ chk_heapify) (fun f F e => nomatch e) (tabM_m (ok_sup B)) (fun e => nomatch e)
theorem ok_piece (B : Bs loose mean mg mb h c P) : FnOk prog w (gh h c P) mg P 2 (Str.ofString "_law_piece") Fpc :=
  fn_sound (T := tabP Ffss) (k := 1) B.G (B.at rec_law_piece dbg_law_piece bind_law_piece) chk_law_piece (fun f F e => by
    unfold tabP at e
    dsimp only at e
    split at e
    · rename_i q; cases e; rw [beq_iff_eq.mp q]; exact ok_lf B
    · split at e
      · rename_i q; cases e; rw [beq_iff_eq.mp q]; exact ok_fss B
      · cases e) (fun f F e => nomatch e) (fun e => nomatch e)
theorem ok_profs (B : Bs loose mean mg mb h c P) : FnOk prog w (gh h c P) mg P 3 (Str.ofString "_law_profiles") Fpr :=
  fn_sound (T := tabL Fpc) (lc := some c) (k := 2) B.G (fn_at B.T B.t rec_law_profiles dbg_law_profiles (fun c' e => by cases e; exact ⟨lam_q, B.code⟩) bind_law_profiles) chk_law_profiles (fun f F e => by
    unfold tabL at e
    dsimp only at e
    split at e
    · rename_i q; cases e; rw [beq_iff_eq.mp q]; exact ok_piece B
    · cases e) (fun f F e => nomatch e) (fun _ => rfl)
theorem ok_due (B : Bs loose mean mg mb h c P) : FnOk prog w (gh h c P) mg P 3 (Str.ofString "_law_due") Fdu :=
  fn_sound (T := Td) (k := 2) B.G (B.at rec_law_due dbg_law_due bind_law_due) chk_law_due (tab1_p (ok_piece B)) (fun f F e => nomatch e) (fun e => nomatch e)
theorem ok_merged (B : Bs loose mean mg mb h c P) : FnOk prog w (gh h c P) mg P 4 (Str.ofString "_law_merged") Fmg :=
  fn_sound (T := Tmg) (k := 3) B.G (B.at rec_law_merged dbg_law_merged bind_law_merged) chk_law_merged (fun f F e => by
    unfold Tmg tabG at e
    dsimp only at e
    split at e
    · rename_i q; cases e; rw [beq_iff_eq.mp q]; exact (ok_fst' B).up
    · cases e) (fun f F e => by
    unfold Tmg tabG at e
    dsimp only at e
    split at e
    · rename_i q; cases e; rw [beq_iff_eq.mp q]; exact ok_hify B
    · split at e
      · rename_i q; cases e; rw [beq_iff_eq.mp q]; exact ok_hrep B
      · split at e
        · rename_i q; cases e; rw [beq_iff_eq.mp q]; exact ok_hpop B
        · cases e) (fun e => nomatch e)
theorem ok_tabW (B : Bs loose mean mg mb h c P) : ∀ f F, Tw.pure f = some F → FnOk prog w (gh h c P) mg P 4 f F := fun f F e => by
  unfold Tw tabW at e
  dsimp only at e
  split at e
  · rename_i q; cases e; rw [beq_iff_eq.mp q]; exact (ok_lf B).up.up.up
  · split at e
    · rename_i q; cases e; rw [beq_iff_eq.mp q]; exact (ok_fss B).up.up.up
    · split at e
      · rename_i q; cases e; rw [beq_iff_eq.mp q]; exact (ok_profs B).up
      · split at e
        · rename_i q; cases e; rw [beq_iff_eq.mp q]; exact (ok_due B).up
        · split at e
          · rename_i q; cases e; rw [beq_iff_eq.mp q]; exact ok_merged B
          · split at e
            · rename_i q; cases e; rw [beq_iff_eq.mp q]; exact (ok_flat' B).up.up.up
            · split at e
              · rename_i q; cases e; rw [beq_iff_eq.mp q]; exact (ok_cc B).up.up.up
              · cases e
end
end Mine

namespace Mine
open PySem PySem.W PyProof.Rows PySem.Calls PySem.Spec

theorem reps_ints {prog : Program} {w : World} {P : Params} {h : Heap} {z : Z} : ∀ {l : List Int} {vs : List Value} {ds : List WData}, ds = ofPys (l.map PyData.int) → WellAll P h vs ds → Reps prog w z vs (l.map .int)
  | [], vs, ds, e, r => by
    subst e
    cases r
    exact .nil
  | i :: l, vs, ds, e, r => by
    subst e
    cases r with
    | cons h1 h2 =>
      cases h1 with
      | int _ t => exact .cons (.int i t) (reps_ints rfl h2)
theorem well_list {prog : Program} {w : World} {P : Params} {h : Heap} {z : Z} {a : Addr} {l : List Int} {d : WData} (e : d = ofPy (.list (l.map PyData.int))) (r : Well P h (.ref a) d) : ∃ vs n, h.get? a = some (lob vs n) ∧ Reps prog w z vs (l.map .int) := by
  have e' : d = .list (ofPys (l.map PyData.int)) := e
  cases r with
  | @list _ vs xs h1 h2 =>
    injection e' with e'
    exact ⟨vs, _, h1, reps_ints e' h2⟩
  | _ => cases e'

theorem chk_law : scChk (scOf "law") (psOf "law") = true := by kernel_rfl
theorem dbg_law : (Str.ofString "law" == ("__debug__" : Str)) = false := by decide +kernel
theorem ps_law : (psOf "law").length = 1 := by kernel_rfl
theorem bind_law (pm cd doc : Value) (vs : List Value) (h : vs.length = (psOf "law").length) : bindArgs (docDef (Str.ofString "law") (prmOf "law") (bdOf "law") (scOf "law") pm cd doc) ⟨vs, []⟩ = pure ((psOf "law").zip vs) := by
  rw [ps_law] at h
  obtain ⟨a, e⟩ := len1 h
  rw [e]
  kernel_rfl
theorem runP_ret {T : Tabs} {ow : Str → Bool} {ps : List Str} {sc : Scope} {body : List Stmt} {args : List D} {ρ ρ' : Rho} {d : D} (hl : args.length = ps.length) (he : rho0 sc (ps.zip (args.map .val)) = ρ)
    (h : exN T (evN T 12) ow 8 true sc ρ body = some (ρ', .ret d)) : runP T ow ps sc body args = some d := by
  unfold runP
  rw [if_pos hl, he, h]
theorem law_true (xs : List Int) (hl : xs.length ≤ 63) : runP Tw now (psOf "law") (scOf "law") (bdOf "law") [numD xs] = some (.bool true) :=
  let ⟨_, hrun⟩ := law_run xs hl
  runP_ret ps_law.symm (w_start _) hrun

section
variable {prog : Program} {w : World} {h : Heap} {loose : List Str} {mean : ExcName → Option Value} {mg mb : Str → Option Value} {c P : Addr}
theorem ok_law (B : Bs loose mean mg mb h c P) : FnOk prog w (gh h c P) mg P 5 (Str.ofString "law") (runP Tw now (psOf "law") (scOf "law") (bdOf "law")) :=
  fn_sound (T := Tw) (ow := now) (k := 4) B.G (B.at rec_law dbg_law bind_law) chk_law (ok_tabW B) (fun f F e => nomatch e) (fun e => nomatch e)

theorem law_walk (B : Bs loose mean mg mb h c P) {a l : Addr} {s : Shared} {xs : List Int} {Q : Value → Shared → Prop} {E : Value → Shared → Prop} (hs : s.heap = h) (hm : mg (Str.ofString "law") = some (.ref a))
    (hw : ∃ vs n, h.get? l = some (lob vs n) ∧ Reps prog w (fun b => (gh h c P).get? b) vs (xs.map .int)) (hl : xs.length ≤ 63)
    (hQ : ∀ h' tk, (∀ b o, b ≠ P → h.get? b = some o → h'.get? b = some o) → GrownAt P h' → Q (.bool true) { s with heap := h', toks := tk }) :
    wpAny (model prog w) callerA (call (.ref a) [.ref l]) Q E s := by
  subst hs
  obtain ⟨a', o, fd, h1, _, _, _, sp⟩ := ok_law (prog := prog) (w := w) B
  rw [hm] at h1
  cases h1
  obtain ⟨vs, n, hva, hreps⟩ := hw
  have on : Z.on (fun b => (gh s.heap c P).get? b) s.heap := fun b o e => of_hideAll _ e
  have nP : (gh s.heap c P).get? P = none := hideAll_none _ (List.mem_singleton.mpr rfl)
  have tP := B.t _ (List.mem_singleton.mpr rfl)
  refine sp callerA s (fun b => (gh s.heap c P).get? b) [.ref l] [numD xs] (.bool true) Q E ⟨rfl, by decide +kernel, by decide +kernel⟩ on ⟨nP, .inl tP.2⟩ (fun b o e => e) (.cons (.list (ghost_get B.t hva (fun e => by injection e with e; nomatch e)) hreps) .nil) (law_true xs hl) fun v z' h' tk gr r => ?_
  obtain rfl := r.bool_inv
  exact hQ h' tk (fun b o hb e => gr.keep b o hb hb e) (gr.tab ⟨nP, .inl tP.2⟩).get
end
end Mine

namespace Mine
open PySem PySem.W PyProof.Rows PySem.Calls PySem.Spec

noncomputable abbrev rr : OpenRow := Challenge.rw_mj0125_01.row
noncomputable def sees (s : Shared) : Bool := xlAt qv [] s && recOk (RowW.records rr.toRowW) s
/-! the look at the law, piece by piece: the heavy pieces by the library's twins of their functions, each a lemma of its own -/
set_option maxHeartbeats 8000000 in
theorem said : Challenge.rw_mj0125_01.wellSaid = true := by
  unfold OpenLaw.wellSaid OpenRow.wellSaid OpenRow.partSaid looksOpen
  repeat' with_reducible refine look_both ?_ ?_
  all_goals first
    | (rw [PySem.W.Fast.te8377067652309620493]; as_aux_lemma => kernel_rfl)
    | (rw [PySem.W.Fast.te8326940854005059898]; as_aux_lemma => kernel_rfl)
    | (rw [PySem.W.Fast.te17119622794617984870]; as_aux_lemma => kernel_rfl)
    | (rw [PySem.W.Fast.te8179353310426384613]; as_aux_lemma => kernel_rfl)
    | kernel_rfl
theorem left : LeftO rr.prog qv [] sees (fun _ => ()) (fun _ => ()) 1154 := by
  intro w
  kernel_rfl
theorem law_is : (recAt "law").isSome = true := by kernel_rfl
noncomputable def dl : DefRec := (recAt "law").get law_is
theorem hdef : defOf qv rr.name = some (dl, []) := by kernel_rfl
theorem hthe : rr.prog.theDef rr.name = some (dl.params, dl.body, dl.scope) := by kernel_rfl
theorem hkw : kwWritten? dl.params.kwonlyargs dl.params.kw_defaults = some [] := by kernel_rfl
theorem hok : (chainsOk qv && opensWell rr.prog && (frees rr.toRowW && rr.within.isEmpty)) = true := by kernel_rfl
theorem prom : rr.toRowW.promised := ⟨[.list []], by decide +kernel, by decide +kernel⟩

theorem head (walk : WalkO qv [] (XL qv []) (fun _ _ => True) rr.toRowW dl [] fun f vs => PySem.call f vs) : Challenge.rw_mj0125_01.Holds :=
  holds_law said fun k1 => holds_open left (fun _ _ _ => trivial) (fun _ _ _ _ _ => trivial) (fun s e => xl_of s (Bool.and_eq_true_iff.mp e).1) XL.keeps hdef hthe hkw (fun s e => recFacts_of (Bool.and_eq_true_iff.mp e).2) rfl k1 hok ⟨rfl, rfl, rfl, rfl, rfl, by decide +kernel⟩ prom walk

noncomputable def freeNames : List String := ["len", "sum", "list", "isinstance", "tuple", "sorted", "range", "enumerate", "reversed"]
noncomputable def freeIn (l : List Str) : Bool := freeNames.all fun x => !l.contains (Str.ofString x)
theorem free_q : freeIn (startupNames ++ (looseW qv [] ++ ((recsOf qv).map (·.name) ++ ((litsOf qv).map (·.1) ++ (clssOf qv (looseW qv [])).map (·.name))))) = true := by kernel_rfl
theorem freeIn_not {l : List Str} (h : freeIn l = true) {x : String} (m : x ∈ freeNames) : Str.ofString x ∉ l := fun q => by
  have := List.all_eq_true.mp h x m
  rw [List.contains_iff_mem.mpr q] at this
  nomatch this
theorem glo_of {h : Heap} {mean : ExcName → Option Value} {mg mb : Str → Option Value} {c P : Addr} (T : Top qv (looseW qv []) mean mg mb h) (hT : TabsAt [(c, P)] h) : Glo (gh h c P) mg mb c P :=
  have U := ghost_top hT T
  have hn : (gh h c P).get? P = none := hideAll_none _ (List.mem_singleton.mpr rfl)
  { g := U.g, b := U.b, nolimit := U.nolimit, nodigits := U.nodigits, bi := U.builtins, code := (ghost_code hT).1, none := hn
    free := fun x m => by
      have q := freeIn_not free_q m
      simp only [List.mem_append, not_or] at q
      exact T.free _ q.1 q.2.1 q.2.2.1 q.2.2.2.1 q.2.2.2.2
    bmain := by
      obtain ⟨bm, ob, h1, h2, h3, h4, h5, h6⟩ := U.bmain
      exact ⟨bm, ob, h1, h2, (fun e => by rw [e, hn] at h3; cases h3), h3, h4, h5, h6⟩
    mainP := fun e => by
      obtain ⟨o, _, _, h1, _⟩ := U.g
      rw [e, hn] at h1
      nomatch h1 }
set_option maxHeartbeats 4000000 in
theorem fin : Challenge.rw_mj0125_01.Holds := by
  refine head ?_
  intro w s₀ s₁ mg mb G Y fa o pm cd doc dV kV ho hd hcd hD hmg hg args vals as hpre hlay hrd hwl hlo
  wrow_args hpre hlay hrd hwl hlo
  rename_i xs _ _ _ _ _ _ a _ _ _ _ wl _ _ _ hlen _
  clear ho hd hcd hD
  obtain ⟨c, P, hT, hc⟩ := tab_at G.T rec_law_profiles
  have B : Bs _ _ mg mb s₁.heap c P := ⟨G.T, hT, glo_of G.T hT, hc⟩
  obtain ⟨vs, n, h1, h2⟩ := well_list (prog := rr.prog) (w := w) (z := fun b => (gh s₁.heap c P).get? b) rfl wl
  refine law_walk B rfl hmg ⟨vs, n, h1, h2⟩ (by exact ar0 hlen) fun h' tk keep gr => ?_
  have tP := hT _ (List.mem_singleton.mpr rfl)
  refine ⟨.inl ⟨.bool true, .bool true, [], rfl, fun _ => rfl, .bool true, by kernel_rfl, fun _ => ⟨List.Pairwise.nil, fun _ m => nomatch m⟩⟩, ⟨fun b o e => ?_, fun b o e => ?_⟩, rfl, .of_eq hg⟩
  · by_cases hb : b = P
    · subst hb
      obtain ⟨ps, e2⟩ := gr
      obtain rfl : o = tabObj #[] := Option.some.inj (e.symm.trans tP.2)
      exact .inr (.inl ⟨(tP.1.tab tP.2).isCodeTable, rfl, #[], ps, rfl, by rw [Array.empty_append]; exact e2⟩)
    · exact .inl (keep b o hb e)
  · by_cases hb : b = P
    · subst hb
      exact ⟨_, gr.choose_spec⟩
    · exact ⟨o, keep b o hb e⟩
end Mine
open PySem PySem.W PyProof.Rows
theorem PySem.Challenge.cw_mj0125_01_holds : PySem.Challenge.rw_mj0125_01.Holds := by
  exact Mine.fin

