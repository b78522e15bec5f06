import PyProof.Rows.All
import Wide.All
import OpenK.AllK
import Wide.FinOn
import PyProof.StrLawsTight
import KE.KPop
import KE.KListLetter
import KE.KEqDat
import PyProof.StrReplace2
import PyProof.NeKinds
import KE.KSortTup
import KE.KNestM
import KE.KCells
import KE.KLam
import KE.KLcPair
import Lean
import PySem.Challenge.RW_sn0012_01
set_option Elab.async false
set_option compiler.extract_closed false
section
namespace Mine
/-! small facts of arithmetic, each proved once -/
theorem o_d0 {a c L : Nat} (h : a + c < L) : a < L := Nat.lt_of_le_of_lt (Nat.le_add_right a c) h
theorem o_d1 {a c L x : Nat} (h : a + c < L) (e : x ≤ c := by decide) : a + x < L := Nat.lt_of_le_of_lt (Nat.add_le_add_left e a) h
theorem o_d2 {a c L x y : Nat} (h : a + c < L) (e : x + y ≤ c := by decide) : a + x + y < L := Nat.add_assoc a x y ▸ o_d1 h e
theorem o_d3 {a c L x y z : Nat} (h : a + c < L) (e : x + y + z ≤ c := by decide) : a + x + y + z < L := Nat.add_assoc a x y ▸ o_d2 h e
theorem o_d4 {a c L x y z u : Nat} (h : a + c < L) (e : x + y + z + u ≤ c := by decide) : a + x + y + z + u < L := Nat.add_assoc a x y ▸ o_d3 h e
theorem o_lel {a n M : Nat} (h : a < n) (e : n ≤ M) : a ≤ M := Nat.le_trans (Nat.le_of_lt h) e
theorem o_ltn {j n m : Nat} (h : j < n) (e : m = n) : j < m := e ▸ h
theorem q_0 {a0 : Nat} {a1 : Nat} : ((Int.toNat (max ((a0 : Nat) : Int) ((a1 : Nat) : Int))) = (max a0 a1)) := (Nat.le_total a0 a1).elim (fun h => (congrArg Int.toNat (Int.max_eq_right (Int.ofNat_le.mpr h))).trans (Nat.max_eq_right h).symm) (fun h => (congrArg Int.toNat (Int.max_eq_left (Int.ofNat_le.mpr h))).trans (Nat.max_eq_left h).symm)
theorem q_1 {a0 : Nat} {a1 : Nat} {a2 : Nat} (h0 : ((a0 + a2) ≤ a1)) : (a0 ≤ a1) := Nat.le_trans (Nat.le_add_right a0 a2) h0
theorem q_2 {a0 : Nat} {a1 : Nat} {a2 : Nat} {a3 : Nat} {a4 : Nat} (h0 : ((a1 + a2) ≤ a4)) : (((((min a0 a1) - 0) + a2) + ((min a1 a1) - (max a0 a3))) ≤ (a4 + 1)) := by rw [Nat.min_self]; exact Nat.le_trans (Nat.le_of_eq (Nat.add_right_comm _ _ _)) (Nat.le_succ_of_le (Nat.le_trans (Nat.add_le_add_right (Nat.le_trans (Nat.add_le_add_left (Nat.sub_le_sub_left (Nat.le_max_left a0 a3) a1) (min a0 a1)) (Nat.le_of_eq (by rw [Nat.min_comm, Nat.add_comm, Nat.sub_add_min_cancel]))) a2) h0))
theorem q_3 {a0 : Int} (h0 : ((0 : Int) ≤ a0)) : (¬ (a0 < (0 : Int))) := by simp_all
theorem q_4 {a0 : Nat} {a1 : Int} : ((a0 - (Int.toNat a1)) ≤ (a0 - (min (Int.toNat a1) a0))) := Nat.sub_le_sub_left (Nat.min_le_left _ _) _
theorem q_5 {a0 : Int} {a1 : Nat} {a2 : Nat} (h0 : ((0 : Int) ≤ a0)) (h1 : (a0 < ((a2 : Nat) : Int))) (h2 : (a1 = a2)) : ((Int.toNat a0) < a1) := by simp_all
theorem q_6 {a0 : Int} {a1 : Nat} {a2 : Nat} (h0 : ((0 : Int) ≤ a0)) (h1 : (a0 < ((a2 : Nat) : Int))) (h2 : (a1 = a2)) : (((0 : Int) ≤ a0) ∧ (a0 < ((a1 : Nat) : Int))) := by simp_all
theorem q_7 {a0 : Int} {a1 : Nat} (h0 : ((0 : Int) ≤ a0)) (h1 : (a0 < ((a1 : Nat) : Int))) (h2 : (a1 ≤ 1000)) : (((-((2 : Int) ^ 63)) ≤ a0) ∧ (a0 < ((2 : Int) ^ 63))) := ⟨Int.le_trans (by decide) h0, Int.lt_of_lt_of_le h1 (Int.le_trans (Int.ofNat_le.mpr h2) (by decide))⟩
theorem q_8 {a0 : Nat} {a1 : Int} {a2 : Nat} (h0 : ((0 : Int) ≤ a1)) (h1 : (a0 = a2)) (h2 : (a1 < ((a2 : Nat) : Int))) : (¬ ((a0 - 1) = a0)) := Nat.ne_of_lt (Nat.sub_lt (Nat.lt_of_lt_of_eq (Int.ofNat_lt.mp (Int.lt_of_le_of_lt h0 h2)) h1.symm) Nat.one_pos)
theorem q_9 {a0 : Nat} {a1 : Nat} (h0 : (a0 = a1)) (h1 : (a1 ≤ 1000)) : (a0 ≤ 16777216) := Nat.le_trans (Nat.le_of_eq h0) (Nat.le_trans h1 (by decide))
theorem q_10 {a0 : Nat} {a1 : Nat} (h0 : (a0 < a1)) (h1 : (a1 = 6)) : (a0 < 6) := h1 ▸ h0
theorem q_11 {a0 : Nat} {a1 : Nat} (h0 : ((a0 + a1) = 64)) (h1 : (a1 < 6)) : ((0 : Int) < ((a0 : Nat) : Int)) := Int.ofNat_lt.mpr (Nat.pos_of_ne_zero fun e => by subst e; rw [Nat.zero_add] at h0; subst h0; exact absurd h1 (by decide))
theorem q_12 {a0 : Int} {a1 : Nat} (h0 : (((0 : Int) ≤ a0) ∧ (a0 < ((a1 : Nat) : Int)))) : ((0 : Int) ≤ a0) := by simp_all
theorem q_13 {a0 : Int} {a1 : Nat} (h0 : (((0 : Int) ≤ a0) ∧ (a0 < ((a1 : Nat) : Int)))) : (a0 < ((a1 : Nat) : Int)) := by simp_all
theorem q_14 {a0 : Nat} {a1 : Nat} (h0 : ((a0 + a1) = 64)) : (a0 ≤ 1000) := Nat.le_trans (Nat.le_add_right a0 a1) (Nat.le_trans (Nat.le_of_eq h0) (by decide))
theorem q_15 {a0 : Nat} {a1 : Nat} {a2 : Nat} (h0 : (a0 = a1)) (h1 : ((a2 + a1) = 64)) : (a0 ≤ 16777216) := Nat.le_trans (Nat.le_of_eq h0) (Nat.le_trans (Nat.le_trans (Nat.le_add_left a1 a2) (Nat.le_of_eq h1)) (by decide))
theorem q_16 {a0 : Int} {a1 : Nat} (h0 : (((0 : Int) ≤ a0) ∧ (a0 < ((a1 : Nat) : Int)))) : ((Int.toNat a0) < a1) := by simp_all
theorem q_17 {a0 : Nat} {a1 : Nat} (h0 : ((a0 + a1) = 64)) (h1 : (a1 < 6)) : (((a0 - 1) + (a1 + 1)) = 64) := by rw [Nat.add_comm a1 1, ← Nat.add_assoc, Nat.sub_add_cancel (Nat.pos_of_ne_zero (fun e => by subst e; rw [Nat.zero_add] at h0; subst h0; exact absurd h1 (by decide)))]; exact h0
theorem q_18 {a0 : Nat} {a1 : Nat} {a2 : Nat} (h0 : ((a0 - a2) < (0 + 1))) (h1 : (a2 = a1)) (h2 : (¬ (a0 < a2))) : (a0 = a1) := by subst h1; exact Nat.le_antisymm (Nat.le_of_sub_eq_zero (Nat.lt_one_iff.mp h0)) (Nat.le_of_not_lt h2)
theorem q_19 {a0 : Nat} {a1 : Nat} (h0 : (((0 : Int) + ((a0 : Nat) : Int)) = ((0 : Int) + ((a1 : Nat) : Int)))) : (a0 = a1) := Int.ofNat_inj.mp ((Int.zero_add _).symm.trans (h0.trans (Int.zero_add _)))
theorem q_20 {a0 : Int} (h0 : (((0 : Int) ≤ a0) ∧ (a0 < ((0 : Int) + ((64 : Nat) : Int))))) : (((0 : Int) ≤ a0) ∧ (a0 < (64 : Int))) := by intros; subst_vars; assumption
theorem q_21 {a0 : Nat} {a1 : Nat} {a2 : Nat} (h0 : ((a0 + (a2 + 1)) = a1)) : (a0 < a1) := Nat.lt_of_lt_of_eq (Nat.lt_add_of_pos_right (Nat.succ_pos a2)) h0
theorem q_22 {a0 : Nat} {a1 : Nat} {a2 : Nat} (h0 : ((a0 + (a1 + 1)) = a2)) : (((a0 + 1) + a1) = a2) := (Nat.succ_add a0 a1).trans h0
theorem q_23 {a0 : Nat} : (¬ ((a0 + 64) < 64)) := by simp_all
theorem q_24 {a0 : Nat} : (¬ ((a0 + 14) < 14)) := by simp_all
theorem q_25 {a0 : Nat} {a1 : Nat} (h0 : (a1 < a0)) : (((a0 + 1) - (a1 + 1)) < ((a0 + 1) - a1)) := Nat.sub_lt_sub_left (Nat.lt_succ_of_lt h0) (Nat.lt_succ_self _)
theorem q_26 {a0 : Nat} {a1 : Nat} (h0 : (a0 = a1)) (h1 : (a1 ≤ 4)) : (a0 ≤ 4) := by intros; subst_vars; assumption
theorem q_27 {a0 : Nat} {a1 : Nat} (h0 : ((a0 ≤ 4) ∧ (a1 ≤ 1))) : ((a0 + a1) ≤ 5) := Nat.add_le_add h0.1 h0.2
theorem q_28 {a0 : Nat} {a1 : Nat} {a2 : Nat} (h0 : (a0 ≤ 5)) (h1 : (a1 ≤ (5 * a2))) : ((a0 + a1) ≤ (5 * (a2 + 1))) := Nat.le_trans (Nat.add_le_add h0 h1) (Nat.le_of_eq (Nat.add_comm _ _))
theorem q_29 {a0 : Int} (h0 : (((0 : Int) ≤ a0) ∧ (a0 < (6 : Int)))) (h1 : (a0 ≠ (0 : Int))) (h2 : (a0 ≠ (1 : Int))) (h3 : (a0 ≠ (2 : Int))) (h4 : (a0 ≠ (3 : Int))) (h5 : (a0 ≠ (4 : Int))) (h6 : (a0 ≠ (5 : Int))) : False := by obtain ⟨n, rfl⟩ := Int.eq_ofNat_of_zero_le h0.1; exact ((by decide : ∀ n : Nat, n < 6 → (n = 0 ∨ n = 1 ∨ n = 2 ∨ n = 3 ∨ n = 4 ∨ n = 5)) n (Int.ofNat_lt.mp h0.2)).elim (fun e => h1 (congrArg Int.ofNat e)) fun e => e.elim (fun e => h2 (congrArg Int.ofNat e)) fun e => e.elim (fun e => h3 (congrArg Int.ofNat e)) fun e => e.elim (fun e => h4 (congrArg Int.ofNat e)) fun e => e.elim (fun e => h5 (congrArg Int.ofNat e)) (fun e => h6 (congrArg Int.ofNat e))
theorem q_30 {a0 : Nat} (h0 : (6 ≤ a0)) : ((min 6 a0) = 6) := by simp_all
theorem q_31 {a0 : Int} (h0 : (((0 : Int) ≤ a0) ∧ (a0 < (64 : Int)))) : ((Int.toNat a0) < 64) := by simp_all
theorem q_32 {a0 : Int} {a1 : Int} (h0 : (((0 : Int) ≤ a1) ∧ (a1 < (4 : Int)))) (h1 : (a0 = ((1 : Int) + a1))) : ((1 ≤ (Int.toNat a0)) ∧ ((Int.toNat a0) ≤ 4)) := by obtain ⟨n, rfl⟩ := Int.eq_ofNat_of_zero_le h0.1; subst h1; exact (by decide : ∀ n : Nat, n < 4 → (1 ≤ ((1:Int) + n).toNat ∧ ((1:Int)+n).toNat ≤ 4)) n (Int.ofNat_lt.mp h0.2)
theorem q_33 {a0 : Nat} {a1 : Nat} (h0 : (a0 < 6)) (h1 : (a1 = 6)) : (a0 < a1) := Nat.lt_of_lt_of_eq h0 h1.symm
theorem q_34 {a0 : Int} {a1 : Int} (h0 : (((0 : Int) ≤ a0) ∧ (a0 < (64 : Int)))) (h1 : (((0 : Int) ≤ a1) ∧ (a1 < (64 : Int)))) (h2 : ((Int.toNat a0) = (Int.toNat a1))) : (a0 = a1) := (Int.toNat_of_nonneg h0.1).symm.trans ((congrArg (fun n : Nat => (n : Int)) h2).trans (Int.toNat_of_nonneg h1.1))
theorem q_35 {a0 : Int} (h0 : (((0 : Int) ≤ a0) ∧ (a0 < (64 : Int)))) : ((((Int.toNat a0) : Nat) : Int) = a0) := Int.toNat_of_nonneg h0.1
theorem q_36 {a0 : Int} {a1 : Int} (h0 : (((0 : Int) ≤ a1) ∧ (a1 < (4 : Int)))) (h1 : (a0 = ((1 : Int) + a1))) : ((((Int.toNat a0) : Nat) : Int) = a0) := Int.toNat_of_nonneg (h1.symm ▸ Int.add_nonneg (by decide) h0.1)
theorem q_37 {a0 : Nat} : (¬ ((a0 + 20) < 20)) := by simp_all
theorem q_38 {a0 : Nat} : ((Int.toNat ((0 : Int) + ((a0 : Nat) : Int))) = a0) := Nat.zero_add _
theorem q_39 {a0 : Nat} : ((0 : Int) ≤ ((0 : Int) + ((a0 : Nat) : Int))) := Int.natCast_nonneg _
theorem q_40 {a0 : Nat} (h0 : (a0 < 20)) : (((0 : Int) + ((a0 : Nat) : Int)) < ((2 : Int) ^ 63)) := Int.lt_trans (Int.add_lt_add_left (Int.ofNat_lt.mpr h0) 0) (by decide)
theorem q_41 {a0 : Nat} {a1 : Nat} (h0 : (a0 < 14)) (h1 : (a1 = 14)) : (a0 < a1) := Nat.lt_of_lt_of_eq h0 h1.symm
theorem q_42 {a0 : Nat} (h0 : (a0 < 6)) : (((a0 : Nat) : Int) < ((2 : Int) ^ 63)) := Int.lt_trans (Int.ofNat_lt.mpr h0) (by decide)
theorem q_43 {a0 : Nat} (h0 : (a0 < 6)) : (((0 : Int) + ((a0 : Nat) : Int)) < ((2 : Int) ^ 63)) := Int.lt_trans (Int.add_lt_add_left (Int.ofNat_lt.mpr h0) 0) (by decide)
theorem q_44 {a0 : Nat} {a1 : Nat} (h0 : (((a0 : Nat) : Int) = ((0 : Int) + ((a1 : Nat) : Int)))) : (a0 = a1) := Int.ofNat_inj.mp (h0.trans (Int.zero_add _))
theorem q_45 {a0 : Nat} {a1 : Nat} (h0 : (a0 ≤ (5 * a1))) (h1 : (a1 ≤ 6)) : ((a0 + 0) ≤ 16777216) := Nat.le_trans h0 (Nat.le_trans (Nat.mul_le_mul_left 5 h1) (by decide))
theorem q_46 {a0 : Nat} {a1 : Nat} (h0 : (a0 < a1)) (h1 : (a1 = 9)) : (a0 < 9) := h1 ▸ h0
theorem q_47 {a0 : Nat} {a1 : Nat} (h0 : (a0 = a1)) (h1 : (a1 ≤ 1)) : (a0 ≤ 1) := by intros; subst_vars; assumption
theorem q_48 {a0 : Nat} {a1 : Nat} (h0 : ((a0 ≤ 4) ∧ (a1 ≤ 1))) : ((a0 < 1000) ∧ (a1 < 1000)) := ⟨Nat.lt_of_le_of_lt h0.1 (by decide), Nat.lt_of_le_of_lt h0.2 (by decide)⟩
theorem q_49 {a0 : Nat} (h0 : (a0 ≤ 5)) : (((a0 : Nat) : Int) < ((2 : Int) ^ 63)) := Int.lt_of_le_of_lt (Int.ofNat_le.mpr h0) (by decide)
theorem q_50 {a0 : Nat} (h0 : (a0 ≤ 5)) : (¬ (((a0 : Nat) : Int) ≥ ((2 : Int) ^ 63))) := Int.not_le.mpr (Int.lt_of_le_of_lt (Int.ofNat_le.mpr h0) (by decide))
theorem q_51 {a0 : Nat} {a1 : Nat} (h0 : (a0 = a1)) (h1 : (a1 ≤ 1)) : (a0 ≤ 16777216) := Nat.le_trans (Nat.le_of_eq h0) (Nat.le_trans h1 (by decide))
theorem q_52 {a0 : Nat} {a1 : Nat} (h0 : ((a0 + 1) ≤ a1)) : (a0 ≤ a1) := Nat.le_of_lt h0
theorem q_53 {a0 : Nat} {a1 : Nat} (h0 : ((a0 + 1) ≤ a1)) (h1 : (a1 = a0)) : False := Nat.ne_of_gt h0 h1
theorem q_54 {a0 : Nat} {a1 : Nat} {a2 : Nat} (h0 : (a0 < a2)) (h1 : (a1 = a2)) : (a0 < a1) := Nat.lt_of_lt_of_eq h0 h1.symm
theorem q_55 {a0 : Nat} {a1 : Nat} (h0 : (a0 < (a1 + 1))) (h1 : (¬ (a0 < a1))) : (a0 = a1) := Nat.le_antisymm (Nat.le_of_lt_succ h0) (Nat.le_of_not_lt h1)
theorem q_56 {a0 : Nat} {a1 : Nat} (h0 : (a0 = a1)) : (a0 ≤ a1) := Nat.le_of_eq h0
theorem q_57 {a0 : Nat} (h0 : (1 < a0)) : (0 < a0) := Nat.zero_lt_of_lt h0
theorem q_58 (h0 : (0 = 1)) : False := by simp_all
theorem q_59 {a0 : Nat} {a1 : Nat} : (((((a0 : Nat) : Int) + ((a1 : Nat) : Int)) + (0 : Int)) = (((a0 + a1) : Nat) : Int)) := by simp_all
theorem q_60 {a0 : Nat} {a1 : Nat} (h0 : (a0 < a1)) : ((a0 + 1) < (a1 + 1)) := Nat.succ_lt_succ h0
theorem q_61 {a0 : Nat} {a1 : Nat} : (((a0 + 1) + a1) = (a0 + (a1 + 1))) := Nat.succ_add _ _
theorem q_62 {a0 : Nat} (h0 : ((a0 + 1) ≤ 9)) : (a0 ≤ 9) := Nat.le_of_lt h0
theorem q_63 {a0 : Nat} (h0 : ((a0 + 1) ≤ 9)) : (a0 < 9) := h0
theorem q_64 {a0 : Nat} {a1 : Nat} (h0 : (a0 < (a1 + 1))) (h1 : (¬ (a0 = a1))) : (a0 < a1) := Nat.lt_of_le_of_ne (Nat.le_of_lt_succ h0) h1
theorem q_65 {a0 : Nat} {a1 : Nat} (h0 : (a1 < a0)) : (¬ (a0 < a1)) := Nat.lt_asymm h0
theorem q_66 {a0 : Nat} {a1 : Nat} (h0 : (¬ (a0 = a1))) : (¬ (((a0 : Nat) : Int) = ((a1 : Nat) : Int))) := fun e => h0 (Int.ofNat_inj.mp e)
theorem q_67 {a0 : Nat} {a1 : Nat} (h0 : (a0 < a1)) : (a0 < (a1 + 1)) := Nat.lt_succ_of_lt h0
theorem q_68 {a0 : Nat} (h0 : ((a0 = 1) ∨ ((a0 = 2) ∨ ((a0 = 3) ∨ ((a0 = 5) ∨ ((a0 = 6) ∨ (a0 = 7))))))) : (a0 ≤ 7) := by rcases h0 with h | h | h | h | h | h <;> subst h <;> decide
theorem q_69 {a0 : Nat} {a1 : Nat} (h0 : (a0 ≤ a1)) : ((min (Int.toNat ((a0 : Nat) : Int)) a1) = a0) := by simp_all
theorem q_70 {a0 : Nat} {a1 : Nat} (h0 : (¬ (a1 < a0))) : (a0 ≤ a1) := Nat.le_of_not_gt h0
theorem q_71 {a0 : Nat} (h0 : ((0 + a0) = 6)) : (a0 = 6) := by simp_all
theorem q_72 {a0 : Nat} {a1 : Nat} (h0 : (((a1 + 1) + a0) = 6)) : (a0 < 6) := Nat.lt_of_lt_of_eq (Nat.lt_add_of_pos_left (Nat.succ_pos a1)) h0
theorem q_73 {a0 : Nat} {a1 : Nat} (h0 : (((a0 + 1) + a1) = 6)) : ((a0 + (a1 + 1)) = 6) := (Nat.succ_add a0 a1).symm.trans h0
theorem q_74 {a0 : Nat} {a1 : Nat} : ((a0 + (a1 + 1)) = ((a0 + 1) + a1)) := by simp +arith
theorem q_75 {a0 : Nat} : (((0 : Int) + (((a0 : Nat) : Int) * (1 : Int))) = (((0 + a0) : Nat) : Int)) := by simp +arith
theorem q_76 {a0 : Nat} {a1 : Nat} (h0 : (a0 < a1)) : (((a0 : Nat) : Int) < ((a1 : Nat) : Int)) := Int.ofNat_lt.mpr h0
theorem q_77 {a0 : Nat} {a1 : Nat} (h0 : (¬ (a0 < a1))) : (¬ (((a0 : Nat) : Int) < ((a1 : Nat) : Int))) := fun e => absurd (Int.ofNat_lt.mp e) h0
theorem q_78 {a0 : Nat} {a1 : Nat} (h0 : ((a0 + 1) ≤ a1)) : (a0 < a1) := h0
theorem q_79 {a0 : Int} {a1 : Int} : ((a0 + a1) = (a0 + (a1 + (0 : Int)))) := by simp +arith
theorem q_80 {a0 : Nat} {a1 : Nat} (h0 : ((a0 < 1000) ∧ (a1 < 1000))) : (((0 : Int) ≤ (((a0 : Nat) : Int) + ((a1 : Nat) : Int))) ∧ ((((a0 : Nat) : Int) + ((a1 : Nat) : Int)) ≤ (2000 : Int))) := ⟨Int.add_nonneg (Int.natCast_nonneg _) (Int.natCast_nonneg _), Int.le_trans (Int.add_le_add (Int.ofNat_le.mpr (Nat.le_of_lt h0.1)) (Int.ofNat_le.mpr (Nat.le_of_lt h0.2))) (by decide)⟩
theorem q_81 {a0 : Int} {a1 : Int} {a2 : Nat} (h0 : (((0 : Int) ≤ a0) ∧ (a0 ≤ ((2000 : Int) * ((a2 : Nat) : Int))))) (h1 : (((0 : Int) ≤ a1) ∧ (a1 ≤ (2000 : Int)))) : (((0 : Int) ≤ (a0 + a1)) ∧ ((a0 + a1) ≤ ((2000 : Int) * (((a2 + 1) : Nat) : Int)))) := ⟨Int.add_nonneg h0.1 h1.1, Int.le_trans (Int.add_le_add h0.2 h1.2) (Int.le_of_eq (Int.mul_add 2000 a2 1).symm)⟩
theorem q_82 {a0 : Nat} {a1 : Nat} (h0 : ((a0 < 1000) ∧ (a1 < 1000))) : (¬ (((a0 : Nat) : Int) ≥ ((2 : Int) ^ 63))) := Int.not_le.mpr (Int.lt_trans (Int.ofNat_lt.mpr h0.1) (by decide))
theorem q_83 {a0 : Nat} {a1 : Nat} (h0 : ((a1 < 1000) ∧ (a0 < 1000))) : (¬ (((a0 : Nat) : Int) ≥ ((2 : Int) ^ 63))) := Int.not_le.mpr (Int.lt_trans (Int.ofNat_lt.mpr h0.2) (by decide))
theorem q_84 {a0 : Int} {a1 : Int} {a2 : Nat} {a3 : Int} {a4 : Nat} (h0 : (((0 : Int) ≤ a1) ∧ (a1 ≤ ((2000 : Int) * (((a2 + 1) : Nat) : Int))))) (h1 : (((0 : Int) ≤ a3) ∧ (a3 ≤ ((2000 : Int) * ((a2 : Nat) : Int))))) (h2 : (a1 = (a3 + a0))) (h3 : (a2 < a4)) (h4 : (a4 < 1000)) : ((((-((2 : Int) ^ 63)) ≤ a0) ∧ (a0 < ((2 : Int) ^ 63))) ∧ (((-((2 : Int) ^ 63)) ≤ a1) ∧ (a1 < ((2 : Int) ^ 63)))) := by have b1 : a1 ≤ 2000 * 1000 := Int.le_trans h0.2 (Int.mul_le_mul_of_nonneg_left (Int.ofNat_le.mpr (Nat.le_trans h3 (Nat.le_of_lt h4))) (by decide)); have b3 : a3 ≤ 2000*1000 := Int.le_trans h1.2 (Int.mul_le_mul_of_nonneg_left (Int.ofNat_le.mpr (Nat.le_of_lt (Nat.lt_trans h3 h4))) (by decide)); have e : a1 - a3 = a0 := (by rw [h2, Int.add_comm, Int.add_sub_cancel]); exact ⟨⟨Int.le_trans (Int.le_trans (by decide : -2^63 ≤ 0 - (2000:Int)*1000) (Int.sub_le_sub h0.1 b3)) (Int.le_of_eq e), Int.lt_of_le_of_lt (Int.le_trans (Int.le_of_eq e.symm) (Int.sub_le_self a1 h1.1)) (Int.lt_of_le_of_lt b1 (by decide))⟩, Int.le_trans (by decide) h0.1, Int.lt_of_le_of_lt b1 (by decide)⟩
theorem q_85 {a0 : Nat} {a1 : Nat} {a2 : Nat} (h0 : (0 = ((a0 + 0) - a1))) (h1 : ((a1 + a2) < (a0 + 0))) : False := Nat.ne_of_lt (Nat.sub_pos_of_lt (Nat.lt_of_le_of_lt (Nat.le_add_right a1 a2) h1)) h0
theorem q_86 {a0 : Nat} {a1 : Nat} {a2 : Nat} {a3 : Nat} (h0 : (0 < a0)) (h1 : ((a1 + 1) = ((a2 + (a1 + 1)) - a3))) (h2 : ((a3 + a0) < (a2 + (a1 + 1)))) : ((a0 - 1) < a1) := by have k := Nat.lt_sub_of_add_lt (Nat.lt_of_le_of_lt (Nat.le_of_eq (Nat.add_comm a0 a3)) h2); rw [← h1] at k; exact Nat.sub_lt_right_of_lt_add h0 k
theorem q_87 {a0 : Nat} (h0 : (0 < a0)) : (a0 = ((a0 - 1) + 1)) := (Nat.sub_add_cancel h0).symm
theorem q_88 {a0 : Nat} {a1 : Nat} (h0 : (a0 < a1)) : ((min a0 a1) = a0) := Nat.min_eq_left (Nat.le_of_lt h0)
theorem q_89 {a0 : Nat} {a1 : Nat} {a2 : Nat} (h0 : (a0 = a2)) (h1 : (¬ (a1 < a2))) : (a0 ≤ a1) := by simp_all
theorem q_90 {a0 : Nat} {a1 : Nat} {a2 : Nat} (h0 : (a1 = a2)) (h1 : (¬ (a0 < a2))) (h2 : (¬ (a2 = a0))) : (1 ≤ (a0 - a1)) := by subst h0; exact Nat.sub_pos_of_lt (Nat.lt_of_le_of_ne (Nat.le_of_not_lt h1) h2)
theorem q_91 {a0 : Nat} {a1 : Nat} (h0 : (a1 < a0)) : ((0 : Int) < (((a0 : Nat) : Int) - ((a1 : Nat) : Int))) := Int.sub_pos_of_lt (Int.ofNat_lt.mpr h0)
theorem q_92 {a0 : Int} {a1 : Nat} : ((a0 + (((a1 : Nat) : Int) + (1 : Int))) = ((a0 + ((a1 : Nat) : Int)) + (1 : Int))) := by simp +arith
theorem q_93 {a0 : Nat} {a1 : Nat} : ((((a0 : Nat) : Int) - (((a1 : Nat) : Int) + (1 : Int))) = ((((a0 : Nat) : Int) - ((a1 : Nat) : Int)) - (1 : Int))) := by simp +arith
theorem q_94 {a0 : Nat} {a1 : Nat} (h0 : (a0 ≤ a1)) (h1 : (¬ (a0 < a1))) : (a0 = a1) := Nat.le_antisymm h0 (Nat.le_of_not_lt h1)
theorem q_95 {a0 : Nat} : ((((a0 : Nat) : Int) - ((a0 : Nat) : Int)) ≤ (0 : Int)) := by simp +arith
theorem q_96 {a0 : Nat} {a1 : Nat} {a2 : Nat} (h0 : ((a0 + 200) < a2)) (h1 : (a1 ≤ 10)) : (((a0 + a1) + 100) < a2) := Nat.lt_of_le_of_lt (Nat.le_trans (Nat.add_le_add_right (Nat.add_le_add_left h1 a0) 100) (Nat.add_le_add_left (by decide : 110 ≤ 200) a0)) h0
theorem q_97 {a0 : Nat} {a1 : Nat} (h0 : (a0 < a1)) (h1 : (a1 < 6)) : (a0 < 6) := Nat.lt_trans h0 h1
theorem q_98 {a0 : Nat} (h0 : (a0 < 14)) (h1 : (a0 = 14)) : False := by simp_all
theorem q_99 {a0 : Nat} {a1 : Nat} {a2 : Nat} (h0 : (a1 = 6)) (h1 : (a0 < a2)) (h2 : (a2 < 6)) : (a0 < a1) := Nat.lt_of_lt_of_eq (Nat.lt_trans h1 h2) h0.symm
theorem q_100 {a0 : Nat} {a1 : Nat} (h0 : (a1 < a1)) : (a0 < a0) := by simp_all
theorem q_101 {a0 : Nat} {a1 : Nat} {a2 : Nat} {a3 : Nat} (h0 : (a2 < a3)) (h1 : (a3 < a2)) : (a0 < a1) := absurd h0 (Nat.lt_asymm h1)
theorem q_102 {a0 : Nat} {a1 : Nat} (h0 : (a0 = 6)) (h1 : (¬ (a1 < 6))) : (a0 ≤ a1) := by simp_all
theorem q_103 {a0 : Nat} {a1 : Nat} (h0 : (a0 < 6)) (h1 : (¬ (a1 < 6))) : (¬ (a0 = a1)) := fun e => h1 (e ▸ h0)
theorem q_104 {a0 : Nat} {a1 : Nat} {a2 : Nat} : ((a0 ≤ a1) → ((a1 ≤ a2) → (a0 ≤ a2))) := Nat.le_trans
theorem q_105 {a0 : Nat} {a1 : Nat} : ((a0 ≤ a1) ∨ (a1 ≤ a0)) := Nat.le_total _ _
theorem q_106 {a0 : Nat} {a1 : Nat} (h0 : (a0 < a1)) (h1 : (a0 = a1)) : False := by simp_all
theorem q_107 {a0 : Nat} {a1 : Nat} (h0 : (a0 ≠ a1)) (h1 : (a0 ≤ a1)) : (a0 < a1) := Nat.lt_of_le_of_ne h1 h0
theorem q_108 {a0 : Nat} {a1 : Nat} {a2 : Nat} {a3 : Nat} (h0 : ((a2 + a0) ≤ (a3 - a1))) (h1 : (0 < a0)) : ((0 < a0) ∧ (((a1 + a2) + a0) ≤ a3)) := ⟨h1, Nat.le_trans (Nat.le_of_eq (Nat.add_assoc a1 a2 a0)) (Nat.add_le_of_le_sub' (Nat.le_of_lt (Nat.lt_of_sub_pos (Nat.lt_of_lt_of_le (Nat.lt_of_lt_of_le h1 (Nat.le_add_left _ _)) h0))) h0)⟩
theorem q_109 {a0 : Nat} {a1 : Nat} {a2 : Nat} (h0 : (a1 < (a2 - a0))) : ((0 < 1) ∧ (((a0 + a1) + 1) ≤ a2)) := ⟨Nat.zero_lt_one, Nat.add_lt_of_lt_sub' h0⟩
theorem q_110 {a0 : Nat} {a1 : Nat} {a2 : Nat} : ((a0 + (a1 + a2)) = ((a0 + a1) + a2)) := (Nat.add_assoc _ _ _).symm
theorem q_111 {a0 : Nat} {a1 : Nat} : ((a0 + (a1 + 1)) = ((a0 + a1) + 1)) := Int.toNat_natCast _
theorem q_112 {a0 : Nat} {a1 : Nat} {a2 : Nat} (h0 : (a0 ≤ 2)) (h1 : (a1 ≤ (2 * a2))) : ((a0 + a1) ≤ (2 * (a2 + 1))) := Nat.le_trans (Nat.add_le_add h0 h1) (Nat.le_of_eq (Nat.add_comm _ _))
theorem q_113 {a0 : Nat} {a1 : Nat} (h0 : (a0 ≤ (2 * a1))) (h1 : (a1 ≤ 3000)) : (a0 ≤ 10000) := Nat.le_trans h0 (Nat.le_trans (Nat.mul_le_mul_left 2 h1) (by decide))
theorem q_114 {a0 : Nat} {a1 : Nat} {a2 : Nat} (h0 : ((a0 + (((0 + 1) + 1) + 1)) ≤ a2)) (h1 : ((a2 + 1) ≤ a1)) : (a0 < ((((((((((((((((((((a1 + 1) + 1) + 1) + 1) + 1) + 1) + 1) + 1) + 1) + 1) + 1) + 1) + 1) + 1) + 1) + 1) + 1) + 1) + 1) + 1)) := Nat.lt_of_lt_of_le (Nat.lt_of_lt_of_le (Nat.lt_add_of_pos_right (by decide : 0 < 3)) h0) (Nat.le_trans (Nat.le_trans (Nat.le_succ a2) h1) (Nat.le_add_right a1 20))
theorem q_115 {a0 : Nat} : (((((((((((((((((((((a0 + 1) + 1) + 1) + 1) + 1) + 1) + 1) + 1) + 1) + 1) + 1) + 1) + 1) + 1) + 1) + 1) + 1) + 1) + 1) + 1) < ((((((((((((((((((((((a0 + 1) + 1) + 1) + 1) + 1) + 1) + 1) + 1) + 1) + 1) + 1) + 1) + 1) + 1) + 1) + 1) + 1) + 1) + 1) + 1) + 1) + 1)) := Nat.le_succ _
theorem q_116 {a0 : Nat} : (((((a0 + 1) + 1) + 1) + 1) ≠ 0) := by lia
theorem q_117 {a0 : Nat} {a1 : Nat} {a2 : Nat} (h0 : ((a0 + (((0 + 1) + 1) + 1)) ≤ a2)) (h1 : ((a2 + 1) ≤ a1)) : (a0 < ((((((((((((((((((((((a1 + 1) + 1) + 1) + 1) + 1) + 1) + 1) + 1) + 1) + 1) + 1) + 1) + 1) + 1) + 1) + 1) + 1) + 1) + 1) + 1) + 1) + 1)) := Nat.lt_of_lt_of_le (Nat.lt_of_lt_of_le (Nat.lt_add_of_pos_right (by decide : 0 < 3)) h0) (Nat.le_trans (Nat.le_trans (Nat.le_succ a2) h1) (Nat.le_add_right a1 22))
theorem q_118 {a0 : Nat} : (((((((((((((((((((((((a0 + 1) + 1) + 1) + 1) + 1) + 1) + 1) + 1) + 1) + 1) + 1) + 1) + 1) + 1) + 1) + 1) + 1) + 1) + 1) + 1) + 1) + 1) < ((((((((((((((((((((((((a0 + 1) + 1) + 1) + 1) + 1) + 1) + 1) + 1) + 1) + 1) + 1) + 1) + 1) + 1) + 1) + 1) + 1) + 1) + 1) + 1) + 1) + 1) + 1) + 1)) := Nat.le_succ _
theorem q_119 : ((Int.toNat (4 : Int)) < 9) := Nat.le_add_left _ _
theorem q_120 {a0 : Nat} (h0 : (¬ (a0 = 4))) : (¬ (4 = a0)) := fun e => h0 e.symm
theorem q_121 {a0 : Nat} (h0 : (1 ≤ a0)) (h1 : (a0 ≤ 0)) : False := by simp_all
theorem q_122 {a0 : Nat} (h0 : (a0 < 7)) : ((Int.toNat ((1 : Int) + ((a0 : Nat) : Int))) < 9) := Nat.lt_trans (Nat.add_lt_add_left h0 1) (by decide)
theorem q_123 {a0 : Nat} : ((0 : Int) ≤ ((1 : Int) + ((a0 : Nat) : Int))) := Int.natCast_nonneg _
theorem q_124 {a0 : Nat} (h0 : (a0 < 7)) : (((1 : Int) + ((a0 : Nat) : Int)) < ((2 : Int) ^ 63)) := Int.lt_trans (Int.add_lt_add_left (Int.ofNat_lt.mpr h0) 1) (by decide)
theorem q_125 {a0 : Nat} : ((Int.toNat ((1 : Int) + ((a0 : Nat) : Int))) = (1 + a0)) := Int.toNat_natCast _
theorem q_126 {a0 : Nat} : (1 ≤ (1 + a0)) := Nat.le_add_right _ _
theorem q_127 {a0 : Nat} (h0 : (a0 < 7)) : ((1 + a0) ≤ 7) := Nat.le_trans (Nat.le_of_eq (Nat.add_comm 1 a0)) h0
theorem q_128 {a0 : Nat} (h0 : ((1 : Int) < ((a0 : Nat) : Int))) : (2 ≤ a0) := Int.ofNat_lt.mp h0
theorem q_129 {a0 : Nat} {a1 : Nat} (h0 : (a0 ≤ (a1 + 1))) (h1 : (¬ (a0 = (1 + a1)))) : (a0 ≤ a1) := Nat.le_of_lt_succ (Nat.lt_of_le_of_ne h0 (fun e => h1 (e.trans (Nat.add_comm a1 1))))
theorem q_130 {a0 : Nat} (h0 : (2 ≤ a0)) (h1 : (¬ ((1 : Int) < ((a0 : Nat) : Int)))) : False := h1 (Int.ofNat_lt.mpr h0)
theorem q_131 {a0 : Nat} (h0 : ((1 ≤ a0) ∧ (a0 ≤ 7))) : (a0 ≤ 8) := Nat.le_succ_of_le h0.2
theorem q_132 {a0 : Nat} (h0 : (0 < a0)) : ((0 : Int) < ((a0 : Nat) : Int)) := Int.ofNat_lt.mpr h0
theorem q_133 {a0 : Nat} (h0 : (a0 = 9)) : (0 < a0) := by simp_all
theorem q_134 {a0 : Nat} (h0 : (a0 < 14)) : (((0 : Int) + ((a0 : Nat) : Int)) < ((2 : Int) ^ 63)) := Int.lt_trans (Int.add_lt_add_left (Int.ofNat_lt.mpr h0) 0) (by decide)
theorem q_135 {a0 : Int} {a1 : Nat} (h0 : (((0 : Int) ≤ a0) ∧ (a0 < ((a1 : Nat) : Int)))) (h1 : (a1 ≤ 7)) : (a0 < ((2 : Int) ^ 63)) := Int.lt_trans h0.2 (Int.lt_of_le_of_lt (Int.ofNat_le.mpr h1) (by decide))
theorem q_136 {a0 : Nat} : ((0 : Int) ≤ ((a0 : Nat) : Int)) := Int.natCast_nonneg _
theorem q_137 {a0 : Nat} (h0 : (a0 ≤ 7)) : (((a0 : Nat) : Int) < ((2 : Int) ^ 63)) := Int.lt_of_le_of_lt (Int.ofNat_le.mpr h0) (by decide)
theorem q_138 {a0 : Nat} {a1 : Nat} (h0 : (2 ≤ a1)) (h1 : (a1 = a0)) : (2 ≤ a0) := by subst h1; exact h0
theorem q_139 {a0 : Nat} (h0 : (a0 < 6)) : (((0 : Int) ≤ (((a0 : Nat) : Int) / (3 : Int))) ∧ ((((a0 : Nat) : Int) / (3 : Int)) ≤ (1 : Int))) := (by decide : ∀ a : Nat, a<6 → (0:Int) ≤ (a:Int)/3 ∧ (a:Int)/3 ≤ 1) a0 h0
theorem q_140 {a0 : Nat} {a1 : Int} (h0 : (((0 : Int) ≤ a1) ∧ (a1 ≤ (1 : Int)))) : ((0 : Int) ≤ (((a0 : Nat) : Int) + ((3 : Int) * a1))) := Int.add_nonneg (Int.natCast_nonneg _) (Int.mul_nonneg (by decide) h0.1)
theorem q_141 {a0 : Nat} {a1 : Int} (h0 : (((0 : Int) ≤ a1) ∧ (a1 ≤ (1 : Int)))) (h1 : (a0 < 6)) : ((((a0 : Nat) : Int) + ((3 : Int) * a1)) < ((2 : Int) ^ 63)) := Int.lt_of_le_of_lt (Int.add_le_add (Int.ofNat_le.mpr (Nat.le_of_lt h1)) (Int.mul_le_mul_of_nonneg_left h0.2 (by decide))) (by decide)
theorem q_142 {a0 : Nat} (h0 : (a0 < 64)) : ((Int.natAbs ((a0 : Nat) : Int)) < 1000000) := Nat.lt_of_lt_of_le h0 (by decide)
theorem q_143 {a0 : Nat} (h0 : ((1 ≤ a0) ∧ (a0 ≤ 4))) : (a0 ≤ 4) := by simp_all
theorem q_144 {a0 : Nat} (h0 : ((1 ≤ a0) ∧ (a0 ≤ 4))) : ((Int.natAbs ((a0 : Nat) : Int)) < 1000000) := Nat.lt_of_le_of_lt h0.2 (by decide)
theorem q_145 {a0 : Nat} (h0 : (a0 ≤ 7)) : ((Int.natAbs ((a0 : Nat) : Int)) < 1000000) := Nat.lt_of_le_of_lt h0 (by decide)
theorem q_146 {a0 : Nat} (h0 : (1 ≤ a0)) (h1 : (a0 ≤ 7)) : ((1 ≤ a0) ∧ (a0 ≤ 7)) := by simp_all
theorem q_147 {a0 : Nat} {a1 : Nat} (h0 : (a0 = a1)) (h1 : (a1 < 2)) : (a0 ≤ 16777216) := Nat.le_trans (Nat.le_of_eq h0) (Nat.le_trans (Nat.le_of_lt h1) (by decide))
theorem q_148 {a0 : Nat} {a1 : Nat} {a2 : Nat} (h0 : (((((((((((((((((((((((((a0 + 1) + 1) + 1) + 1) + 1) + 1) + 1) + 1) + 1) + 1) + 1) + 1) + 1) + 1) + 1) + 1) + 1) + 1) + 1) + 1) + 1) + 1) + 1) + 1) ≤ a2)) (h1 : ((((a2 + 1) + 1) + 1) < a1)) : (a0 < a1) := Nat.lt_of_le_of_lt (Nat.le_trans (Nat.le_add_right a0 24) h0) (Nat.lt_of_le_of_lt (Nat.le_add_right a2 3) h1)
theorem q_149 {a0 : Nat} {a1 : Nat} {a2 : Nat} {a3 : Nat} (h0 : (a0 < a2)) (h1 : (a2 < a3)) (h2 : (a3 < a1)) : (a0 < ((((((((a1 + 1) + 1) + 1) + 1) + 1) + 1) + 1) + 1)) := Nat.lt_of_lt_of_le (Nat.lt_trans h0 (Nat.lt_trans h1 h2)) (Nat.le_add_right a1 8)
theorem q_150 {a0 : Nat} {a1 : Nat} (h0 : (a0 < a1)) : (a0 < ((((((((a1 + 1) + 1) + 1) + 1) + 1) + 1) + 1) + 1)) := Nat.lt_of_lt_of_le h0 (Nat.le_add_right a1 8)
theorem q_151 {a0 : Nat} {a1 : Nat} (h0 : (0 < a0)) (h1 : (a0 = a1)) (h2 : (a1 < 2)) : (a0 = 1) := Nat.le_antisymm (Nat.le_trans (Nat.le_of_eq h1) (Nat.le_of_lt_succ h2)) h0
theorem q_152 {a0 : Nat} (h0 : (¬ (0 < a0))) : (a0 = 0) := by simp_all
theorem q_153 {a0 : Nat} {a1 : Nat} (h0 : (a0 < a1)) (h1 : (a1 = a0)) : False := by simp_all
theorem q_154 {a0 : Nat} (h0 : (a0 < 14)) : (((0 : Int) + ((a0 : Nat) : Int)) < (1000 : Int)) := Int.lt_trans (Int.add_lt_add_left (Int.ofNat_lt.mpr h0) 0) (by decide)
theorem q_155 {a0 : Nat} (h0 : (a0 ≤ 7)) : ((a0 - 1) < 9) := Nat.lt_of_le_of_lt (Nat.le_trans (Nat.sub_le _ _) h0) (by decide)
theorem q_156 {a0 : Nat} : ((Int.toNat (((a0 : Nat) : Int) - (1 : Int))) = (a0 - 1)) := by simp_all
theorem q_157 {a0 : Nat} : ((Int.toNat (((a0 : Nat) : Int) + (1 : Int))) = (a0 + 1)) := Int.toNat_natCast _
theorem q_158 {a0 : Nat} (h0 : (a0 ≤ 7)) : ((a0 + 1) < 9) := Nat.lt_of_le_of_lt (Nat.succ_le_succ h0) (by decide)
theorem q_159 {a0 : Nat} (h0 : (1 ≤ a0)) : ((0 : Int) ≤ (((a0 : Nat) : Int) - (1 : Int))) := Int.sub_nonneg_of_le (Int.ofNat_le.mpr h0)
theorem q_160 {a0 : Nat} (h0 : (a0 ≤ 7)) : ((((a0 : Nat) : Int) - (1 : Int)) < ((2 : Int) ^ 63)) := Int.lt_of_le_of_lt (Int.sub_le_self _ (by decide)) (Int.lt_of_le_of_lt (Int.ofNat_le.mpr h0) (by decide))
theorem q_161 {a0 : Nat} (h0 : (1 ≤ a0)) : ((a0 - 1) ≠ a0) := Nat.ne_of_lt (Nat.sub_lt h0 Nat.one_pos)
theorem q_162 {a0 : Nat} : ((0 : Int) ≤ (((a0 : Nat) : Int) + (1 : Int))) := Int.natCast_nonneg _
theorem q_163 {a0 : Nat} (h0 : (a0 ≤ 7)) : ((((a0 : Nat) : Int) + (1 : Int)) < ((2 : Int) ^ 63)) := Int.lt_of_le_of_lt (Int.add_le_add_right (Int.ofNat_le.mpr h0) 1) (by decide)
theorem q_164 {a0 : Nat} : (¬ ((a0 + 1) = (a0 - 1))) := Nat.ne_of_gt (Nat.lt_succ_of_le (Nat.sub_le a0 1))
theorem q_165 {a0 : Nat} : ((a0 + 1) ≠ a0) := by simp +arith
theorem q_166 {a0 : Nat} (h0 : ((1 ≤ a0) ∧ (a0 ≤ 4))) : (a0 = ((a0 - 1) + 1)) := by simp_all
theorem q_167 {a0 : Nat} (h0 : ((1 ≤ a0) ∧ (a0 ≤ 7))) : (a0 = ((a0 - 1) + 1)) := by simp_all
theorem q_168 {a0 : Nat} (h0 : ((1 ≤ (a0 + 1)) ∧ ((a0 + 1) ≤ 4))) : (a0 < 4) := h0.2
theorem q_169 {a0 : Nat} (h0 : ((1 ≤ (a0 + 1)) ∧ ((a0 + 1) ≤ 7))) : (a0 < 7) := h0.2
theorem q_170 {a0 : Nat} {a1 : Nat} (h0 : (a0 < 9)) (h1 : (a1 = 9)) : (a0 < a1) := Nat.lt_of_lt_of_eq h0 h1.symm
theorem q_171 {a0 : Nat} (h0 : (a0 ≤ 1000)) : (((a0 : Nat) : Int) < ((2 : Int) ^ 63)) := Int.lt_of_le_of_lt (Int.ofNat_le.mpr h0) (by decide)
theorem q_172 {a0 : Nat} (h0 : (a0 < 9)) : ((a0 - 3) < 6) := (by decide : ∀ a, a < 9 → a - 3 < 6) a0 h0
theorem q_173 {a0 : Int} (h0 : ((0 : Int) ≤ a0)) (h1 : (a0 < (1000000 : Int))) : (((0 : Int) ≤ (a0 / (5 : Int))) ∧ ((a0 / (5 : Int)) < (1000000 : Int))) := ⟨Int.ediv_nonneg h0 (by decide), Int.lt_of_le_of_lt (Int.ediv_le_self _ h0) h1⟩
theorem q_174 {a0 : Nat} (h0 : (((a0 : Nat) : Int) = (-(1 : Int)))) : False := by simp_all
theorem q_175 {a0 : Nat} (h0 : (a0 ≤ 4)) : (¬ (((a0 : Nat) : Int) ≥ ((2 : Int) ^ 63))) := Int.not_le.mpr (Int.lt_of_le_of_lt (Int.ofNat_le.mpr h0) (by decide))
theorem q_176 {a0 : Nat} {a1 : Nat} (h0 : (a1 ≠ a0)) (h1 : (¬ (a1 < a0))) : (a0 < a1) := Nat.lt_of_le_of_ne (Nat.le_of_not_lt h1) h0.symm
theorem q_177 {a0 : Nat} {a1 : Nat} (h0 : (0 < a0)) (h1 : (0 < a1)) (h2 : (a0 ≤ 1)) (h3 : (a1 ≤ 1)) : (a0 = a1) := (Nat.le_antisymm h2 h0).trans (Nat.le_antisymm h3 h1).symm
theorem q_178 {a0 : Nat} {a1 : Nat} (h0 : (¬ (0 < a0))) (h1 : (¬ (0 < a1))) : (a0 = a1) := (Nat.eq_zero_of_not_pos h0).trans (Nat.eq_zero_of_not_pos h1).symm
theorem q_179 {a0 : Nat} {a1 : Nat} {a2 : Nat} (h0 : (a0 = (a1 + 1))) (h1 : ((a2 < 6) ∧ (a1 = a0))) : False := by simp_all
theorem q_180 {a0 : Nat} {a1 : Nat} {a2 : Nat} {a3 : Nat} {a4 : Nat} (h0 : ((a4 - 1) = a2)) (h1 : (a2 = (a4 + 1))) : (((a0 < 6) ∧ (a1 = a2)) ∨ (a0 = a3)) := absurd (h0.trans h1) (Nat.ne_of_lt (Nat.lt_succ_of_le (Nat.sub_le a4 1)))
theorem q_181 {a0 : Nat} {a1 : Nat} {a2 : Nat} (h0 : (a0 = (a1 + 1))) (h1 : (a2 = a0)) (h2 : (a2 = a1)) : False := by simp_all
theorem q_182 {a0 : Nat} {a1 : Nat} (h0 : (a0 = (a1 + 1))) : (a0 ≠ a1) := by simp_all
theorem q_183 {a0 : Nat} {a1 : Nat} {a2 : Nat} (h0 : (1 ≤ a0)) (h1 : (a1 = (a0 - 1))) (h2 : ((a2 < 6) ∧ (a0 = a1))) : False := absurd (h2.2.trans h1) (Nat.ne_of_gt (Nat.sub_lt h0 Nat.one_pos))
theorem q_184 {a0 : Nat} {a1 : Nat} {a2 : Nat} {a3 : Nat} {a4 : Nat} (h0 : ((a4 + 1) = a2)) (h1 : (a2 = (a4 - 1))) : (((a0 < 6) ∧ (a1 = a2)) ∨ (a0 = a3)) := absurd (h0.trans h1) (Nat.ne_of_gt (Nat.lt_succ_of_le (Nat.sub_le a4 1)))
theorem q_185 {a0 : Nat} {a1 : Nat} {a2 : Nat} (h0 : (1 ≤ a0)) (h1 : (a1 = (a0 - 1))) (h2 : (a2 = a0)) (h3 : (a2 = a1)) : False := absurd (h2.symm.trans (h3.trans h1)) (Nat.ne_of_gt (Nat.sub_lt h0 Nat.one_pos))
theorem q_186 {a0 : Nat} {a1 : Nat} (h0 : (1 ≤ a1)) (h1 : (a0 = (a1 - 1))) : (a0 ≠ a1) := fun e => absurd (h1.symm.trans e) (Nat.ne_of_lt (Nat.sub_lt h0 Nat.one_pos))
theorem q_187 {a0 : Nat} (h0 : ((a0 + 1) = a0)) : False := by simp_all
theorem q_188 {a0 : Nat} (h0 : ((a0 - 1) = a0)) (h1 : (1 ≤ a0)) : False := Nat.ne_of_lt (Nat.sub_lt h1 Nat.one_pos) h0
theorem q_189 {a0 : Nat} {a1 : Nat} {a2 : Nat} (h0 : (a0 = a1)) (h1 : (a0 = a2)) (h2 : (¬ (a1 = a2))) : False := by simp_all
theorem q_190 {a0 : Nat} {a1 : Nat} {a2 : Nat} {a3 : Nat} (h0 : ((a3 + 1) = a2)) (h1 : (¬ (a2 = (a3 + 1)))) : ((a0 < 6) ∧ (a1 = a2)) := by simp_all
theorem q_191 {a0 : Nat} {a1 : Nat} {a2 : Nat} {a3 : Nat} (h0 : ((a3 - 1) = a2)) (h1 : (¬ (a2 = (a3 - 1)))) : ((a0 < 6) ∧ (a1 = a2)) := by simp_all
theorem q_192 {a0 : Nat} {a1 : Nat} {a2 : Nat} (h0 : (a0 ≤ (2 * a1))) (h1 : (a1 ≤ (2 * a2))) (h2 : (a2 ≤ 3000)) : (a0 ≤ 20000) := Nat.le_trans h0 (Nat.le_trans (Nat.mul_le_mul_left 2 (Nat.le_trans h1 (Nat.mul_le_mul_left 2 h2))) (by decide))
theorem q_193 {a0 : Int} (h0 : (((0 : Int) ≤ a0) ∧ (a0 < (3 : Int)))) : ((a0 = (0 : Int)) ∨ ((a0 = (1 : Int)) ∨ (a0 = (2 : Int)))) := by obtain ⟨n, rfl⟩ := Int.eq_ofNat_of_zero_le h0.1; exact (by decide : ∀ n : Nat, n < 3 → ((n : Int) = 0 ∨ (n : Int) = 1 ∨ (n : Int) = 2)) n (Int.ofNat_lt.mp h0.2)
theorem q_194 {a0 : Nat} {a1 : Nat} (h0 : (a0 < (a1 + 1))) : (a0 ≤ a1) := Nat.le_of_lt_succ h0
theorem q_195 {a0 : Nat} {a1 : Nat} {a2 : Nat} : (a0 ≤ ((a0 + a1) + a2)) := by simp +arith
theorem q_196 {a0 : Nat} {a1 : Nat} (h0 : (a0 ≤ (a1 + 1))) (h1 : (a0 ≥ (a1 + 1))) : (a0 = (a1 + 1)) := Nat.le_antisymm h0 h1
theorem q_197 {a0 : Nat} {a1 : Nat} : (a0 ≤ (a1 + a0)) := Nat.le_add_left _ _
theorem q_198 {a0 : Nat} {a1 : Nat} {a2 : Nat} {a3 : Nat} (h0 : (a0 ≤ a3)) (h1 : (a1 ≤ (a2 * a3))) : ((a0 + a1) ≤ ((a2 * a3) + a3)) := Nat.le_trans (Nat.add_le_add h0 h1) (Nat.le_of_eq (Nat.add_comm _ _))
theorem q_199 {a0 : Nat} {a1 : Nat} (h0 : (a0 = 1)) : ((a0 + a1) ≤ (a1 + 1)) := Nat.le_of_eq ((congrArg (· + a1) h0).trans (Nat.add_comm 1 a1))
theorem q_200 {a0 : Nat} : (a0 ≤ (a0 + 1)) := Nat.le_succ _
theorem q_201 {a0 : Nat} (h0 : (a0 < 9)) : (a0 ≤ 8) := Nat.le_of_lt_succ h0
theorem q_202 {a0 : Nat} {a1 : Nat} {a2 : Nat} {a3 : Nat} {a4 : Nat} (h0 : (a0 ≤ (a1 + 1))) (h1 : (a1 = a2)) (h2 : (a2 ≤ a3)) (h3 : (a3 ≤ a4)) (h4 : (a4 ≤ 3000)) : (a0 ≤ 3001) := Nat.le_trans h0 (Nat.succ_le_succ (Nat.le_trans (Nat.le_of_eq h1) (Nat.le_trans h2 (Nat.le_trans h3 h4))))
theorem q_203 {a0 : Nat} (h0 : (a0 ≤ (9 * 3001))) : ((a0 + (9 * 2)) ≤ 16777216) := Nat.le_trans (Nat.add_le_add_right h0 (9*2)) (by decide)
theorem q_204 {a0 : Nat} (h0 : (a0 < 8)) : ((a0 + 1) < 9) := Nat.succ_lt_succ h0
theorem q_205 {a0 : Nat} : ((Int.toNat ((1 : Int) + ((a0 : Nat) : Int))) = (a0 + 1)) := Nat.add_comm _ _
theorem q_206 {a0 : Nat} (h0 : (a0 < 8)) : ((a0 + 1) ≤ 8) := h0
theorem q_207 {a0 : Int} (h0 : (a0 = (0 : Int))) : ((0 : Int) ≤ a0) := by simp_all
theorem q_208 {a0 : Int} (h0 : (a0 = (0 : Int))) : (a0 < ((2 : Int) ^ 63)) := by simp_all
theorem q_209 {a0 : Nat} {a1 : Nat} (h0 : (a0 ≤ 3000)) (h1 : (a1 = 1)) : ((a0 + a1) ≤ 16777216) := Nat.le_trans (Nat.add_le_add h0 (Nat.le_of_eq h1)) (by decide)
theorem q_210 {a0 : Nat} (h0 : (a0 < 8)) : (((1 : Int) + ((a0 : Nat) : Int)) < ((2 : Int) ^ 63)) := Int.lt_trans (Int.add_lt_add_left (Int.ofNat_lt.mpr h0) 1) (by decide)
theorem q_211 {a0 : Nat} {a1 : Nat} {a2 : Nat} {a3 : Nat} (h0 : (a1 ≤ 3000)) (h1 : (a2 = 1)) (h2 : (((a3 + a2) ≤ a0) ∧ (a0 ≤ (a3 + a2)))) (h3 : (a3 ≤ 3000)) : ((a0 + a1) ≤ 16777216) := Nat.le_trans (Nat.add_le_add (Nat.le_trans h2.2 (Nat.add_le_add h3 (Nat.le_of_eq h1))) h0) (by decide)
theorem q_212 {a0 : Int} (h0 : (a0 = (1 : Int))) : ((0 : Int) ≤ a0) := by simp_all
theorem q_213 {a0 : Int} (h0 : (a0 = (1 : Int))) : (a0 < ((2 : Int) ^ 63)) := by simp_all
theorem q_214 {a0 : Int} (h0 : (a0 = (2 : Int))) : ((0 : Int) ≤ a0) := by simp_all
theorem q_215 {a0 : Int} (h0 : (a0 = (2 : Int))) : (a0 < ((2 : Int) ^ 63)) := by simp_all
theorem q_216 {a0 : Nat} {a1 : Nat} (h0 : (a0 ≤ 3000)) (h1 : (a1 = 2)) : ((a0 + a1) ≤ 16777216) := Nat.le_trans (Nat.add_le_add h0 (Nat.le_of_eq h1)) (by decide)
theorem q_217 {a0 : Nat} {a1 : Nat} {a2 : Nat} {a3 : Nat} (h0 : (a1 ≤ 3000)) (h1 : (a2 = 2)) (h2 : (((a3 + a2) ≤ a0) ∧ (a0 ≤ (a3 + a2)))) (h3 : (a3 ≤ 3000)) : ((a0 + a1) ≤ 16777216) := Nat.le_trans (Nat.add_le_add (Nat.le_trans h2.2 (Nat.add_le_add h3 (Nat.le_of_eq h1))) h0) (by decide)
theorem q_218 {a0 : Nat} {a1 : Nat} (h0 : (a0 = 1)) (h1 : (a1 ≤ 3000)) : ((a0 + a1) ≤ 16777216) := Nat.le_trans (Nat.add_le_add (Nat.le_of_eq h0) h1) (by decide)
theorem q_219 {a0 : Nat} (h0 : (a0 ≤ 20000)) : ((a0 + 2) ≤ 16777216) := Nat.le_trans (Nat.add_le_add_right h0 2) (by decide)
theorem q_220 {a0 : Nat} {a1 : Nat} (h0 : (a0 = a1)) (h1 : (a1 < 9)) : (a0 ≤ 9) := Nat.le_trans (Nat.le_of_eq h0) (Nat.le_of_lt h1)
theorem q_221 {a0 : Nat} {a1 : Nat} (h0 : ((min 2 (a1 - a0)) = ((0 + 1) + 1))) : ((a0 + 2) ≤ a1) := by have k : 2 ≤ a1 - a0 := Nat.le_trans (Nat.le_of_eq h0.symm) (Nat.min_le_right _ _); exact Nat.le_trans (Nat.le_of_eq (Nat.add_comm a0 2)) (Nat.add_le_of_le_sub (Nat.le_of_lt (Nat.lt_of_sub_pos (Nat.lt_of_lt_of_le Nat.two_pos k))) k)
theorem q_222 {a0 : Nat} {a1 : Nat} (h0 : (a1 ≤ a0)) : (a0 = (a1 + (a0 - a1))) := by simp_all
theorem q_223 {a0 : Nat} {a1 : Nat} {a2 : Nat} (h0 : (a0 < (a1 + a2))) (h1 : (a1 ≤ a0)) : ((a0 - a1) < a2) := Nat.sub_lt_left_of_lt_add h1 h0
theorem q_224 {a0 : Nat} {a1 : Nat} {a2 : Nat} {a3 : Nat} (h0 : ((a3 - a1) = a2)) (h1 : (a0 < a3)) : (a0 < (a1 + a2)) := by subst h0; exact Nat.lt_of_lt_of_le h1 (Nat.sub_le_iff_le_add'.mp (Nat.le_refl _))
theorem q_225 {a0 : Nat} {a1 : Nat} {a2 : Nat} (h0 : ((a1 - a2) = a0)) : (a0 ≤ (a1 - a2)) := Nat.le_of_eq h0.symm
theorem q_226 {a0 : Nat} {a1 : Nat} {a2 : Nat} (h0 : (a0 = a1)) : (a0 ≤ (a1 + a2)) := by simp_all
theorem q_227 {a0 : Nat} {a1 : Nat} : (a0 ≤ (a0 + a1)) := Nat.le_add_right _ _
theorem q_228 {a0 : Nat} {a1 : Nat} : (2 ≤ (a0 + (2 + a1))) := by simp +arith
theorem q_229 {a0 : Nat} {a1 : Nat} {a2 : Nat} (h0 : (2 ≤ a0)) (h1 : (a2 ≤ a1)) : (¬ ((a0 < 2) ∨ (a1 < a2))) := by simp_all
theorem q_230 {a0 : Int} : ((((a0 % (3 : Int)) = (0 : Int)) ∧ (((a0 + (1 : Int)) % (3 : Int)) = (1 : Int))) ∨ ((((a0 % (3 : Int)) = (1 : Int)) ∧ (((a0 + (1 : Int)) % (3 : Int)) = (2 : Int))) ∨ (((a0 % (3 : Int)) = (2 : Int)) ∧ (((a0 + (1 : Int)) % (3 : Int)) = (0 : Int))))) := by obtain ⟨n, e⟩ := Int.eq_ofNat_of_zero_le (Int.emod_nonneg a0 (by decide : (3:Int) ≠ 0)); have hl := Int.emod_lt_of_pos a0 (by decide : (0:Int) < 3); have this := (by decide : ∀ n : Nat, n < 3 → ((((n : Int) = 0) ∧ ((((n : Int) + 1) % 3) = 1)) ∨ ((((n : Int) = 1) ∧ ((((n:Int) + 1) % 3) = 2)) ∨ (((n : Int) = 2) ∧ ((((n : Int) + 1) % 3) = 0))))) n (Int.ofNat_lt.mp (e ▸ hl)); rw [← e, Int.emod_add_emod] at this; exact this
theorem q_231 {a0 : Int} {a1 : Nat} : (((a0 + ((a1 : Nat) : Int)) + (1 : Int)) = (a0 + ((1 : Int) + ((a1 : Nat) : Int)))) := by simp +arith
theorem q_232 {a0 : Int} {a1 : Nat} : ((a0 + (((a1 + 1) : Nat) : Int)) = (a0 + ((1 : Int) + ((a1 : Nat) : Int)))) := by simp +arith
theorem q_233 {a0 : Int} (h0 : (a0 = (1 : Int))) : (¬ (a0 = (0 : Int))) := fun e => absurd (e.symm.trans h0) (by decide)
theorem q_234 {a0 : Int} (h0 : (a0 = (2 : Int))) : (¬ (a0 = (0 : Int))) := fun e => absurd (e.symm.trans h0) (by decide)
theorem q_235 {a0 : Int} (h0 : (a0 = (2 : Int))) : (¬ (a0 = (1 : Int))) := fun e => absurd (e.symm.trans h0) (by decide)
theorem q_236 {a0 : Nat} {a1 : Nat} {a2 : Nat} {a3 : Nat} (h0 : (a0 ≤ (9 + (11 * a3)))) (h1 : (a1 ≤ 2)) (h2 : (a2 ≤ 9)) : (((a0 + a1) + a2) ≤ (9 + (11 * (a3 + 1)))) := Nat.le_trans (Nat.add_le_add (Nat.add_le_add h0 h1) h2) (Nat.le_of_eq (congrArg (9 + ·) (Nat.mul_succ 11 a3).symm))
theorem q_237 {a0 : Nat} (h0 : (0 < a0)) (h1 : (a0 = 0)) : False := by simp_all
theorem q_238 {a0 : Nat} (h0 : ((a0 + 4) ≤ (4 * 0))) : False := by simp_all
theorem q_239 {a0 : Nat} (h0 : (a0 ≤ 4)) : (4 = (a0 + (4 - a0))) := by simp_all
theorem q_240 {a0 : Nat} (h0 : (4 ≤ a0)) : (a0 = (4 + (a0 - 4))) := by simp_all
theorem q_241 {a0 : Nat} (h0 : (4 ≥ a0)) : (4 = (a0 + (4 - a0))) := by simp_all
theorem q_242 {a0 : Nat} (h0 : (4 < a0)) : (a0 = (4 + (a0 - 4))) := (Nat.add_sub_cancel' (Nat.le_of_lt h0)).symm
theorem q_243 {a0 : Nat} {a1 : Nat} (h0 : ((a0 + 4) ≤ (4 * (a1 + 1)))) (h1 : (4 < a0)) : (((a0 - 4) + 4) ≤ (4 * a1)) := Nat.le_trans (Nat.le_of_eq (Nat.sub_add_cancel (Nat.le_of_lt h1))) (Nat.le_of_add_le_add_right (show a0 + 4 ≤ 4 * a1 + 4 from h0))
theorem q_244 {a0 : Nat} (h0 : (a0 ≤ 4000000)) : ((a0 + 4) ≤ (4 * (2 ^ 64))) := Nat.le_trans (Nat.add_le_add_right h0 4) (by decide)
theorem q_245 {a0 : Nat} {a1 : Nat} (h0 : (a0 < a1)) : (¬ (a0 ≥ a1)) := by simp_all
theorem q_246 {a0 : Nat} {a1 : Nat} (h0 : (¬ (a0 < a1))) : (a0 ≥ a1) := Nat.le_of_not_lt h0
theorem q_247 {a0 : Nat} : (¬ (a0 < 0)) := by simp +arith
theorem q_248 {a0 : Nat} {a1 : Nat} (h0 : ((a1 - a0) = 0)) (h1 : (a0 ≤ a1)) : (a0 = a1) := Nat.le_antisymm h1 (Nat.le_of_sub_eq_zero h0)
theorem q_249 {a0 : Nat} : (3 ≤ ((3 * a0) + 10)) := Nat.le_add_left _ _
theorem q_250 {a0 : Nat} : (4 ≤ ((3 * a0) + 10)) := Nat.le_add_left _ _
theorem q_251 {a0 : Nat} {a1 : Nat} {a2 : Nat} (h0 : ((a1 - a0) = (a2 + 1))) : (a0 < a1) := Nat.lt_of_sub_pos (Nat.lt_of_lt_of_eq (Nat.succ_pos a2) h0.symm)
theorem q_252 {a0 : Nat} : (5 ≤ ((3 * a0) + 10)) := Nat.le_add_left _ _
theorem q_253 {a0 : Nat} {a1 : Nat} (h0 : (a0 < a1)) : ((a0 + 1) ≤ a1) := h0
theorem q_254 {a0 : Nat} {a1 : Nat} {a2 : Nat} (h0 : (a0 ≤ 3)) (h1 : (a1 ≤ ((3 * a2) + 10))) : ((a0 + a1) ≤ ((3 * (a2 + 1)) + 10)) := Nat.le_trans (Nat.add_le_add h0 h1) (Nat.le_of_eq ((Nat.add_assoc 3 (3*a2) 10).symm.trans (congrArg (· + 10) (Nat.add_comm 3 (3*a2)))))
theorem q_255 {a0 : Nat} {a1 : Nat} : ((((a0 + 1) + a1) + 1) = ((a0 + (a1 + 1)) + 1)) := by simp +arith
theorem q_256 {a0 : Nat} {a1 : Nat} (h0 : (((a0 + 1) + a1) ≤ 16777216)) : (¬ (((a0 + 1) + a1) > 16777216)) := Nat.not_lt_of_le h0
theorem q_257 {a0 : Nat} : (a0 < (a0 + 2)) := Nat.le_succ _
theorem q_258 {a0 : Nat} : (a0 < (a0 + 1)) := Nat.lt_succ_self _
theorem q_259 {a0 : Nat} {a1 : Nat} (h0 : (a0 ≤ a1)) (h1 : (¬ (a0 = a1))) : ((a0 ≤ a1) ∧ (¬ ((a1 - a0) = 0))) := ⟨h0, fun e => h1 (Nat.le_antisymm h0 (Nat.le_of_sub_eq_zero e))⟩
theorem q_260 {a0 : Nat} {a1 : Nat} (h0 : (a0 ≤ 100000)) : ((a0 - a1) ≤ 100000) := Nat.le_trans (Nat.sub_le _ _) h0
theorem q_261 {a0 : Nat} {a1 : Nat} (h0 : (a0 ≤ ((3 * a1) + 10))) (h1 : (a1 ≤ 100000)) : (a0 ≤ 4000000) := Nat.le_trans h0 (Nat.le_trans (Nat.add_le_add_right (Nat.mul_le_mul_left 3 h1) 10) (by decide))
theorem q_262 {a0 : Nat} {a1 : Nat} (h0 : (a0 < (0 + a1))) (h1 : (a1 ≤ a0)) : False := Nat.not_lt_of_le h1 (Nat.lt_of_lt_of_eq h0 (Nat.zero_add a1))
theorem q_263 {a0 : Nat} {a1 : Nat} {a2 : Nat} (h0 : (a0 = a2)) (h1 : (a1 = a2)) : (a0 ≥ a1) := by simp_all
theorem q_264 {a0 : Nat} {a1 : Nat} (h0 : (a1 = a0)) : (a0 ≤ a1) := Nat.le_of_eq h0.symm
theorem q_265 {a0 : Nat} {a1 : Nat} {a2 : Nat} (h0 : (a0 ≤ a2)) (h1 : (a1 = a2)) (h2 : (¬ (a0 = a2))) : (¬ (a0 ≥ a1)) := fun e => h2 (Nat.le_antisymm h0 (h1 ▸ e))
theorem q_266 {a0 : Nat} {a1 : Nat} (h0 : (a0 ≤ a1)) (h1 : (¬ (a0 = a1))) : (a0 < a1) := Nat.lt_of_le_of_ne h0 h1
theorem q_267 {a0 : Nat} {a1 : Nat} {a2 : Nat} (h0 : (a0 < ((a1 + 1) + a2))) : (a0 < (a1 + (a2 + 1))) := Nat.lt_of_lt_of_eq h0 (Nat.succ_add a1 a2)
theorem q_268 {a0 : Nat} {a1 : Nat} : (a0 < (((a0 + 1) - a1) + a1)) := Nat.lt_of_lt_of_le (Nat.lt_succ_self a0) (Nat.sub_le_iff_le_add.mp (Nat.le_refl _))
theorem q_269 {a0 : Nat} {a1 : Nat} {a2 : Nat} (h0 : (a1 < (a2 - a0))) : ((a0 + a1) < a2) := Nat.add_lt_of_lt_sub' h0
theorem q_270 {a0 : Nat} {a1 : Nat} {a2 : Nat} {a3 : Nat} (h0 : ((((a0 + a1) + 1) < a2) ∧ (a3 = 10))) : ((a0 + a1) < a2) := Nat.lt_of_succ_lt h0.1
theorem q_271 {a0 : Nat} {a1 : Nat} {a2 : Nat} {a3 : Nat} {a4 : Nat} : (((((a0 + a1) + a2) + a3) + (a4 * a2)) = ((a0 + (a1 + a3)) + ((a4 * a2) + a2))) := by simp +arith
theorem q_272 {a0 : Nat} {a1 : Nat} {a2 : Nat} : (((0 + a0) + (a1 * a2)) = (a0 + (a1 * a2))) := by simp +arith
theorem q_273 {a0 : Nat} {a1 : Nat} {a2 : Nat} {a3 : Nat} (h0 : ((a0 + (a1 * a2)) ≤ a3)) : (¬ ((a0 + (a1 * a2)) > a3)) := Nat.not_lt_of_le h0
theorem q_274 {a0 : Nat} {a1 : Nat} {a2 : Nat} (h0 : (a1 ≤ 10000)) : (¬ (((min a0 a1) - a2) > 16777216)) := Nat.not_lt_of_le (Nat.le_trans (Nat.sub_le _ _) (Nat.le_trans (Nat.min_le_right _ _) (Nat.le_trans h0 (by decide))))
theorem q_275 {a0 : Nat} (h0 : (a0 ≤ 1000000)) : ((a0 + 1) ≤ (16777216 + 1)) := Nat.lt_of_le_of_lt h0 (by decide)
theorem q_276 {a0 : Nat} {a1 : Nat} (h0 : (a0 ≤ 1000000)) : ((a0 + (a1 * 0)) ≤ 16777216) := Nat.le_trans h0 (by decide)
theorem q_277 {a0 : Nat} {a1 : Nat} {a2 : Nat} (h0 : ((a0 + a2) = a1)) : (a0 ≤ a1) := Nat.le_trans (Nat.le_add_right a0 a2) (Nat.le_of_eq h0)
theorem q_278 {a0 : Nat} {a1 : Nat} {a2 : Nat} {a3 : Nat} (h0 : (a0 ≤ (2 * a1))) (h1 : (a2 ≤ 10000)) (h2 : ((a1 + a3) = a2)) : (a0 ≤ 1000000) := Nat.le_trans h0 (Nat.le_trans (Nat.mul_le_mul_left 2 (Nat.le_trans (Nat.le_add_right a1 a3) (Nat.le_trans (Nat.le_of_eq h2) h1))) (by decide))
theorem q_279 {a0 : Nat} {a1 : Nat} : ((a0 - a1) ≤ (a0 - a1)) := Nat.le_refl _
theorem q_280 {a0 : Nat} {a1 : Nat} {a2 : Nat} {a3 : Nat} (h0 : (a0 ≤ (3 * a2))) (h1 : (a1 ≤ 10000)) (h2 : ((a2 + a3) = a1)) : ((a0 + (a1 - a2)) ≤ 1000000) := Nat.le_trans (Nat.add_le_add (Nat.le_trans h0 (Nat.mul_le_mul_left 3 (Nat.le_trans (Nat.le_trans (Nat.le_add_right a2 a3) (Nat.le_of_eq h2)) h1))) (Nat.le_trans (Nat.sub_le _ _) h1)) (by decide)
theorem q_281 {a0 : Nat} {a1 : Nat} {a2 : Nat} (h0 : (0 < a2)) : (¬ (((a0 + a1) + a2) = (a0 + a1))) := Nat.ne_of_gt (Nat.lt_add_of_pos_right h0)
theorem q_282 {a0 : Nat} {a1 : Nat} {a2 : Nat} {a3 : Nat} (h0 : (a0 ≤ ((2 * a1) + 1))) (h1 : (a2 ≤ 10000)) (h2 : ((a1 + a3) = a2)) : (a0 ≤ 1000000) := Nat.le_trans h0 (Nat.le_trans (Nat.succ_le_succ (Nat.mul_le_mul_left 2 (Nat.le_trans (Nat.le_add_right a1 a3) (Nat.le_trans (Nat.le_of_eq h2) h1)))) (by decide))
theorem q_283 {a0 : Nat} {a1 : Nat} {a2 : Nat} {a3 : Nat} (h0 : (a0 ≤ (3 * a3))) : ((a0 + (min a1 a2)) ≤ ((3 * a3) + a1)) := Nat.add_le_add h0 (Nat.min_le_left _ _)
theorem q_284 {a0 : Nat} {a1 : Nat} {a2 : Nat} {a3 : Nat} {a4 : Nat} {a5 : Nat} (h0 : ((a3 + a2) = a0)) (h1 : (0 < a4)) (h2 : (((a3 + a5) + a4) ≤ a0)) (h3 : (a1 = ((a3 + a5) + a4))) : ((a0 - a1) < a2) := by subst h0; subst h3; exact Nat.sub_lt_right_of_lt_add h2 (Nat.lt_of_le_of_lt (Nat.le_of_eq (Nat.add_comm a3 a2)) (Nat.add_lt_add_left (Nat.lt_of_lt_of_le (Nat.lt_add_of_pos_right h1) (Nat.add_le_add_right (Nat.le_add_right _ _) _)) a2))
theorem q_285 {a0 : Nat} {a1 : Nat} {a2 : Nat} {a3 : Nat} {a4 : Nat} (h0 : (((a2 + a3) + a4) ≤ a1)) (h1 : (a0 = ((a2 + a3) + a4))) : ((a0 + (a1 - a0)) = a1) := Nat.add_sub_cancel' (h1 ▸ h0)
theorem q_286 {a0 : Nat} {a1 : Nat} {a2 : Nat} {a3 : Nat} {a4 : Nat} (h0 : (0 < a2)) (h1 : (a0 ≤ ((2 * a3) + 1))) (h2 : (a1 = ((a3 + a4) + a2))) : ((a0 + 1) ≤ (2 * a1)) := by subst h2; exact Nat.le_trans (Nat.succ_le_succ h1) (Nat.le_trans (show 2 * a3 + 2 ≤ 2 * (a3 + a2) from Nat.mul_le_mul_left 2 (Nat.add_le_add_left h0 a3)) (Nat.mul_le_mul_left 2 (Nat.add_le_add_right (Nat.le_add_right a3 a4) a2)))
theorem q_287 {a0 : Nat} {a1 : Nat} {a2 : Nat} {a3 : Nat} {a4 : Nat} (h0 : (0 < a2)) (h1 : (a0 ≤ ((3 * a3) + a4))) (h2 : (a1 = ((a3 + a4) + a2))) : ((a0 + 2) ≤ (3 * a1)) := by subst h2; exact Nat.le_trans (Nat.add_le_add h1 (Nat.le_refl 2)) (by rw [Nat.mul_add, Nat.mul_add, Nat.add_assoc, Nat.add_assoc]; exact Nat.add_le_add_left (Nat.add_le_add (Nat.le_mul_of_pos_left a4 (by decide)) (Nat.le_trans (by decide : 2 ≤ 3 * 1) (Nat.mul_le_mul_left 3 h0))) _)
theorem q_288 {a0 : Nat} {a1 : Nat} {a2 : Nat} (h0 : (a1 = (a0 + a2))) : (a0 ≤ a1) := by simp_all
theorem q_289 {a0 : Nat} {a1 : Nat} (h0 : (a0 ≤ (2 * a1))) : ((a0 + 1) ≤ ((2 * a1) + 1)) := by simp_all
theorem q_290 {a0 : Nat} {a1 : Nat} (h0 : (a0 ≤ (2 * a1))) : (a0 ≤ ((2 * a1) + 1)) := Nat.le_succ_of_le h0
theorem q_291 {a0 : Nat} {a1 : Nat} {a2 : Nat} (h0 : (a1 = (a2 + a0))) (h1 : (¬ (a2 < a1))) : (a0 = 0) := Nat.eq_zero_of_not_pos (fun p => h1 (h0 ▸ Nat.lt_add_of_pos_right p))
theorem q_292 {a0 : Nat} : ((0 + a0) = a0) := Nat.zero_add _
theorem q_293 {a0 : Nat} {a1 : Nat} {a2 : Nat} {a3 : Nat} (h0 : ((a0 < 1000) ∧ (a1 < 1000))) (h1 : (a2 ≤ (2000 * a3))) : (((a0 + a1) + a2) ≤ (2000 * (a3 + 1))) := Nat.le_trans (Nat.add_le_add (Nat.add_le_add (Nat.le_of_lt h0.1) (Nat.le_of_lt h0.2)) h1) (Nat.le_of_eq (Nat.add_comm _ _))
theorem q_294 {a0 : Nat} {a1 : Nat} (h0 : ((a0 < 1000) ∧ (a1 < 1000))) : (((a0 + (a1 + 0)) + (2 * 0)) ≤ 16777216) := (show a0 + a1 ≤ 16777216 from Nat.le_trans (Nat.add_le_add (Nat.le_of_lt h0.1) (Nat.le_of_lt h0.2)) (by decide : 1000 + 1000 ≤ 16777216))
theorem q_295 {a0 : Nat} {a1 : Nat} (h0 : (a0 ≤ (2000 * a1))) (h1 : (a1 < 1000)) : ((a0 + 0) ≤ 16777216) := Nat.le_trans h0 (Nat.le_trans (Nat.mul_le_mul_left 2000 (Nat.le_of_lt h1)) (by decide))
theorem q_296 {a0 : Int} {a1 : Int} (h0 : ((0 : Int) ≤ a0)) (h1 : ((0 : Int) ≤ a1)) : ((0 : Int) ≤ ((a0 + (1 : Int)) + a1)) := Int.add_nonneg (Int.add_nonneg h0 (by decide)) h1
theorem q_297 {a0 : Int} {a1 : Int} (h0 : ((0 : Int) ≤ a1)) : (((a0 + (1 : Int)) + a1) ≠ a0) := Int.ne_of_gt (Int.lt_of_lt_of_le (Int.lt_succ a0) (Int.le_add_of_nonneg_right h0))
theorem q_298 {a0 : Int} {a1 : Int} {a2 : Int} : (((a0 + (1 : Int)) + a1) = ((((a0 + (1 : Int)) + a1) - a2) + a2)) := by simp_all
theorem q_299 {a0 : Int} {a1 : Int} {a2 : Int} (h0 : (¬ (((a0 + (1 : Int)) + a1) < a2))) : ((0 : Int) ≤ (((a0 + (1 : Int)) + a1) - a2)) := by simp_all
theorem q_300 {a0 : Int} {a1 : Int} {a2 : Int} (h0 : (a0 < a2)) (h1 : (a1 < (a2 - (1 : Int)))) : ((((a0 + (1 : Int)) + a1) - a2) < a2) := Int.sub_right_lt_of_lt_add (Int.add_lt_add_of_le_of_lt h0 (Int.lt_trans h1 (Int.sub_lt_self a2 (by decide))))
theorem q_301 {a0 : Int} {a1 : Int} {a2 : Int} (h0 : (a1 < (a2 - (1 : Int)))) : ((((a0 + (1 : Int)) + a1) - a2) ≠ a0) := Int.ne_of_lt (Int.sub_right_lt_of_lt_add (by rw [Int.add_assoc]; exact Int.add_lt_add_left (Int.add_lt_of_lt_sub_left h0) a0))
theorem q_302 {a0 : Nat} (h0 : (2 ≤ a0)) : (((a0 : Nat) : Int) ≠ (0 : Int)) := Int.ne_of_gt (Int.ofNat_lt.mpr (Nat.lt_of_lt_of_le Nat.two_pos h0))
theorem q_303 {a0 : Nat} (h0 : (2 ≤ a0)) : ((((a0 : Nat) : Int) - (1 : Int)) ≠ (0 : Int)) := Int.ne_of_gt (Int.sub_pos_of_lt (Int.ofNat_lt.mpr h0))
theorem q_304 {a0 : Nat} (h0 : (2 ≤ a0)) : ((0 : Int) < ((a0 : Nat) : Int)) := Int.ofNat_lt.mpr (Nat.lt_of_lt_of_le Nat.two_pos h0)
theorem q_305 {a0 : Nat} (h0 : (2 ≤ a0)) : ((0 : Int) < (((a0 : Nat) : Int) - (1 : Int))) := Int.sub_pos_of_lt (Int.ofNat_lt.mpr h0)
theorem q_306 {a0 : Nat} {a1 : Int} (h0 : (a0 ≤ 6)) : ((((a0 - (Int.toNat a1)) : Nat) : Int) < ((2 : Int) ^ 63)) := Int.lt_of_le_of_lt (Int.ofNat_le.mpr (Nat.le_trans (Nat.sub_le _ _) h0)) (by decide)
theorem q_307 {a0 : Int} {a1 : Int} (h0 : (a0 < a1)) : (a0 = (min a1 a0)) := (Int.min_eq_right (Int.le_of_lt h0)).symm
theorem q_308 {a0 : Int} {a1 : Int} (h0 : (¬ (a1 < a0))) : (a0 = (min a0 a1)) := (Int.min_eq_left (Int.not_lt.mp h0)).symm
theorem q_309 {a0 : Int} {a1 : Int} {a2 : Nat} (h0 : (((0 : Int) ≤ a0) ∧ (a0 < ((a2 : Nat) : Int)))) (h1 : (((0 : Int) ≤ a1) ∧ (a1 < ((a2 : Nat) : Int)))) : (((0 : Int) ≤ (min a0 a1)) ∧ ((min a0 a1) < ((a2 : Nat) : Int))) := ⟨Int.le_min.mpr ⟨h0.1, h1.1⟩, Int.lt_of_le_of_lt (Int.min_le_left _ _) h0.2⟩
theorem q_310 {a0 : Int} {a1 : Int} {a2 : Nat} (h0 : (((0 : Int) ≤ (min a0 a1)) ∧ ((min a0 a1) < ((a2 : Nat) : Int)))) : ((min a0 a1) = (((Int.toNat (min a0 a1)) : Nat) : Int)) := (Int.toNat_of_nonneg h0.1).symm
theorem q_311 {a0 : Int} {a1 : Int} (h0 : ((a0 - a1) < (0 : Int))) : ((-(a0 - a1)) = (((Int.natAbs (a0 - a1)) : Nat) : Int)) := (Int.ofNat_natAbs_of_nonpos (Int.le_of_lt h0)).symm
theorem q_312 {a0 : Int} {a1 : Int} (h0 : (¬ ((a0 - a1) < (0 : Int)))) : ((a0 - a1) = (((Int.natAbs (a0 - a1)) : Nat) : Int)) := (Int.natAbs_of_nonneg (Int.not_lt.mp h0)).symm
theorem q_313 {a0 : Nat} {a1 : Int} {a2 : Int} (h0 : ((-(a1 - a2)) = ((a0 : Nat) : Int))) (h1 : ((a1 - a2) < (0 : Int))) : (0 < a0) := Int.ofNat_lt.mp (h0 ▸ Int.neg_pos_of_neg h1)
theorem q_314 {a0 : Nat} {a1 : Int} {a2 : Int} (h0 : ((a1 - a2) = ((a0 : Nat) : Int))) (h1 : (a2 ≠ a1)) : (0 < a0) := Nat.pos_of_ne_zero (fun e => h1 (Int.eq_of_sub_eq_zero (h0.trans (congrArg (fun n : Nat => (n : Int)) e))).symm)
theorem q_315 {a0 : Nat} {a1 : Nat} {a2 : Nat} {a3 : Int} {a4 : Int} (h0 : (((0 : Int) ≤ a3) ∧ (a3 < ((a2 : Nat) : Int)))) (h1 : ((-(a4 - a3)) = ((a1 : Nat) : Int))) (h2 : ((min a4 a3) = ((a0 : Nat) : Int))) : ((a0 + a1) < a2) := by rw [Int.neg_sub] at h1; have l : a4 ≤ a3 := Int.le_of_sub_nonneg (h1 ▸ Int.natCast_nonneg a1); apply Int.ofNat_lt.mp; show (a0 : Int) + (a1 : Int) < a2; rw [← h1, ← h2, Int.min_eq_left l, Int.add_comm, Int.sub_add_cancel]; exact h0.2
theorem q_316 {a0 : Nat} {a1 : Nat} {a2 : Nat} {a3 : Int} {a4 : Int} (h0 : (((0 : Int) ≤ a3) ∧ (a3 < ((a2 : Nat) : Int)))) (h1 : ((a3 - a4) = ((a1 : Nat) : Int))) (h2 : ((min a3 a4) = ((a0 : Nat) : Int))) : ((a0 + a1) < a2) := by have l : a4 ≤ a3 := Int.le_of_sub_nonneg (h1 ▸ Int.natCast_nonneg a1); apply Int.ofNat_lt.mp; show (a0 : Int) + (a1 : Int) < a2; rw [← h1, ← h2, Int.min_eq_right l, Int.add_comm, Int.sub_add_cancel]; exact h0.2
theorem q_317 {a0 : Nat} {a1 : Nat} {a2 : Nat} {a3 : Nat} (h0 : ((a0 + a1) < a3)) (h1 : (a2 = a3)) : ((a0 + a1) < a2) := Nat.lt_of_lt_of_eq h0 h1.symm
theorem q_318 {a0 : Nat} {a1 : Nat} {a2 : Nat} {a3 : Nat} (h0 : (a1 < (a3 - a0))) (h1 : (a2 = a3)) : ((a0 + a1) < a2) := Nat.lt_of_lt_of_eq (Nat.add_lt_of_lt_sub' h0) h1.symm
theorem q_319 {a0 : Nat} {a1 : Nat} (h0 : (a0 ≤ 6)) : ((a0 - a1) ≤ 10) := Nat.le_trans (Nat.sub_le _ _) (Nat.le_trans h0 (by decide))
theorem q_320 {a0 : Nat} {a1 : Nat} {a2 : Nat} (h0 : (a0 < ((a1 - a2) - 1))) : ((1 + a0) < (a1 - a2)) := Nat.add_lt_of_lt_sub' h0
theorem q_321 {a0 : Nat} {a1 : Nat} {a2 : Nat} {a3 : Nat} {a4 : Nat} {a5 : Nat} {a6 : Nat} (h0 : (a2 = a3)) (h1 : (a3 ≤ a4)) (h2 : (a4 ≤ a5)) (h3 : (a5 < ((a6 - a0) - 1))) (h4 : (a6 ≤ 6)) : (((min a0 a1) + a2) ≤ 16777216) := Nat.le_trans (Nat.add_le_add (Nat.min_le_left a0 a1) (Nat.le_trans (Nat.le_of_eq h0) (Nat.le_trans h1 h2))) (Nat.le_trans (Nat.le_of_lt (Nat.add_lt_of_lt_sub' (Nat.lt_of_lt_of_le h3 (Nat.sub_le _ _)))) (Nat.le_trans h4 (by decide)))
theorem q_322 {a0 : Nat} {a1 : Nat} {a2 : Nat} (h0 : (a1 ≤ 6)) (h1 : (a0 < ((a1 - a2) - 1))) : (((1 : Int) + ((a0 : Nat) : Int)) < ((2 : Int) ^ 63)) := Int.lt_of_le_of_lt (Int.add_le_add_left (Int.ofNat_le.mpr (Nat.le_trans (Nat.le_of_lt (Nat.lt_of_lt_of_le h1 (Nat.le_trans (Nat.sub_le _ _) (Nat.sub_le _ _)))) h0)) 1) (by decide)
theorem q_323 {a0 : Nat} {a1 : Nat} (h0 : (((1 : Int) + ((a0 : Nat) : Int)) ≠ ((a1 : Nat) : Int))) (h1 : (0 < a1)) : (¬ (a0 = (a1 - 1))) := fun e => h0 (congrArg (fun n : Nat => (n : Int)) (show 1 + a0 = a1 from (congrArg (1 + ·) e).trans (Nat.add_sub_cancel' h1)))
theorem q_324 {a0 : Nat} {a1 : Nat} (h0 : (((1 : Int) + ((a0 : Nat) : Int)) = ((a1 : Nat) : Int))) : (a0 = (a1 - 1)) := by have e : 1 + a0 = a1 := Int.ofNat_inj.mp h0; rw [← e, Nat.add_sub_cancel_left]
theorem q_325 {a0 : Nat} {a1 : Nat} {a2 : Int} {a3 : Int} (h0 : (((0 : Int) ≤ (min a2 a3)) ∧ ((min a2 a3) < ((a0 : Nat) : Int)))) (h1 : ((min a2 a3) = ((a1 : Nat) : Int))) : (0 < (a0 - a1)) := Nat.sub_pos_of_lt (Int.ofNat_lt.mp (h1 ▸ h0.2))
theorem q_326 {a0 : Nat} {a1 : Nat} {a2 : Nat} (h0 : ((a2 + a0) < a1)) : (a0 < (a1 - a2)) := Nat.lt_sub_of_add_lt (Nat.lt_of_le_of_lt (Nat.le_of_eq (Nat.add_comm a0 a2)) h0)
theorem q_327 {a0 : Int} {a1 : Nat} (h0 : (a0 = ((a1 : Nat) : Int))) : ((0 : Int) ≤ a0) := by simp_all
theorem q_328 {a0 : Int} {a1 : Nat} {a2 : Nat} {a3 : Nat} (h0 : (a0 = ((a1 : Nat) : Int))) (h1 : (a2 ≤ 6)) (h2 : ((a3 + a1) < a2)) : (a0 < ((2 : Int) ^ 63)) := by subst h0; exact Int.lt_of_le_of_lt (Int.ofNat_le.mpr (Nat.le_trans (Nat.le_of_lt (Nat.lt_of_le_of_lt (Nat.le_add_left a1 a3) h2)) h1)) (by decide)
theorem q_329 {a0 : Nat} {a1 : Nat} {a2 : Nat} (h0 : ((a0 + a1) ≤ a2)) : (((a0 + 1) + a1) ≤ (a2 + 1)) := Nat.le_trans (Nat.le_of_eq (Nat.succ_add a0 a1)) (Nat.succ_le_succ h0)
theorem q_330 {a0 : Nat} {a1 : Nat} : (((a0 + 1) + a1) = ((a0 + a1) + 1)) := Nat.succ_add _ _
end Mine
end

local macro_rules | `(tactic| omega) => `(tactic| first | with_reducible exact Int.natCast_nonneg _ | with_reducible exact Mine.o_ltn ‹_› ‹_› | decide | omega (config := {}))

section
open PySem PySem.W PyProof.Rows
set_option Elab.async false
set_option maxRecDepth 100000
set_option maxHeartbeats 8000000
namespace Mine
/-- the tables of the codes of __len__, __str__ and law are known to be empty at the call -/
local macro_rules | `(tactic| o_head ($f $k $as $e $ts)) => `(tactic| o_head (($f $k $as $e [111, 118, 179])))
open_top hd for PySem.Challenge.rw_sn0012_01
end Mine
#check @Mine.hd
end

section
open PySem PySem.W PySem.Calls PySem.Spec PyProof.Rows
namespace Mine
/-- a place where the walk stops, by number -/
def HaltN (n : Nat) (P : Prop) : Prop := P
theorem haltN (n : Nat) {P : Prop} (h : HaltN n P) : P := h
theorem goN (n : Nat) {P : Prop} (h : P) : HaltN n P := h
/-- a place where the walk stops -/
def Halt (P : Prop) : Prop := P
theorem halt {P : Prop} (h : Halt P) : P := h
theorem unhalt {P : Prop} (h : P) : Halt P := h
section
variable {M : Model} {A : Around} {Q E : Value → Shared → Prop} {s : Shared} {as : List Value} {kw : List (Str × Value)}
/-! stops at a call of a given function -/
theorem hRef (n : Nat) (h : Halt (wpAny M A (call (.ref n) as kw) Q E s)) : wpAny M A (call (.ref n) as kw) Q E s := h
theorem hRefN (k n : Nat) (h : HaltN k (wpAny M A (call (.ref n) as kw) Q E s)) : wpAny M A (call (.ref n) as kw) Q E s := h
theorem hLenR {a : Addr} (h : Halt (wpAny M A (call (.builtin "len") [.ref a] kw) Q E s)) : wpAny M A (call (.builtin "len") [.ref a] kw) Q E s := h
theorem hLenRN (k : Nat) {a : Addr} (h : HaltN k (wpAny M A (call (.builtin "len") [.ref a] kw) Q E s)) : wpAny M A (call (.builtin "len") [.ref a] kw) Q E s := h
theorem hLenSN (k : Nat) {a : Str} {t : Tok} (h : HaltN k (wpAny M A (call (.builtin "len") [.str a t] kw) Q E s)) : wpAny M A (call (.builtin "len") [.str a t] kw) Q E s := h
end
theorem all_cons {α : Type} {P : α → Prop} {a : α} {l : List α} (h : P a) (t : ∀ q, q ∈ l → P q) : ∀ q, q ∈ a :: l → P q := List.forall_mem_cons.mpr ⟨h, t⟩
end Mine
end

section
namespace Mine
/-! an elimination at one go -/
theorem el_0_3 {p0 : Prop} {p1 : Prop} {p2 : Prop} {c : Prop} (h : p0 ∧ p1 ∧ p2) (f : p0 → p1 → p2 → c) : c :=
  f h.1 h.2.1 h.2.2
theorem el_0_4 {p0 : Prop} {p1 : Prop} {p2 : Prop} {p3 : Prop} {c : Prop} (h : p0 ∧ p1 ∧ p2 ∧ p3) (f : p0 → p1 → p2 → p3 → c) : c :=
  f h.1 h.2.1 h.2.2.1 h.2.2.2
theorem el_1_2.{u0} {α0 : Sort u0} {p0 : α0 → Prop} {p1 : α0 → Prop} {c : Prop} (h : ∃ x0, p0 x0 ∧ p1 x0) (f : ∀ x0, p0 x0 → p1 x0 → c) : c :=
  h.elim fun x0 h => f x0 h.1 h.2
theorem el_1_3.{u0} {α0 : Sort u0} {p0 : α0 → Prop} {p1 : α0 → Prop} {p2 : α0 → Prop} {c : Prop} (h : ∃ x0, p0 x0 ∧ p1 x0 ∧ p2 x0) (f : ∀ x0, p0 x0 → p1 x0 → p2 x0 → c) : c :=
  h.elim fun x0 h => f x0 h.1 h.2.1 h.2.2
theorem el_1_6.{u0} {α0 : Sort u0} {p0 : α0 → Prop} {p1 : α0 → Prop} {p2 : α0 → Prop} {p3 : α0 → Prop} {p4 : α0 → Prop} {p5 : α0 → Prop} {c : Prop} (h : ∃ x0, p0 x0 ∧ p1 x0 ∧ p2 x0 ∧ p3 x0 ∧ p4 x0 ∧ p5 x0) (f : ∀ x0, p0 x0 → p1 x0 → p2 x0 → p3 x0 → p4 x0 → p5 x0 → c) : c :=
  h.elim fun x0 h => f x0 h.1 h.2.1 h.2.2.1 h.2.2.2.1 h.2.2.2.2.1 h.2.2.2.2.2
theorem el_2_2.{u0,u1} {α0 : Sort u0} {α1 : Sort u1} {p0 : α0 → α1 → Prop} {p1 : α0 → α1 → Prop} {c : Prop} (h : ∃ x0, ∃ x1, p0 x0 x1 ∧ p1 x0 x1) (f : ∀ x0, ∀ x1, p0 x0 x1 → p1 x0 x1 → c) : c :=
  h.elim fun x0 h => h.elim fun x1 h => f x0 x1 h.1 h.2
theorem el_2_3.{u0,u1} {α0 : Sort u0} {α1 : Sort u1} {p0 : α0 → α1 → Prop} {p1 : α0 → α1 → Prop} {p2 : α0 → α1 → Prop} {c : Prop} (h : ∃ x0, ∃ x1, p0 x0 x1 ∧ p1 x0 x1 ∧ p2 x0 x1) (f : ∀ x0, ∀ x1, p0 x0 x1 → p1 x0 x1 → p2 x0 x1 → c) : c :=
  h.elim fun x0 h => h.elim fun x1 h => f x0 x1 h.1 h.2.1 h.2.2
theorem el_3_2.{u0,u1,u2} {α0 : Sort u0} {α1 : Sort u1} {α2 : Sort u2} {p0 : α0 → α1 → α2 → Prop} {p1 : α0 → α1 → α2 → Prop} {c : Prop} (h : ∃ x0, ∃ x1, ∃ x2, p0 x0 x1 x2 ∧ p1 x0 x1 x2) (f : ∀ x0, ∀ x1, ∀ x2, p0 x0 x1 x2 → p1 x0 x1 x2 → c) : c :=
  h.elim fun x0 h => h.elim fun x1 h => h.elim fun x2 h => f x0 x1 x2 h.1 h.2
theorem el_3_3.{u0,u1,u2} {α0 : Sort u0} {α1 : Sort u1} {α2 : Sort u2} {p0 : α0 → α1 → α2 → Prop} {p1 : α0 → α1 → α2 → Prop} {p2 : α0 → α1 → α2 → Prop} {c : Prop} (h : ∃ x0, ∃ x1, ∃ x2, p0 x0 x1 x2 ∧ p1 x0 x1 x2 ∧ p2 x0 x1 x2) (f : ∀ x0, ∀ x1, ∀ x2, p0 x0 x1 x2 → p1 x0 x1 x2 → p2 x0 x1 x2 → c) : c :=
  h.elim fun x0 h => h.elim fun x1 h => h.elim fun x2 h => f x0 x1 x2 h.1 h.2.1 h.2.2
theorem el_3_9.{u0,u1,u2} {α0 : Sort u0} {α1 : Sort u1} {α2 : Sort u2} {p0 : α0 → α1 → α2 → Prop} {p1 : α0 → α1 → α2 → Prop} {p2 : α0 → α1 → α2 → Prop} {p3 : α0 → α1 → α2 → Prop} {p4 : α0 → α1 → α2 → Prop} {p5 : α0 → α1 → α2 → Prop} {p6 : α0 → α1 → α2 → Prop} {p7 : α0 → α1 → α2 → Prop} {p8 : α0 → α1 → α2 → Prop} {c : Prop} (h : ∃ x0, ∃ x1, ∃ x2, p0 x0 x1 x2 ∧ p1 x0 x1 x2 ∧ p2 x0 x1 x2 ∧ p3 x0 x1 x2 ∧ p4 x0 x1 x2 ∧ p5 x0 x1 x2 ∧ p6 x0 x1 x2 ∧ p7 x0 x1 x2 ∧ p8 x0 x1 x2) (f : ∀ x0, ∀ x1, ∀ x2, p0 x0 x1 x2 → p1 x0 x1 x2 → p2 x0 x1 x2 → p3 x0 x1 x2 → p4 x0 x1 x2 → p5 x0 x1 x2 → p6 x0 x1 x2 → p7 x0 x1 x2 → p8 x0 x1 x2 → c) : c :=
  h.elim fun x0 h => h.elim fun x1 h => h.elim fun x2 h => f x0 x1 x2 h.1 h.2.1 h.2.2.1 h.2.2.2.1 h.2.2.2.2.1 h.2.2.2.2.2.1 h.2.2.2.2.2.2.1 h.2.2.2.2.2.2.2.1 h.2.2.2.2.2.2.2.2
theorem el_4_3.{u0,u1,u2,u3} {α0 : Sort u0} {α1 : Sort u1} {α2 : Sort u2} {α3 : Sort u3} {p0 : α0 → α1 → α2 → α3 → Prop} {p1 : α0 → α1 → α2 → α3 → Prop} {p2 : α0 → α1 → α2 → α3 → Prop} {c : Prop} (h : ∃ x0, ∃ x1, ∃ x2, ∃ x3, p0 x0 x1 x2 x3 ∧ p1 x0 x1 x2 x3 ∧ p2 x0 x1 x2 x3) (f : ∀ x0, ∀ x1, ∀ x2, ∀ x3, p0 x0 x1 x2 x3 → p1 x0 x1 x2 x3 → p2 x0 x1 x2 x3 → c) : c :=
  h.elim fun x0 h => h.elim fun x1 h => h.elim fun x2 h => h.elim fun x3 h => f x0 x1 x2 x3 h.1 h.2.1 h.2.2
theorem el_4_10.{u0,u1,u2,u3} {α0 : Sort u0} {α1 : Sort u1} {α2 : Sort u2} {α3 : Sort u3} {p0 : α0 → α1 → α2 → α3 → Prop} {p1 : α0 → α1 → α2 → α3 → Prop} {p2 : α0 → α1 → α2 → α3 → Prop} {p3 : α0 → α1 → α2 → α3 → Prop} {p4 : α0 → α1 → α2 → α3 → Prop} {p5 : α0 → α1 → α2 → α3 → Prop} {p6 : α0 → α1 → α2 → α3 → Prop} {p7 : α0 → α1 → α2 → α3 → Prop} {p8 : α0 → α1 → α2 → α3 → Prop} {p9 : α0 → α1 → α2 → α3 → Prop} {c : Prop} (h : ∃ x0, ∃ x1, ∃ x2, ∃ x3, p0 x0 x1 x2 x3 ∧ p1 x0 x1 x2 x3 ∧ p2 x0 x1 x2 x3 ∧ p3 x0 x1 x2 x3 ∧ p4 x0 x1 x2 x3 ∧ p5 x0 x1 x2 x3 ∧ p6 x0 x1 x2 x3 ∧ p7 x0 x1 x2 x3 ∧ p8 x0 x1 x2 x3 ∧ p9 x0 x1 x2 x3) (f : ∀ x0, ∀ x1, ∀ x2, ∀ x3, p0 x0 x1 x2 x3 → p1 x0 x1 x2 x3 → p2 x0 x1 x2 x3 → p3 x0 x1 x2 x3 → p4 x0 x1 x2 x3 → p5 x0 x1 x2 x3 → p6 x0 x1 x2 x3 → p7 x0 x1 x2 x3 → p8 x0 x1 x2 x3 → p9 x0 x1 x2 x3 → c) : c :=
  h.elim fun x0 h => h.elim fun x1 h => h.elim fun x2 h => h.elim fun x3 h => f x0 x1 x2 x3 h.1 h.2.1 h.2.2.1 h.2.2.2.1 h.2.2.2.2.1 h.2.2.2.2.2.1 h.2.2.2.2.2.2.1 h.2.2.2.2.2.2.2.1 h.2.2.2.2.2.2.2.2.1 h.2.2.2.2.2.2.2.2.2
theorem el_6_8.{u0,u1,u2,u3,u4,u5} {α0 : Sort u0} {α1 : Sort u1} {α2 : Sort u2} {α3 : Sort u3} {α4 : Sort u4} {α5 : Sort u5} {p0 : α0 → α1 → α2 → α3 → α4 → α5 → Prop} {p1 : α0 → α1 → α2 → α3 → α4 → α5 → Prop} {p2 : α0 → α1 → α2 → α3 → α4 → α5 → Prop} {p3 : α0 → α1 → α2 → α3 → α4 → α5 → Prop} {p4 : α0 → α1 → α2 → α3 → α4 → α5 → Prop} {p5 : α0 → α1 → α2 → α3 → α4 → α5 → Prop} {p6 : α0 → α1 → α2 → α3 → α4 → α5 → Prop} {p7 : α0 → α1 → α2 → α3 → α4 → α5 → Prop} {c : Prop} (h : ∃ x0, ∃ x1, ∃ x2, ∃ x3, ∃ x4, ∃ x5, p0 x0 x1 x2 x3 x4 x5 ∧ p1 x0 x1 x2 x3 x4 x5 ∧ p2 x0 x1 x2 x3 x4 x5 ∧ p3 x0 x1 x2 x3 x4 x5 ∧ p4 x0 x1 x2 x3 x4 x5 ∧ p5 x0 x1 x2 x3 x4 x5 ∧ p6 x0 x1 x2 x3 x4 x5 ∧ p7 x0 x1 x2 x3 x4 x5) (f : ∀ x0, ∀ x1, ∀ x2, ∀ x3, ∀ x4, ∀ x5, p0 x0 x1 x2 x3 x4 x5 → p1 x0 x1 x2 x3 x4 x5 → p2 x0 x1 x2 x3 x4 x5 → p3 x0 x1 x2 x3 x4 x5 → p4 x0 x1 x2 x3 x4 x5 → p5 x0 x1 x2 x3 x4 x5 → p6 x0 x1 x2 x3 x4 x5 → p7 x0 x1 x2 x3 x4 x5 → c) : c :=
  h.elim fun x0 h => h.elim fun x1 h => h.elim fun x2 h => h.elim fun x3 h => h.elim fun x4 h => h.elim fun x5 h => f x0 x1 x2 x3 x4 x5 h.1 h.2.1 h.2.2.1 h.2.2.2.1 h.2.2.2.2.1 h.2.2.2.2.2.1 h.2.2.2.2.2.2.1 h.2.2.2.2.2.2.2
end Mine
end

section
open PySem PySem.W PySem.Calls PyProof.Rows
set_option Elab.async false
set_option maxRecDepth 100000
set_option maxHeartbeats 8000000
namespace Mine

noncomputable abbrev PP : Program := PySem.Challenge.rw_sn0012_01.prog
noncomputable abbrev LO : List Str := looseW hd.view_39 [Str.ofString "_twin_re_1", Str.ofString "_twin_re_2", Str.ofString "_Accumulator"]
theorem fill : PySem.Challenge.rw_sn0012_01 = PySem.Challenge.rw_sn0012_01 ∧ hd.heap_39 = hd.heap_39 := by
  k_fill
  exact ⟨rfl, rfl⟩

/-- every object of the first heap stands in the second -/
def Sub (h h' : Heap) : Prop := ∀ b o, h.get? b = some o → h'.get? b = some o
theorem Sub.refl (h : Heap) : Sub h h := fun _ _ e => e
theorem Sub.trans {a b c : Heap} (x : Sub a b) (y : Sub b c) : Sub a c := fun q o e => y q o (x q o e)
/-- only p may have turned -/
def Chg (p : Addr) (h h' : Heap) : Prop := ∀ b o, b ≠ p → h.get? b = some o → h'.get? b = some o
theorem Chg.trans {p : Addr} {a b c : Heap} (x : Chg p a b) (y : Chg p b c) : Chg p a c := fun q o n e => y q o n (x q o n e)
theorem Sub.chg {p : Addr} {a b : Heap} (x : Sub a b) : Chg p a b := fun q o _ e => x q o e
theorem chg_of_fr {p L : Addr} {h h' : Heap} {hs : List Addr} {m : Str → Option Value} (F : Fr (hideAll h (p :: hs)) L h' m) (N : ∀ a ∈ hs, ∀ o, h.get? a = some o → h'.get? a = some o) : Chg p h h' := fun b o n e => by
  by_cases hb : b ∈ hs
  · exact N b hb o e
  · exact F.keep b o (hideAll_get _ e fun q => by cases q with | head => exact n rfl | tail _ q => exact hb q)
theorem fr_chg {p L : Addr} {h₀ h h' : Heap} {m : Str → Option Value} (F : Fr h₀ L h m) (c : Chg p h h') (hp : h₀.get? p = none) (hL : p ≠ L) : Fr h₀ L h' m := by
  obtain ⟨⟨oL, es, ep, h1, h2⟩, k, ab⟩ := F
  exact ⟨⟨oL, es, ep, c _ _ (Ne.symm hL) h1, h2⟩, fun b o e => c b o (fun q => by rw [q, hp] at e; cases e) (k b o e), ab⟩
theorem news_chg {p L : Addr} {h₀ h h' : Heap} {news : List (Addr × Obj)} (N : News h₀ L h news) (c : Chg p h h') (hn : ∀ q ∈ news, q.1 ≠ p) : News h₀ L h' news := fun q hq => ⟨c _ _ (hn q hq) (N q hq).1, (N q hq).2⟩
theorem fr_sub {L : Addr} {h₀ h h' : Heap} {m : Str → Option Value} (F : Fr h₀ L h m) (c : Sub h h') : Fr h₀ L h' m := by
  obtain ⟨⟨oL, es, ep, h1, h2⟩, k, ab⟩ := F
  exact ⟨⟨oL, es, ep, c _ _ h1, h2⟩, fun b o e => c b o (k b o e), ab⟩
theorem news_sub {L : Addr} {h₀ h h' : Heap} {news : List (Addr × Obj)} (N : News h₀ L h news) (c : Sub h h') : News h₀ L h' news := fun q hq => ⟨c _ _ (N q hq).1, (N q hq).2⟩
theorem news_weak {L : Addr} {h₀ h : Heap} {news news' : List (Addr × Obj)} (N : News h₀ L h news) (hs : ∀ q ∈ news', q ∈ news) : News h₀ L h news' := fun q hq => N q (hs q hq)
theorem base_hide {h₀ h : Heap} {hs : List Addr} (k : Sub h₀ h) (hn : ∀ a ∈ hs, h₀.get? a = none) : Sub h₀ (hideAll h hs) := fun b o e => hideAll_get _ (k b o e) fun q => by rw [hn b q] at e; cases e

theorem chg_g {p L : Addr} {h g h' : Heap} {m : Str → Option Value} (e : g = hideAll h [p]) (F : Fr g L h' m) : Chg p h h' := fun b o n q => F.keep b o (by rw [e]; exact hideAll_get _ q fun z => by cases z with | head => exact n rfl | tail _ z => cases z)
theorem new_g {p a : Addr} {h g : Heap} (e : g = hideAll h [p]) (n : a ≠ p) (q : g.get? a = none) : h.get? a = none := by
  cases z : h.get? a with
  | none => rfl
  | some o => rw [e, hideAll_get _ z fun z => by cases z with | head => exact n rfl | tail _ z => cases z] at q; cases q
/-- a text with nothing in it that is asked for: what is left of Top -/
noncomputable abbrev view0 : Program := { hd.view_39 with main := { hd.view_39.main with body := [Stmt.Import [⟨Str.ofString "sys", none, ⟨0, 0, 0, 0⟩⟩] ⟨0, 0, 0, 0⟩] } }
noncomputable def LO0 : List Str := LO ++ ((recsOf hd.view_39).map (·.name) ++ ((litsOf hd.view_39).map (·.1) ++ (clssOf hd.view_39 LO).map (·.name)))
theorem top0 {mean : ExcName → Option Value} {mg mb : Str → Option Value} {h : Heap} (T : Top hd.view_39 LO mean mg mb h) : Top view0 LO0 mean mg mb h where
  g := T.g
  b := T.b
  nolimit := T.nolimit
  nodigits := T.nodigits
  fn := fun d q => nomatch (show d ∈ ([] : List DefRec) from q)
  own := fun o q => nomatch (show o ∈ ([] : List OwnSpec) from q)
  const := fun x d q => by cases q
  free := fun x h1 h2 _ _ _ => T.free x h1 (fun q => h2 (List.mem_append_left _ q)) (fun q => h2 (List.mem_append_right _ (List.mem_append_left _ q))) (fun q => h2 (List.mem_append_right _ (List.mem_append_right _ (List.mem_append_left _ q)))) (fun q => h2 (List.mem_append_right _ (List.mem_append_right _ (List.mem_append_right _ q))))
  builtins := T.builtins
  tab := fun d q => nomatch (show d ∈ ([] : List DefRec) from q)
  bmain := T.bmain
  seer := fun q => by cases q
/-- the top's facts at a heap -/
structure Gd (w : World) (mean : ExcName → Option Value) (mg mb : Str → Option Value) (h : Heap) : Prop where
  X : (hd.heap_39 w.params).In h
  T : TopRead hd.view_39 LO mg mb h
  T0 : Top view0 LO0 mean mg mb h
theorem Gd.keeps {w : World} {mean : ExcName → Option Value} {mg mb : Str → Option Value} {h h' : Heap} (G : Gd w mean mg mb h) (k : Sub h h') : Gd w mean mg mb h' := ⟨fun a o e => k a o (G.X a o e), G.T.keeps k, G.T0.keeps k⟩

/-- entering a plain def; `hs`: what may be written -/
theorem enterP {w : World} {mean : ExcName → Option Value} {mg mb : Str → Option Value} {A : Around} {s : Shared} {h₀ : Heap} {R : Result → Shared → Prop}
    {name qual : Str} {params : Arguments} {body : List Stmt} {scope : Scope} {cl : List (Str × Addr)} {dV kV doc pm cdv ct oc : Value} {an od : Option Addr} {osl : Array (Option Value)} {f : Addr} {args : Args}
    (hs : List Addr) (binds : List (Str × Value)) (G : Gd w mean mg mb h₀) (hk0 : Sub h₀ s.heap) (hn : ∀ a ∈ hs, h₀.get? a = none)
    (ho : (hd.heap_39 w.params).lookup f = some ⟨oc, od, .func (fnX name qual params body scope cl dV kV doc pm an cdv ct), osl⟩) (hcd : codeIn (hd.heap_39 w.params) cdv qual = true) (hroom : A.depth < recursionLimit)
    (hbind : BindsTo s (fnX name qual params body scope cl dV kV doc pm an cdv ct) args binds) (hloc : ∀ y ∈ binds, scope.names.lookup y.1 = some .local)
    (hcell : ∀ x ∈ scope.names, x.2 ≠ .cell) (hco : scope.isCoroutine = false) (hgen : scope.isGenerator = false) (hk : scope.kind = .function)
    (h : ∀ h₁ g, Fr g s.heap.objs.size h₁ (fun y => binds.reverse.lookup y) → Sub s.heap h₁ → g = hideAll s.heap hs → Gd w mean mg mb g → (hd.heap_39 w.params).In g → TopRead hd.view_39 LO mg mb g → News g s.heap.objs.size h₁ [] →
      wpAny (model PP w) (A.deeper (envX qual scope s.heap.objs.size f cdv cl)) (execs body (envX qual scope s.heap.objs.size f cdv cl))
        (fun fl s' => R (.ok (.ret (match fl with | .ret v => v | _ => .none))) s') (fun _ _ => False) { s with heap := h₁, toks := s.toks + binds.length }) :
    codeAny (model PP w) A (.call (.ref f) args) R s := by
  have Gs := G.keeps hk0
  refine codeAny_call_def (fd := fnX name qual params body scope cl dV kV doc pm an cdv ct) (body := body) (binds := binds) hroom (Gs.X _ _ ho) rfl Gs.T.nolimit (codeRec_of Gs.X hcd) rfl hbind hcell hloc (fun h₁ hns hk₁ => ?_) hco hgen hk
  have G' := G.keeps (base_hide hk0 hn)
  exact wpAny_mono (h h₁ _ ⟨hns, fun b o e => hk₁ b o (of_hideAll _ e), Nat.le_of_eq (hideAll_size _ _)⟩ hk₁ rfl G' G'.X G'.T News.nil) (fun _ _ x => x) (fun _ _ x => x.elim)

theorem news_cons {L a : Addr} {h₀ h : Heap} {o : Obj} {news : List (Addr × Obj)} (N : News h₀ L h news) (e : h.get? a = some o) (hL : a ≠ L) (h0 : h₀.get? a = none) : News h₀ L h ((a, o) :: news) := fun q hq => by
  cases hq with
  | head => exact ⟨e, hL, h0⟩
  | tail _ hq => exact N q hq

/-! ## the accumulators -/
abbrev accObj (dx : Addr) (items : Array Value) (ep : Nat) : Obj := ⟨.ref 149, some dx, .seq items ep, #[]⟩
abbrev accDict (w : World) (t1 t2 : Tok) : Obj := dictOf [⟨PyData.keyHash w.params "_initial_size", .str "_initial_size" t1, .int 0 t2⟩] 1

theorem acc_inst {h : Heap} {p dx : Addr} {items : Array Value} {ep : Nat} {od : Obj} (hp : h.get? p = some (accObj dx items ep)) (hd : h.get? dx = some od) : W.InstAt h p (accObj dx items ep) 149 (some od) := ⟨hp, rfl, rfl, hd⟩
end Mine
end

section
open PySem PySem.W PySem.Calls PyProof.Rows
set_option Elab.async false
set_option maxRecDepth 100000
set_option maxHeartbeats 8000000
set_option linter.unusedVariables false
namespace Mine
/-! ## the counter of tokens never falls -/
theorem setGen_toks (s : Shared) (g : Nat) (x : GenState) : (s.setGen g x).toks = s.toks := rfl
theorem runs_toks {M : Model} {Γ : Ctx} {p : Pos} {t : Sem Fin} {fs : List Frame} {s : Shared} {e : End} {s' : Shared} (h : Runs M Γ p t fs s e s') : s.toks ≤ s'.toks := by
  induction h with
  | done => exact Nat.le_refl _
  | raise => exact Nat.le_refl _
  | yield => exact Nat.le_refl _
  | fresh _ ih => exact Nat.le_trans (Nat.le_succ _) ih
  | call _ _ i1 i2 => exact Nat.le_trans i1 i2
  | resumeFresh _ _ _ _ i1 i2 => exact Nat.le_trans i1 i2
  | resumeSuspended _ _ _ _ i1 i2 => exact Nat.le_trans i1 i2
  | segRet _ _ i1 i2 => exact Nat.le_trans i1 i2
  | segGen _ _ i1 i2 => exact Nat.le_trans i1 i2
  | segSuspGen _ _ _ _ i1 i2 => exact Nat.le_trans i1 i2
  | _ => assumption
theorem wakes_toks {M : Model} {Γ : Ctx} {p : Pos} {g : Nat} {r : Resume} {s : Shared} {res : GenResult} {s' : Shared} (h : Wakes M Γ p g r s res s') : s.toks ≤ s'.toks := by
  unfold Wakes at h
  split at h
  · exact h.elim
  · split at h
    · obtain ⟨e₁, s₁, h1, _, _, rfl⟩ := h
      exact (runs_toks h1 : (s.setGen g .running).toks ≤ s₁.toks)
    · rw [h.2]; exact Nat.le_refl _
    · rw [h.2]; exact Nat.le_refl _
  · obtain ⟨e₁, s₁, h1, _, _, rfl⟩ := h
    exact (runs_toks h1 : (s.setGen g .running).toks ≤ s₁.toks)
  · rw [h.2]; exact Nat.le_refl _
  · rw [h.2]; exact Nat.le_refl _
theorem code_toks {M : Model} {A : Around} {c : Code} {R : Result → Shared → Prop} {s : Shared} (h : codeAny M A c (fun r s' => s.toks ≤ s'.toks → R r s') s) : codeAny M A c R s := fun Γ p e b => by
  obtain ⟨r, s', h1, h2⟩ := h Γ p e b
  exact ⟨r, s', h1, h2 (runs_toks h1)⟩
theorem wp_toks {α : Type} {M : Model} {Γ : Ctx} (n : Nat) (t : Sem α) : ∀ (Q : α → Pos → Shared → Prop) (E : Value → Pos → Shared → Prop) (p : Pos) (s : Shared), n ≤ s.toks →
    Sem.wp M Γ t (fun a p' s' => n ≤ s'.toks → Q a p' s') (fun e p' s' => n ≤ s'.toks → E e p' s') p s → Sem.wp M Γ t Q E p s := by
  induction t with
  | pure a => exact fun Q E p s hn h => h hn
  | raise e => exact fun Q E p s hn h => h hn
  | unsupported w => exact fun Q E p s hn h => h
  | finish e => exact fun Q E p s hn h => h
  | rule t k ih => exact fun Q E p s hn h => ih _ Q E p s hn h
  | «at» p' k ih => exact fun Q E p s hn h => ih _ Q E p' s hn h
  | load a pt k ih => exact fun Q E p s hn ⟨o, h1, h2⟩ => ⟨o, h1, ih _ Q E p s hn h2⟩
  | update a pt f k ih => exact fun Q E p s hn ⟨h1, h2⟩ => ⟨h1, ih _ Q E p _ hn h2⟩
  | alloc o k ih => exact fun Q E p s hn h => ih _ Q E p _ hn h
  | loadIfAlive a k ih => exact fun Q E p s hn h => ih _ Q E p s hn h
  | point l k ih => exact fun Q E p s hn h => ih _ Q E p s hn h
  | register a k ih => exact fun Q E p s hn h => h
  | fresh k ih => exact fun Q E p s hn h => ih _ Q E p _ (Nat.le_succ_of_le hn) h
  | ask k ih => exact fun Q E p s hn h => ih _ Q E p s hn h
  | choose src n' k ih => exact fun Q E p s hn ⟨h1, h2⟩ => ⟨h1, ih _ Q E p _ hn h2⟩
  | os q l k ih => exact fun Q E p s hn h => ih _ Q E p _ hn h
  | call c hd' g l k ih => exact fun Q E p s hn ⟨r, s', h1, h2⟩ => ⟨r, s', h1, ih _ Q E p s' (Nat.le_trans hn (runs_toks h1)) h2⟩
  | handled own k ih => exact fun Q E p s hn h => ih _ Q E p s hn h
  | newGen c k ih => exact fun Q E p s hn h => ih _ Q E p _ hn h
  | genState g k ih => exact fun Q E p s hn ⟨st, h1, h2⟩ => ⟨st, h1, ih _ Q E p s hn h2⟩
  | resume g r l k ih => exact fun Q E p s hn ⟨res, s', h1, h2⟩ => ⟨res, s', h1, ih _ Q E p s' (Nat.le_trans hn (wakes_toks h1)) h2⟩
  | yield v g l k ih => exact fun Q E p s hn h => h
  | stack k ih => exact fun Q E p s hn h => ih _ Q E p s hn h
  | fork c k ih => exact fun Q E p s hn h => h
  | thread k ih => exact fun Q E p s hn h => ih _ Q E p s hn h
  | await a t b l k ih => exact fun Q E p s hn h => h
theorem any_toks {α : Type} {M : Model} {A : Around} {t : Sem α} {Q : α → Shared → Prop} {E : Value → Shared → Prop} {s : Shared} (h : wpAny M A t (fun v s' => s.toks ≤ s'.toks → Q v s') (fun e s' => s.toks ≤ s'.toks → E e s') s) : wpAny M A t Q E s :=
  fun Γ p i => wp_toks s.toks t _ _ p s (Nat.le_refl _) (h Γ p i)
end Mine
end

section
open PySem PySem.W PySem.Calls PySem.Spec PyProof.Rows
set_option Elab.async false
set_option maxRecDepth 100000
set_option maxHeartbeats 8000000
namespace Mine
theorem fill2 : PySem.Challenge.rw_sn0012_01 = PySem.Challenge.rw_sn0012_01 ∧ hd.heap_39 = hd.heap_39 := by
  k_fill
  exact ⟨rfl, rfl⟩

section
variable {w : World} {A : Around} {E : Value → Shared → Prop} {s : Shared} {K : Frag}
theorem check_own {M : Model} {id owner n : String} {self : Value} {rest : List Value} {kw : List (Str × Value)} {Q : Unit → Shared → Prop} (hsplit : splitId id = some (owner, n))
    (hkind : builtinKind id = some .slot ∨ builtinKind id = some .method) (hI : Looks M s.heap (isInstance self (.type owner)) true) (ha : argsOk id ⟨self :: rest, kw⟩) (hQ : Q () s) :
    wpAny M A (checkBuiltinCall id ⟨self :: rest, kw⟩) Q E s := by
  rcases hkind with h | h <;>
  · simp only [checkBuiltinCall, h, hsplit]
    refine wpAny_bind (hI.here ?_)
    simp only [Bool.not_true, Bool.false_eq_true, if_false]
    cases hsig : Manifest.signature? id with
    | none => exact wpAny_pure hQ
    | some sig =>
      simp only [argsOk, hsig] at ha
      have h2 : Bind.checkArgs id sig ⟨self :: rest, kw⟩ = pure () := ha
      show wpAny M A (Bind.checkArgs id sig ⟨self :: rest, kw⟩) Q E s
      rw [h2]; exact wpAny_pure hQ
theorem acc_isList {M : Model} {h : Heap} {p dx : Addr} {items : Array Value} {ep : Nat} (X : (hd.heap_39 w.params).In h) (hp : h.get? p = some (accObj dx items ep)) : Looks M h (isInstance (.ref p) (.type "list")) true := by
  have L1 : Looks M h (typeOf (.ref p)) (.ref 149) := (Looks.ld hp).andThen .now
  have hm : mroIn (hd.heap_39 w.params) 149 (.type "list") = some true := by k_is
  have L2 : Looks M h (isSubtype (.ref 149) (.type "list")) true := looks_mroIn X hm
  exact L1.andThen L2

/-- a call of one of list's own upon an accumulator -/
theorem acc_call {id n : String} {b : Builtin} {p dx : Addr} {items : Array Value} {ep : Nat} {rest : List Value} {Q : Value → Shared → Prop}
    (X : (hd.heap_39 w.params).In s.heap) (hp : s.heap.get? p = some (accObj dx items ep)) (hpl : plainId id = true) (hb : entryFor table id = some b)
    (hsplit : splitId id = some ("list", n)) (hkind : builtinKind id = some .slot ∨ builtinKind id = some .method) (ha : argsOk id ⟨.ref p :: rest, []⟩)
    (hc : wpAny (model PP w) A.in1 (b ⟨.ref p :: rest, []⟩) (fun fin s' => ∃ v, fin = .done (.ret v) ∧ Q v s') E s) : wpAny (model PP w) A (call (.builtin id) (.ref p :: rest)) Q E s := by
  refine wpAny_call (codeAny_call_builtin hpl hb (check_own hsplit hkind (acc_isList X hp) ha (wpAny_mono hc (fun fin s' h' => ?_) fun _ _ h' => h')))
  obtain ⟨v, rfl, hv⟩ := h'; exact hv

theorem acc_append {p dx : Addr} {items : Array Value} {ep : Nat} {v : Value} {Q : Value → Shared → Prop}
    (X : (hd.heap_39 w.params).In s.heap) (hp : s.heap.get? p = some (accObj dx items ep)) (hz : items.size ≤ sizeLine)
    (h : ∀ h', Chg p s.heap h' → h'.get? p = some (accObj dx (items.push v) (ep + 1)) → Q .none { s with heap := h' }) : wpAny (model PP w) A (call (.builtin "list.append") [.ref p, v]) Q E s := by
  refine acc_call (n := "append") X hp (by decide +kernel) entry_list_append (by decide +kernel) (.inr (by decide +kernel)) (args_list_append _ _) ?_
  show wpAny _ _ (updateSeq p (·.push v) >>= fun _ => ret .none) _ _ s
  refine wpAny_bind ?_
  refine wpAny_updateSeq hp rfl (wpAny_pure ⟨.none, rfl, h _ (fun b o n e => ((Heap.SameBut.update ..).2 b n).trans e) ?_⟩)
  have e : Obj.mapSeq (·.push v) (accObj dx items ep) = accObj dx (items.push v) (ep + 1) := by
    show (⟨_, _, .seq (items.push v) (if (items.push v).size == items.size then ep else ep + 1), _⟩ : Obj) = _
    have : ((items.push v).size == items.size) = false := by simp
    rw [this]; rfl
  rw [Heap.get?_update_self _ hp (by rw [e]; rfl), e]

theorem acc_getMethod {p dx : Addr} {items : Array Value} {ep : Nat} {od : Obj} {name : Str} {id : String} {pl : Sem Bool} {Q : Value × List Value → Shared → Prop} (X : (hd.heap_39 w.params).In s.heap)
    (hp : s.heap.get? p = some (accObj dx items ep)) (hd0 : s.heap.get? dx = some od) (hf : findIn (hd.heap_39 w.params) (.ref 149) name = some (some (.builtin id)))
    (hty : typeOf (.builtin id) = pure (.type "method_descriptor")) (hs : shadowIn (some od) name = some false) (h : Q (.builtin id, [.ref p]) s) : wpAny (model PP w) A (getMethod (.ref p) name pl) Q E s := by
  have hcan : Manifest.canonical "list.__getattribute__" = "object.__getattribute__" := by decide +kernel
  have I := acc_inst hp hd0
  have hga : findIn (hd.heap_39 w.params) (.ref 149) "__getattribute__" = some (some (.builtin "list.__getattribute__")) := by k_is
  have hk : findIn (hd.heap_39 w.params) (.ref 149) "__getattr__" = some none := by k_is
  unfold getMethod specialOf
  refine wpAny_bind (wpAny_bind (I.type.here ((looks_findIn X hga).here ?_)))
  dsimp only
  rw [hcan, if_neg (by decide)]
  refine wpAny_bind (wpAny_bind (I.type.here ((looks_findIn X hk).here ?_)))
  refine wpAny_bind (wpAny_bind (I.type.here ((looks_findIn X hf).here (wpAny_bind (wpAny_of_eq hty ?_)))))
  rw [if_neg (by decide +kernel)]
  refine wpAny_bind (wpAny_loadPart I.at_ ?_)
  obtain ⟨r, a, b⟩ := Option.map_eq_some_iff.mp hs
  refine wpAny_bind (wpAny_bind (wpAny_loadPart hd0 ?_))
  rw [nsLook_of a]
  refine wpAny_pure ?_
  rw [b]
  exact wpAny_bind (wpAny_rule (wpAny_pure h))
theorem acc_method {p dx f : Addr} {items : Array Value} {ep : Nat} {od : Obj} {name : Str} {pl : Sem Bool} {Q : Value × List Value → Shared → Prop} (X : (hd.heap_39 w.params).In s.heap)
    (hp : s.heap.get? p = some (accObj dx items ep)) (hd0 : s.heap.get? dx = some od) (hf : findIn (hd.heap_39 w.params) (.ref 149) name = some (some (.ref f)))
    (ht : typeIn (hd.heap_39 w.params) (.ref f) = some (.type "function")) (hs : shadowIn (some od) name = some false) (h : Q (.ref f, [.ref p]) s) : wpAny (model PP w) A (getMethod (.ref p) name pl) Q E s := by
  have hcan : Manifest.canonical "list.__getattribute__" = "object.__getattribute__" := by decide +kernel
  have I := acc_inst hp hd0
  have hga : findIn (hd.heap_39 w.params) (.ref 149) "__getattribute__" = some (some (.builtin "list.__getattribute__")) := by k_is
  have hk : findIn (hd.heap_39 w.params) (.ref 149) "__getattr__" = some none := by k_is
  unfold getMethod specialOf
  refine wpAny_bind (wpAny_bind (I.type.here ((looks_findIn X hga).here ?_)))
  dsimp only
  rw [hcan, if_neg (by decide)]
  refine wpAny_bind (wpAny_bind (I.type.here ((looks_findIn X hk).here ?_)))
  refine wpAny_bind (wpAny_bind (I.type.here ((looks_findIn X hf).here (wpAny_bind ((looks_typeIn X ht).here ?_)))))
  rw [if_neg (by decide +kernel)]
  refine wpAny_bind (wpAny_loadPart I.at_ ?_)
  obtain ⟨r, a, b⟩ := Option.map_eq_some_iff.mp hs
  refine wpAny_bind (wpAny_bind (wpAny_loadPart hd0 ?_))
  rw [nsLook_of a]
  refine wpAny_pure ?_
  rw [b]
  exact wpAny_bind (wpAny_rule (wpAny_pure h))
end

local macro_rules | `(tactic| walk_at "getMethod ref") => `(tactic| ((with_reducible show wpAny _ _ (getMethod (Value.ref _) (PySem.Str.ofString "append") _) _ _ _); refine haltN 1 ?_))
local macro_rules | `(tactic| walk_at "call builtin:list.append") => `(tactic| ((with_reducible show wpAny _ _ (call (Value.builtin _) [Value.ref _, _]) _ _ _); refine haltN 2 ?_))

theorem push_c {w : World} {A : Around} {s : Shared} {h₀ : Heap} {R : Result → Shared → Prop} {mean : ExcName → Option Value} {mg mb : Str → Option Value}
   {p dx : Addr} {items : Array Value} {ep : Nat} {ti tj : Tok} {fws st : Str} {t1 t2 : Tok}
   (G : Gd w mean mg mb h₀) (k : Sub h₀ s.heap)
   (hp : s.heap.get? p = some (accObj dx items ep)) (hp0 : h₀.get? p = none) (hdx : s.heap.get? dx = some (accDict w ti tj)) (hz : items.size ≤ sizeLine)
   (hdp : A.depth + 10 < recursionLimit) (hun : A.units + 100 < cLine)
   (h : ∀ h' tk a, Chg p s.heap h' → h'.get? p = some (accObj dx (items.push (.ref a)) (ep + 1)) → h'.get? a = some { cls := .type "tuple", data := .seq #[.str fws t1, .str st t2] } → s.heap.get? a = none → R (.ok (.ret .none)) { s with heap := h', toks := tk }) :
   codeAny (model PP w) A (.call (.ref 93) ⟨[.ref p, .str fws t1, .str st t2], []⟩) R s := by
  refine' enterP [p] [("self", .ref p), ("fws", .str fws t1), ("string", .str st t2)] G k ?k5 (f := 93) (cl := []) ?k6 ?k7 ?k8 ?k9 ?kB ?c5 ?c2 ?c3 ?c4 ?_; (case k5 => (intro a ha; simp only [List.mem_singleton] at ha; rw [ha]; exact hp0)); (case k6 => k_is); (case k7 => k_is); (case k8 => exact Mine.o_d0 hdp); (case k9 => exact BindsTo.of_eq rfl); (case kB => exact locs rfl); (case c5 => decide); (case c2 => exact rfl); (case c3 => exact rfl); (case c4 => exact rfl)
  intro h₁ g F k1 eg G1 X T N0
  have hdg : g.get? dx = some (accDict w ti tj) := by
    rw [eg]; refine hideAll_get _ hdx ?_
    intro q; cases q with
    | head => rw [hp] at hdx; cases hdx
    | tail _ q => cases q
  have N1 := news_cons N0 (k1 _ _ hp) (Nat.ne_of_lt (Heap.lt_size hp)) (by rw [eg]; exact hideAll_none _ (.head _))
  clear N0
  (try dsimp only)
  (try k_fold)
  k_steps
  repeat (any_goals (first
    | ((with_reducible refine goN 1 ?_); k_dflt (refine' acc_getMethod ?q9X ?q9hp ?q9hd ?q9hf ?q9ty ?q9hs ?_; (case q9X => k_in); (case q9hp => exact News.get (by k_asm) (by k_mem)); (case q9hd => exact Fr.keep (by k_asm) _ _ (by assumption)); (case q9hf => k_is); (case q9ty => exact PySem.F.type_list_append); (case q9hs => rfl); k_whole); k_steps)
    | ((with_reducible refine goN 2 ?_); k_dflt (refine' acc_append ?q9X ?q9hp ?q9hz ?_; (case q9X => k_in); (case q9hp => exact News.get (by k_asm) (by k_mem)); (case q9hz => assumption); k_whole); k_steps)))
  rename Fr _ _ _ _ => F'
  rename News _ _ _ _ => N'
  rename Chg _ _ _ => c
  rename Heap.get? _ p = some (accObj dx (items.push _) _) => e
  rename p < _ => l
  exact h _ _ _ (Chg.trans (chg_g eg F') c) e (c _ _ (Nat.ne_of_gt l) (N'.get (.head _))) (new_g eg (Nat.ne_of_gt l) (N'.fresh (.head _)))
end Mine
end

section
open PySem PySem.W PySem.Calls PySem.Spec PyProof.Rows
set_option Elab.async false
set_option maxRecDepth 100000
set_option maxHeartbeats 8000000
set_option linter.unusedVariables false
namespace Mine
theorem fill3 : PySem.Challenge.rw_sn0012_01 = PySem.Challenge.rw_sn0012_01 ∧ hd.heap_39 = hd.heap_39 := by
  k_fill
  exact ⟨rfl, rfl⟩

section
variable {w : World} {A : Around} {E : Value → Shared → Prop} {s : Shared}
theorem acc_type {M : Model} {h : Heap} {p dx : Addr} {items : Array Value} {ep : Nat} (hp : h.get? p = some (accObj dx items ep)) : Looks M h (typeOf (.ref p)) (.ref 149) := (Looks.ld hp).andThen .now
theorem acc_special {M : Model} {h : Heap} {p dx : Addr} {items : Array Value} {ep : Nat} {name : Str} {r : Option Value} (X : (hd.heap_39 w.params).In h) (hp : h.get? p = some (accObj dx items ep))
    (e : findIn (hd.heap_39 w.params) (.ref 149) name = some r) : Looks M h (specialOf (.ref p) name) r := (acc_type hp).andThen (looks_findIn X e)
theorem acc_sequenceKey {M : Model} {p dx : Addr} {items : Array Value} {ep : Nat} {name : Str} {k : Value} {Q : Value → Shared → Prop} (X : (hd.heap_39 w.params).In s.heap) (hp : s.heap.get? p = some (accObj dx items ep)) (h : Q k s) :
    wpAny M A (sequenceKey (.ref p) k name) Q E s := by
  have hm : mroIn (hd.heap_39 w.params) 149 (.type "collections.deque") = some false := by k_is
  unfold sequenceKey
  refine wpAny_bind ((acc_type hp).here ?_)
  show wpAny M A ((seqItemTypes.anyM fun n => isSubtype (.ref 149) (.type n)) >>= _) Q E s
  have e : (seqItemTypes.anyM fun n => isSubtype (.ref 149) (.type n)) = (isSubtype (.ref 149) (.type "collections.deque") >>= fun b => if b = true then pure true else pure false) := by
    show (List.anyM _ ["collections.deque"]) = _
    simp only [List.anyM]
    congr 1
    funext b
    cases b <;> rfl
  rw [e]
  refine wpAny_bind (wpAny_bind ((looks_mroIn X hm).here ?_))
  exact wpAny_pure (wpAny_pure h)
theorem acc_callSpecial {M : Model} {p dx : Addr} {items : Array Value} {ep : Nat} {name : Str} {id : String} {args : List Value} {Q : Option Value → Shared → Prop} (X : (hd.heap_39 w.params).In s.heap) (hp : s.heap.get? p = some (accObj dx items ep))
    (hf : findIn (hd.heap_39 w.params) (.ref 149) name = some (some (.builtin id))) (hb : ∀ self, bindSpecial (.builtin id) self = pure (.builtin id, [self]))
    (hc : wpAny M A (call (.builtin id) (.ref p :: args) []) (fun v => Q (some v)) E s) : wpAny M A (callSpecial? (.ref p) name args []) Q E s := by
  simp only [callSpecial?]
  refine wpAny_bind ((acc_special X hp hf).here ?_)
  simp only [hb]
  exact wpAny_holding (wpAny_bind (wpAny_pure (wpAny_bind (wpAny_mono hc (fun v s' h' => wpAny_pure h') fun _ _ h' => h'))))

theorem slice_parts {M : Model} {sl : Addr} {vl vu vs : Value} {lo hi st : Option Int} {Q : Value × Value × Value → Shared → Prop} (hs : s.heap.IsSliceOf sl vl vu vs) (pl : IsPart vl lo) (pu : IsPart vu hi) (ps : IsPart vs st) (h0 : st ≠ some 0)
    (h : Q (rawPart lo, rawPart hi, rawPart st) s) : wpAny M A (Builtin.List.listSliceParts (.ref sl)) Q E s := by
  obtain ⟨os, hos, hcs, hds⟩ := id hs
  rw [listSliceParts_eq]
  have hstep : ¬ ((rawPart st == rawInt 0) = true) := by
    cases st with
    | none => exact Bool.false_ne_true
    | some c =>
      intro hh
      have : c = 0 := by simpa [rawPart, rawInt] using hh
      exact h0 (by rw [this])
  refine wpAny_bind (wpAny_field hos hds (x := vs) rfl (wpAny_bind (wpAny_listPart ps ?_)))
  rw [if_neg hstep]
  refine wpAny_bind (wpAny_field hos hds (x := vl) rfl (wpAny_bind (wpAny_listPart pl ?_)))
  exact wpAny_bind (wpAny_field hos hds (x := vu) rfl (wpAny_bind (wpAny_listPart pu (wpAny_pure h))))

theorem acc_getItem_slice {p dx sl : Addr} {items : Array Value} {ep : Nat} {vl vu vs : Value} {lo hi st : Option Int} {Q : Value → Shared → Prop} (X : (hd.heap_39 w.params).In s.heap) (hp : s.heap.get? p = some (accObj dx items ep))
    (hs : s.heap.IsSliceOf sl vl vu vs) (pl : IsPart vl lo) (pu : IsPart vu hi) (ps : IsPart vs st) (h0 : st ≠ some 0)
    (h : Q (.ref s.heap.objs.size) { s with heap := s.heap.push { cls := .type "list", data := .seq (slicePick items lo hi st) } })
    (hsz : items.size ≤ sizeLine) : wpAny (model PP w) A (getItem (.ref p) (.ref sl)) Q E s := by
  obtain ⟨os, hos, hcs, hds⟩ := id hs
  have hTs : s.TypeIs (.ref sl) "slice" := ⟨os, hos, hcs⟩
  have hf : findIn (hd.heap_39 w.params) (.ref 149) "__getitem__" = some (some (.builtin "list.__getitem__")) := by k_is
  unfold getItem
  refine wpAny_holding ?_
  refine wpAny_bind (acc_sequenceKey X hp ?_)
  refine wpAny_bind (acc_callSpecial X hp hf slot_list_getitem.bind (acc_call (n := "__getitem__") X hp (by decide +kernel) entry_list_getitem (by decide +kernel) (.inr (by decide +kernel)) (args_list_getitem _ _) ?_))
  show wpAny _ _ (Builtin.List.listSubscript? (.ref sl) >>= _) _ _ s
  refine wpAny_bind ?_
  unfold Builtin.List.listSubscript?
  refine wpAny_bind (wpAny_specialOf hTs slice_no_index ?_)
  simp only [Option.isNone_none, if_true]
  refine wpAny_pure ?_
  show wpAny _ _ (typeOf (.ref sl) >>= _) _ _ s
  refine wpAny_bind (wpAny_typeOf hTs ?_)
  rw [if_neg (by decide)]
  refine wpAny_bind (slice_parts hs pl pu ps h0 ?_)
  refine wpAny_bind (m := Builtin.List.listItems (.ref p)) ?_
  unfold Builtin.List.listItems
  refine wpAny_bind (wpAny_seqItems hp rfl (wpAny_pure ?_))
  refine wpAny_bind (wpAny_of_eq (sliceIndices_raw lo hi st items.size h0) ?_)
  exact wpAny_bind (wpAny_newObj_type (wpAny_pure ⟨_, rfl, wpAny_pure h⟩) (Nat.le_trans (slicePick_size_le items lo hi st) hsz))

theorem acc_subscript {value slice : Expr} {p dx : Addr} {items : Array Value} {ep : Nat} {i : Value} {ops : List Value} {Q : Value → Shared → Prop} (X : (hd.heap_39 w.params).In s.heap) (hp : s.heap.get? p = some (accObj dx items ep))
    (h : wpAny (model PP w) A (getItem (.ref p) i) Q E s) (hs : subscripted slice false (.ref p) i = operate ops (getItem (.ref p) i)) (ht : ∀ r, letTemporaryGo value (.ref p) r = pure ()) :
    wpAny (model PP w) A (subscriptTail value slice (.ref p) i) Q E s := by
  have hf : findIn (hd.heap_39 w.params) (.ref 149) "__getitem__" = some (some (.builtin "list.__getitem__")) := by k_is
  unfold subscriptTail
  refine wpAny_bind ?_
  rw [getitemInPython_of_ne (by intro q; cases q)]
  refine wpAny_bind ((acc_special X hp hf).here ?_)
  have fin : wpAny (model PP w) A (subscripted slice false (.ref p) i) (fun r s₃ => wpAny (model PP w) A (letTemporaryGo value (.ref p) r >>= fun _ => pure r) Q E s₃) E s := by
    rw [hs]
    exact wpAny_operating (wpAny_mono h (fun r s₃ h₃ => wpAny_bind (wpAny_of_eq (ht r) (wpAny_pure h₃))) fun _ _ x => x)
  first
    | exact wpAny_pure (wpAny_bind fin)
    | exact wpAny_bind (wpAny_pure (wpAny_bind fin))
    | exact wpAny_bind fin

theorem mapSeq_acc {dx : Addr} {items ys : Array Value} {ep : Nat} (f : Array Value → Array Value) (e : f items = ys) : ∃ ep', Obj.mapSeq f (accObj dx items ep) = accObj dx ys ep' := by
  subst e
  exact ⟨_, rfl⟩

/-- p[lo:] = [] -/
theorem acc_setItem_slice {p dx sl l : Addr} {items new : Array Value} {ep : Nat} {vl vu : Value} {lo hi : Option Int} {Q : Unit → Shared → Prop} (X : (hd.heap_39 w.params).In s.heap) (hp : s.heap.get? p = some (accObj dx items ep))
    (hs : s.heap.IsSliceOf sl vl vu .none) (pl : IsPart vl lo) (pu : IsPart vu hi) (hl : s.heap.IsList l new) (hlp : l ≠ p)
    (hsz : items.size + new.size ≤ sizeLine)
    (h : ∀ h' ep', Chg p s.heap h' → h'.get? p = some (accObj dx (items.extract 0 (kms_lo lo items.size) ++ new ++ items.extract (max (kms_lo lo items.size) (kms_hi hi items.size)) items.size) ep') → Q () { s with heap := h' }) : wpAny (model PP w) A (setItem (.ref p) (.ref sl) (.ref l)) Q E s := by
  obtain ⟨os, hos, hcs, hds⟩ := id hs
  obtain ⟨ol, hol, hcl, nl, hdl⟩ := id hl
  have hTs : s.TypeIs (.ref sl) "slice" := ⟨os, hos, hcs⟩
  have hTl : s.TypeIs (.ref l) "list" := ⟨ol, hol, hcl⟩
  have hf : findIn (hd.heap_39 w.params) (.ref 149) "__setitem__" = some (some (.builtin "list.__setitem__")) := by k_is
  unfold setItem
  refine wpAny_holding ?_
  refine wpAny_bind (acc_sequenceKey X hp ?_)
  refine wpAny_bind (acc_callSpecial X hp hf slot_list_setitem.bind (acc_call (n := "__setitem__") X hp (by decide +kernel) entry_list_setitem (by decide +kernel) (.inl (by decide +kernel)) (args_list_setitem _ _ _) ?_))
  show wpAny _ _ (Builtin.List.listSubscript? (.ref sl) >>= _) _ _ s
  refine wpAny_bind ?_
  unfold Builtin.List.listSubscript?
  refine wpAny_bind (wpAny_specialOf hTs slice_no_index ?_)
  simp only [Option.isNone_none, if_true]
  refine wpAny_pure ?_
  show wpAny _ _ (typeOf (.ref sl) >>= _) _ _ s
  refine wpAny_bind (wpAny_typeOf hTs ?_)
  rw [if_neg (by decide)]
  refine wpAny_bind (slice_parts hs pl pu .none (by simp) ?_)
  have hne : Builtin.List.listSameRef (.ref p) (.ref l) = false := by
    show (p == l) = false
    simpa using Ne.symm hlp
  simp only [hne, Bool.false_eq_true, if_false]
  refine wpAny_bind (m := Builtin.List.listAllItems (.ref l) _) ?_
  unfold Builtin.List.listAllItems
  refine wpAny_bind (wpAny_typeOf hTl ?_)
  simp only [beq_self_eq_true, Bool.true_or, if_true]
  unfold Builtin.List.listItems
  refine wpAny_bind (wpAny_seqItems hol hdl (wpAny_pure ?_))
  refine wpAny_bind (wpAny_bind (wpAny_seqItems hp rfl (wpAny_pure ?_)))
  refine wpAny_bind (wpAny_of_eq (sliceIndices_raw lo hi none items.size (by simp)) ?_)
  rw [kms_bounds]
  have hlong : Builtin.List.listTooLong (items.size + new.size) = false := decide_eq_false (Nat.not_lt.mpr hsz)
  simp only [beq_self_eq_true, if_true, hlong, Bool.false_eq_true, if_false]
  refine wpAny_bind (wpAny_rule ?_)
  have e1 : ((kms_lo lo items.size : Nat) : Int).toNat = kms_lo lo items.size := Int.toNat_natCast _
  have e2 : (max ((kms_lo lo items.size : Nat) : Int) ((kms_hi hi items.size : Nat) : Int)).toNat = max (kms_lo lo items.size) (kms_hi hi items.size) := by exact Mine.q_0
  rw [e1, e2]
  refine wpAny_bind (m := updateSeq p _) ?_
  obtain ⟨ep', em⟩ := mapSeq_acc (dx := dx) (ep := ep) (fun xs => xs.extract 0 (kms_lo lo items.size) ++ new ++ xs.extract (max (kms_lo lo items.size) (kms_hi hi items.size)) xs.size) rfl (items := items)
  refine wpAny_updateSeq hp rfl ?_ (by exact Mine.q_1 hsz) ?_
  · refine wpAny_bind (wpAny_letGo (wpAny_bind (wpAny_pure (wpAny_pure ⟨_, rfl, wpAny_pure ?_⟩))))
    refine h _ ep' (fun b o n e => ((Heap.SameBut.update ..).2 b n).trans e) ?_
    rw [Heap.get?_update_self _ hp (by rw [em]; rfl), em]
  · simp only [Array.size_append, Array.size_extract]
    exact Mine.q_2 hsz
end
end Mine
end

section
open PySem PySem.W PySem.Calls PySem.Spec PyProof.Rows
set_option Elab.async false
set_option maxRecDepth 100000
set_option maxHeartbeats 8000000
set_option linter.unusedVariables false
namespace Mine
theorem fill4 : PySem.Challenge.rw_sn0012_01 = PySem.Challenge.rw_sn0012_01 ∧ hd.heap_39 = hd.heap_39 := by
  k_fill
  exact ⟨rfl, rfl⟩
section
variable {w : World} {A : Around} {E : Value → Shared → Prop} {s : Shared} {h₀ : Heap} {L : Addr} {m : Str → Option Value} {news : List (Addr × Obj)}
theorem acc_slice_tail {value slice : PySem.Expr} {p dx : Addr} {items : Array Value} {ep : Nat} {vl vu : Value} {lo hi : Option Int} {Q : Value → Shared → Prop} (X : (hd.heap_39 w.params).In h₀)
    (F : Fr h₀ L s.heap m) (N : News h₀ L s.heap news) (hm : (p, accObj dx items ep) ∈ news) (pl : IsPart vl lo) (pu : IsPart vu hi)
    (h : ∀ D h', Fr h₀ L h' m → News h₀ L h' ((D, listOf (slicePick items lo hi none) 0) :: news) → (∀ q ∈ news, q.1 < D) → Q (.ref D) { s with heap := h' })
    (hs : subscripted slice false (.ref p) (.ref s.heap.objs.size) = operate [.ref s.heap.objs.size, .ref p] (getItem (.ref p) (.ref s.heap.objs.size))) (ht : ∀ r, letTemporaryGo value (.ref p) r = pure ()) (hz : items.size ≤ sizeLine) :
    wpAny (model PP w) A (subscriptTail value slice (.ref p) (.ref s.heap.objs.size)) Q E { s with heap := s.heap.push { cls := .type "slice", data := .fields #[vl, vu, .none] } } := by
  have Fp := F.push { cls := .type "slice", data := .fields #[vl, vu, .none] }
  have hp := Heap.get?_push_of_some { cls := .type "slice", data := .fields #[vl, vu, .none] } (N _ hm).1
  have X' : (hd.heap_39 w.params).In (s.heap.push { cls := .type "slice", data := .fields #[vl, vu, .none] }) := X.keeps Fp.keep
  refine acc_subscript (s := { s with heap := s.heap.push { cls := .type "slice", data := .fields #[vl, vu, .none] } }) X' hp
    (acc_getItem_slice (s := { s with heap := s.heap.push { cls := .type "slice", data := .fields #[vl, vu, .none] } }) X' hp (Heap.IsSliceOf.new ..) pl pu .none (by simp) ?_ hz) hs ht
  have N1 := News.push Fp (N.grown fun _ _ e => Heap.get?_push_of_some _ e) { cls := .type "list", data := .seq (slicePick items lo hi none) }
  exact h _ _ (Fp.push _) N1 fun p hp => by
    show p.1 < (s.heap.push _).objs.size
    rw [Heap.size_push]
    exact Nat.lt_succ_of_lt (Heap.lt_size (N p hp).1)

theorem acc_setslice_tail {p dx l : Addr} {items new : Array Value} {ep en : Nat} {vl vu : Value} {lo hi : Option Int} {Q : Unit → Shared → Prop} (X : (hd.heap_39 w.params).In h₀)
    (F : Fr h₀ L s.heap m) (N : News h₀ L s.heap news) (hm : (p, accObj dx items ep) ∈ news) (hl : (l, listOf new en) ∈ news) (hlp : l ≠ p) (pl : IsPart vl lo) (pu : IsPart vu hi) (hz : items.size + new.size ≤ sizeLine)
    (h : ∀ h' ep', Fr h₀ L h' m → Chg p s.heap h' → h'.get? p = some (accObj dx (items.extract 0 (kms_lo lo items.size) ++ new ++ items.extract (max (kms_lo lo items.size) (kms_hi hi items.size)) items.size) ep') → Q () { s with heap := h' }) :
    wpAny (model PP w) A (setItem (.ref p) (.ref s.heap.objs.size) (.ref l)) Q E { s with heap := s.heap.push { cls := .type "slice", data := .fields #[vl, vu, .none] } } := by
  have Fp := F.push { cls := .type "slice", data := .fields #[vl, vu, .none] }
  have hp := Heap.get?_push_of_some { cls := .type "slice", data := .fields #[vl, vu, .none] } (N _ hm).1
  have hL := Heap.get?_push_of_some { cls := .type "slice", data := .fields #[vl, vu, .none] } (N _ hl).1
  have X' : (hd.heap_39 w.params).In (s.heap.push { cls := .type "slice", data := .fields #[vl, vu, .none] }) := X.keeps Fp.keep
  refine acc_setItem_slice (s := { s with heap := s.heap.push { cls := .type "slice", data := .fields #[vl, vu, .none] } }) X' hp (Heap.IsSliceOf.new ..) pl pu ⟨_, hL, rfl, _, rfl⟩ hlp hz ?_
  intro h' ep' c e
  exact h h' ep' (fr_chg Fp c (N _ hm).2.2 (N _ hm).2.1) (fun b o n q => c b o n (Heap.get?_push_of_some _ q)) e
end

local macro_rules | `(tactic| walk_at "no such place") => `(tactic| skip)
local macro_rules | `(tactic| walk_at "subscriptTail") => `(tactic| ((with_reducible show wpAny _ _ (subscriptTail _ _ (Value.ref _) (Value.ref _)) _ _ _); refine haltN 1 ?_))

local macro_rules | `(tactic| walk_at "setItem ref ref") => `(tactic| refine haltN 2 ?_)

theorem lo_some {i : Int} (hi : 0 ≤ i) (n : Nat) : kms_lo (some i) n = min i.toNat n := by
  show (if i < 0 then n - (-i).toNat else min i.toNat n) = _
  rw [if_neg (by exact Mine.q_3 hi)]
theorem pick_from (items : Array Value) {i : Int} (hi : 0 ≤ i) : slicePick items (some i) none none = (items.toList.drop i.toNat).toArray := by
  rw [kms_pick_eq]
  unfold kms_pick
  rw [lo_some hi]
  show ((items.toList.drop (min i.toNat items.toList.length)).take (items.toList.length - min i.toNat items.toList.length)).toArray = _
  congr 1
  rw [kmk_drop_min]
  refine List.take_of_length_le ?_
  rw [List.length_drop]
  exact Mine.q_4
theorem set_from (items : Array Value) {i : Int} (hi : 0 ≤ i) : items.extract 0 (kms_lo (some i) items.size) ++ (#[] : Array Value) ++ items.extract (max (kms_lo (some i) items.size) (kms_hi none items.size)) items.size = (items.toList.take i.toNat).toArray := by
  have e1 : max (kms_lo (some i) items.size) (kms_hi none items.size) = items.size := by
    rw [lo_some hi]
    exact Nat.max_eq_right (Nat.min_le_right _ _)
  rw [e1, lo_some hi]
  apply Array.ext'
  simp only [Array.toList_append, Array.toList_extract, List.extract_eq_take_drop]
  simp
theorem pop_c {w : World} {A : Around} {s : Shared} {h₀ : Heap} {R : Result → Shared → Prop} {mean : ExcName → Option Value} {mg mb : Str → Option Value}
   {p dx : Addr} {items : Array Value} {ep : Nat} {ti tj : Tok} {i : Int} {t1 : Tok}
   (G : Gd w mean mg mb h₀) (k : Sub h₀ s.heap)
   (hp : s.heap.get? p = some (accObj dx items ep)) (hp0 : h₀.get? p = none) (hdx : s.heap.get? dx = some (accDict w ti tj)) (hz : items.size ≤ sizeLine) (hi : 0 ≤ i)
   (hdp : A.depth + 10 < recursionLimit) (hun : A.units + 100 < cLine)
   (h : ∀ h' tk a ep', Chg p s.heap h' → h'.get? p = some (accObj dx (items.toList.take i.toNat).toArray ep') → h'.get? a = some (listOf (items.toList.drop i.toNat).toArray 0) → s.heap.get? a = none → R (.ok (.ret (.ref a))) { s with heap := h', toks := tk }) :
   codeAny (model PP w) A (.call (.ref 101) ⟨[.ref p, .int i t1], []⟩) R s := by
  have Xs : (hd.heap_39 w.params).In s.heap := fun a o e => k a o (G.X a o e)
  refine' enterP [p] [("self", .ref p), ("i", .int i t1)] G k ?k5 (f := 101) (cl := []) ?k6 ?k7 ?k8 ?k9 ?kB ?c5 ?c2 ?c3 ?c4 ?_; (case k5 => (intro a ha; simp only [List.mem_singleton] at ha; rw [ha]; exact hp0)); (case k6 => k_is); (case k7 => k_is); (case k8 => exact Mine.o_d0 hdp); (case k9 => first | exact BindsTo.of_eq rfl | exact binds_K (by assumption) rfl (by k_is) rfl rfl rfl); (case kB => exact locs rfl); (case c5 => decide); (case c2 => exact rfl); (case c3 => exact rfl); (case c4 => exact rfl)
  intro h₁ g F k1 eg G1 X T N0
  have hdg : g.get? dx = some (accDict w ti tj) := by
    rw [eg]; refine hideAll_get _ hdx ?_
    intro q; cases q with
    | head => rw [hp] at hdx; cases hdx
    | tail _ q => cases q
  have N1 := news_cons N0 (k1 _ _ hp) (Nat.ne_of_lt (Heap.lt_size hp)) (by rw [eg]; exact hideAll_none _ (.head _))
  clear N0 Xs
  (try dsimp only)
  (try k_fold)
  k_steps
  repeat (any_goals (first
    | ((with_reducible refine goN 1 ?_); k_dflt (refine' acc_slice_tail ?q9X ?q9F ?q9N ?q9hm ?q9pl ?q9pu ?_ ?q9hs ?q9ht ?q9hz; (case q9X => k_asm); (case q9F => k_asm); (case q9N => k_asm); (case q9hm => k_mem); (case q9pl => first | exact IsPart.none | exact IsPart.int _ _); (case q9pu => first | exact IsPart.none | exact IsPart.int _ _); (case q9hs => with_unfolding_all rfl); (case q9ht => (intro _; with_unfolding_all rfl)); (case q9hz => assumption); k_whole); intro D' h' F' N' l1; (try k_lt l1); (try k_sweep); k_steps)
    | ((with_reducible refine goN 2 ?_); k_dflt (refine' acc_setslice_tail ?q9X ?q9F ?q9N ?q9hm ?q9hl ?q9hlp ?q9pl ?q9pu ?q9hz ?_; (case q9X => k_asm); (case q9F => k_asm); (case q9N => k_asm); (case q9hm => k_mem); (case q9hl => k_mem); (case q9hlp => k_ne); (case q9pl => first | exact IsPart.none | exact IsPart.int _ _); (case q9pu => first | exact IsPart.none | exact IsPart.int _ _); (case q9hz => first | assumption | (simp only [List.size_toArray, List.length_nil, Nat.add_zero]; assumption)); k_whole); k_steps)))
  rename Fr _ _ _ _ => F'
  rename News _ _ _ _ => N'
  rename Chg _ _ _ => c
  rename Heap.get? _ p = some (accObj dx _ _) => e
  rename _ ∧ p < _ => l
  rename p < _ => l2
  rw [pick_from items hi] at N'
  rw [set_from items hi] at e
  exact h _ _ _ _ (Chg.trans (chg_g eg (by assumption)) c) e (c _ _ (Nat.ne_of_gt l2) (N'.get (.tail _ (.head _)))) (new_g eg (Nat.ne_of_gt l2) (N'.fresh (.tail _ (.head _))))
theorem pop0_c {w : World} {A : Around} {s : Shared} {h₀ : Heap} {R : Result → Shared → Prop} {mean : ExcName → Option Value} {mg mb : Str → Option Value}
   {p dx : Addr} {items : Array Value} {ep : Nat} {ti tj : Tok} 
   (G : Gd w mean mg mb h₀) (k : Sub h₀ s.heap)
   (hp : s.heap.get? p = some (accObj dx items ep)) (hp0 : h₀.get? p = none) (hdx : s.heap.get? dx = some (accDict w ti tj)) (hz : items.size ≤ sizeLine) 
   (hdp : A.depth + 10 < recursionLimit) (hun : A.units + 100 < cLine)
   (h : ∀ h' tk a ep', Chg p s.heap h' → h'.get? p = some (accObj dx (items.toList.take (0 : Int).toNat).toArray ep') → h'.get? a = some (listOf (items.toList.drop (0 : Int).toNat).toArray 0) → s.heap.get? a = none → R (.ok (.ret (.ref a))) { s with heap := h', toks := tk }) :
   codeAny (model PP w) A (.call (.ref 101) ⟨[.ref p], []⟩) R s := by
  have Xs : (hd.heap_39 w.params).In s.heap := fun a o e => k a o (G.X a o e)
  refine' enterP [p] [("self", .ref p), ("i", .int (0 : Int) 427)] G k ?k5 (f := 101) (cl := []) ?k6 ?k7 ?k8 ?k9 ?kB ?c5 ?c2 ?c3 ?c4 ?_; (case k5 => (intro a ha; simp only [List.mem_singleton] at ha; rw [ha]; exact hp0)); (case k6 => k_is); (case k7 => k_is); (case k8 => exact Mine.o_d0 hdp); (case k9 => first | exact BindsTo.of_eq rfl | exact binds_K (by assumption) rfl (by k_is) rfl rfl rfl); (case kB => exact locs rfl); (case c5 => decide); (case c2 => exact rfl); (case c3 => exact rfl); (case c4 => exact rfl)
  intro h₁ g F k1 eg G1 X T N0
  have hdg : g.get? dx = some (accDict w ti tj) := by
    rw [eg]; refine hideAll_get _ hdx ?_
    intro q; cases q with
    | head => rw [hp] at hdx; cases hdx
    | tail _ q => cases q
  have N1 := news_cons N0 (k1 _ _ hp) (Nat.ne_of_lt (Heap.lt_size hp)) (by rw [eg]; exact hideAll_none _ (.head _))
  clear N0 Xs
  (try dsimp only)
  (try k_fold)
  k_steps
  repeat (any_goals (first
    | ((with_reducible refine goN 1 ?_); k_dflt (refine' acc_slice_tail ?q9X ?q9F ?q9N ?q9hm ?q9pl ?q9pu ?_ ?q9hs ?q9ht ?q9hz; (case q9X => k_asm); (case q9F => k_asm); (case q9N => k_asm); (case q9hm => k_mem); (case q9pl => first | exact IsPart.none | exact IsPart.int _ _); (case q9pu => first | exact IsPart.none | exact IsPart.int _ _); (case q9hs => with_unfolding_all rfl); (case q9ht => (intro _; with_unfolding_all rfl)); (case q9hz => assumption); k_whole); intro D' h' F' N' l1; (try k_lt l1); (try k_sweep); k_steps)
    | ((with_reducible refine goN 2 ?_); k_dflt (refine' acc_setslice_tail ?q9X ?q9F ?q9N ?q9hm ?q9hl ?q9hlp ?q9pl ?q9pu ?q9hz ?_; (case q9X => k_asm); (case q9F => k_asm); (case q9N => k_asm); (case q9hm => k_mem); (case q9hl => k_mem); (case q9hlp => k_ne); (case q9pl => first | exact IsPart.none | exact IsPart.int _ _); (case q9pu => first | exact IsPart.none | exact IsPart.int _ _); (case q9hz => first | assumption | (simp only [List.size_toArray, List.length_nil, Nat.add_zero]; assumption)); k_whole); k_steps)))
  rename Fr _ _ _ _ => F'
  rename News _ _ _ _ => N'
  rename Chg _ _ _ => c
  rename Heap.get? _ p = some (accObj dx _ _) => e
  rename _ ∧ p < _ => l
  rename p < _ => l2
  rw [pick_from items (Int.le_refl 0)] at N'
  rw [set_from items (Int.le_refl 0)] at e
  exact h _ _ _ _ (Chg.trans (chg_g eg (by assumption)) c) e (c _ _ (Nat.ne_of_gt l2) (N'.get (.tail _ (.head _)))) (new_g eg (Nat.ne_of_gt l2) (N'.fresh (.tail _ (.head _))))
end Mine
end

section
open PySem PySem.W PySem.Calls PySem.Spec PyProof.Rows
set_option Elab.async false
set_option maxRecDepth 100000
set_option maxHeartbeats 8000000
set_option linter.unusedVariables false
namespace Mine
theorem fill5 : PySem.Challenge.rw_sn0012_01 = PySem.Challenge.rw_sn0012_01 ∧ hd.heap_39 = hd.heap_39 := by
  k_fill
  exact ⟨rfl, rfl⟩
section
variable {w : World} {A : Around} {E : Value → Shared → Prop} {h : Heap} {g : Array GenState} {d : Drawn} {t : Nat} {os : OsState}
theorem entry_wdg : entryFor table "wrapper_descriptor.__get__" = some Builtin.«wrapper_descriptor.__get__» := entryFor_of_tree (by kernel_rfl)
theorem slot_wdg : Slot "wrapper_descriptor" "__get__" "wrapper_descriptor.__get__" :=
  .of (owner := "wrapper_descriptor") (n := "__get__") (by rw [typeLookup_type, builtinLookup_eq_fast]; kernel_rfl) (by decide +kernel) (by decide +kernel) (by decide +kernel)
    (by first | exact .inl (by decide +kernel) | exact .inr (by decide +kernel)) (by rw [isSubtype_type]; kernel_rfl)
theorem args_wdg (a b c : Value) : argsOk "wrapper_descriptor.__get__" ⟨[a, b, c], []⟩ := by unfold argsOk; kernel_rfl

theorem wdg {id : String} {p dx : Addr} {items : Array Value} {ep : Nat} {Q : Fin → Shared → Prop} (hid : ".".intercalate (id.cutAt '.').dropLast = "list") (X : (hd.heap_39 w.params).In h) (hp : h.get? p = some (accObj dx items ep))
   (hq : Q (.done (.ret (.ref h.objs.size))) ⟨h.push { cls := .type "method-wrapper", data := .fields #[.builtin id, .ref p] }, g, d, t, os⟩) :
   wpAny (model PP w) A (Builtin.«wrapper_descriptor.__get__» ⟨[.builtin id, .ref p, .ref 149], []⟩) Q E ⟨h, g, d, t, os⟩ := by
  have L3 : Looks (model PP w) h (isInstance (.ref p) (.type (".".intercalate (id.cutAt '.').dropLast))) true := by
    rw [hid]
    exact acc_isList X hp
  unfold Builtin.«wrapper_descriptor.__get__»
  repeat lk
  exact hq

theorem acc_ne {h : Heap} {p dx : Addr} {items : Array Value} {ep : Nat} (X : (hd.heap_39 w.params).In h) (hp : h.get? p = some (accObj dx items ep)) : p ≠ 149 := by
  rintro rfl
  have e : clsIn (hd.heap_39 w.params) 149 = some { name := "_Accumulator", bases := [.type "list"], mro := [.ref 149, .type "list", .type "object"], ns := 148, qualname := "_Accumulator" } := by k_is
  unfold clsIn at e
  split at e
  · rename_i ho
    have := X _ _ ho
    rw [hp] at this
    cases this
  · cases e

theorem sup_ga {id : String} {so p dx : Addr} {items : Array Value} {ep : Nat} {name : Str} {tk : Tok} {Q : Fin → Shared → Prop} (hid : ".".intercalate (id.cutAt '.').dropLast = "list") (hty : typeOf (.builtin id) = pure (.type "wrapper_descriptor"))
    (X : (hd.heap_39 w.params).In h) (hp : h.get? p = some (accObj dx items ep)) (hp149 : p ≠ 149)
    (hso : h.get? so = some (ks_superObj 149 p 149)) (hf : ks_superIn (hd.heap_39 w.params) 149 149 name = some (some (.builtin id))) (hn : (name == ("__class__" : Str)) = false)
    (hq : Q (.done (.ret (.ref h.objs.size))) ⟨h.push { cls := .type "method-wrapper", data := .fields #[.builtin id, .ref p] }, g, d, t, os⟩) :
    wpAny (model PP w) A (Builtin.«super.__getattribute__» ⟨[.ref so, .str name tk], []⟩) Q E ⟨h, g, d, t, os⟩ := by
  have hno : Looks (model PP w) h (opaqueClassAbove (.ref 149)) none := looks_opaque X (by k_is)
  have e : clsIn (hd.heap_39 w.params) 149 = some { name := "_Accumulator", bases := [.type "list"], mro := [.ref 149, .type "list", .type "object"], ns := 148, qualname := "_Accumulator" } := by k_is
  have hC : Looks (model PP w) h (mroOf (.ref 149)) [.ref 149, .type "list", .type "object"] := (looks_clsIn X e).andThen .now
  have hf : alongIn (hd.heap_39 w.params) name [.type "list", .type "object"] = some (some (.builtin id)) := by
    unfold ks_superIn at hf
    rw [e] at hf
    exact hf
  have hl : ((([.ref 149, .type "list", .type "object"] : List Value)).dropWhile (· != .ref 149)).drop 1 = [.type "list", .type "object"] := by decide
  have hne : (Value.ref p == Value.ref 149) = false := by simp [hp149]
  have hdt : (ks_superObj 149 p 149).data = .fields #[.ref 149, .ref p, .ref 149] := rfl
  have f0 : (#[.ref 149, .ref p, .ref 149] : Array Value)[0]? = some (.ref 149) := rfl
  have f1 : (#[.ref 149, .ref p, .ref 149] : Array Value)[1]? = some (.ref p) := rfl
  have f2 : (#[.ref 149, .ref p, .ref 149] : Array Value)[2]? = some (.ref 149) := rfl
  have hTb : (⟨h, g, d, t, os⟩ : Shared).TypeIs (.builtin id) "wrapper_descriptor" := by first | exact hty | exact ⟨_, hty⟩ | trivial
  unfold Builtin.«super.__getattribute__»
  repeat (first
    | (with_reducible refine wpAny_field hso hdt f0 ?_) | (with_reducible refine wpAny_field hso hdt f1 ?_) | (with_reducible refine wpAny_field hso hdt f2 ?_)
    | (with_reducible refine ks_wpAny_notOpaque hno ?_)
    | (with_reducible refine Looks.at hC ?_; rw [hl])
    | (refine ks_forIn_along X (fun _ _ => rfl) rfl ?_ hf)
    | (with_reducible refine wpAny_of_eq hty ?_)
    | (with_reducible refine wpAny_of_eq slot_wdg.lookup ?_)
    | (with_reducible refine wpAny_call_entry slot_wdg hTb entry_wdg (wdg hid X hp ?_) (args_wdg _ _ _))
    | (with_reducible refine ⟨_, rfl, ?_⟩)
    | (simp only [hn, hne, Bool.or_false, Bool.false_eq_true, if_false])
    | wp_step
    | dsimp only)
  all_goals exact hq

theorem sup_method {id : String} {so p dx : Addr} {items : Array Value} {ep : Nat} {name : Str} {pl : Sem Bool} {Q : Value × List Value → Shared → Prop} (hid : ".".intercalate (id.cutAt '.').dropLast = "list") (hty : typeOf (.builtin id) = pure (.type "wrapper_descriptor"))
    (X : (hd.heap_39 w.params).In h) (hp : h.get? p = some (accObj dx items ep)) (hp149 : p ≠ 149)
    (hso : h.get? so = some (ks_superObj 149 p 149)) (hf : ks_superIn (hd.heap_39 w.params) 149 149 name = some (some (.builtin id))) (hn : (name == ("__class__" : Str)) = false)
    (hq : Q (.ref h.objs.size, []) ⟨h.push { cls := .type "method-wrapper", data := .fields #[.builtin id, .ref p] }, g, d, t + 1, os⟩) :
    wpAny (model PP w) A (getMethod (.ref so) name pl) Q E ⟨h, g, d, t, os⟩ := by
  have hlk := F.ks_slot_super_ga.lookup
  have hcan := F.ks_canon_super_ga
  have hT : ∀ t', (⟨h, g, d, t', os⟩ : Shared).TypeIs (.ref so) "super" := fun _ => ⟨_, hso, rfl⟩
  unfold getMethod
  refine wpAny_bind (wpAny_specialOf (hT _) hlk ?_)
  show wpAny _ _ (if (Manifest.canonical "super.__getattribute__" != "object.__getattribute__") = true then _ else _) _ _ _
  rw [if_pos hcan]
  unfold getAttr getAttrBy
  refine wpAny_bind (wpAny_bind (wpAny_mkText (wpAny_holding (wpAny_bind (wpAny_typeOf (hT _) (wpAny_bind (wpAny_of_eq hlk ?_)))))))
  show wpAny _ _ (getAttrByItsOwn (.ref so) (.str name t) (.type "super") (.builtin "super.__getattribute__") true false) _ _ _
  unfold getAttrByItsOwn hookBefore callGetattribute boundAndCalled
  refine wpAny_bind (wpAny_of_eq (show (if onTheHeap (.type "super") then typeLookup (.type "super") "__getattr__" else pure none) = pure none from rfl) ?_)
  refine wpAny_bind (wpAny_attempt (wpAny_holding ?_))
  show wpAny _ _ (bindSpecial (.builtin "super.__getattribute__") (.ref so) >>= _) _ _ _
  refine wpAny_bind (wpAny_of_eq (F.ks_slot_super_ga.bind _) ?_)
  refine wpAny_mono (Q := fun v s' => v = .ref h.objs.size ∧ s' = ⟨h.push { cls := .type "method-wrapper", data := .fields #[.builtin id, .ref p] }, g, d, t + 1, os⟩) (E := fun _ _ => False)
    (wpAny_call_entry F.ks_slot_super_ga (hT _) F.ks_entry_super_ga (sup_ga hid hty X hp hp149 hso hf hn ⟨_, rfl, rfl, rfl⟩) (F.ks_gaArgs_super _ _)) (fun v s' hv => ?_) fun _ _ z => z.elim
  obtain ⟨rfl, rfl⟩ := hv
  exact wpAny_pure (wpAny_pure hq)
end

section
variable {w : World} {A : Around} {E : Value → Shared → Prop} {s : Shared}
/-- calling a bound slot -/
theorem wrapper_call {q : Addr} {id : String} {self : Value} {pos : List Value} {Q : Value → Shared → Prop} (hq : s.heap.get? q = some { cls := .type "method-wrapper", data := .fields #[.builtin id, self] })
    (hpl : plainId id = true) (hsig : ∀ sig, Manifest.signature? id = some sig → builtinKind id = some .slot) (ha : argsOk id ⟨self :: pos, []⟩)
    (h : codeAny (model PP w) A (.builtin id ⟨self :: pos, []⟩) (fun r s' => match r with | .ok (.ret v) => Q v s' | .ok _ => False | .error e => E e s') s) : wpAny (model PP w) A (call (.ref q) pos) Q E s := by
  refine wpAny_call (codeAny_of_tree ?_)
  show wpAny _ A.in1 (callAny (.ref q) _) _ _ _
  unfold callAny
  refine wpAny_bind (wpAny_load hq ?_)
  have e : checkBoundCall id ⟨self :: pos, []⟩ = pure () := by
    unfold checkBoundCall
    cases hs : Manifest.signature? id with
    | none => rfl
    | some sig =>
      simp only [argsOk, hs] at ha
      have hk := hsig sig hs
      simp only [hk]
      exact ha
  show wpAny _ _ (checkBoundCall id ⟨self :: pos, []⟩ >>= fun _ => again (.builtin id ⟨self :: pos, []⟩)) _ _ s
  rw [e]
  exact wpAny_bind (wpAny_pure (wpAny_pure ⟨plainId_quiet hpl _, h⟩))

theorem wrapper_keeper {M : Model} {h : Heap} {q : Addr} {id : String} {self : Value} (hq : h.get? q = some { cls := .type "method-wrapper", data := .fields #[.builtin id, self] }) : Looks M h (keeperOf (.ref q)) .machine :=
  (Looks.ld (part := none) hq).andThen .now

/-- entering a def that says super() -/
theorem enterS {mean : ExcName → Option Value} {mg mb : Str → Option Value} {h₀ : Heap} {R : Result → Shared → Prop}
    {name qual : Str} {params : Arguments} {body : List Stmt} {scope : Scope} {cl : List (Str × Addr)} {dV kV doc pm cdv ct oc : Value} {an od : Option Addr} {osl : Array (Option Value)} {f : Addr} {args : Args}
    (hs : List Addr) (binds : List (Str × Value)) (G : Gd w mean mg mb h₀) (hk0 : Sub h₀ s.heap) (hn : ∀ a ∈ hs, h₀.get? a = none)
    (ho : (hd.heap_39 w.params).lookup f = some ⟨oc, od, .func (fnX name qual params body scope cl dV kV doc pm an cdv ct), osl⟩) (hcd : codeIn (hd.heap_39 w.params) cdv qual = true) (hroom : A.depth < recursionLimit)
    (hbind : BindsTo s (fnX name qual params body scope cl dV kV doc pm an cdv ct) args binds) (hloc : ∀ y ∈ binds, scope.names.lookup y.1 = some .local)
    (hcell : ∀ x ∈ scope.names, x.2 ≠ .cell) (hco : scope.isCoroutine = false) (hgen : scope.isGenerator = false) (hk : scope.kind = .function)
    (h : ∀ h₁ g, Fr g s.heap.objs.size h₁ (fun y => binds.reverse.lookup y) → Sub s.heap h₁ → g = hideAll s.heap hs → Gd w mean mg mb g → (hd.heap_39 w.params).In g → TopRead hd.view_39 LO mg mb g → News g s.heap.objs.size h₁ [] →
      _root_.PySem.wpAt (model PP w) (A.deeper (envX qual scope s.heap.objs.size f cdv cl)) (.func body (envX qual scope s.heap.objs.size f cdv cl)) (execs body (envX qual scope s.heap.objs.size f cdv cl))
        (fun fl s' => R (.ok (.ret (match fl with | .ret v => v | _ => .none))) s') (fun _ _ => False) { s with heap := h₁, toks := s.toks + binds.length }) :
    codeAny (model PP w) A (.call (.ref f) args) R s := by
  have Gs := G.keeps hk0
  refine ks_codeAny_call_defAt (fd := fnX name qual params body scope cl dV kV doc pm an cdv ct) (body := body) (binds := binds) hroom (Gs.X _ _ ho) rfl Gs.T.nolimit (codeRec_of Gs.X hcd) rfl hbind hcell hloc (fun h₁ hns hk₁ => ?_) hco hgen hk
  have G' := G.keeps (base_hide hk0 hn)
  exact ks_wpAt_mono (h h₁ _ ⟨hns, fun b o e => hk₁ b o (of_hideAll _ e), Nat.le_of_eq (hideAll_size _ _)⟩ hk₁ rfl G' G'.X G'.T News.nil) (fun _ _ x => x) (fun _ _ x => x.elim)
end

theorem count_c {w : World} {A : Around} {s : Shared} {h₀ : Heap} {R : Result → Shared → Prop} {mean : ExcName → Option Value} {mg mb : Str → Option Value}
   {p dx : Addr} {items : Array Value} {ep : Nat} {od : Obj}
   (G : Gd w mean mg mb h₀) (k : Sub h₀ s.heap)
   (hp : s.heap.get? p = some (accObj dx items ep)) (hp0 : h₀.get? p = none) (hdx : s.heap.get? dx = some od)
   (hdp : A.depth + 10 < recursionLimit) (hun : A.units + 100 < cLine)
   (h : ∀ h' tk t, Sub s.heap h' → R (.ok (.ret (.int items.size t))) { s with heap := h', toks := tk }) :
   codeAny (model PP w) A (.call (.ref 146) ⟨[.ref p], []⟩) R s := by
  refine' enterS [] [("self", .ref p)] G k ?k5 (f := 146) (cl := [("__class__", 73)]) ?k6 ?k7 ?k8 ?k9 ?kB ?c5 ?c2 ?c3 ?c4 ?_; (case k5 => (intro a ha; cases ha)); (case k6 => k_is); (case k7 => k_is); (case k8 => exact Mine.o_d0 hdp); (case k9 => exact BindsTo.of_eq rfl); (case kB => exact locs rfl); (case c5 => decide); (case c2 => exact rfl); (case c3 => exact rfl); (case c4 => exact rfl)
  intro h₁ g F k1 eg G1 X T N0
  have eg' : g = s.heap := eg
  have hpg : g.get? p = some (accObj dx items ep) := by rw [eg']; exact hp
  have hdg : g.get? dx = some od := by rw [eg']; exact hdx
  refine ks_wpAt_execs_cons (ks_wpAt_Return_some (ks_wpAt_MethodCall ?_))
  k_dflt (refine ks_node F X N0 G1.T0 (by k_is) (by rfl) (by rfl) (acc_inst (F.keep _ _ hpg) (F.keep _ _ hdg)) (by k_is) (by rfl) (by first | rfl | decide +kernel) (by k_is) (by k_is) (by k_is) (by k_is) (by decide) (by rfl) (by rfl) (by rfl) (by rfl) (by decide +kernel) (by first | boot_by_name | rfl | kernel_rfl) ?_)
  intro so h2 F2 N2 l2
  have X2 : (Mine.hd.heap_39 w.params).In h2 := fun a o e => F2.keep a o (X a o e)
  refine sup_method (id := "list.__len__") (by decide +kernel) (by show builtinType _ = _; rw [builtinType_eq_fast]; kernel_rfl) X2 (F2.keep _ _ hpg) (acc_ne X hpg) (N2.get (.head _)) (by ks_is) (by decide) ?_
  have hq := Heap.get?_push_size (o := { cls := .type "method-wrapper", data := .fields #[.builtin "list.__len__", .ref p] }) h2 rfl
  have hpq : (h2.push { cls := .type "method-wrapper", data := .fields #[.builtin "list.__len__", .ref p] }).get? p = some (accObj dx items ep) := Heap.get?_push_of_some _ (F2.keep _ _ hpg)
  refine callWith_of (P := fun h => h.get? h2.objs.size = some { cls := .type "method-wrapper", data := .fields #[.builtin "list.__len__", .ref p] }) rfl (fun h e => ⟨.machine, .inr (.inl rfl), wrapper_keeper e⟩) (evalArgs_nil3 ⟨hq, ?_⟩)
  refine wrapper_call hq (by decide +kernel) (fun _ _ => by decide +kernel) (by unfold argsOk; kernel_rfl) ?_
  refine codeAny_builtin entry_list_len ?_
  show wpAny _ _ (seqSize p >>= fun n => retInt n) _ _ _
  unfold seqSize
  refine wpAny_bind (wpAny_bind (wpAny_loadPart hpq (wpAny_pure ?_)))
  refine wpAny_bind (wpAny_mkInt (wpAny_pure ?_))
  refine h _ _ _ ?_
  intro b o e
  exact Heap.get?_push_of_some _ (F2.keep b o (by rw [eg']; exact e))
end Mine
end

section
open PySem PySem.W PySem.Calls PySem.Spec PyProof.Rows Builtin Builtin.ObjectAttr Builtin.Getset_descriptor
set_option Elab.async false
set_option maxRecDepth 100000
set_option maxHeartbeats 8000000
set_option linter.unusedVariables false
namespace Mine
theorem fill6 : PySem.Challenge.rw_sn0012_01 = PySem.Challenge.rw_sn0012_01 ∧ hd.heap_39 = hd.heap_39 := by
  k_fill
  exact ⟨rfl, rfl⟩

theorem refuse_acc (self : Value) : refuseLoop self "__setattr__" [.ref 149, .type "list", .type "object"] = pure () := by
  rw [refuseLoop_ref]
  kernel_rfl

abbrev accCls : ClassData := { name := "_Accumulator", bases := [.type "list"], mro := [.ref 149, .type "list", .type "object"], ns := 148, qualname := "_Accumulator" }
theorem cls149 {w : World} : clsIn (hd.heap_39 w.params) 149 = some accCls := by k_is

section
variable {w : World} {A : Around} {E : Value → Shared → Prop} {s : Shared} {R : Result → Shared → Prop}
theorem acc_setattr {p dx : Addr} {items : Array Value} {ep : Nat} {v : Value} {Q : Unit → Shared → Prop} (X : (hd.heap_39 w.params).In s.heap) (hp : s.heap.get? p = some (accObj dx items ep)) (hd0 : s.heap.get? dx = some emptyDict)
    (h : ∀ h', Chg dx s.heap h' → h'.get? dx = some (dictOf [⟨PyData.keyHash w.params "_initial_size", .str "_initial_size" (s.toks + 1), v⟩] 1) → Q () { s with heap := h', toks := s.toks + 2 }) :
    wpAny (model PP w) A (setAttr (.ref p) "_initial_size" v) Q E s := by
  obtain ⟨hh, g, d, t, os⟩ := s
  dsimp only at X hp hd0 h
  have SF := PySem.F.store_object
  have I := acc_inst hp hd0
  have hs : findIn (hd.heap_39 w.params) (.ref 149) "__setattr__" = some (some (.builtin "object.__setattr__")) := by k_is
  have ht : findIn (hd.heap_39 w.params) (.ref 149) "_initial_size" = some none := by k_is
  have hm0 : mroIn (hd.heap_39 w.params) 149 (.type "object") = some true := by k_is
  refine set_plain (s := ⟨hh, g, d, t, os⟩) X I hs ?_
  have sub : Looks (model PP w) hh (isInstance (.ref p) (.type "object")) true := I.type.andThen (looks_mroIn X hm0)
  refine codeAny_call_builtin SF.slot.plain SF.entry (@check_slot (model PP w) _ _ ⟨hh, g, d, t + 1, os⟩ "object.__setattr__" "object" "__setattr__" (.ref p) [.str "_initial_size" t, v] [] _ SF.kind SF.split sub (SF.args (.ref p) (.str "_initial_size" t) v) ?_)
  have hm : Looks (model PP w) hh (mroOf (.ref 149)) accCls.mro := (looks_clsIn X cls149).andThen .now
  have L3 : Looks (model PP w) hh (storeTaker? none) none := .now
  rw [osa_eq, refuse_eq]
  refine wpAny_bind (wpAny_bind (I.type.at (wpAny_bind (hm.at ?_))))
  show wpAny _ _ (refuseLoop (.ref p) "__setattr__" [.ref 149, .type "list", .type "object"]) _ _ _
  rw [refuse_acc]
  refine wpAny_pure (wpAny_bind (I.type.at (wpAny_bind ((looks_findIn X ht).at (wpAny_bind (L3.at ?_))))))
  refine wpAny_bind (wpAny_pure (wpAny_bind (wpAny_bind (wpAny_loadPart hp (wpAny_bind ((looks_clsIn X cls149).at ?_))))))
  refine wpAny_pure (a := some dx) (wpAny_bind (wpAny_pure (wpAny_bind ?_)))
  unfold nsSet
  refine wpAny_bind (wpAny_bind (wpAny_askSetting (wpAny_pure (wpAny_bind (wpAny_mkText (wpAny_bind (wpAny_loadPart hd0 ?_)))))))
  dsimp only
  have c : (!(#[] : Array DictEntry).any (·.key.isStr "_initial_size") && (#[] : Array DictEntry).any (·.refKey)) = false := by simp
  rw [aRefKeyMayBeTheName_at, c]
  have e : Obj.putName "_initial_size" (PyData.keyHash w.params "_initial_size") (.str "_initial_size" (t + 1)) v emptyDict = dictOf [⟨PyData.keyHash w.params "_initial_size", .str "_initial_size" (t + 1), v⟩] 1 := by
    show Obj.putName _ _ _ v (dictOf [] 0) = _
    rw [putName_dict]
    rfl
  refine wpAny_updatePart hd0 ?_
  have D' : (hh.update dx (Obj.putName "_initial_size" (PyData.keyHash w.params "_initial_size") (.str "_initial_size" (t + 1)) v)).get? dx = some (dictOf [⟨PyData.keyHash w.params "_initial_size", .str "_initial_size" (t + 1), v⟩] 1) := by
    rw [Heap.get?_update_self _ hd0 (by rw [e]; rfl), e]
  refine wpAny_bind (wpAny_lookBehind D' (pastItsLine_dict (by simp [sizeLine_eq])) ?_)
  exact wpAny_pure (h _ (fun b o n q => ((Heap.SameBut.update ..).2 b n).trans q) D')
end

theorem entry_list_init' : entryFor table "list.__init__" = some Builtin.«list.__init__» := entryFor_of_tree (by kernel_rfl)
theorem init_c {w : World} {A : Around} {s : Shared} {h₀ : Heap} {R : Result → Shared → Prop} {mean : ExcName → Option Value} {mg mb : Str → Option Value}
   {p dx : Addr}
   (G : Gd w mean mg mb h₀) (k : Sub h₀ s.heap)
   (hp : s.heap.get? p = some (accObj dx #[] 0)) (hp0 : h₀.get? p = none) (hd0 : h₀.get? dx = none) (hdx : s.heap.get? dx = some emptyDict) (hpd : p ≠ dx)
   (hdp : A.depth + 10 < recursionLimit) (hun : A.units + 100 < cLine)
   (h : ∀ h' tk t, (∀ b o, b ≠ p → b ≠ dx → s.heap.get? b = some o → h'.get? b = some o) → h'.get? p = some (accObj dx #[] 0) → h'.get? dx = some (accDict w t 408) → R (.ok (.ret .none)) { s with heap := h', toks := tk }) :
   codeAny (model PP w) A (.call (.ref 86) ⟨[.ref p], []⟩) R s := by
  have Xs : (hd.heap_39 w.params).In s.heap := fun a o e => k a o (G.X a o e)
  refine' enterS [p, dx] [("self", .ref p), ("initial_size", .int 0 408)] G k ?k5 (f := 86) (cl := [("__class__", 73)]) ?k6 ?k7 ?k8 ?k9 ?kB ?c5 ?c2 ?c3 ?c4 ?_; (case k5 => (intro a ha; simp only [List.mem_cons, List.not_mem_nil, or_false] at ha; rcases ha with ha | ha <;> rw [ha] <;> assumption)); (case k6 => k_is); (case k7 => k_is); (case k8 => exact Mine.o_d0 hdp); (case k9 => first | exact BindsTo.of_eq rfl | exact binds_K (by assumption) rfl (by k_is) rfl rfl rfl); (case kB => exact locs rfl); (case c5 => decide); (case c2 => exact rfl); (case c3 => exact rfl); (case c4 => exact rfl)
  intro h₁ g F k1 eg G1 X T N0
  have N1 := news_cons (news_cons N0 (k1 _ _ hdx) (Nat.ne_of_lt (Heap.lt_size hdx)) (by rw [eg]; exact hideAll_none _ (.tail _ (.head _)))) (k1 _ _ hp) (Nat.ne_of_lt (Heap.lt_size hp)) (by rw [eg]; exact hideAll_none _ (.head _))
  refine ks_wpAt_execs_cons (ks_wpAt_Assign_Attr (wpAt_of_wpAny ?_))
  walk1
  walk1
  refine acc_setattr (fun a o e => F.keep a o (X a o e)) (N1.get (.head _)) (N1.get (.tail _ (.head _))) ?_
  intro h2 c2 e2
  have hp2 : h2.get? p = some (accObj dx #[] 0) := c2 _ _ hpd (N1.get (.head _))
  have F2 : Fr g s.heap.objs.size h2 _ := fr_chg F c2 (N1.fresh (.tail _ (.head _))) (N1 _ (.tail _ (.head _))).2.1
  refine ks_wpAt_execs_cons (ks_wpAt_Expr_any (ks_wpAt_MethodCall ?_))
  have N2 : News g s.heap.objs.size h2 [(p, accObj dx #[] 0), (dx, accDict w _ 408)] := news_cons (news_cons News.nil e2 (N1 _ (.tail _ (.head _))).2.1 (N1.fresh (.tail _ (.head _)))) hp2 (N1 _ (.head _)).2.1 (N1.fresh (.head _))
  k_dflt (refine ks_node F2 X N2 G1.T0 (by k_is) (by rfl) (by rfl) (acc_inst hp2 e2) (by k_is) (by rfl) (by first | rfl | decide +kernel) (by k_is) (by k_is) (by k_is) (by k_is) (by decide) (by rfl) (by rfl) (by rfl) (by rfl) (by decide +kernel) (by first | boot_by_name | rfl | kernel_rfl) ?_)
  intro so h3 F3 N3 l3
  have X3 : (Mine.hd.heap_39 w.params).In h3 := fun a o e => F3.keep a o (X a o e)
  have hp3 := N3.get (.tail _ (.head _))
  refine sup_method (id := "list.__init__") (by decide +kernel) (by show builtinType _ = _; rw [builtinType_eq_fast]; kernel_rfl) X3 hp3 (acc_ne X3 hp3) (N3.get (.head _)) (by ks_is) (by decide) ?_
  have hq := Heap.get?_push_size (o := { cls := .type "method-wrapper", data := .fields #[.builtin "list.__init__", .ref p] }) h3 rfl
  have hp4 : (h3.push { cls := .type "method-wrapper", data := .fields #[.builtin "list.__init__", .ref p] }).get? p = some (accObj dx #[] 0) := Heap.get?_push_of_some _ hp3
  have hd4 := Heap.get?_push_of_some { cls := .type "method-wrapper", data := .fields #[.builtin "list.__init__", .ref p] } (N3.get (.tail _ (.tail _ (.head _))))
  refine callWith_of (P := fun h => h.get? h3.objs.size = some { cls := .type "method-wrapper", data := .fields #[.builtin "list.__init__", .ref p] }) rfl (fun h e => ⟨.machine, .inr (.inl rfl), wrapper_keeper e⟩) (evalArgs_nil3 ⟨hq, ?_⟩)
  refine wrapper_call hq (by decide +kernel) (fun _ _ => by decide +kernel) (by unfold argsOk; kernel_rfl) ?_
  refine codeAny_builtin entry_list_init' ?_
  show wpAny _ _ (Builtin.List.listItems (.ref p) >>= fun old => updateSeq p (fun _ => #[]) >>= fun _ => letGo old.toList.reverse >>= fun _ => ret .none) _ _ _
  unfold Builtin.List.listItems
  refine wpAny_bind (wpAny_bind (wpAny_seqItems hp4 rfl (wpAny_pure ?_)))
  refine wpAny_bind (wpAny_updateSeq hp4 rfl ?_ (by simp) (by simp))
  refine wpAny_bind (wpAny_letGo (wpAny_pure ?_))
  refine wpAt_of_wpAny (wpAny_execs_nil ?_)
  have eU : Obj.mapSeq (fun _ => #[]) (accObj dx #[] 0) = accObj dx #[] 0 := rfl
  have q3 := ((Heap.SameBut.update (h3.push { cls := .type "method-wrapper", data := .fields #[.builtin "list.__init__", .ref p] }) p (Obj.mapSeq fun _ => #[])).2 _ (Ne.symm hpd)).trans hd4
  refine h _ _ _ (fun b o n1 n2 e => ?_) ?_ q3
  · refine ((Heap.SameBut.update ..).2 _ n1).trans (Heap.get?_push_of_some _ ?_)
    have := hideAll_get [p, dx] e (by intro q; simp only [List.mem_cons, List.not_mem_nil, or_false] at q; rcases q with q | q <;> contradiction)
    rw [← eg] at this
    exact F3.keep _ _ this
  · rw [Heap.get?_update_self _ hp4 (by rw [eU]; rfl), eU]

section
variable {w : World} {A : Around} {R : Result → Shared → Prop} {h : Heap} {g : Array GenState} {d : Drawn} {t : Nat} {os : OsState}
theorem looks_made (X : (hd.heap_39 w.params).In h) : Looks (model PP w) h (Bind.madeBy (.ref 149)) (some "list.__new__") := by
  have hm : Looks (model PP w) h (mroOf (.ref 149)) accCls.mro := (looks_clsIn X cls149).andThen .now
  have ho : ∃ oc od sl, (hd.heap_39 w.params).lookup 149 = some ⟨oc, od, .cls accCls, sl⟩ ∧ (sl.toList[4]?).join = some (.builtin "list.__new__") := by
    refine ⟨_, _, _, by k_is, by decide⟩
  obtain ⟨oc, od, sl, ho, e3⟩ := ho
  intro A Q E s k q
  unfold Bind.madeBy
  refine wpAny_bind (hm A _ E s k ?_)
  rw [show accCls.mro = .ref 149 :: [.type "list", .type "object"] from rfl, List.forIn_cons]
  refine wpAny_bind (wpAny_bind (wpAny_bind (wpAny_bind (wpAny_loadPart (k _ _ (X _ _ ho)) (wpAny_pure ?_)))))
  dsimp only
  rw [← Array.getElem?_toList, e3]
  exact wpAny_pure (wpAny_pure (wpAny_pure q))

theorem list_new {A : Around} (X : (hd.heap_39 w.params).In h)
    (hq : R (.ok (.ret (.ref (h.objs.size + 1)))) ⟨(h.push emptyDict).push (accObj h.objs.size #[] 0), g, d, t, os⟩) :
    codeAny (model PP w) A (.call (.builtin "list.__new__") ⟨[.ref 149], []⟩) R ⟨h, g, d, t, os⟩ := by
  have made := looks_made X
  have hmL : mroIn (hd.heap_39 w.params) 149 (.type "list") = some true := by k_is
  have sub : Looks (model PP w) h (isSubtype (.ref 149) (.type "list")) true := looks_mroIn X hmL
  refine codeAny_call_builtin_code (Code.quiet_builtin _ (by decide +kernel)) ?_
  have k1 : builtinKind "list.__new__" = some .builtinFn := by decide +kernel
  have k2 : splitId "list.__new__" = some ("list", "__new__") := by decide +kernel
  simp only [checkBuiltinCall, k1, k2]
  have hC : h.get? 149 = some ⟨.type "type", none, .cls accCls, #[some (.ref 70), none, some (.str "_Accumulator" 396), some (.str "_Accumulator" 404), some (.builtin "list.__new__"), some (.bool true)]⟩ := X _ _ (by k_is)
  repeat (first | simp only [bne_self_eq_false, Bool.false_eq_true, if_false] | lk)
  have eo := PySem.owner_list_new
  refine codeAny_builtin_stack F.entry_list_new rfl (fun p st => ?_)
  dsimp only
  rw [eo]
  have hC1 : (h.push emptyDict).get? 149 = some _ := Heap.get?_push_of_some emptyDict hC
  have hC2 := Heap.get?_push_of_some (accObj h.objs.size #[] 0) hC1
  repeat (first | simp only [Bool.false_eq_true, if_false] | lk)
  show R _ _
  rw [Heap.size_push]
  exact hq

theorem make_code {A : Around} (X : (hd.heap_39 w.params).In h)
    (hq : codeAny (model PP w) (A.under (.builtin "type.__call__" ⟨[.ref 149], []⟩)) (.call (.ref 86) ⟨[.ref (h.objs.size + 1)], []⟩) (InitBack (h.objs.size + 1) R) ⟨(h.push emptyDict).push (accObj h.objs.size #[] 0), g, d, t, os⟩) :
    codeAny (model PP w) A (.call (.ref 149) ⟨[], []⟩) R ⟨h, g, d, t, os⟩ := by
  have made := looks_made X
  have hC : h.get? 149 = some ⟨.type "type", none, .cls accCls, #[some (.ref 70), none, some (.str "_Accumulator" 396), some (.str "_Accumulator" 404), some (.builtin "list.__new__"), some (.bool true)]⟩ := X _ _ (by k_is)
  have hcall : specialIn (hd.heap_39 w.params) (.ref 149) "__call__" = some (some (.builtin "type.__call__")) := by k_is
  have htyp : instIn (hd.heap_39 w.params) (.ref 149) (.type "type") = some true := by k_is
  have hself : mroIn (hd.heap_39 w.params) 149 (.ref 149) = some true := by k_is
  have hi : findIn (hd.heap_39 w.params) (.ref 149) "__init__" = some (some (.ref 86)) := by k_is
  have hfn : typeIn (hd.heap_39 w.params) (.ref 86) = some (.type "function") := by k_is
  have call : Looks (model PP w) h (specialOf (.ref 149) "__call__") (some (.builtin "type.__call__")) := looks_specialIn X hcall
  have typ : Looks (model PP w) h (isInstance (.ref 149) (.type "type")) true := looks_instIn X htyp
  refine codeAny_of_tree ?_
  show wpAny _ _ (callAny (.ref 149) _) _ _ _
  refine nd_load hC ?_
  show wpAny _ _ (callAny.viaDunder (.ref 149) _) _ _ _
  unfold callAny.viaDunder
  refine wpAny_bind (call.at ?_)
  dsimp only
  rw [tc_bind]
  refine wpAny_bind (wpAny_pure (wpAny_bind (wpAny_pure ?_)))
  refine wpAny_pure (a := Fin.again (.call (.builtin "type.__call__") ⟨[.ref 149], []⟩)) (And.intro rfl ?_)
  refine codeAny_call_builtin_at (Code.quiet_builtin _ (by decide +kernel)) entry_typeCall (check_slot tc_kind tc_split typ (tc_args _ _ _) ?_)
  unfold Builtin.«type.__call__»
  have hm : Looks (model PP w) h (mroOf (.ref 149)) accCls.mro := ((Looks.ld (part := none) hC).andThen .now).andThen .now
  repeat (first | simp only [Bool.false_eq_true, if_false] | with_reducible refine wpAny_call ?_ | lk)
  refine list_new X ?_
  have k : ∀ b o, h.get? b = some o → ((h.push emptyDict).push (accObj h.objs.size #[] 0)).get? b = some o := fun b o e => Heap.get?_push_of_some _ (Heap.get?_push_of_some _ e)
  have hx : ((h.push emptyDict).push (accObj h.objs.size #[] 0)).get? (h.objs.size + 1) = some (accObj h.objs.size #[] 0) := by heap_get
  have t1 : Looks (model PP w) ((h.push emptyDict).push (accObj h.objs.size #[] 0)) (typeOf (.ref (h.objs.size + 1))) (.ref 149) := (Looks.ld hx).andThen .now
  have s1 := (looks_mroIn (M := model PP w) X hself).keeps k
  have i1 := (looks_findIn (M := model PP w) X hi).keeps k
  have b1 := (bind_fn (M := model PP w) X (.ref (h.objs.size + 1)) hfn).keeps k
  unfold isInstance callSpecial? specialOf
  repeat (first | with_reducible refine wpAny_call ?_ | lk)
  refine codeAny_mono hq fun r s' z => ?_
  rcases r with e | (v | _ | _ | _) <;> first | exact z | exact z.elim | skip
  obtain ⟨rfl, z⟩ := z
  exact wpAny_pure (wpAny_pure z)
end

theorem make_c {w : World} {A : Around} {s : Shared} {h₀ : Heap} {R : Result → Shared → Prop} {mean : ExcName → Option Value} {mg mb : Str → Option Value}
   (G : Gd w mean mg mb h₀) (k : Sub h₀ s.heap)
   (hdp : A.depth + 20 < recursionLimit) (hun : A.units + 200 < cLine)
   (h : ∀ h' tk p dx t, Sub s.heap h' → h'.get? p = some (accObj dx #[] 0) → h'.get? dx = some (accDict w t 408) → s.heap.get? p = none → s.heap.get? dx = none → dx < p → (∀ b o, s.heap.get? b = some o → b < dx) → R (.ok (.ret (.ref p))) { s with heap := h', toks := tk }) :
   codeAny (model PP w) A (.call (.ref 149) ⟨[], []⟩) R s := by
  obtain ⟨hh, g, d, t, os⟩ := s
  dsimp only at k h
  refine make_code (fun a o e => k a o (G.X a o e)) ?_
  have nx : ∀ n, hh.objs.size ≤ n → hh.get? n = none := fun n hn => by
    cases q : hh.get? n with
    | none => rfl
    | some o => exact absurd (Heap.lt_size q) (Nat.not_lt.mpr hn)
  have n0 : ∀ n, hh.objs.size ≤ n → h₀.get? n = none := fun n hn => by
    cases q : h₀.get? n with
    | none => rfl
    | some o => exact absurd ((nx n hn).symm.trans (k _ _ q)) (by simp)
  have hx : ((hh.push emptyDict).push (accObj hh.objs.size #[] 0)).get? (hh.objs.size + 1) = some (accObj hh.objs.size #[] 0) := by heap_get
  have hdx : ((hh.push emptyDict).push (accObj hh.objs.size #[] 0)).get? hh.objs.size = some emptyDict := by heap_get
  have k2 : Sub hh ((hh.push emptyDict).push (accObj hh.objs.size #[] 0)) := fun b o e => Heap.get?_push_of_some _ (Heap.get?_push_of_some _ e)
  refine init_c (s := ⟨(hh.push emptyDict).push (accObj hh.objs.size #[] 0), g, d, t, os⟩) G (k.trans k2) hx (n0 _ (Nat.le_succ _)) (n0 _ (Nat.le_refl _)) hdx (Nat.succ_ne_self _) ?_ ?_ ?_
  · simp only [depth_under_make]; exact Mine.o_d2 hdp
  · show (A.units + _) + 100 < cLine
    have : (Code.builtin "type.__call__" ⟨[.ref 149], []⟩).cUnits ≤ 10 := by decide +kernel
    exact Mine.q_96 hun this
  · intro h' tk t' c e1 e2
    refine ⟨rfl, ?_⟩
    exact h h' tk _ _ t' (fun b o e => c b o (Nat.ne_of_lt (Nat.lt_succ_of_lt (Heap.lt_size e))) (Nat.ne_of_lt (Heap.lt_size e)) (k2 _ _ e)) e1 e2 (nx _ (Nat.le_succ _)) (nx _ (Nat.le_refl _)) (Nat.lt_succ_self _) (fun b o e => Heap.lt_size e)
end Mine
end

section
open PySem PySem.W PySem.Calls PySem.Spec PyProof.Rows
set_option Elab.async false
set_option maxRecDepth 100000
set_option maxHeartbeats 8000000
set_option linter.unusedVariables false
namespace Mine


abbrev rIter (x left : Int) : Obj := { cls := .type "range_iterator", data := .fields #[rawInt x, rawInt left, rawInt 1] }
abbrev lIter (l : Addr) (i : Nat) : Obj := { cls := .type "list_iterator", data := .fields #[.ref l, rawInt i] }

theorem fr_some {h₀ h h' : Heap} {L b : Addr} {m : Str → Option Value} (F : Fr h₀ L h m) (c : Heap.SameBut b h h') (h0 : h₀.get? b = none) (hL : b ≠ L) : Fr h₀ L h' m :=
  fr_chg F (fun q o n e => (c.2 q n).trans e) h0 hL
theorem news_some {h₀ h h' : Heap} {L b : Addr} {news : List (Addr × Obj)} (N : News h₀ L h news) (c : Heap.SameBut b h h') (hn : ∀ q ∈ news, q.1 ≠ b) : News h₀ L h' news :=
  news_chg N (fun q o n e => (c.2 q n).trans e) hn
theorem fr_map {h₀ h : Heap} {L : Addr} {m m' : Str → Option Value} (F : Fr h₀ L h m) (e : ∀ y, m y = m' y) : Fr h₀ L h m' := (funext e : m = m') ▸ F
theorem news_tail {h₀ h : Heap} {L : Addr} {p : Addr × Obj} {news : List (Addr × Obj)} (N : News h₀ L h (p :: news)) : News h₀ L h news := fun q hq => N q (.tail _ hq)
theorem news_head {h₀ h : Heap} {L : Addr} {p : Addr × Obj} {news : List (Addr × Obj)} (hp : h.get? p.1 = some p.2 ∧ p.1 ≠ L ∧ h₀.get? p.1 = none) (N : News h₀ L h news) : News h₀ L h (p :: news) := fun q hq => by
  cases hq with
  | head => exact hp
  | tail _ hq => exact N q hq

section
variable {prog : Program} {w : World} {A : Around} {s : Shared} {env : Env} {g : Heap} {σ : Type}

/-- what a turn hands on -/
def TurnE (g : Heap) (L : Addr) (x : Str) (mp : σ → Str → Option Value) (led : σ → List (Addr × Obj)) (J : σ → Prop) (I : Addr) (oI : Obj) (s : Shared) (f : Flow) (s₂ : Shared) : Prop :=
  (f = .next ∨ f = .cont) ∧ ∃ h' tk' m' z, s₂ = { s with heap := h', toks := tk' } ∧ Fr g L h' m' ∧ (∀ y, y ≠ x → m' y = mp z y) ∧ News g L h' ((I, oI) :: led z) ∧ (∀ q ∈ led z, q.1 ≠ I) ∧ J z

theorem loop_range {Q : Flow → Shared → Prop} {E' : Value → Shared → Prop} {x : Str} {px : Pos} {body : List Stmt} {I : Addr} {a : Int} {n : Nat} (mp : σ → Str → Option Value) (led : σ → List (Addr × Obj)) (J : Nat → σ → Prop)
    (hh : A.handled = none) (hx : env.kindOf x = some .local) (hp : (env.scope.kind == .class || (env.scope.kind == .module && env.locals != env.globals)) = false)
    (z₀ : σ) (F : Fr g env.locals s.heap (mp z₀)) (N : News g env.locals s.heap ((I, rIter a n) :: led z₀)) (hI : ∀ q ∈ led z₀, q.1 ≠ I) (h0 : J 0 z₀)
    (turn : ∀ i z h tk t, i < n → J i z → Fr g env.locals h (fun y => if y = x then some (.int (a + i) t) else mp z y) → News g env.locals h ((I, rIter (a + (i + 1 : Nat)) ((n : Int) - (i + 1 : Nat))) :: led z) → (∀ q ∈ led z, q.1 ≠ I) →
      wpAny (model prog w) A (execs body env) (TurnE g env.locals x mp led (J (i + 1)) I (rIter (a + (i + 1 : Nat)) ((n : Int) - (i + 1 : Nat))) s) (fun _ _ => False) { s with heap := h, toks := tk })
    (done : ∀ z h tk o, J n z → Fr g env.locals h (fun y => if y = x then o else mp z y) → News g env.locals h (led z) → Q .next { s with heap := h, toks := tk }) :
    codeAny (model prog w) A (.forLoop (.Name x px) (.ref I) body [] env) (fun r s' => match r with | .ok f => Q f s' | .error e => E' e s') s := by
  refine codeAny_forLoop
    (fun k s' => ∃ h' tk m' i z, s' = { s with heap := h', toks := tk } ∧ Fr g env.locals h' m' ∧ (∀ y, y ≠ x → m' y = mp z y) ∧ News g env.locals h' ((I, rIter (a + (i : Nat)) ((n : Int) - (i : Nat))) :: led z) ∧ (∀ q ∈ led z, q.1 ≠ I) ∧ J i z ∧ i ≤ n ∧ k = n + 1 - i)
    ?_ (n + 1) ⟨s.heap, s.toks, _, 0, z₀, rfl, F, fun _ _ => rfl, by simpa using N, hI, h0, Nat.zero_le _, rfl⟩
  rintro k s' ⟨h', tk, m', i, z, rfl, F', hm', N', hI', hJ, hi, rfl⟩
  have zI := N' _ (.head _)
  by_cases hlt : i < n
  · refine wpAny_pyNext_range_item zI.1 (by exact Mine.q_91 hlt) fun h₁ hit₁ hs₁ => ?_
    have F1 := fr_some F' hs₁ zI.2.2 zI.2.1
    have N1 : News g env.locals h₁ (led z) := news_some (news_tail N') hs₁ hI'
    refine wpAny_assign_Name (wpAny_storeName_local hx F1.ns (fun h₂ hn₂ hs₂ => ?_) hp)
    have F2 := F1.set hn₂ hs₂
    have N2 := N1.set hs₂
    have e1 : a + ((i + 1 : Nat) : Int) = a + (i : Int) + 1 := by push_cast; exact Mine.q_92
    have e2 : (n : Int) - ((i + 1 : Nat) : Int) = (n : Int) - (i : Int) - 1 := by push_cast; exact Mine.q_93
    have N3 : News g env.locals h₂ ((I, rIter (a + (i + 1 : Nat)) ((n : Int) - (i + 1 : Nat))) :: led z) := by
      rw [e1, e2]
      exact news_head ⟨(hs₂.2 I zI.2.1).trans hit₁, zI.2⟩ N2
    refine wpAny_mono (turn i z h₂ _ tk hlt hJ (fr_map F2 fun y => ?_) N3 hI') (fun f s₃ h₃ => ?_) fun _ _ e => e.elim
    · by_cases hy : y = x
      · simp [hy]
      · simp only [if_neg hy]; exact hm' y hy
    · obtain ⟨hf, h₄, tk₄, m₄, z₄, rfl, F4, hm4, N4, hI4, hJ4⟩ := h₃
      rcases hf with rfl | rfl <;> exact ⟨n + 1 - (i + 1), by exact Mine.q_25 hlt, h₄, tk₄, m₄, i + 1, z₄, rfl, F4, hm4, N4, hI4, hJ4, hlt, rfl⟩
  · have hin : i = n := by exact Mine.q_94 hi hlt
    subst hin
    refine wpAny_pyNext_range_end hh zI.1 (by exact Mine.q_95) fun h₁ he₁ => wpAny_execs_nil ?_
    have c : Chg I h' h₁ := fun b o nb e => he₁ b o nb e
    refine done z h₁ tk (m' x) hJ (fr_map (fr_chg F' c zI.2.2 zI.2.1) fun y => ?_) (news_chg (news_tail N') c hI')
    by_cases hy : y = x
    · simp [hy]
    · simp only [if_neg hy]; exact hm' y hy

theorem iter_range {Q : Flow → Shared → Prop} {E E' : Value → Shared → Prop} {x : Str} {px : Pos} {body : List Stmt} {r : Addr} {a b : Int} {t u v : Tok} {n : Nat} (mp : σ → Str → Option Value) (led : σ → List (Addr × Obj)) (J : Nat → σ → Prop)
    (hh : A.handled = none) (hx : env.kindOf x = some .local) (hp : (env.scope.kind == .class || (env.scope.kind == .module && env.locals != env.globals)) = false)
    (hr : IsRange s.heap r a b 1 t u v) (hsm : Builtin.Range.small a b 1 = true) (hn : Builtin.Range.rangeSize a b 1 = n)
    (z₀ : σ) (F : Fr g env.locals s.heap (mp z₀)) (N : News g env.locals s.heap (led z₀)) (h0 : J 0 z₀)
    (turn : ∀ I i z h tk t, i < n → J i z → Fr g env.locals h (fun y => if y = x then some (.int (a + i) t) else mp z y) → News g env.locals h ((I, rIter (a + (i + 1 : Nat)) ((n : Int) - (i + 1 : Nat))) :: led z) → (∀ q ∈ led z, q.1 ≠ I) → (∀ q ∈ led z₀, q.1 < I) →
      wpAny (model prog w) A (execs body env) (TurnE g env.locals x mp led (J (i + 1)) I (rIter (a + (i + 1 : Nat)) ((n : Int) - (i + 1 : Nat))) s) (fun _ _ => False) { s with heap := h, toks := tk })
    (done : ∀ z h tk o, J n z → Fr g env.locals h (fun y => if y = x then o else mp z y) → News g env.locals h (led z) → Q .next { s with heap := h, toks := tk }) :
    wpAny (model prog w) A (pyIter (.ref r)) (fun it s₂ => codeAny (model prog w) A (.forLoop (.Name x px) it body [] env) (fun r s' => match r with | .ok f => Q f s' | .error e => E' e s') s₂) E s := by
  refine wpAny_pyIter_range hr hsm ?_
  have F1 := F.push (rIter a n)
  have N1 := N.push F (rIter a n)
  rw [hn]
  refine loop_range (s := { s with heap := s.heap.push (rIter a n) }) mp led J hh hx hp z₀ F1 N1 (fun q hq => Nat.ne_of_lt (Heap.lt_size (N q hq).1)) h0 (fun i z h tk t hi hJ F' N' hI => ?_) (fun z h tk o hJ F' N' => done z h tk o hJ F' N')
  exact turn _ i z h tk t hi hJ F' N' hI (fun q hq => Heap.lt_size (N q hq).1)
end
end Mine
end

section
open PySem PySem.W PySem.Calls PySem.Spec PyProof.Rows
set_option Elab.async false
set_option maxRecDepth 100000
set_option maxHeartbeats 8000000
set_option linter.unusedVariables false
namespace Mine
/-! the loop over a list, whose invariant may speak of the counter of tokens -/
def TurnK {σ : Type} (g : Heap) (L : Addr) (x : Str) (mp : σ → Str → Option Value) (led : σ → List (Addr × Obj)) (J : σ → Nat → Prop) (I : Addr) (oI : Obj) (s : Shared) (f : Flow) (s₂ : Shared) : Prop :=
  (f = .next ∨ f = .cont) ∧ ∃ h' tk' m' z, s₂ = { s with heap := h', toks := tk' } ∧ Fr g L h' m' ∧ (∀ y, y ≠ x → m' y = mp z y) ∧ News g L h' ((I, oI) :: led z) ∧ (∀ q ∈ led z, q.1 ≠ I) ∧ J z tk'
section
variable {prog : Program} {w : World} {A : Around} {s : Shared} {env : Env} {g : Heap} {σ : Type}
theorem loop_listK {Q : Flow → Shared → Prop} {E' : Value → Shared → Prop} {x : Str} {px : Pos} {body : List Stmt} {I l : Addr} {oI : Obj} {items : Array Value} (mp : σ → Str → Option Value) (led : σ → List (Addr × Obj)) (J : Nat → σ → Nat → Prop)
    (hmono : ∀ i z a b, J i z a → a ≤ b → J i z b)
    (hh : A.handled = none) (hx : env.kindOf x = some .local) (hp : (env.scope.kind == .class || (env.scope.kind == .module && env.locals != env.globals)) = false)
    (hl : ∀ z h m, Fr g env.locals h m → News g env.locals h (led z) → h.IsList l items)
    (z₀ : σ) (F : Fr g env.locals s.heap (mp z₀)) (N : News g env.locals s.heap ((I, oI) :: led z₀)) (hc : oI.cls = .type "list_iterator") (hd : oI.data = .fields #[.ref l, rawInt (0 : Nat)]) (hI : ∀ q ∈ led z₀, q.1 ≠ I) (h0 : J 0 z₀ s.toks)
    (turn : ∀ i v oI z h tk, items[i]? = some v → J i z tk → Fr g env.locals h (fun y => if y = x then some v else mp z y) → News g env.locals h ((I, oI) :: led z) → (∀ q ∈ led z, q.1 ≠ I) →
      wpAny (model prog w) A (execs body env) (TurnK g env.locals x mp led (J (i + 1)) I oI s) (fun _ _ => False) { s with heap := h, toks := tk })
    (done : ∀ z h tk o, J items.size z tk → Fr g env.locals h (fun y => if y = x then o else mp z y) → News g env.locals h (led z) → Q .next { s with heap := h, toks := tk }) :
    codeAny (model prog w) A (.forLoop (.Name x px) (.ref I) body [] env) (fun r s' => match r with | .ok f => Q f s' | .error e => E' e s') s := by
  refine codeAny_forLoop
    (fun k s' => ∃ h' tk m' i z oI, s' = { s with heap := h', toks := tk } ∧ Fr g env.locals h' m' ∧ (∀ y, y ≠ x → m' y = mp z y) ∧ News g env.locals h' ((I, oI) :: led z) ∧ oI.cls = .type "list_iterator" ∧ oI.data = .fields #[.ref l, rawInt (i : Nat)] ∧ (∀ q ∈ led z, q.1 ≠ I) ∧ J i z tk ∧ i ≤ items.size ∧ k = items.size + 1 - i)
    ?_ (items.size + 1) ⟨s.heap, s.toks, _, 0, z₀, oI, rfl, F, fun _ _ => rfl, N, hc, hd, hI, h0, Nat.zero_le _, rfl⟩
  rintro k s' ⟨h', tk, m', i, z, oI', rfl, F', hm', N', hc', hd', hI', hJ, hi, rfl⟩
  have zI := N' _ (.head _)
  have hit : Heap.IsListIter h' I l i := ⟨oI', zI.1, hc', hd'⟩
  have hls := hl z h' m' F' (news_tail N')
  by_cases hlt : i < items.size
  · refine wpAny_pyNext_list_item hit hls (Array.getElem?_eq_getElem hlt) fun h₁ hit₁ hs₁ => ?_
    obtain ⟨o1, ho1, hc1, hd1⟩ := hit₁
    have F1 := fr_some F' hs₁ zI.2.2 zI.2.1
    have N1 : News g env.locals h₁ (led z) := news_some (news_tail N') hs₁ hI'
    refine wpAny_assign_Name (wpAny_storeName_local hx F1.ns (fun h₂ hn₂ hs₂ => ?_) hp)
    have F2 := F1.set hn₂ hs₂
    have N2 := N1.set hs₂
    have N3 : News g env.locals h₂ ((I, o1) :: led z) := news_head ⟨(hs₂.2 I zI.2.1).trans ho1, zI.2⟩ N2
    refine wpAny_mono (turn i _ o1 z h₂ _ (Array.getElem?_eq_getElem hlt) (hmono _ _ _ _ hJ (Nat.le_succ _)) (fr_map F2 fun y => ?_) N3 hI') (fun f s₃ h₃ => ?_) fun _ _ e => e.elim
    · by_cases hy : y = x
      · simp [hy]
      · simp only [if_neg hy]; exact hm' y hy
    · obtain ⟨hf, h₄, tk₄, m₄, z₄, rfl, F4, hm4, N4, hI4, hJ4⟩ := h₃
      rcases hf with rfl | rfl <;> exact ⟨items.size + 1 - (i + 1), by exact Mine.q_25 hlt, h₄, tk₄, m₄, i + 1, z₄, o1, rfl, F4, hm4, N4, hc1, hd1, hI4, hJ4, hlt, rfl⟩
  · have hin : i = items.size := by exact Mine.q_94 hi hlt
    subst hin
    refine wpAny_pyNext_list_end hh hit hls (Array.getElem?_eq_none (Nat.le_refl _)) fun h₁ he₁ => wpAny_execs_nil ?_
    have c : Chg I h' h₁ := fun b o nb e => he₁ b o nb e
    refine done z h₁ tk (m' x) hJ (fr_map (fr_chg F' c zI.2.2 zI.2.1) fun y => ?_) (news_chg (news_tail N') c hI')
    by_cases hy : y = x
    · simp [hy]
    · simp only [if_neg hy]; exact hm' y hy
theorem iter_listK {Q : Flow → Shared → Prop} {E E' : Value → Shared → Prop} {x : Str} {px : Pos} {body : List Stmt} {l : Addr} {items : Array Value} (mp : σ → Str → Option Value) (led : σ → List (Addr × Obj)) (J : Nat → σ → Nat → Prop)
    (hmono : ∀ i z a b, J i z a → a ≤ b → J i z b)
    (hh : A.handled = none) (hx : env.kindOf x = some .local) (hp : (env.scope.kind == .class || (env.scope.kind == .module && env.locals != env.globals)) = false)
    (hl : ∀ z h m, Fr g env.locals h m → News g env.locals h (led z) → h.IsList l items)
    (z₀ : σ) (F : Fr g env.locals s.heap (mp z₀)) (N : News g env.locals s.heap (led z₀)) (h0 : J 0 z₀ s.toks)
    (turn : ∀ I i v oI z h tk, items[i]? = some v → J i z tk → Fr g env.locals h (fun y => if y = x then some v else mp z y) → News g env.locals h ((I, oI) :: led z) → (∀ q ∈ led z, q.1 ≠ I) → (∀ q ∈ led z₀, q.1 < I) →
      wpAny (model prog w) A (execs body env) (TurnK g env.locals x mp led (J (i + 1)) I oI s) (fun _ _ => False) { s with heap := h, toks := tk })
    (done : ∀ z h tk o, J items.size z tk → Fr g env.locals h (fun y => if y = x then o else mp z y) → News g env.locals h (led z) → Q .next { s with heap := h, toks := tk }) :
    wpAny (model prog w) A (pyIter (.ref l)) (fun it s₂ => codeAny (model prog w) A (.forLoop (.Name x px) it body [] env) (fun r s' => match r with | .ok f => Q f s' | .error e => E' e s') s₂) E s := by
  refine wpAny_pyIter_list (hl z₀ _ _ F N) ?_
  have F1 := F.push (lIter l 0)
  have N1 := N.push F (lIter l 0)
  exact loop_listK (s := { s with heap := s.heap.push (lIter l 0) }) mp led J hmono hh hx hp hl z₀ F1 N1 rfl rfl (fun q hq => Nat.ne_of_lt (Heap.lt_size (N q hq).1)) h0
    (fun i v oI z h tk hi hJ F' N' hI => turn _ i v oI z h tk hi hJ F' N' hI (fun q hq => Heap.lt_size (N q hq).1)) (fun z h tk o hJ F' N' => done z h tk o hJ F' N')
end
end Mine
end

section
open PySem PySem.W PySem.Calls PySem.Spec PyProof.Rows
set_option Elab.async false
set_option maxRecDepth 100000
set_option maxHeartbeats 8000000
set_option linter.unusedVariables false
namespace Mine
section
variable {prog : Program} {w : World} {A : Around} {s : Shared} {env : Env} {g : Heap} {σ : Type}
theorem iter_list {Q : Flow → Shared → Prop} {E E' : Value → Shared → Prop} {x : Str} {px : Pos} {body : List Stmt} {l : Addr} {items : Array Value} (mp : σ → Str → Option Value) (led : σ → List (Addr × Obj)) (J : Nat → σ → Prop)
    (hh : A.handled = none) (hx : env.kindOf x = some .local) (hp : (env.scope.kind == .class || (env.scope.kind == .module && env.locals != env.globals)) = false)
    (hl : ∀ z h m, Fr g env.locals h m → News g env.locals h (led z) → h.IsList l items)
    (z₀ : σ) (F : Fr g env.locals s.heap (mp z₀)) (N : News g env.locals s.heap (led z₀)) (h0 : J 0 z₀)
    (turn : ∀ I i v oI z h tk, items[i]? = some v → J i z → Fr g env.locals h (fun y => if y = x then some v else mp z y) → News g env.locals h ((I, oI) :: led z) → (∀ q ∈ led z, q.1 ≠ I) → (∀ q ∈ led z₀, q.1 < I) →
      wpAny (model prog w) A (execs body env) (TurnE g env.locals x mp led (J (i + 1)) I oI s) (fun _ _ => False) { s with heap := h, toks := tk })
    (done : ∀ z h tk o, J items.size z → Fr g env.locals h (fun y => if y = x then o else mp z y) → News g env.locals h (led z) → Q .next { s with heap := h, toks := tk }) :
    wpAny (model prog w) A (pyIter (.ref l)) (fun it s₂ => codeAny (model prog w) A (.forLoop (.Name x px) it body [] env) (fun r s' => match r with | .ok f => Q f s' | .error e => E' e s') s₂) E s :=
  iter_listK mp led (fun i z _ => J i z) (fun _ _ _ _ h _ => h) hh hx hp hl z₀ F N h0 turn done
end
end Mine
end

section
set_option linter.unusedVariables false
namespace Mine
theorem perm_erase {α : Type} : ∀ (l : List α) (j : Nat) (h : j < l.length), List.Perm l (l[j] :: l.eraseIdx j)
  | x :: l, 0, h => List.Perm.refl _
  | x :: l, j + 1, h => by
    have hj : j < l.length := by simpa using h
    show List.Perm (x :: l) (l[j] :: x :: l.eraseIdx j)
    exact (List.Perm.cons x (perm_erase l j hj)).trans (List.Perm.swap ..)
theorem perm_two {α : Type} (l : List α) (lo d : Nat) (hd : 0 < d) (h : lo + d < l.length) : ∃ c1 c2, (l.drop lo)[0]? = some c1 ∧ (l.drop lo)[d]? = some c2 ∧
    List.Perm l (c1 :: c2 :: (l.take lo ++ ((l.drop lo).tail.eraseIdx (d - 1)))) := by
  have e : l = l.take lo ++ l.drop lo := (List.take_append_drop lo l).symm
  have hl : (l.drop lo).length = l.length - lo := List.length_drop
  generalize l.drop lo = r at *
  generalize l.take lo = f at *
  subst e
  match r, hl with
  | [], hl => simp only [List.length_append, List.length_nil] at *; exact (Mine.q_85 hl h).elim
  | c1 :: rest, hl =>
    have hr : d - 1 < rest.length := by simp only [List.length_append, List.length_cons] at *; exact Mine.q_86 hd hl h
    refine ⟨c1, rest[d - 1], rfl, ?_, ?_⟩
    · obtain ⟨k, rfl⟩ : ∃ k, d = k + 1 := ⟨d - 1, by exact Mine.q_87 hd⟩
      simp only [Nat.add_sub_cancel] at hr ⊢
      rw [List.getElem?_cons_succ, List.getElem?_eq_getElem hr]
    · show List.Perm (f ++ c1 :: rest) (c1 :: rest[d - 1] :: (f ++ rest.eraseIdx (d - 1)))
      have p1 : List.Perm (f ++ c1 :: rest) (c1 :: (f ++ rest)) := List.perm_middle
      exact p1.trans (.cons _ ((List.Perm.append_left f (perm_erase rest (d - 1) hr)).trans List.perm_middle))
theorem take_erase {α : Type} (r : List α) (i k : Nat) (c : α) (hc : r[i]? = some c) : (r.take (i + 1)).eraseIdx k = if i = k then (r.take i).eraseIdx k else (r.take i).eraseIdx k ++ [c] := by
  obtain ⟨hi, e⟩ := List.getElem?_eq_some_iff.mp hc
  have hl : (r.take i).length = i := by rw [List.length_take]; exact Mine.q_88 hi
  have et : r.take (i + 1) = r.take i ++ [c] := by rw [← e, List.take_append_getElem hi]
  rw [et]
  by_cases hk : i = k
  · subst hk
    rw [if_pos rfl, List.eraseIdx_append_of_length_le (by exact Mine.q_56 hl), hl, Nat.sub_self, List.eraseIdx_of_length_le (l := List.take i r) (by exact Mine.q_56 hl)]
    simp
  · rw [if_neg hk]
    by_cases h : k < i
    · rw [List.eraseIdx_append_of_lt_length (by exact Mine.q_54 h hl)]
    · rw [List.eraseIdx_append_of_length_le (by exact Mine.q_89 hl h), List.eraseIdx_of_length_le (l := [c]) (by simp only [List.length_singleton]; exact Mine.q_90 hl h hk), List.eraseIdx_of_length_le (l := r.take i) (by exact Mine.q_89 hl h)]
end Mine
end

section
open PySem PySem.W PySem.Calls PySem.Spec PyProof.Rows
set_option Elab.async false
set_option maxRecDepth 100000
set_option maxHeartbeats 8000000
set_option linter.unusedVariables false
namespace Mine
theorem fill7 : PySem.Challenge.rw_sn0012_01 = PySem.Challenge.rw_sn0012_01 ∧ hd.heap_39 = hd.heap_39 := by
  k_fill
  exact ⟨rfl, rfl⟩

abbrev tup2 (a b : Str) (t u : Tok) : Obj := { cls := .type "tuple", data := .seq #[.str a t, .str b u] }
/-- a value that is a pair of texts -/
def Piece (h : Heap) (v : Value) (c : Str × Str) : Prop := ∃ a t u, v = .ref a ∧ h.get? a = some (tup2 c.1 c.2 t u)

def Pieces (h : Heap) (items : List Value) (pc : List (Str × Str)) : Prop := items.length = pc.length ∧ ∀ (i : Nat) (v : Value) (c : Str × Str), items[i]? = some v → pc[i]? = some c → Piece h v c

theorem Pieces.app {h : Heap} {a b : List Value} {pa pb : List (Str × Str)} (x : Pieces h a pa) (y : Pieces h b pb) : Pieces h (a ++ b) (pa ++ pb) := by
  refine ⟨by rw [List.length_append, List.length_append, x.1, y.1], fun i v c e1 e2 => ?_⟩
  rw [List.getElem?_append] at e1 e2
  rw [← x.1] at e2
  split at e1
  · rename_i hi; rw [if_pos hi] at e2; exact x.2 i v c e1 e2
  · rename_i hi; rw [if_neg hi] at e2; exact y.2 _ v c e1 e2
theorem Pieces.take {h : Heap} {a : List Value} {pa : List (Str × Str)} (x : Pieces h a pa) (n : Nat) : Pieces h (a.take n) (pa.take n) := by
  refine ⟨by rw [List.length_take, List.length_take, x.1], fun i v c e1 e2 => ?_⟩
  rw [List.getElem?_take] at e1 e2
  split at e1
  · rename_i hi; rw [if_pos hi] at e2; exact x.2 i v c e1 e2
  · cases e1
theorem Pieces.mono {h h' : Heap} {a : List Value} {pa : List (Str × Str)} (x : Pieces h a pa) (k : ∀ b c d t u, h.get? b = some (tup2 c d t u) → h'.get? b = some (tup2 c d t u)) : Pieces h' a pa :=
  ⟨x.1, fun i v c e1 e2 => let ⟨b, t, u, q1, q2⟩ := x.2 i v c e1 e2; ⟨b, t, u, q1, k _ _ _ _ _ q2⟩⟩
theorem Pieces.ofMap {h : Heap} (l : List (Addr × Str × Str × Tok × Tok)) (k : ∀ e ∈ l, h.get? e.1 = some (tup2 e.2.1 e.2.2.1 e.2.2.2.1 e.2.2.2.2)) : Pieces h (l.map fun e => Value.ref e.1) (l.map fun e => (e.2.1, e.2.2.1)) := by
  refine ⟨by simp, fun i v c e1 e2 => ?_⟩
  rw [List.getElem?_map] at e1 e2
  cases q : l[i]? with
  | none => rw [q] at e1; cases e1
  | some e =>
    rw [q] at e1 e2
    cases e1; cases e2
    exact ⟨_, _, _, rfl, k e (List.mem_of_getElem? q)⟩
theorem fmod_in (x n : Int) (hn : 0 < n) : 0 ≤ x.fmod n ∧ x.fmod n < n := by
  rw [Int.fmod_eq_emod_of_nonneg _ (Int.le_of_lt hn)]
  exact ⟨Int.emod_nonneg _ (Int.ne_of_gt hn), Int.emod_lt_of_pos _ hn⟩
theorem other_ne (o q n : Int) (hn : 0 < n) (h0 : 0 ≤ o) (h1 : o < n) (h2 : 0 ≤ q) (h3 : q < n - 1) : (o + 1 + q).fmod n ≠ o := by
  rw [Int.fmod_eq_emod_of_nonneg _ (Int.le_of_lt hn)]
  by_cases h : o + 1 + q < n
  · rw [Int.emod_eq_of_lt (by exact Mine.q_296 h0 h2) h]; exact Mine.q_297 h2
  · have e : o + 1 + q = (o + 1 + q - n) + n := by exact Mine.q_298
    rw [e, Int.add_emod_right, Int.emod_eq_of_lt (by exact Mine.q_299 h) (by exact Mine.q_300 h1 h3)]; exact Mine.q_301 h3

theorem small_one : ∀ n : Nat, n ≤ 10 → Builtin.Range.small 1 (n : Int) 1 = true ∧ Builtin.Range.rangeSize 1 (n : Int) 1 = ((n - 1 : Nat) : Int) := by decide
section
variable {w : World} {A : Around} {E : Value → Shared → Prop} {s : Shared} {h₀ : Heap} {L : Addr} {m : Str → Option Value} {news : List (Addr × Obj)} {mean : ExcName → Option Value} {mg mb : Str → Option Value}
/-- part_count upon a pile of the ledger -/
theorem count_K {p dx : Addr} {items : Array Value} {ep : Nat} {od : Obj} {Q : Value → Shared → Prop} (G : Gd w mean mg mb h₀) (F : Fr h₀ L s.heap m) (N : News h₀ L s.heap news) (hm : (p, accObj dx items ep) ∈ news) (hd0 : s.heap.get? dx = some od)
    (hdp : A.depth + 10 < recursionLimit) (hun : A.units + 100 < cLine)
    (h : ∀ h' tk t, Fr h₀ L h' m → News h₀ L h' news → Q (.int items.size t) { s with heap := h', toks := tk }) : wpAny (model PP w) A (call (.ref 146) [.ref p]) Q E s :=
  wpAny_call (count_c G F.keep (N _ hm).1 (N _ hm).2.2 hd0 hdp hun fun h' tk t k => h h' tk t (fr_sub F k) (news_sub N k))

theorem pop_K {p dx : Addr} {items : Array Value} {ep : Nat} {ti tj : Tok} {i : Int} {t1 : Tok} {Q : Value → Shared → Prop} (G : Gd w mean mg mb h₀) (F : Fr h₀ L s.heap m) (N : News h₀ L s.heap ((p, accObj dx items ep) :: news)) (hr : ∀ q ∈ news, q.1 ≠ p) (hd0 : s.heap.get? dx = some (accDict w ti tj))
    (hz : items.size ≤ sizeLine) (hi : 0 ≤ i) (hdp : A.depth + 10 < recursionLimit) (hun : A.units + 100 < cLine)
    (h : ∀ h' tk a ep', Fr h₀ L h' m → News h₀ L h' ((a, listOf (items.toList.drop i.toNat).toArray 0) :: (p, accObj dx (items.toList.take i.toNat).toArray ep') :: news) → (∀ q ∈ news, q.1 ≠ a) → p ≠ a → Q (.ref a) { s with heap := h', toks := tk }) : wpAny (model PP w) A (call (.ref 101) [.ref p, .int i t1]) Q E s := by
  have zp := N _ (.head _)
  refine wpAny_call (pop_c G F.keep zp.1 zp.2.2 hd0 hz hi hdp hun fun h' tk a ep' c e1 e2 e3 => ?_)
  have F' := fr_chg F c zp.2.2 zp.2.1
  have aL : a ≠ L := by
    rintro rfl
    refine el_3_2 (F.ns) fun oL _ _ hL _ => ?_
    rw [e3] at hL; cases hL
  have a0 : h₀.get? a = none := by
    cases q : h₀.get? a with
    | none => rfl
    | some o => rw [F.keep _ _ q] at e3; cases e3
  have na : ∀ q, q ∈ ((p, accObj dx items ep) :: news) → q.1 ≠ a := fun q hq e => by
    have := (N q hq).1
    rw [e, e3] at this; cases this
  exact h h' tk a ep' F' (news_head ⟨e2, aL, a0⟩ (news_head ⟨e1, zp.2⟩ (news_chg (news_tail N) c hr))) (fun q hq => na q (.tail _ hq)) (na _ (.head _))

theorem push_K {p dx : Addr} {items : Array Value} {ep : Nat} {ti tj : Tok} {fws st : Str} {t1 t2 : Tok} {Q : Value → Shared → Prop} (G : Gd w mean mg mb h₀) (F : Fr h₀ L s.heap m) (N : News h₀ L s.heap news) (hm : (p, accObj dx items ep) ∈ news) (hd0 : s.heap.get? dx = some (accDict w ti tj))
    (hz : items.size ≤ sizeLine) (hdp : A.depth + 10 < recursionLimit) (hun : A.units + 100 < cLine)
    (h : ∀ h' tk a, Fr h₀ L h' m → (∀ rest, (∀ q ∈ rest, q.1 ≠ p) → (∀ q ∈ rest, q ∈ news) → News h₀ L h' ((p, accObj dx (items.push (.ref a)) (ep + 1)) :: (a, tup2 fws st t1 t2) :: rest)) → (∀ q ∈ news, q.1 ≠ a) → Q .none { s with heap := h', toks := tk }) : wpAny (model PP w) A (call (.ref 93) [.ref p, .str fws t1, .str st t2]) Q E s := by
  have zp := N _ hm
  refine wpAny_call (push_c G F.keep zp.1 zp.2.2 hd0 hz hdp hun fun h' tk a c e1 e2 e3 => ?_)
  have F' := fr_chg F c zp.2.2 zp.2.1
  have aL : a ≠ L := by
    rintro rfl
    refine el_3_2 (F.ns) fun oL _ _ hL _ => ?_
    rw [e3] at hL; cases hL
  have a0 : h₀.get? a = none := by
    cases q : h₀.get? a with
    | none => rfl
    | some o => rw [F.keep _ _ q] at e3; cases e3
  have na : ∀ q, q ∈ news → q.1 ≠ a := fun q hq e => by
    have := (N q hq).1
    rw [e, e3] at this; cases this
  exact h h' tk a F' (fun rest r1 r2 => news_head ⟨e1, zp.2⟩ (news_head ⟨e2, aL, a0⟩ (news_chg (news_weak N r2) c r1))) na

theorem tup_0 {value slice : PySem.Expr} {b : Addr} {x y : Str} {t u tk : Tok} {Q : Value → Shared → Prop} (hb : s.heap.get? b = some (tup2 x y t u)) (h : Q (.str x t) s)
    (hs : subscripted slice false (.ref b) (.int 0 tk) = operate [.ref b, .int 0 tk] (getItem (.ref b) (.int 0 tk))) : wpAny (model PP w) A (subscriptTail value slice (.ref b) (.int 0 tk)) Q E s :=
  item_tupleT (l := [.str x t, .str y u]) (j := 0) (x := .str x t) ⟨_, hb, rfl, _, rfl⟩ (by decide) (by decide) rfl rfl h hs
theorem tup_1 {value slice : PySem.Expr} {b : Addr} {x y : Str} {t u tk : Tok} {Q : Value → Shared → Prop} (hb : s.heap.get? b = some (tup2 x y t u)) (h : Q (.str y u) s)
    (hs : subscripted slice false (.ref b) (.int 1 tk) = operate [.ref b, .int 1 tk] (getItem (.ref b) (.int 1 tk))) : wpAny (model PP w) A (subscriptTail value slice (.ref b) (.int 1 tk)) Q E s :=
  item_tupleT (l := [.str x t, .str y u]) (j := 1) (x := .str y u) ⟨_, hb, rfl, _, rfl⟩ (by decide) (by decide) rfl rfl h hs
theorem item_K {value slice : PySem.Expr} {l : Addr} {items : Array Value} {n : Nat} {k : Int} {u : Tok} {x : Value} {Q : Value → Shared → Prop} (N : News h₀ L s.heap news) (hm : (l, listOf items n) ∈ news)
    (h0 : 0 ≤ k) (hfit : k < 2 ^ 63) (hx : items[k.toNat]? = some x) (h : Q x s)
    (hs : subscripted slice false (.ref l) (.int k u) = operate [.ref l, .int k u] (getItem (.ref l) (.int k u))) : wpAny (model PP w) A (subscriptTail value slice (.ref l) (.int k u)) Q E s :=
  tail_any (Heap.IsList.typeIs (s := s) ⟨_, (N _ hm).1, rfl, _, rfl⟩) slot_list_getitem.lookup (wpAny_getItem_list ⟨_, (N _ hm).1, rfl, _, rfl⟩ h0 hfit hx h) hs
end
end Mine
namespace Mine
local macro_rules | `(tactic| k_room) => `(tactic| (first | (simp only [depth_deeper]; omega)))
local macro_rules | `(tactic| walk_at "getMethod ref") => `(tactic| (refine haltN 1 ?_))
local macro_rules | `(tactic| walk_at "call builtin:len") => `(tactic| (with_reducible refine hLenRN 2 ?_))
local macro_rules | `(tactic| walk_at "storeName") => `(tactic| (k_here; k_dflt (refine' storeX_L ?F ?N ?_ ?a ?b; (case F => k_asm); (case N => k_asm); (case a => rfl); (case b => rfl); k_whole; intro h' F' N'; (try dsimp only at F'); (try dsimp only); (try k_sweep))))
local macro_rules | `(tactic| walk_at "subscriptTail") => `(tactic| ((with_reducible show wpAny _ _ (subscriptTail _ _ (Value.ref _) (Value.int _ _)) _ _ _); refine haltN 3 ?_))
local macro_rules | `(tactic| walk_at "subscriptTail Subscript") => `(tactic| refine haltN 4 ?_)
local macro_rules | `(tactic| walk_at "call ref") => `(tactic| (with_reducible refine hRefN 5 93 ?_))
local macro_rules | `(tactic| walk_at "pyIter ref") => `(tactic| refine halt ?_)
local macro_rules | `(tactic| walk_at "exec For Name Call cons nil") => `(tactic| refine halt ?_)
local macro_rules | `(tactic| walk_at "call ref") => `(tactic| (with_reducible refine hRefN 6 146 ?_))
local macro_rules | `(tactic| walk_at "call ref") => `(tactic| (with_reducible refine hRefN 7 101 ?_))
theorem two_c {w : World} {A : Around} {s : Shared} {h₀ : Heap} {R : Result → Shared → Prop} {mean : ExcName → Option Value} {mg mb : Str → Option Value}
   {p dx : Addr} {items : Array Value} {pc : List (Str × Str)} {ep : Nat} {ti tj : Tok} {x : Int} {t1 : Tok}
   (G : Gd w mean mg mb h₀) (k : Sub h₀ s.heap)
   (hp : s.heap.get? p = some (accObj dx items ep)) (hp0 : h₀.get? p = none) (hdx : s.heap.get? dx = some (accDict w ti tj))
   (hpc : Pieces s.heap items.toList pc) (hz2 : 2 ≤ items.size) (hz : items.size ≤ 6) (hx0 : 0 ≤ x) (hx1 : x < 1000000)
   (hdp : A.depth + 20 < recursionLimit) (hun : A.units + 200 < cLine) (hh : A.handled = none)
   (h : ∀ h' tk r b1 b2 c1 c2 t1 u1 t2 u2 items' pc' ep', Chg p s.heap h' → h'.get? r = some (listOf #[.ref b1, .ref b2] 0) → s.heap.get? r = none → h'.get? b1 = some (tup2 (Prod.fst c1) (Prod.snd c1) t1 u1) → h'.get? b2 = some (tup2 (Prod.fst c2) (Prod.snd c2) t2 u2) → h'.get? p = some (accObj dx items' ep') → Pieces h' items'.toList pc' → List.Perm pc (c1 :: c2 :: pc') → R (.ok (.ret (.ref r))) { s with heap := h', toks := tk }) :
   codeAny (model PP w) A (.call (.ref 167) ⟨[.ref p, .int x t1], []⟩) R s := by
  obtain ⟨hd0, dp, fr, gd, un⟩ := A
  dsimp only at hdp hun hh
  subst hh
  refine' enterP [p] [("pile", .ref p), ("x", .int x t1)] G k ?k5 (f := 167) (cl := []) ?k6 ?k7 ?k8 ?k9 ?kB ?c5 ?c2 ?c3 ?c4 ?_; (case k5 => (intro a ha; simp only [List.mem_singleton] at ha; rw [ha]; exact hp0)); (case k6 => k_is); (case k7 => k_is); (case k8 => (show dp < _; exact Mine.o_d0 hdp)); (case k9 => exact BindsTo.of_eq rfl); (case kB => exact locs rfl); (case c5 => decide); (case c2 => exact rfl); (case c3 => exact rfl); (case c4 => exact rfl)
  intro h₁ g F k1 eg G1 X T N0
  have hdg : g.get? dx = some (accDict w ti tj) := by
    rw [eg]; refine hideAll_get _ hdx ?_
    intro q; cases q with
    | head => rw [hp] at hdx; cases hdx
    | tail _ q => cases q
  have N1 := news_cons N0 (k1 _ _ hp) (Nat.ne_of_lt (Heap.lt_size hp)) (by rw [eg]; exact hideAll_none _ (.head _))
  clear N0
  have hn0 : ((items.size : Nat) : Int) ≠ 0 := by exact Mine.q_302 hz2
  have hn1 : ((items.size : Nat) : Int) - 1 ≠ 0 := by exact Mine.q_303 hz2
  have hone := fmod_in x items.size (by exact Mine.q_304 hz2)
  have hq := fmod_in (x.fdiv 6) (items.size - 1) (by exact Mine.q_305 hz2)
  have hoth := fmod_in (x.fmod items.size + 1 + (x.fdiv 6).fmod (items.size - 1)) items.size (by exact Mine.q_304 hz2)
  have hne := other_ne (x.fmod items.size) ((x.fdiv 6).fmod (items.size - 1)) items.size (by exact Mine.q_304 hz2) hone.1 hone.2 hq.1 hq.2
  (try dsimp only)
  (try k_fold)
  k_steps
  repeat (any_goals (first
    | ((with_reducible refine goN 1 ?_); k_dflt (refine' acc_method ?q9X ?q9hp ?q9hd ?q9hf ?q9ht ?q9hs ?_; (case q9X => k_in); (case q9hp => exact News.get (by k_asm) (by k_mem)); (case q9hd => exact Fr.keep (by k_asm) _ _ (by assumption)); (case q9hf => k_is); (case q9ht => k_is); (case q9hs => rfl); k_whole); k_steps)
    | ((with_reducible refine goN 6 ?_); k_dflt (refine' count_K ?q9G ?q9F ?q9N ?q9hm ?q9hd ?q9dp ?q9un ?_; (case q9G => assumption); (case q9F => k_asm); (case q9N => k_asm); (case q9hm => k_mem); (case q9hd => exact Fr.keep (by k_asm) _ _ (by assumption)); (case q9dp => (simp only [depth_deeper]; exact Mine.o_d2 hdp)); (case q9un => (simp only [units_deeper]; exact Mine.o_d2 hun)); k_whole); intro _ _ _ _ _; (try k_sweep); k_steps)
    | ((with_reducible refine goN 7 ?_); k_dflt (refine' pop_K ?q9G ?q9F ?q9N ?q9hr ?q9hd ?q9hz ?q9hi ?q9dp ?q9un ?_; (case q9G => assumption); (case q9F => k_asm); (case q9N => k_asm); (case q9hr => first | exact fun _ hq => nomatch hq | k_all); (case q9hd => exact Fr.keep (by k_asm) _ _ (by assumption)); (case q9hz => (rw [sizeLine_eq]; exact Nat.le_trans hz (by decide))); (case q9hi => omega); (case q9dp => (simp only [depth_deeper]; exact Mine.o_d2 hdp)); (case q9un => (simp only [units_deeper]; exact Mine.o_d2 hun)); k_whole); intro _ _ _ _ _ _ _ _; (try k_sweep); k_steps)))
  unfold Halt
  refine wpAny_For ?_
  k_steps
  repeat (any_goals (first
    | ((with_reducible refine goN 2 ?_); k_dflt (refine' PyProof.Rows.len_list ?q9hl ?q9hf ?_; (case q9hl => exact ⟨_, News.get (by k_asm) (by k_mem), rfl, _, rfl⟩); (case q9hf => (simp only [List.size_toArray, List.length_drop, Array.length_toList]; exact Mine.q_306 hz)); k_whole); k_steps)))
  unfold Halt
  rename IsRange _ _ _ _ _ _ _ _ => hr9
  rename Fr _ _ _ _ => F9
  rename News _ _ _ _ => N9
  rename_i a9 ep9 na9 pa9 h91 F91 N91 h90 tk90 t91 u91 v91 k90
  have hmin : (if (x.fmod items.size + 1 + (x.fdiv 6).fmod (items.size - 1)).fmod items.size < x.fmod items.size then (x.fmod items.size + 1 + (x.fdiv 6).fmod (items.size - 1)).fmod items.size else x.fmod items.size) = min (x.fmod items.size) ((x.fmod items.size + 1 + (x.fdiv 6).fmod (items.size - 1)).fmod items.size) := by
    split <;> (first | exact Mine.q_307 ‹_› | exact Mine.q_308 ‹_›)
  rw [hmin] at N9 hr9
  clear hmin hn0 hn1 hq
  generalize (x.fmod items.size + 1 + (x.fdiv 6).fmod (items.size - 1)).fmod items.size = oth at F9 N9 hr9 hoth hne
  generalize x.fmod items.size = one at F9 N9 hr9 hoth hne hone
  have hlo0 : 0 ≤ min one oth ∧ min one oth < (items.size : Int) := by exact Mine.q_309 hone hoth
  obtain ⟨lo, elo⟩ : ∃ lo : Nat, (min one oth) = (lo : Int) := ⟨(min one oth).toNat, by exact Mine.q_310 hlo0⟩
  obtain ⟨d, ed⟩ : ∃ d : Nat, (if one - oth < 0 then -(one - oth) else one - oth) = (d : Int) := ⟨(one - oth).natAbs, by split <;> (first | exact Mine.q_311 ‹_› | exact Mine.q_312 ‹_›)⟩
  have hd0 : 0 < d := by have := ed; split at this <;> (first | exact Mine.q_313 this ‹_› | exact Mine.q_314 this hne)
  have hld : lo + d < items.size := by have := ed; split at this <;> (first | exact Mine.q_315 hoth this elo | exact Mine.q_316 hone this elo)
  rw [elo] at N9 hr9
  simp only [Int.toNat_natCast] at N9 hr9
  have hpl : pc.length = items.size := by rw [← hpc.1, Array.length_toList]
  refine el_2_3 (perm_two pc lo d hd0 (by exact Mine.q_317 hld hpl)) fun c1 c2 hc1 hc2 hperm => ?_
  have htl : (items.toList.drop lo).length = items.size - lo := by rw [List.length_drop, Array.length_toList]
  have hat : ∀ j, j < items.size - lo → ∃ b c t u, (items.toList.drop lo).toArray[j]? = some (.ref b) ∧ (pc.drop lo)[j]? = some c ∧ g.get? b = some (tup2 c.1 c.2 t u) := by
    intro j hj
    have h1 : lo + j < items.toList.length := by rw [Array.length_toList]; exact Mine.q_269 hj
    have h2 : lo + j < pc.length := by exact Mine.q_318 hj hpl
    refine el_3_2 (hpc.2 (lo + j) _ _ (List.getElem?_eq_getElem h1) (List.getElem?_eq_getElem h2)) fun b t u e1 e2 => ?_
    refine ⟨b, pc[lo + j], t, u, ?_, ?_, ?_⟩
    · rw [List.getElem?_toArray, List.getElem?_drop, List.getElem?_eq_getElem h1, e1]
    · rw [List.getElem?_drop, List.getElem?_eq_getElem h2]
    · rw [eg]
      refine hideAll_get _ e2 ?_
      intro q
      cases q with
      | head => rw [hp] at e2; cases e2
      | tail _ q => cases q
  have hsm := small_one (items.size - lo) (by exact Mine.q_319 hz)
  have hsz : (items.toList.drop lo).toArray.size = items.size - lo := by rw [List.size_toArray, htl]
  rw [hsz] at hr9
  refine' iter_range (σ := Nat × List (Addr × Str × Str × Tok × Tok)) (n := items.size - lo - 1) (mp := fun _ => _)
    (led := fun z => (p, accObj dx (items.toList.take lo ++ z.2.map fun e => Value.ref e.1).toArray z.1) :: (a9, listOf (items.toList.drop lo).toArray 0) :: z.2.map fun e => (e.1, tup2 e.2.1 e.2.2.1 e.2.2.2.1 e.2.2.2.2))
    (J := fun i z => (∀ e ∈ z.2, e.1 ≠ p) ∧ z.2.map (fun e => (e.2.1, e.2.2.1)) = ((pc.drop lo).tail.take i).eraseIdx (d - 1)) rfl rfl rfl hr9 hsm.1 hsm.2 (_, []) F9 ?kN ?k0 ?turn ?done
  case kN =>
    simp only [List.map_nil, List.append_nil]
    exact news_weak N9 (by intro q hq; simp only [List.mem_cons, List.not_mem_nil, or_false] at hq ⊢; exact hq.symm)
  case k0 => simp
  case turn =>
    intro I i z h' tk' t' hi hJ0 F8 N8 hI hI0
    obtain ⟨hJp, hJ⟩ := hJ0
    refine el_4_3 (hat (1 + i) (by exact Mine.q_320 hi)) fun b c tb ub hb1 hb2 hb3 => ?_
    have hidx : (1 + (i : Int)).toNat = 1 + i := by exact Mine.q_125
    have hbk : (items.toList.drop lo).toArray[(1 + (i : Int)).toNat]? = some (.ref b) := by rw [hidx]; exact hb1
    have hzz : (items.toList.take lo ++ z.2.map fun e => Value.ref e.1).toArray.size ≤ sizeLine := by
      have := congrArg List.length hJ
      simp only [List.length_map] at this
      have h2 := List.length_eraseIdx_le ((pc.drop lo).tail.take i) (d - 1)
      have h3 : ((pc.drop lo).tail.take i).length ≤ i := List.length_take_le ..
      rw [List.size_toArray, List.length_append, List.length_map, sizeLine_eq, List.length_take]
      exact Mine.q_321 this h2 h3 hi hz
    clear F9 N9
    dsimp only at F8 N8
    have hct : (pc.drop lo).tail[i]? = some c := by rw [← List.drop_one, List.getElem?_drop]; exact hb2
    have hte := take_erase (pc.drop lo).tail i (d - 1) c hct
    k_steps
    repeat (any_goals (first
      | ((with_reducible refine goN 1 ?_); k_dflt (refine' acc_method ?q9X ?q9hp ?q9hd ?q9hf ?q9ht ?q9hs ?_; (case q9X => k_in); (case q9hp => exact News.get (by k_asm) (by k_mem)); (case q9hd => exact Fr.keep (by k_asm) _ _ (by assumption)); (case q9hf => k_is); (case q9ht => k_is); (case q9hs => rfl); k_whole); k_steps)
      | ((with_reducible refine goN 3 ?_); k_dflt (first | (refine' item_K ?q9N ?q9hm ?q9h0 ?q9hf ?q9hx ?_ ?q9hs; (case q9N => k_asm); (case q9hm => k_mem); (case q9h0 => exact Mine.q_123); (case q9hf => exact Mine.q_322 hz hi); (case q9hx => assumption); (case q9hs => with_unfolding_all rfl); k_whole)); k_steps)
      | ((with_reducible refine goN 4 ?_); k_dflt (first | ((with_reducible show wpAny _ _ (subscriptTail _ _ (Value.ref _) (Value.int 0 _)) _ _ _); refine' tup_0 ?q9t ?_ ?q9hs; (case q9t => exact Fr.keep (by k_asm) _ _ (by assumption)); (case q9hs => with_unfolding_all rfl); k_whole) | ((with_reducible show wpAny _ _ (subscriptTail _ _ (Value.ref _) (Value.int 1 _)) _ _ _); refine' tup_1 ?q9t ?_ ?q9hs; (case q9t => exact Fr.keep (by k_asm) _ _ (by assumption)); (case q9hs => with_unfolding_all rfl); k_whole) | (refine' item_K ?q9N ?q9hm ?q9h0 ?q9hf ?q9hx ?_ ?q9hs; (case q9N => k_asm); (case q9hm => k_mem); (case q9h0 => omega); (case q9hf => omega); (case q9hx => assumption); (case q9hs => with_unfolding_all rfl); k_whole) | (refine' item_K ?q9N ?q9hm ?q9h0 ?q9hf ?q9hx ?_ ?q9hs; (case q9N => k_asm); (case q9hm => k_mem); (case q9h0 => omega); (case q9hf => omega); (case q9hx => assumption); (case q9hs => with_unfolding_all rfl); k_whole)); k_steps)
      | ((with_reducible refine goN 5 ?_); k_dflt (refine' push_K ?q9G ?q9F ?q9N ?q9hm ?q9hd ?q9hz ?q9dp ?q9un ?_; (case q9G => assumption); (case q9F => k_asm); (case q9N => k_asm); (case q9hm => k_mem); (case q9hd => exact Fr.keep (by k_asm) _ _ (by assumption)); (case q9hz => assumption); (case q9dp => (simp only [depth_deeper]; exact Mine.o_d2 hdp)); (case q9un => (simp only [units_deeper]; exact Mine.o_d2 hun)); k_whole); intro _ _ _ _ _ _; k_steps)))
    · rename_i ux tkx ane hx tkx' ax Fx Nx nax
      rw [ed] at ane
      rw [if_neg (by exact Mine.q_323 ane hd0)] at hte
      rename p ≠ _ => hpa
      have hIp : p ≠ I := hI _ (.head _)
      refine ⟨.inl rfl, hx, tkx', _, (z.1 + 1, z.2 ++ [(ax, c.1, c.2, tb, ub)]), rfl, Fx, (fun y hy => ?_), ?_, ?_, ?_, ?_⟩
      · simp only [if_neg hy]
      · have q := Nx ((I, rIter (1 + (i + 1 : Nat)) (((items.size - lo - 1 : Nat) : Int) - (i + 1 : Nat))) :: (a9, listOf (items.toList.drop lo).toArray 0) :: z.2.map fun e => (e.1, tup2 e.2.1 e.2.2.1 e.2.2.2.1 e.2.2.2.2)) ?q1 ?q2
        · have e : (items.toList.take lo ++ z.2.map fun e => Value.ref e.1).toArray.push (.ref ax) = (items.toList.take lo ++ (z.2 ++ [(ax, c.1, c.2, tb, ub)]).map fun e => Value.ref e.1).toArray := by simp
          rw [e] at q
          refine news_weak q ?_
          intro y hy
          simp only [List.map_append, List.map_cons, List.map_nil, List.mem_cons, List.mem_append, List.not_mem_nil, or_false] at hy ⊢
          rcases hy with hy | hy | hy | hy | hy
          · exact .inr (.inr (.inl hy))
          · exact .inl hy
          · exact .inr (.inr (.inr (.inl hy)))
          · exact .inr (.inr (.inr (.inr hy)))
          · exact .inr (.inl hy)
        · intro y hy
          simp only [List.mem_cons, List.mem_map] at hy
          rcases hy with rfl | rfl | ⟨e, he, rfl⟩
          · exact Ne.symm hIp
          · exact Ne.symm hpa
          · exact hJp e he
        · intro y hy
          rcases List.mem_cons.mp hy with rfl | hy
          · exact .head _
          · exact .tail _ (.tail _ hy)
      · intro y hy
        simp only [List.map_append, List.map_cons, List.map_nil, List.mem_cons, List.mem_append, List.not_mem_nil, or_false] at hy
        rcases hy with hy | hy | hy | hy
        · subst hy; exact hIp
        · subst hy; exact hI _ (.tail _ (.head _))
        · exact hI _ (.tail _ (.tail _ hy))
        · subst hy; exact Ne.symm (nax _ (.head _))
      · intro e he
        rcases List.mem_append.mp he with he | he
        · exact hJp e he
        · rw [List.mem_singleton] at he; subst he; exact Ne.symm (nax _ (.tail _ (.head _)))
      · rw [List.map_append, hJ, hte]; rfl
    · rename_i aeq
      rw [ed] at aeq
      rw [if_pos (by exact Mine.q_324 aeq)] at hte
      refine ⟨.inl rfl, _, _, _, z, rfl, F8, (fun y hy => ?_), N8, hI, hJp, ?_⟩
      · simp only [if_neg hy]
      · rw [hJ, hte]
  case done =>
    intro z h' tk' o hJ0 F8 N8
    obtain ⟨hJp, hJ⟩ := hJ0
    refine el_4_3 (hat 0 (by exact Mine.q_325 hlo0 elo)) fun b1 c1' tb1 ub1 hb11 hb12 hb13 => ?_
    refine el_4_3 (hat d (by exact Mine.q_326 hld)) fun b2 c2' tb2 ub2 hb21 hb22 hb23 => ?_
    have e1 : c1' = c1 := Option.some.inj (hb12.symm.trans hc1)
    have e2 : c2' = c2 := Option.some.inj (hb22.symm.trans hc2)
    subst e1 e2
    have hbk : (items.toList.drop lo).toArray[(if one - oth < 0 then -(one - oth) else one - oth).toNat]? = some (.ref b2) := by rw [ed, Int.toNat_natCast]; exact hb21
    have hb10 : (items.toList.drop lo).toArray[(0 : Int).toNat]? = some (.ref b1) := hb11
    clear F9 N9
    dsimp only at F8 N8 ⊢
    k_steps
    repeat (any_goals (first
      | ((with_reducible refine goN 3 ?_); k_dflt (first | (refine' item_K ?q9N ?q9hm ?q9h0 ?q9hf ?q9hx ?_ ?q9hs; (case q9N => k_asm); (case q9hm => k_mem); (case q9h0 => (first | decide | exact Mine.q_327 ed)); (case q9hf => (first | decide | exact Mine.q_328 ed hz hld)); (case q9hx => assumption); (case q9hs => with_unfolding_all rfl); k_whole)); k_steps)))
    rename_i ux tkx lx hx Fx Nx lt
    have hcg : Chg p s.heap hx := chg_g eg Fx
    have hlen : (pc.drop lo).tail.length = items.size - lo - 1 := by rw [List.length_tail, List.length_drop, hpl]
    rw [List.take_of_length_le (by rw [hlen]; exact Nat.le_refl _)] at hJ
    have pk : ∀ b c d t u, s.heap.get? b = some (tup2 c d t u) → hx.get? b = some (tup2 c d t u) := fun b c d t u e => hcg _ _ (by rintro rfl; rw [hp] at e; cases e) e
    refine h hx _ _ b1 b2 c1' c2' tb1 ub1 tb2 ub2 _ (pc.take lo ++ (pc.drop lo).tail.eraseIdx (d - 1)) _ hcg (Nx.get (.head _)) (new_g eg (Nat.ne_of_gt lt.1) (Nx.fresh (.head _))) (Fx.keep _ _ hb13) (Fx.keep _ _ hb23) (Nx.get (.tail _ (.head _))) ?_ hperm
    rw [← hJ]
    exact ((hpc.take lo).mono pk).app (Pieces.ofMap z.2 fun e he => Nx.get (.tail _ (.tail _ (.tail _ (List.mem_map.mpr ⟨e, he, rfl⟩)))))
end Mine
end

section
open PySem PySem.W PySem.Calls PySem.Spec PyProof.Rows PyProof.Rows.LCg PyProof.Rows.LCt
set_option Elab.async false
set_option maxRecDepth 100000
set_option maxHeartbeats 8000000
set_option linter.unusedVariables false
namespace Mine
section
variable {prog : Program} {w : World} {A : Around} {s : Shared} {h₀ : Heap} {L : Addr} {m : Str → Option Value} {env : Env} {elt ct : PySem.Expr} {x : Str} {scope : Scope} {cl : List (Str × Addr)} {S : List (Addr × Obj) → Prop} {P : Nat → Value → Prop} {Fin : List Value → List (Addr × Obj) → Prop} {n : Nat}
/-- the turns of a comprehension, by a thing that every turn keeps -/
theorem rest_inv (J : Nat → List Value → List (Addr × Obj) → Prop)
    (turn : ∀ i ys news, i < n → J i ys news → ∀ v I oI C oC D m₂ h tk (E' : Value → Shared → Prop), P i v → NsObj oC m₂ → m₂ x = some v → Fr h₀ L h m → News h₀ L h ((I, oI) :: (C, oC) :: (D, lst ys) :: news) → Off3 I C D news → ((@Ne Nat I C) ∧ (@Ne Nat I D) ∧ (@Ne Nat C D)) →
      wpAny (model prog w) A (eval elt (compEnvC scope cl C env)) (CompEnd h₀ L m { s with heap := h, toks := tk } I oI C oC D (lst ys) S (fun y news' => J (i + 1) (ys ++ [y]) news')) E' { s with heap := h, toks := tk })
    (fin : ∀ ys news, J n ys news → Fin ys news) : ∀ (k i : Nat) (ys : List Value) (news : List (Addr × Obj)), i + k = n → J i ys news → CompRest prog w A h₀ L m env elt x scope cl s S P Fin k i ys news := by
  intro k
  induction k with
  | zero => intro i ys news e j; rw [Nat.add_zero] at e; subst e; exact CompRest.zero (fin _ _ j)
  | succ k ih =>
    intro i ys news e j
    refine CompRest.succ fun v I oI C oC D m₂ h tk E' a1 a2 a3 a4 a5 a6 a7 => ?_
    refine wpAny_mono (turn i ys news (by exact Mine.q_21 e) j v I oI C oC D m₂ h tk E' a1 a2 a3 a4 a5 a6 a7) (fun y s₂ hy => ?_) fun _ _ e => e
    obtain ⟨h', tk', news', e1, e2, e3, e4, e5, e6⟩ := hy
    exact ⟨h', tk', news', e1, e2, e3, e4, e5, ih (i + 1) _ _ (by exact Mine.q_22 e) e6⟩
theorem rest_invT (J : Nat → List Value → List (Addr × Obj) → Prop)
    (turn : ∀ i ys news, i < n → J i ys news → ∀ v I oI C oC D m₂ h tk (E' : Value → Shared → Prop), P i v → NsObj oC m₂ → m₂ x = some v → Fr h₀ L h m → News h₀ L h ((I, oI) :: (C, oC) :: (D, lst ys) :: news) → Off3 I C D news → ((@Ne Nat I C) ∧ (@Ne Nat I D) ∧ (@Ne Nat C D)) →
      wpAny (model prog w) A (isTrue ct (compEnvC scope cl C env) (eval ct (compEnvC scope cl C env))) (fun ok s' => if ok = true then
        wpAny (model prog w) A (eval elt (compEnvC scope cl C env)) (CompEnd h₀ L m { s with heap := h, toks := tk } I oI C oC D (lst ys) S (fun y news' => J (i + 1) (ys ++ [y]) news')) E' s'
        else CompEnd h₀ L m { s with heap := h, toks := tk } I oI C oC D (lst ys) S (fun _ news' => J (i + 1) ys news') Value.none s') E' { s with heap := h, toks := tk })
    (fin : ∀ ys news, J n ys news → Fin ys news) : ∀ (k i : Nat) (ys : List Value) (news : List (Addr × Obj)), i + k = n → J i ys news → CompRestT prog w A h₀ L m env ct elt x scope cl s S P Fin k i ys news := by
  intro k
  induction k with
  | zero => intro i ys news e j; rw [Nat.add_zero] at e; subst e; exact CompRestT.zero (fin _ _ j)
  | succ k ih =>
    intro i ys news e j
    refine CompRestT.succ fun v I oI C oC D m₂ h tk E' a1 a2 a3 a4 a5 a6 a7 => ?_
    refine wpAny_mono (turn i ys news (by exact Mine.q_21 e) j v I oI C oC D m₂ h tk E' a1 a2 a3 a4 a5 a6 a7) (fun ok s₂ hy => ?_) fun _ _ e => e
    split at hy
    · rename_i q
      rw [if_pos q]
      refine wpAny_mono hy (fun y s₃ hy => ?_) fun _ _ e => e
      obtain ⟨h', tk', news', e1, e2, e3, e4, e5, e6⟩ := hy
      exact ⟨h', tk', news', e1, e2, e3, e4, e5, ih (i + 1) _ _ (by exact Mine.q_22 e) e6⟩
    · rename_i q
      rw [if_neg q]
      obtain ⟨h', tk', news', e1, e2, e3, e4, e5, e6⟩ := hy
      exact ⟨h', tk', news', e1, e2, e3, e4, e5, ih (i + 1) _ _ (by exact Mine.q_22 e) e6⟩
end
end Mine
end

section
open PySem PySem.W PySem.Calls PySem.Spec PyProof.Rows PySem.Builtin.Re
set_option Elab.async false
set_option maxRecDepth 100000
set_option maxHeartbeats 4000000
set_option linter.unusedVariables false
namespace Mine
def mit : Nat → Sre.M → Sre.M
  | 0, m => m
  | n + 1, m => mit n m.step
theorem mit_add (a b : Nat) (m : Sre.M) : mit (a + b) m = mit b (mit a m) := by
  induction a generalizing m with
  | zero => rw [Nat.zero_add]; rfl
  | succ a ih => rw [Nat.succ_add]; exact ih m.step
theorem step_done {m : Sre.M} (h : m.outcome.isSome = true) : m.step = m := by
  unfold Sre.M.step; rw [if_pos h]
theorem mit_done {m : Sre.M} (h : m.outcome.isSome = true) (n : Nat) : mit n m = m := by
  induction n with
  | zero => rfl
  | succ n ih => show mit n m.step = m; rw [step_done h, ih]
theorem runFor_eq (n : Nat) (m : Sre.M) : m.runFor n = mit n m := by
  induction n generalizing m with
  | zero => rfl
  | succ n ih =>
    unfold Sre.M.runFor
    split
    · rename_i h; exact (mit_done h _).symm
    · exact ih _
theorem drive {M : Model} {A : Around} {Q : Sre.M → Shared → Prop} {E : Value → Shared → Prop} {s : Shared} {n : Nat} : ∀ {turns : Nat} {m : Sre.M}, (mit n m).outcome.isSome = true → n + 4 ≤ 4 * turns → Q (mit n m) s → wpAny M A (reDrive turns m) Q E s
  | 0, _, _, h, _ => by exact (Mine.q_238 h).elim
  | turns + 1, m, ho, h, q => by
    unfold reDrive
    dsimp only
    rw [show reTurnSteps = 4 from rfl, runFor_eq]
    split
    · rename_i h4
      have e : mit 4 m = mit n m := by
        rcases Nat.le_total n 4 with l | l
        · rw [show 4 = n + (4 - n) by exact Mine.q_239 l, mit_add, mit_done ho]
        · rw [show n = 4 + (n - 4) by exact Mine.q_240 l, mit_add, mit_done h4]
      rw [e]
      exact nd_pure q
    · rename_i h4
      have l : 4 < n := by
        rcases Nat.lt_or_ge 4 n with l | l
        · exact l
        · exact absurd (by rw [show 4 = n + (4 - n) by exact Mine.q_241 l, mit_add, mit_done ho]; exact ho) h4
      refine wpAny_bind (wpAny_rule ?_)
      have e : mit n m = mit (n - 4) (mit 4 m) := by rw [← mit_add]; congr 1; exact Mine.q_242 l
      rw [e] at ho q
      exact drive ho (by exact Mine.q_243 h l) q
theorem for_rules {M : Model} {A : Around} {Q : PUnit → Shared → Prop} {E : Value → Shared → Prop} {s : Shared} {b : Nat → PUnit → Sem (ForInStep PUnit)} (hb : ∀ i u (Q : ForInStep PUnit → Shared → Prop), Q (.yield PUnit.unit) s → wpAny M A (b i u) Q E s) (q : Q PUnit.unit s) : ∀ l : List Nat, wpAny M A (forIn (m := Sem) l PUnit.unit b) Q E s
  | [] => nd_pure q
  | a :: l => by
    rw [List.forIn_cons]
    exact wpAny_bind (hb _ _ _ (for_rules hb q l))
theorem end_found {M : Model} {A : Around} {Q : Option Sre.M → Shared → Prop} {E : Value → Shared → Prop} {s : Shared} {n : Nat} {m : Sre.M} (ho : (mit n m).outcome = some .matched) (h : n ≤ 4000000) (q : Q (some (mit n m)) s) : wpAny M A (reRunToEnd m) Q E s := by
  unfold reRunToEnd
  refine wpAny_bind (drive (n := n) (by rw [ho]; rfl) (by exact Mine.q_244 h) ?_)
  refine wpAny_bind ?_
  refine for_rules (fun i u Q hq => ?_) ?_ _
  · skip
    split
    · exact wpAny_bind (wpAny_rule (nd_pure hq))
    · exact nd_pure hq
  · skip
    rw [ho]
    exact nd_pure q
theorem end_none {M : Model} {A : Around} {Q : Option Sre.M → Shared → Prop} {E : Value → Shared → Prop} {s : Shared} {n : Nat} {m : Sre.M} (ho : (mit n m).outcome = some .failed) (h : n ≤ 4000000) (q : Q none s) : wpAny M A (reRunToEnd m) Q E s := by
  unfold reRunToEnd
  refine wpAny_bind (drive (n := n) (by rw [ho]; rfl) (by exact Mine.q_244 h) ?_)
  refine wpAny_bind ?_
  refine for_rules (fun i u Q hq => ?_) ?_ _
  · skip
    split
    · exact wpAny_bind (wpAny_rule (nd_pure hq))
    · exact nd_pure hq
  · skip
    rw [ho]
    exact nd_pure q
end Mine
end

section
open PySem PySem.W PySem.Calls PySem.Spec PyProof.Rows PySem.Builtin.Re
set_option Elab.async false
set_option maxRecDepth 100000
set_option maxHeartbeats 4000000
set_option linter.unusedVariables false
namespace Mine
section
open Sre Sre.M
theorem step_exec {m : Sre.M} (h1 : m.outcome = none) (h2 : m.answer = none) (h3 : m.pc < m.code.size) : m.step = m.exec := by
  unfold Sre.M.step
  rw [h1, h2]
  simp only [Option.isSome_none, Bool.false_eq_true, if_false, if_pos h3]
theorem step_res {m : Sre.M} {yes : Bool} {f : Sre.Frame} {rest : List Sre.Frame} (h1 : m.outcome = none) (h2 : m.answer = some yes) (h3 : m.frames = f :: rest) :
    m.step = Sre.M.resume { m with answer := none, frames := rest, weight := m.weight - (1 + f.kept.marks.size), pc := f.pc, pos := f.pos, outermost := f.outermost } f yes := by
  unfold Sre.M.step
  rw [h1, h2, h3]
  rfl
theorem step_end {m : Sre.M} {yes : Bool} (h1 : m.outcome = none) (h2 : m.answer = some yes) (h3 : m.frames = []) :
    m.step = { m with outcome := some (if yes then .matched else .failed) } := by
  unfold Sre.M.step
  rw [h1, h2, h3]
  rfl
theorem exec_AT {m : Sre.M} (h : ops[m.word 0]? = some .AT) {yes : Bool} (hy : Sre.M.isAt { m with seen := m.seen.add (m.word 0) } (m.word 1) = .ok yes) :
    m.exec = if yes then { m with seen := (m.seen.add (m.word 0)).add (43 + m.word 1), pc := m.pc + 2 } else { m with seen := (m.seen.add (m.word 0)).add (43 + m.word 1), answer := some false } := by
  unfold Sre.M.exec
  rw [h]
  dsimp only
  rw [show Sre.M.word { m with seen := m.seen.add (m.word 0) } 1 = m.word 1 from rfl, hy]
  cases yes <;> rfl
theorem exec_LIT {m : Sre.M} (h : ops[m.word 0]? = some .LITERAL) (hp : m.pos < m.lim) :
    m.exec = if (m.text.getD m.pos 0 == m.word 1) then { m with seen := m.seen.add (m.word 0), pc := m.pc + 2, pos := m.pos + 1 } else { m with seen := m.seen.add (m.word 0), answer := some false } := by
  have ha : ∀ sn, accepts m.code m.pc (m.text.getD m.pos 0) sn = .ok (m.text.getD m.pos 0 == m.word 1, sn) := by
    intro sn
    unfold accepts
    rw [show m.code.getD m.pc 0 = m.word 0 from rfl, h]
    rfl
  have hw : itemWidth m.code m.pc = 2 := by
    unfold itemWidth
    rw [show m.code.getD m.pc 0 = m.word 0 from rfl, h]
  unfold Sre.M.exec
  rw [h]
  dsimp only
  rw [if_neg (by exact Mine.q_245 hp), ha, hw]
  cases q : (m.text.getD m.pos 0 == m.word 1) <;> rfl
theorem exec_LIT_end {m : Sre.M} (h : ops[m.word 0]? = some .LITERAL) (hp : ¬ m.pos < m.lim) :
    m.exec = { m with seen := m.seen.add (m.word 0), answer := some false } := by
  unfold Sre.M.exec
  rw [h]
  dsimp only
  rw [if_pos (by exact Mine.q_246 hp)]
  rfl
theorem exec_SUC {m : Sre.M} (h : ops[m.word 0]? = some .SUCCESS) (h1 : m.wholeText = false) (h2 : (m.mustAdvance && m.pos == m.start) = false ∨ m.outermost = false) :
    m.exec = { m with seen := m.seen.add (m.word 0), handed := m.pos, answer := some true } := by
  unfold Sre.M.exec
  rw [h]
  dsimp only
  rw [if_neg (by rw [h1]; rcases h2 with e | e <;> rw [e] <;> simp)]
  rfl
theorem exec_JUMP {m : Sre.M} (h : ops[m.word 0]? = some .JUMP) : m.exec = { m with seen := m.seen.add (m.word 0), pc := m.pc + 1 + m.word 1 } := by
  unfold Sre.M.exec
  rw [h]
  rfl
theorem exec_BRANCH {m : Sre.M} (h : ops[m.word 0]? = some .BRANCH) : m.exec = Sre.M.alternative { m with seen := m.seen.add (m.word 0) } (m.pc + 1) (Sre.M.keep { m with seen := m.seen.add (m.word 0) } m.inner.isSome) := by
  unfold Sre.M.exec
  rw [h]
theorem exec_NOT {m : Sre.M} (h : ops[m.word 0]? = some .ASSERT_NOT) (h2 : m.word 2 = 0) : m.exec = Sre.M.attempt { m with seen := m.seen.add (m.word 0) } { Sre.M.frame { m with seen := m.seen.add (m.word 0) } .lookNot with kept := Sre.M.keep { m with seen := m.seen.add (m.word 0) } m.inner.isSome } (m.pc + 3) m.pos false := by
  unfold Sre.M.exec
  rw [h]
  dsimp only
  rw [show Sre.M.word { m with seen := m.seen.add (m.word 0) } 2 = m.word 2 from rfl, h2]
  rw [if_neg (by exact Mine.q_247)]
  rfl
theorem res_next_no {m : Sre.M} {f : Sre.Frame} (h : f.wait = .nextStart) (hp : f.pos < m.lastStart) : m.resume f false = Sre.M.attemptFrom { m with mustAdvance := false } (f.pos + 1) false := by
  unfold Sre.M.resume
  rw [h]
  dsimp only
  rw [if_neg (by decide), if_pos hp]
theorem res_next_end {m : Sre.M} {f : Sre.Frame} (h : f.wait = .nextStart) (hp : ¬ f.pos < m.lastStart) : m.resume f false = m.say false := by
  unfold Sre.M.resume
  rw [h]
  dsimp only
  rw [if_neg (by decide), if_neg hp]
theorem res_next_yes {m : Sre.M} {f : Sre.Frame} (h : f.wait = .nextStart) : m.resume f true = m.say true := by
  unfold Sre.M.resume
  rw [h]
  rfl
end
abbrev cD : Array Nat := #[14, 4, 0, 1, 1, 6, 1, 16, 46, 1]
/-- the machine at the start of a try at place s -/
abbrev att (code text : Array Nat) (pc lim s : Nat) (must first : Bool) (seen : Sre.Seen) : Sre.M :=
  { code := code, text := text, lim := lim, start := s, lastStart := lim, mustAdvance := must, pc := pc, pos := s, handed := s, outermost := first, marks := #[], frames := [{ wait := .nextStart, pc := pc, pos := s, outermost := first }], weight := 1, seen := seen }
theorem line_start {text : Array Nat} {s : Nat} {b : Bool} (h : b = true ↔ (s = 0 ∨ text.getD (s - 1) 0 = 10)) : (s == 0 || text.getD (s - 1) 0 == 10) = b := by
  cases q : (s == 0 || text.getD (s - 1) 0 == 10) with
  | false => cases b with
    | false => rfl
    | true => have := h.1 rfl; exact absurd (show (s == 0 || text.getD (s - 1) 0 == 10) = true by simpa using this) (by rw [q]; decide)
  | true => exact ((h.2 (by simpa using q))).symm
theorem dot_next {text : Array Nat} {lim s : Nat} {seen : Sre.Seen} {must first : Bool} (pc : Nat) (hs : s < lim) :
    Sre.M.step { att cD text 5 lim s must first seen with pc := pc, answer := some false } = att cD text 5 lim (s + 1) false false seen := by
  rw [step_res rfl rfl rfl, res_next_no rfl hs]
  rfl
theorem dot_stop {text : Array Nat} {lim : Nat} {seen : Sre.Seen} {must first : Bool} (pc : Nat) :
    (Sre.M.step (Sre.M.step { att cD text 5 lim lim must first seen with pc := pc, answer := some false })).outcome = some .failed := by
  have e : Sre.M.step { att cD text 5 lim lim must first seen with pc := pc, answer := some false } = { att cD text 5 lim lim must first seen with frames := [], weight := 0, answer := some false } := by
    rw [step_res rfl rfl rfl, res_next_end rfl (Nat.lt_irrefl lim)]
    rfl
  rw [e, step_end rfl rfl rfl]
  rfl
theorem dot_at {text : Array Nat} {lim s : Nat} {must first b : Bool} {seen : Sre.Seen} (h : b = true ↔ (s = 0 ∨ text.getD (s - 1) 0 = 10)) :
    Sre.M.step (att cD text 5 lim s must first seen) = if b then { att cD text 5 lim s must first ((seen.add 6).add 44) with pc := 7 } else { att cD text 5 lim s must first ((seen.add 6).add 44) with pc := 5, answer := some false } := by
  have e := line_start h
  rw [step_exec rfl rfl (show (5 : Nat) < 10 by decide), exec_AT (yes := b) rfl (by rw [← e]; rfl)]
  rfl
theorem dot_lit {text : Array Nat} {lim s : Nat} {must first : Bool} {seen : Sre.Seen} :
    Sre.M.step { att cD text 5 lim s must first seen with pc := 7 } = if s < lim ∧ text.getD s 0 = 46 then { att cD text 5 lim s must first (seen.add 16) with pc := 9, pos := s + 1 } else { att cD text 5 lim s must first (seen.add 16) with pc := 7, answer := some false } := by
  rw [step_exec rfl rfl (show (7 : Nat) < 10 by decide)]
  by_cases hs : s < lim
  · rw [exec_LIT rfl hs]
    show (if (text.getD s 0 == 46) = true then _ else _) = _
    by_cases q : text.getD s 0 = 46
    · rw [if_pos (show (text.getD s 0 == 46) = true by rw [q]; rfl), if_pos (show s < lim ∧ text.getD s 0 = 46 from ⟨hs, q⟩)]
      rfl
    · rw [if_neg (show ¬ (text.getD s 0 == 46) = true by simpa using q), if_neg (show ¬ (s < lim ∧ text.getD s 0 = 46) from fun h => q h.2)]
      rfl
  · rw [exec_LIT_end rfl hs, if_neg (show ¬ (s < lim ∧ text.getD s 0 = 46) from fun h => hs h.1)]
    rfl
theorem dot_yes {text : Array Nat} {lim s : Nat} {must first : Bool} {seen : Sre.Seen} : ∃ m, mit 3 { att cD text 5 lim s must first seen with pc := 9, pos := s + 1 } = m ∧ m.outcome = some .matched ∧ m.start = s ∧ m.handed = s + 1 := by
  have e1 : Sre.M.step { att cD text 5 lim s must first seen with pc := 9, pos := s + 1 } = { att cD text 5 lim s must first (seen.add 1) with pc := 9, pos := s + 1, handed := s + 1, answer := some true } := by
    have h : (must && (s + 1 == s)) = false := by
      have : (s + 1 == s) = false := by simp
      rw [this, Bool.and_false]
    rw [step_exec rfl rfl (show (9 : Nat) < 10 by decide), exec_SUC rfl rfl (.inl h)]
    rfl
  have e2 : Sre.M.step { att cD text 5 lim s must first (seen.add 1) with pc := 9, pos := s + 1, handed := s + 1, answer := some true } = { att cD text 5 lim s must first (seen.add 1) with handed := s + 1, frames := [], weight := 0, answer := some true } := by
    rw [step_res rfl rfl rfl, res_next_yes rfl]
    rfl
  refine ⟨_, rfl, ?_⟩
  show (Sre.M.step (Sre.M.step (Sre.M.step _))).outcome = _ ∧ (Sre.M.step (Sre.M.step (Sre.M.step _))).start = _ ∧ (Sre.M.step (Sre.M.step (Sre.M.step _))).handed = _
  rw [e1, e2, step_end rfl rfl rfl]
  exact ⟨rfl, rfl, rfl⟩
def findD : Bool → List Nat → Option Nat
  | _, [] => none
  | b, c :: t => if b && c == 46 then some 0 else (findD (c == 10) t).map (· + 1)
/-- the place p of the text is where the list starts -/
def AtPlace (text : Array Nat) (s : Nat) (suf : List Nat) : Prop := text.toList.drop s = suf
theorem search_D {text : Array Nat} : ∀ {suf : List Nat} {s : Nat} {b must first : Bool} {seen : Sre.Seen}, text.toList.drop s = suf → s ≤ text.size → (b = true ↔ (s = 0 ∨ text.getD (s - 1) 0 = 10)) →
    match findD b suf with
    | none => ∃ n, n ≤ 3 * suf.length + 10 ∧ (mit n (att cD text 5 text.size s must first seen)).outcome = some .failed
    | some i => ∃ n m, n ≤ 3 * suf.length + 10 ∧ mit n (att cD text 5 text.size s must first seen) = m ∧ m.outcome = some .matched ∧ m.start = s + i ∧ m.handed = s + i + 1
  | [], s, b, must, first, seen, hs, hz, hb => by
    have hs' : s = text.size := by
      have := congrArg List.length hs
      simp at this
      exact Mine.q_248 this hz
    subst hs'
    show ∃ n, _
    cases b with
    | false =>
      refine ⟨3, by exact Mine.q_249, ?_⟩
      show (Sre.M.step (Sre.M.step (Sre.M.step _))).outcome = _
      rw [dot_at hb, if_neg (by decide), dot_stop]
    | true =>
      refine ⟨4, by exact Mine.q_250, ?_⟩
      show (Sre.M.step (Sre.M.step (Sre.M.step (Sre.M.step _)))).outcome = _
      rw [dot_at hb, if_pos rfl, dot_lit, if_neg (fun h => Nat.lt_irrefl _ h.1), dot_stop]
  | c :: t, s, b, must, first, seen, hs, hz, hb => by
    have hl : s < text.size := by
      have := congrArg List.length hs
      simp at this
      exact Mine.q_251 this
    have hc : text.getD s 0 = c := by
      have := congrArg (fun l => l[0]?) hs
      simp at this
      rw [Array.getD_eq_getD_getElem?, this]; rfl
    have hn : text.toList.drop (s + 1) = t := by
      have := congrArg List.tail hs
      rwa [List.tail_drop] at this
    have hb' : ((c == 10) = true ↔ (s + 1 = 0 ∨ text.getD (s + 1 - 1) 0 = 10)) := by
      rw [Nat.add_sub_cancel, hc]; simp
    by_cases q : (b && c == 46) = true
    · rw [findD, if_pos q]
      dsimp only
      rw [Bool.and_eq_true, beq_iff_eq] at q
      obtain ⟨rfl, rfl⟩ := q
      obtain ⟨m, e1, e2, e3, e4⟩ := dot_yes (text := text) (lim := text.size) (s := s) (must := must) (first := first) (seen := (((seen.add 6).add 44).add 16))
      refine ⟨5, m, by exact Mine.q_252, ?_, e2, e3, e4⟩
      show mit 3 (Sre.M.step (Sre.M.step _)) = _
      rw [dot_at hb, if_pos rfl, dot_lit, if_pos ⟨hl, hc⟩, e1]
    · rw [findD, if_neg q]
      have step : ∃ k seen', k ≤ 3 ∧ mit k (att cD text 5 text.size s must first seen) = att cD text 5 text.size (s + 1) false false seen' := by
        cases b with
        | false =>
          refine ⟨2, (seen.add 6).add 44, by decide, ?_⟩
          show (Sre.M.step (Sre.M.step _)) = _
          rw [dot_at hb, if_neg (by decide), dot_next _ hl]
        | true =>
          refine ⟨3, ((seen.add 6).add 44).add 16, by decide, ?_⟩
          show (Sre.M.step (Sre.M.step (Sre.M.step _))) = _
          rw [dot_at hb, if_pos rfl, dot_lit, if_neg (fun h => q (by rw [← hc, h.2]; rfl)), dot_next _ hl]
      obtain ⟨k, seen', hk, ek⟩ := step
      have ih := search_D (must := false) (first := false) (seen := seen') hn (by exact Mine.q_253 hl) hb'
      cases w : findD (c == 10) t with
      | none =>
        rw [w] at ih
        obtain ⟨n, n1, n2⟩ := ih
        exact ⟨k + n, by simp only [List.length_cons]; exact Mine.q_254 hk n1, by rw [mit_add, ek]; exact n2⟩
      | some i =>
        rw [w] at ih
        obtain ⟨n, m, n1, n2, n3, n4, n5⟩ := ih
        exact ⟨k + n, m, by simp only [List.length_cons]; exact Mine.q_254 hk n1, by rw [mit_add, ek]; exact n2, n3, by rw [n4]; show s + 1 + i = s + (i + 1); exact Mine.q_61, by rw [n5]; show s + 1 + i + 1 = s + (i + 1) + 1; exact Mine.q_255⟩
end Mine
end

section
open PySem PySem.W PySem.Calls PySem.Spec PyProof.Rows PySem.Builtin.Re
set_option Elab.async false
set_option maxRecDepth 100000
set_option maxHeartbeats 4000000
set_option linter.unusedVariables false
namespace Mine
abbrev cN : Array Nat := #[14, 9, 4, 1, 2, 16, 10, 16, 13, 0, 7, 7, 16, 13, 16, 10, 15, 18, 5, 16, 10, 15, 13, 11, 16, 13, 5, 5, 0, 16, 10, 1, 15, 2, 0, 1]
section
open Sre Sre.M
theorem alt_next {m : Sre.M} {alt : Nat} {kept : Sre.Kept} (h : (m.code.getD alt 0 == 0) = false) (hw : m.weight + 1 + kept.marks.size ≤ 16777216) :
    m.alternative alt kept = { m with frames := { m.frame .nextBranch with pc := alt, kept := kept } :: m.frames, weight := m.weight + 1 + kept.marks.size, pc := alt + 1, pos := m.pos, handed := m.pos, outermost := m.outermost } := by
  unfold alternative attempt
  rw [h]
  dsimp only
  rw [if_neg (by decide), if_neg (by exact Mine.q_256 hw)]
theorem res_branch_no {m : Sre.M} {f : Sre.Frame} (h : f.wait = .nextBranch) : m.resume f false = (m.putBack f.kept).alternative (f.pc + m.code.getD f.pc 0) f.kept := by
  unfold Sre.M.resume
  rw [h]
  rfl
theorem res_branch_yes {m : Sre.M} {f : Sre.Frame} (h : f.wait = .nextBranch) : m.resume f true = m.say true := by
  unfold Sre.M.resume
  rw [h]
  rfl
theorem res_not_no {m : Sre.M} {f : Sre.Frame} (h : f.wait = .lookNot) : m.resume f false = { m.putBack f.kept with pc := m.pc + 1 + m.word 1 } := by
  unfold Sre.M.resume
  rw [h]
  rfl
end
abbrev kp : Sre.Kept := { lastmark := -1, lastindex := -1, whole := false, marks := #[] }
abbrev fN (s : Nat) (first : Bool) : Sre.Frame := { wait := .nextStart, pc := 10, pos := s, outermost := first }
abbrev fB (alt s : Nat) (first : Bool) : Sre.Frame := { wait := .nextBranch, pc := alt, pos := s, outermost := first, kept := kp }
abbrev fL (s : Nat) (first : Bool) : Sre.Frame := { wait := .lookNot, pc := 26, pos := s, outermost := first, kept := kp }
abbrev stN (text : Array Nat) (lim s : Nat) (fr : List Sre.Frame) (wt pc pos handed : Nat) (om : Bool) (ans : Option Bool) (seen : Sre.Seen) : Sre.M :=
  { code := cN, text := text, lim := lim, start := s, lastStart := lim, mustAdvance := false, pc := pc, pos := pos, handed := handed, outermost := om, marks := #[], frames := fr, weight := wt, answer := ans, seen := seen }
section
variable {text : Array Nat} {lim s : Nat} {fr : List Sre.Frame} {wt pc pos handed : Nat} {om first : Bool} {seen : Sre.Seen}
theorem n_branch : Sre.M.step (stN text lim s [fN s first] 1 10 s s first none seen) = stN text lim s [fB 11 s first, fN s first] 2 12 s s first none (seen.add 7) := by
  rw [step_exec rfl rfl (show (10 : Nat) < 36 by decide), exec_BRANCH rfl, alt_next rfl (Nat.le_of_ble_eq_true rfl)]
  rfl
theorem n_lit (c : Nat) (hpc : pc < 36) (h1 : cN.getD pc 0 = 16) (h2 : cN.getD (pc + 1) 0 = c) (hp : pos < lim) (hc : text.getD pos 0 = c) :
    Sre.M.step (stN text lim s fr wt pc pos handed om none seen) = stN text lim s fr wt (pc + 2) (pos + 1) handed om none (seen.add 16) := by
  have hw : Sre.M.word (stN text lim s fr wt pc pos handed om none seen) 0 = 16 := h1
  have hw1 : Sre.M.word (stN text lim s fr wt pc pos handed om none seen) 1 = c := h2
  rw [step_exec rfl rfl hpc, exec_LIT (by rw [hw]; rfl) hp, hw, hw1]
  show (if (text.getD pos 0 == c) = true then _ else _) = _
  rw [if_pos (show (text.getD pos 0 == c) = true by rw [hc]; exact beq_self_eq_true c)]
theorem n_lit_no (c : Nat) (hpc : pc < 36) (h1 : cN.getD pc 0 = 16) (h2 : cN.getD (pc + 1) 0 = c) (hc : ¬ (pos < lim ∧ text.getD pos 0 = c)) :
    Sre.M.step (stN text lim s fr wt pc pos handed om none seen) = stN text lim s fr wt pc pos handed om (some false) (seen.add 16) := by
  have hw : Sre.M.word (stN text lim s fr wt pc pos handed om none seen) 0 = 16 := h1
  have hw1 : Sre.M.word (stN text lim s fr wt pc pos handed om none seen) 1 = c := h2
  by_cases hp : pos < lim
  · rw [step_exec rfl rfl hpc, exec_LIT (by rw [hw]; rfl) hp, hw, hw1]
    show (if (text.getD pos 0 == c) = true then _ else _) = _
    rw [if_neg (show ¬ (text.getD pos 0 == c) = true by intro e; exact hc ⟨hp, by simpa using e⟩)]
  · rw [step_exec rfl rfl hpc, exec_LIT_end (by rw [hw]; rfl) hp, hw]
theorem n_jump (pc' : Nat) (hpc : pc < 36) (h1 : cN.getD pc 0 = 15) (h2 : pc + 1 + cN.getD (pc + 1) 0 = pc') :
    Sre.M.step (stN text lim s fr wt pc pos handed om none seen) = stN text lim s fr wt pc' pos handed om none (seen.add 15) := by
  have hw : Sre.M.word (stN text lim s fr wt pc pos handed om none seen) 0 = 15 := h1
  have hw1 : pc + 1 + Sre.M.word (stN text lim s fr wt pc pos handed om none seen) 1 = pc' := h2
  rw [step_exec rfl rfl hpc, exec_JUMP (by rw [hw]; rfl), hw]
  show ({ stN text lim s fr wt pc pos handed om none (seen.add 15) with pc := pc + 1 + Sre.M.word (stN text lim s fr wt pc pos handed om none seen) 1 } : Sre.M) = _
  rw [hw1]
theorem n_alt (alt alt' : Nat) (h1 : alt + cN.getD alt 0 = alt') (h2 : (cN.getD alt' 0 == 0) = false) :
    Sre.M.step (stN text lim s [fB alt s first, fN s first] 2 pc pos handed om (some false) seen) = stN text lim s [fB alt' s first, fN s first] 2 (alt' + 1) s s first none seen := by
  rw [step_res rfl rfl rfl, res_branch_no rfl]
  show Sre.M.alternative _ (alt + cN.getD alt 0) _ = _
  rw [h1, alt_next h2 (Nat.le_of_ble_eq_true rfl)]
  rfl
/-- the last steps -/
theorem n_end {alt : Nat} (hpos : s < pos) : ∃ m, mit 4 (stN text lim s [fB alt s first, fN s first] 2 35 pos handed om none seen) = m ∧ m.outcome = some .matched ∧ m.start = s ∧ m.handed = pos := by
  have e1 : Sre.M.step (stN text lim s [fB alt s first, fN s first] 2 35 pos handed om none seen) = stN text lim s [fB alt s first, fN s first] 2 35 pos pos om (some true) (seen.add 1) := by
    rw [step_exec rfl rfl (show (35 : Nat) < 36 by decide), exec_SUC rfl rfl (.inl rfl)]
    rfl
  have e2 : Sre.M.step (stN text lim s [fB alt s first, fN s first] 2 35 pos pos om (some true) (seen.add 1)) = stN text lim s [fN s first] 1 alt s pos first (some true) (seen.add 1) := by
    rw [step_res rfl rfl rfl, res_branch_yes rfl]
    rfl
  have e3 : Sre.M.step (stN text lim s [fN s first] 1 alt s pos first (some true) (seen.add 1)) = stN text lim s [] 0 10 s pos first (some true) (seen.add 1) := by
    rw [step_res rfl rfl rfl, res_next_yes rfl]
    rfl
  refine ⟨_, rfl, ?_⟩
  show (Sre.M.step (Sre.M.step (Sre.M.step (Sre.M.step _)))).outcome = _ ∧ (Sre.M.step (Sre.M.step (Sre.M.step (Sre.M.step _)))).start = _ ∧ (Sre.M.step (Sre.M.step (Sre.M.step (Sre.M.step _)))).handed = _
  rw [e1, e2, e3, step_end rfl rfl rfl]
  exact ⟨rfl, rfl, rfl⟩
theorem n_both (h1 : s < lim) (h2 : text.getD s 0 = 13) (h3 : s + 1 < lim) (h4 : text.getD (s + 1) 0 = 10) :
    ∃ m, mit 8 (stN text lim s [fN s first] 1 10 s s first none seen) = m ∧ m.outcome = some .matched ∧ m.start = s ∧ m.handed = s + 2 := by
  obtain ⟨m, a, b⟩ := n_end (text := text) (lim := lim) (s := s) (first := first) (alt := 11) (pos := s + 2) (handed := s) (om := first) (seen := ((((seen.add 7).add 16).add 16).add 15)) (by exact Mine.q_257)
  refine ⟨m, ?_, b⟩
  show mit 4 (Sre.M.step (Sre.M.step (Sre.M.step (Sre.M.step _)))) = _
  rw [n_branch, n_lit 13 (by decide) rfl rfl h1 h2, n_lit 10 (by decide) rfl rfl h3 h4, n_jump 35 (by decide) rfl rfl, a]
theorem n_feed (h1 : s < lim) (h2 : text.getD s 0 = 10) :
    ∃ m, mit 9 (stN text lim s [fN s first] 1 10 s s first none seen) = m ∧ m.outcome = some .matched ∧ m.start = s ∧ m.handed = s + 1 := by
  obtain ⟨m, a, b⟩ := n_end (text := text) (lim := lim) (s := s) (first := first) (alt := 18) (pos := s + 1) (handed := s) (om := first) (seen := ((((seen.add 7).add 16).add 16).add 15)) (by exact Mine.q_258)
  refine ⟨m, ?_, b⟩
  show mit 4 (Sre.M.step (Sre.M.step (Sre.M.step (Sre.M.step (Sre.M.step _))))) = _
  rw [n_branch, n_lit_no 13 (by decide) rfl rfl (fun e => by have := e.2; rw [h2] at this; cases this), n_alt 11 18 rfl rfl, n_lit 10 (by decide) rfl rfl h1 h2, n_jump 35 (by decide) rfl rfl, a]
theorem n_ret (h1 : s < lim) (h2 : text.getD s 0 = 13) (h3 : ¬ (s + 1 < lim ∧ text.getD (s + 1) 0 = 10)) :
    ∃ m, mit 15 (stN text lim s [fN s first] 1 10 s s first none seen) = m ∧ m.outcome = some .matched ∧ m.start = s ∧ m.handed = s + 1 := by
  obtain ⟨m, a, b⟩ := n_end (text := text) (lim := lim) (s := s) (first := first) (alt := 23) (pos := s + 1) (handed := s + 1) (om := first) (seen := ((((((((seen.add 7).add 16).add 16).add 16).add 16).add 5).add 16).add 15)) (by exact Mine.q_258)
  have e5 : ∀ sn, Sre.M.step (stN text lim s [fB 23 s first, fN s first] 2 26 (s + 1) s first none sn) = stN text lim s [fL (s + 1) first, fB 23 s first, fN s first] 3 29 (s + 1) (s + 1) false none (sn.add 5) := by
    intro sn
    rw [step_exec rfl rfl (show (26 : Nat) < 36 by decide), exec_NOT rfl rfl]
    rfl
  have e7 : ∀ sn, Sre.M.step (stN text lim s [fL (s + 1) first, fB 23 s first, fN s first] 3 29 (s + 1) (s + 1) false (some false) sn) = stN text lim s [fB 23 s first, fN s first] 2 32 (s + 1) (s + 1) first none sn := by
    intro sn
    rw [step_res rfl rfl rfl, res_not_no rfl]
    rfl
  refine ⟨m, ?_, b⟩
  show mit 4 (Sre.M.step (Sre.M.step (Sre.M.step (Sre.M.step (Sre.M.step (Sre.M.step (Sre.M.step (Sre.M.step (Sre.M.step (Sre.M.step (Sre.M.step _))))))))))) = _
  rw [n_branch, n_lit 13 (by decide) rfl rfl h1 h2, n_lit_no 10 (by decide) rfl rfl h3, n_alt 11 18 rfl rfl, n_lit_no 10 (by decide) rfl rfl (fun e => by have := e.2; rw [h2] at this; cases this), n_alt 18 23 rfl rfl,
    n_lit 13 (by decide) rfl rfl h1 h2, e5, n_lit_no 10 (by decide) rfl rfl h3, e7, n_jump 35 (by decide) rfl rfl, a]
end
def findN : List Nat → Option (Nat × Nat)
  | [] => none
  | [c] => if c == 10 || c == 13 then some (0, 1) else none
  | c :: d :: t => if c == 10 || c == 13 then some (0, if c == 13 && d == 10 then 2 else 1) else (findN (d :: t)).map fun p => (p.1 + 1, p.2)
end Mine
end

section
open PySem PySem.W PySem.Calls PySem.Spec PyProof.Rows PySem.Builtin.Re
set_option Elab.async false
set_option maxRecDepth 100000
set_option maxHeartbeats 4000000
set_option linter.unusedVariables false
namespace Mine
def Finds (code : Array Nat) (find : List Nat → Nat → Option (Nat × Nat)) : Prop :=
  ∀ (text : Array Nat) (s : Nat) (must : Bool) (M : Model) (A : Around) (Q : Option Sre.M → Shared → Prop) (E : Value → Shared → Prop) (st : Shared), s ≤ text.size → text.size ≤ 100000 →
    (match find text.toList s with
      | none => Q none st
      | some p => ∀ m : Sre.M, m.start = s + p.1 → m.handed = s + p.1 + p.2 → Q (some m) st) →
    wpAny M A (reRunToEnd (Sre.forSearch code text 0 s text.size must)) Q E st
def fD (text : List Nat) (s : Nat) : Option (Nat × Nat) := (findD (s == 0 || text.getD (s - 1) 0 == 10) (text.drop s)).map fun i => (i, 1)
def fNl (text : List Nat) (s : Nat) : Option (Nat × Nat) := findN (text.drop s)
theorem getD_list (text : Array Nat) (i : Nat) : text.toList.getD i 0 = text.getD i 0 := by
  rw [List.getD_eq_getElem?_getD, Array.getD_eq_getD_getElem?, Array.getElem?_toList]
theorem finds_D : Finds cD fD := by
  intro text s must M A Q E st hs hz h
  unfold fD at h
  by_cases e : s = text.size
  · subst e
    have hd0 : text.toList.drop text.size = [] := by rw [List.drop_eq_nil_iff]; simp
    rw [hd0] at h
    simp only [findD, Option.map_none] at h
    have e : Sre.forSearch cD text 0 text.size text.size must = ({ code := cD, text := text, lim := text.size, start := text.size, pc := 5, pos := text.size, handed := text.size, marks := #[], mustAdvance := must, seen := ({} : Sre.Seen).add 14, answer := some false } : Sre.M) := by
      show (if (decide (text.size > text.size) || decide (text.size - text.size < 1)) = true then _ else _) = _
      rw [if_pos (by simp)]
      rfl
    rw [e]
    refine end_none (n := 1) ?_ (by decide) h
    show (Sre.M.step _).outcome = _
    rw [step_end rfl rfl rfl]
    rfl
  · have e : Sre.forSearch cD text 0 s text.size must = att cD text 5 text.size s must true (({} : Sre.Seen).add 14) := by
      show (if (decide (s > text.size) || decide (text.size - s < 1)) = true then _ else _) = _
      rw [if_neg (by simp; exact Mine.q_259 hs e)]
      rfl
    rw [e]
    have sd := search_D (text := text) (suf := text.toList.drop s) (s := s) (b := (s == 0 || text.toList.getD (s - 1) 0 == 10)) (must := must) (first := true) (seen := ({} : Sre.Seen).add 14) rfl hs (by rw [getD_list]; simp)
    have hl : (text.toList.drop s).length ≤ 100000 := by rw [List.length_drop, Array.length_toList]; exact Mine.q_260 hz
    cases q : findD (s == 0 || text.toList.getD (s - 1) 0 == 10) (text.toList.drop s) with
    | none =>
      rw [q] at sd h
      obtain ⟨n, hn, ho⟩ := sd
      exact end_none ho (by exact Mine.q_261 hn hl) h
    | some i =>
      rw [q] at sd h
      obtain ⟨n, m, hn, em, ho, h1, h2⟩ := sd
      refine end_found (n := n) (by rw [em]; exact ho) (by exact Mine.q_261 hn hl) ?_
      rw [em]
      exact h m h1 h2
theorem inset_N (c fuel : Nat) (seen : Sre.Seen) : ∃ seen', Sre.inSet cN c (fuel + 3) 5 true seen = .ok (c == 10 || c == 13, seen') := by
  by_cases h1 : c = 10
  · subst h1; exact ⟨_, rfl⟩
  · by_cases h2 : c = 13
    · subst h2; exact ⟨_, rfl⟩
    · refine ⟨((seen.add 16).add 16).add 0, ?_⟩
      have e1 : (c == 10) = false := by simpa using h1
      have e2 : (c == 13) = false := by simpa using h2
      show (if (c == 10) = true then _ else (if (c == 13) = true then _ else _)) = _
      rw [if_neg (by rw [e1]; decide), if_neg (by rw [e2]; decide), e1, e2]
      rfl
theorem findN_cons (c : Nat) (t : List Nat) : findN (c :: t) = if c == 10 || c == 13 then some (0, if c == 13 && t.headD 0 == 10 then 2 else 1) else (findN t).map fun p => (p.1 + 1, p.2) := by
  cases t with
  | nil =>
    show (if _ then _ else _) = _
    cases q : (c == 10 || c == 13) with
    | false => simp [findN]
    | true => simp
  | cons d t => rfl
theorem admit_N {m : Sre.M} (hc : m.code = cN) (hl : m.lim = m.text.size) : ∀ (fuel s : Nat) (seen : Sre.Seen), s ≤ m.text.size → m.text.size < fuel + s → ∃ seen', Sre.M.admitted m fuel s seen = .ok ((findN (m.text.toList.drop s)).map fun p => s + p.1, seen')
  | 0, s, seen, hs, hf => by exact (Mine.q_262 hf hs).elim
  | fuel + 1, s, seen, hs, hf => by
    unfold Sre.M.admitted
    by_cases hz : s = m.text.size
    · refine ⟨seen, ?_⟩
      rw [if_pos (by exact Mine.q_263 hz hl)]
      have hd0 : m.text.toList.drop s = [] := by rw [List.drop_eq_nil_iff]; simp; exact Mine.q_264 hz
      rw [hd0]; rfl
    · rw [if_neg (by exact Mine.q_265 hs hl hz), hc]
      obtain ⟨sn, e⟩ := inset_N (m.text.getD s 0) 33 seen
      rw [show cN.size = 33 + 3 from rfl, e]
      have hlt : s < m.text.size := by exact Mine.q_266 hs hz
      have hdr : m.text.toList.drop s = m.text.getD s 0 :: m.text.toList.drop (s + 1) := by
        rw [List.drop_eq_getElem_cons (by simpa using hlt)]
        congr 1
        simp [Array.getD_eq_getD_getElem?, hlt]
      rw [hdr, findN_cons]
      cases q : (m.text.getD s 0 == 10 || m.text.getD s 0 == 13) with
      | true => exact ⟨sn, by simp⟩
      | false =>
        obtain ⟨sn', ih⟩ := admit_N hc hl fuel (s + 1) sn (by exact Mine.q_253 hlt) (by exact Mine.q_267 hf)
        refine ⟨sn', ?_⟩
        show Sre.M.admitted m fuel (s + 1) sn = _
        rw [ih, if_neg (by decide), Option.map_map]
        congr 2
        congr 1
        funext p
        simp only [Function.comp]
        exact Mine.q_61
theorem findN_facts : ∀ {l : List Nat} {p : Nat × Nat}, findN l = some p → p.1 < l.length ∧ (l.getD p.1 0 = 10 ∧ p.2 = 1 ∨ l.getD p.1 0 = 13 ∧ p.2 = (if (l.drop (p.1 + 1)).headD 0 == 10 then 2 else 1))
  | [], p, h => by cases h
  | c :: t, p, h => by
    rw [findN_cons] at h
    split at h
    · rename_i q
      cases h
      rw [Bool.or_eq_true, beq_iff_eq, beq_iff_eq] at q
      refine ⟨by simp, ?_⟩
      rcases q with rfl | rfl
      · exact .inl ⟨rfl, rfl⟩
      · exact .inr ⟨rfl, rfl⟩
    · cases q : findN t with
      | none => rw [q] at h; cases h
      | some p' =>
        rw [q] at h
        cases h
        obtain ⟨a, b⟩ := findN_facts q
        exact ⟨by simpa using a, b⟩
theorem finds_N : Finds cN fNl := by
  intro text s must M A Q E st hs hz h
  unfold fNl at h
  by_cases e : s = text.size
  · subst e
    have hd0 : text.toList.drop text.size = [] := by rw [List.drop_eq_nil_iff]; simp
    rw [hd0] at h
    have e : Sre.forSearch cN text 0 text.size text.size must = ({ code := cN, text := text, lim := text.size, start := text.size, pc := 10, pos := text.size, handed := text.size, marks := #[], mustAdvance := must, seen := ({} : Sre.Seen).add 14, answer := some false } : Sre.M) := by
      show (if (decide (text.size > text.size) || decide (text.size - text.size < 1)) = true then _ else _) = _
      rw [if_pos (by simp)]
      rfl
    rw [e]
    refine end_none (n := 1) ?_ (by decide) h
    show (Sre.M.step _).outcome = _
    rw [step_end rfl rfl rfl]
    rfl
  · have e0 : Sre.forSearch cN text 0 s text.size must = Sre.M.attemptFrom ({ code := cN, text := text, lim := text.size, lastStart := text.size, start := s, pc := 10, pos := s, handed := s, marks := #[], mustAdvance := must, seen := ({} : Sre.Seen).add 14 } : Sre.M) s true := by
      show (if (decide (s > text.size) || decide (text.size - s < 1)) = true then _ else _) = _
      rw [if_neg (by simp; exact Mine.q_259 hs e)]
      rfl
    obtain ⟨sn, e1⟩ := admit_N (m := ({ code := cN, text := text, lim := text.size, lastStart := text.size, start := s, pc := 10, pos := s, handed := s, marks := #[], mustAdvance := must, seen := ({} : Sre.Seen).add 14 } : Sre.M)) rfl rfl (text.size + 1 - s) s (({} : Sre.Seen).add 14) hs (by show text.size < _; exact Mine.q_268)
    have e2 : Sre.M.attemptFrom ({ code := cN, text := text, lim := text.size, lastStart := text.size, start := s, pc := 10, pos := s, handed := s, marks := #[], mustAdvance := must, seen := ({} : Sre.Seen).add 14 } : Sre.M) s true =
        match findN (text.toList.drop s) with
        | none => ({ code := cN, text := text, lim := text.size, lastStart := text.size, start := s, pc := 10, pos := s, handed := s, marks := #[], mustAdvance := must, seen := sn, answer := some false } : Sre.M)
        | some p => stN text text.size (s + p.1) [fN (s + p.1) true] 1 10 (s + p.1) (s + p.1) true none sn := by
      unfold Sre.M.attemptFrom
      dsimp only at e1 ⊢
      rw [e1]
      rw [if_neg (by show ¬ ((!true) = true); decide)]
      cases q : findN (text.toList.drop s) with
      | none => rfl
      | some p => rfl
    rw [e0, e2]
    cases q : findN (text.toList.drop s) with
    | none =>
      rw [q] at h
      refine end_none (n := 1) ?_ (by decide) h
      show (Sre.M.step _).outcome = _
      rw [step_end rfl rfl rfl]
      rfl
    | some p =>
      rw [q] at h
      dsimp only at h ⊢
      obtain ⟨hl, hp⟩ := findN_facts q
      rw [List.length_drop, Array.length_toList] at hl
      have g1 : (text.toList.drop s).getD p.1 0 = text.getD (s + p.1) 0 := by
        rw [← getD_list, List.getD_eq_getElem?_getD, List.getElem?_drop, List.getD_eq_getElem?_getD]
      have g2 : ((text.toList.drop s).drop (p.1 + 1)).headD 0 = text.getD (s + p.1 + 1) 0 := by
        rw [← getD_list, List.drop_drop, List.getD_eq_getElem?_getD, List.headD_eq_head?_getD, List.head?_drop]
        congr 2
      rw [g1, g2] at hp
      rcases hp with ⟨a, b⟩ | ⟨a, b⟩
      · obtain ⟨m, em, ho, h1, h2⟩ := n_feed (text := text) (lim := text.size) (s := s + p.1) (first := true) (seen := sn) (by exact Mine.q_269 hl) a
        refine end_found (n := 9) (by rw [em]; exact ho) (by decide) ?_
        rw [em]
        exact h m h1 (by rw [h2, b])
      · by_cases c : s + p.1 + 1 < text.size ∧ text.getD (s + p.1 + 1) 0 = 10
        · obtain ⟨m, em, ho, h1, h2⟩ := n_both (text := text) (lim := text.size) (s := s + p.1) (first := true) (seen := sn) (by exact Mine.q_270 c) a c.1 c.2
          refine end_found (n := 8) (by rw [em]; exact ho) (by decide) ?_
          rw [em]
          exact h m h1 (by rw [h2, b, c.2]; rfl)
        · obtain ⟨m, em, ho, h1, h2⟩ := n_ret (text := text) (lim := text.size) (s := s + p.1) (first := true) (seen := sn) (by exact Mine.q_269 hl) a c
          refine end_found (n := 15) (by rw [em]; exact ho) (by decide) ?_
          rw [em]
          refine h m h1 (by rw [h2, b, if_neg]; intro w; rw [beq_iff_eq] at w; refine c ⟨?_, w⟩; rcases Nat.lt_or_ge (s + p.1 + 1) text.size with l | l
                            · exact l
                            · rw [Array.getD_eq_getD_getElem?, Array.getElem?_eq_none l] at w; cases w)
end Mine
end

section
open PySem PySem.W PySem.Calls PySem.Spec PyProof.Rows PySem.Builtin.Re
set_option Elab.async false
set_option maxRecDepth 100000
set_option maxHeartbeats 4000000
set_option linter.unusedVariables false
namespace Mine
theorem entry_sub_loop : entryFor table "re.Pattern.sub.loop" = some Builtin.«re.Pattern.sub.loop» := entryFor_of_fast (by kernel_rfl)
theorem plain_sub_loop : plainId "re.Pattern.sub.loop" = true := by decide +kernel
theorem entry_sub : entryFor table "re.Pattern.sub" = some Builtin.«re.Pattern.sub» := entryFor_of_fast (by kernel_rfl)
theorem plain_sub : plainId "re.Pattern.sub" = true := by decide +kernel
abbrev patObj (px : Str) (pt : Tok) (fl : Int) (ft : Tok) (C : Addr) : Obj := { cls := .type "re.Pattern", data := .fields #[.str px pt, .int fl ft, .int 0 0, .none, .none, .ref C, .int 0 0] }
abbrev codeObj (c : Array Nat) : Obj := { cls := .type "tuple", data := .seq (c.map fun (n : Nat) => .int (n : Int) 0) }
theorem raw_code (c : Array Nat) : ((c.map fun (n : Nat) => Value.int (n : Int) 0).map reRawOf).map (·.toNat) = c := by
  rw [Array.map_map, Array.map_map]
  conv => rhs; rw [← Array.map_id c]
  rfl
theorem whole_target {M : Model} {h : Heap} {P C : Addr} {px : Str} {pt : Tok} {fl : Int} {ft : Tok} {c : Array Nat} {x : Str} {t : Tok} (hP : h.get? P = some (patObj px pt fl ft C)) (hC : h.get? C = some (codeObj c)) :
    Looks M h (reWholeTarget (.ref P) (.str x t)) { pattern := .ref P, string := .str x t, code := c, text := x.cps, kind := 0, groups := 0, pos := 0, lim := x.cps.size } := by
  intro A Q E s k q
  have hP' := k _ _ hP
  have hC' := k _ _ hC
  unfold reWholeTarget
  refine wpAny_bind ?_
  repeat (first | (with_reducible exact q) | lk)
  rw [show Array.map (fun x => x.toNat) (Array.map reRawOf ((some (Array.map (fun (n : Nat) => Value.int (n : Int) 0) c)).getD #[])) = c from raw_code c]
  exact q
theorem glued_list (sep : Str) : ∀ texts : List Str, (Builtin.Str.glued sep texts).cps.toList = (List.intercalate sep.cps.toList (texts.map (·.cps.toList)))
  | [] => rfl
  | a :: l => by
    have e : ∀ (l : List Str) (acc : Array Nat), (l.foldl (fun acc p => acc ++ sep.cps ++ p.cps) acc).toList = acc.toList ++ (l.map fun p => sep.cps.toList ++ p.cps.toList).flatten := by
      intro l
      induction l with
      | nil => intro acc; simp
      | cons b l ih => intro acc; rw [List.foldl_cons, ih]; simp
    have f : ∀ (l : List Str) (a : Str), List.intercalate sep.cps.toList ((a :: l).map (·.cps.toList)) = a.cps.toList ++ (l.map fun p => sep.cps.toList ++ p.cps.toList).flatten := by
      intro l
      induction l with
      | nil => intro a; simp [List.intercalate]
      | cons b l ih =>
        intro a
        have := ih b
        simp only [List.map_cons, List.intercalate, List.intersperse, List.flatten_cons] at this ⊢
        rw [this]
        simp
    show (l.foldl (fun acc p => acc ++ sep.cps ++ p.cps) a.cps).toList = _
    rw [e, f]
theorem join_sum (sep : Str) (texts : List Str) : texts.toArray.foldl (· + ·.length + sep.length) 0 = (texts.map (·.length)).sum + texts.length * sep.length := by
  have e : ∀ (l : List Str) (n : Nat), l.foldl (· + ·.length + sep.length) n = n + (l.map (·.length)).sum + l.length * sep.length := by
    intro l
    induction l with
    | nil => intro n; simp
    | cons a l ih => intro n; rw [List.foldl_cons, ih]; simp only [List.map_cons, List.sum_cons, List.length_cons, Nat.succ_mul]; exact Mine.q_271
  rw [List.foldl_toArray, e]; exact Mine.q_272
theorem join_t {w : World} {A : Around} {E : Value → Shared → Prop} {s : Shared} {Q : Value → Shared → Prop} {L : Addr} {l : List (Str × Tok)} {ep : Nat} {sep : Str} {t : Tok}
    (hL : s.heap.get? L = some (listOf (strValues l).toArray ep)) (hz : ((l.map (·.1)).map (·.length)).sum + l.length * sep.length ≤ sizeLine)
    (h : ∀ t' k, Q (.str ⟨(List.intercalate sep.cps.toList (l.map (·.1.cps.toList))).toArray⟩ t') { s with toks := k }) : wpAny (model PP w) A (call (.builtin "str.join") [.str sep t, .ref L]) Q E s := by
  refine PySem.SC.join (l := l) ⟨_, hL, rfl, _, rfl⟩ rfl ?_ fun t' k => ?_
  · unfold JoinOk
    rw [join_sum]
    show (!decide (_ > sizeLine)) = true
    rw [List.length_map]
    have : ¬ (((l.map (·.1)).map (·.length)).sum + l.length * sep.length > sizeLine) := by exact Mine.q_273 hz
    simp only [this, decide_false, Bool.not_false]
  · have := h t' k
    have e : (Txt.join sep (l.map (·.1))) = ⟨(List.intercalate sep.cps.toList (l.map (·.1.cps.toList))).toArray⟩ := by
      show Builtin.Str.glued _ _ = _
      rw [show (l.map (·.1.cps.toList)) = (l.map (·.1)).map (·.cps.toList) by rw [List.map_map]; rfl, ← glued_list]
    rw [e]; exact this
theorem intercalate_nil {α : Type} : ∀ l : List (List α), List.intercalate [] l = l.flatten
  | [] => rfl
  | [a] => by simp [List.intercalate]
  | a :: b :: l => by
    have := intercalate_nil (b :: l)
    simp only [List.intercalate, List.intersperse, List.flatten_cons] at this ⊢
    rw [this]; simp
theorem flatten_len (l : List (Str × Tok)) : ((l.map (·.1)).map (·.length)).sum = (l.map (·.1.cps.toList)).flatten.length := by
  rw [List.length_flatten, List.map_map, List.map_map]
  congr 1
theorem update_list {s : Shared} {L : Addr} {l : List (Str × Tok)} {ep : Nat} {x : Str} {t : Tok} (hL : s.heap.get? L = some (listOf (strValues l).toArray ep)) :
    (s.heap.update L (Obj.mapSeq fun q => q.push (.str x t))).get? L = some (listOf (strValues (l ++ [(x, t)])).toArray (ep + 1)) := by
  have e : Obj.mapSeq (·.push (.str x t)) (listOf (strValues l).toArray ep) = listOf (strValues (l ++ [(x, t)])).toArray (ep + 1) := by
    have e2 : (strValues l).toArray.push (.str x t) = (strValues (l ++ [(x, t)])).toArray := by simp [strValues]
    show (⟨_, _, .seq ((strValues l).toArray.push (.str x t)) (if (((strValues l).toArray.push (.str x t)).size == (strValues l).toArray.size) then ep else ep + 1), _⟩ : Obj) = _
    have : (((strValues l).toArray.push (.str x t)).size == (strValues l).toArray.size) = false := by simp
    rw [this, e2]; rfl
  rw [Heap.get?_update_self _ hL (by rw [e]; rfl), e]
/-- the texts that the loop has laid -/
structure Laid (h : Heap) (L : Addr) (X : List Nat) (n : Nat) : Prop where
  ex : ∃ (l : List (Str × Tok)) (ep : Nat), h.get? L = some (listOf (strValues l).toArray ep) ∧ (l.map (·.1.cps.toList)).flatten = X ∧ l.length ≤ n
theorem slice0 {M : Model} {A : Around} {E : Value → Shared → Prop} {s : Shared} {Q : Value → Shared → Prop} {x : Array Nat} {a b : Nat} (hz : x.size ≤ 10000) (h : Q (.str ⟨x.extract a b⟩ s.toks) { s with toks := s.toks + 1 }) : wpAny M A (reSlice x 0 a b) Q E s := by
  have e : reSlice x 0 a b = mkStr ⟨x.extract a b⟩ := rfl
  rw [e]
  unfold mkStr
  rw [if_neg]
  · repeat lk
    exact h
  · show ¬ ((x.extract a b).size > sizeLine)
    rw [Array.size_extract, PySem.sizeLine_eq]
    exact Mine.q_274 hz
theorem push_L {M : Model} {A : Around} {E : Value → Shared → Prop} {s : Shared} {Q : Unit → Shared → Prop} {L : Addr} {l : List (Str × Tok)} {ep : Nat} {x : Str} {t : Tok} (hL : s.heap.get? L = some (listOf (strValues l).toArray ep)) (hz : l.length ≤ 1000000)
    (h : ∀ h', Chg L s.heap h' → h'.get? L = some (listOf (strValues (l ++ [(x, t)])).toArray (ep + 1)) → Q () { s with heap := h' }) : wpAny M A (updateSeq L fun q => q.push (.str x t)) Q E s := by
  have hs : (strValues l).toArray.size = l.length := by simp [strValues]
  exact wpAny_updateSeq hL rfl (h _ (fun b o n e => ((Heap.SameBut.update ..).2 b n).trans e) (update_list hL)) (by rw [hs, PySem.sizeLine_eq]; exact Nat.le_trans hz (by decide)) (by rw [Array.size_push, hs, PySem.sizeLine_eq]; exact Mine.q_275 hz)
theorem tail_L {w : World} {A : Around} {Q : Fin → Shared → Prop} {E : Value → Shared → Prop} {s : Shared} {L : Addr} {l : List (Str × Tok)} {ep : Nat} {X : List Nat} {x : Array Nat} {K : Value → Sem Fin}
    (hL : s.heap.get? L = some (listOf (strValues l).toArray ep)) (hX : (l.map (·.1.cps.toList)).flatten = X) (hz : X.length ≤ 1000000) (hx : x.size ≤ 10000) (hK : ∀ v, K v = ret v)
    (h : ∀ t' k, Q (.done (.ret (.str ⟨X.toArray⟩ t'))) { s with toks := k }) :
    wpAny (model PP w) A (reSlice x 0 0 0 >>= fun joiner => seqItems? (.ref L) >>= fun items => if (items.getD #[]).isEmpty = true then (pure joiner >>= K) else (call (.builtin "str.join") [joiner, .ref L] >>= K)) Q E s := by
  refine wpAny_bind (slice0 hx ?_)
  have ex : (⟨x.extract 0 0⟩ : Str) = ⟨#[]⟩ := by congr 1; exact Array.extract_zero
  rw [ex]
  refine wpAny_bind (Looks.here (r := some (strValues l).toArray) ((Looks.ld (by exact hL)).andThen .now) ?_)
  cases l with
  | nil =>
    rw [if_pos (show ((some (strValues []).toArray).getD #[]).isEmpty = true from rfl)]
    subst hX
    rw [pure_bind, hK]
    exact wpAny_pure (h _ _)
  | cons a l =>
    rw [if_neg (by simp [strValues])]
    refine wpAny_bind (join_t (l := a :: l) (by exact hL) ?_ fun t' k => ?_)
    · rw [flatten_len, hX, PySem.sizeLine_eq]
      show _ + _ * 0 ≤ _
      exact Mine.q_276 hz
    · rw [hK]
      have e : List.intercalate ([] : List Nat) ((a :: l).map (·.1.cps.toList)) = X := by rw [intercalate_nil, hX]
      rw [show (⟨#[]⟩ : Str).cps.toList = [] from rfl, e]
      exact wpAny_pure (h _ _)
theorem extract_list (x : Array Nat) (a b : Nat) (h : a ≤ b) : (x.extract a b).toList = (x.toList.drop a).take (b - a) := by
  rw [Array.toList_extract, List.extract_eq_drop_take]
theorem sub_loop {w : World} {A : Around} {find : List Nat → Nat → Option (Nat × Nat)} {out : List Nat → Nat → List Nat} {repl : Str} {tr : Tok} {P C : Addr} {px : Str} {pt : Tok} {fl : Int} {ft : Tok} {c : Array Nat} {x : Str} {t : Tok}
    (hf : Finds c find) (hw : ∀ k p, find x.cps.toList k = some p → 0 < p.2 ∧ k + p.1 + p.2 ≤ x.cps.size)
    (ho1 : ∀ k, k ≤ x.cps.size → find x.cps.toList k = none → out x.cps.toList k = x.cps.toList.drop k)
    (ho2 : ∀ k p, k ≤ x.cps.size → find x.cps.toList k = some p → out x.cps.toList k = (x.cps.toList.drop k).take p.1 ++ repl.cps.toList ++ out x.cps.toList (k + p.1 + p.2))
    (hr : repl.cps.size = 2) (hz : x.cps.size ≤ 10000) (L : Addr) (hLP : L ≠ P) (hLC : L ≠ C) {R : Result → Shared → Prop} :
    ∀ (d : Nat) (s : Shared) (k : Nat) (X : List Nat) (cnt : Int), k + d = x.cps.size → s.heap.get? P = some (patObj px pt fl ft C) → s.heap.get? C = some (codeObj c) →
    Laid s.heap L X (2 * k) → X.length ≤ 3 * k →
    (∀ h' tk t', Chg L s.heap h' → R (.ok (.ret (.str ⟨(X ++ out x.cps.toList k).toArray⟩ t'))) { s with heap := h', toks := tk }) →
    codeAny (model PP w) A (.builtin "re.Pattern.sub.loop" ⟨[.ref P, .str x t, .str repl tr, rawInt 0, rawInt 0, rawInt cnt, rawInt k, rawInt k, .bool false, .ref L, .bool false], []⟩) R s := by
  intro d
  induction d using Nat.strongRecOn with
  | ind d ih => ?_
  intro s k X cnt hk hP hC hX hXl h
  obtain ⟨l, ep, hL, hl, hn⟩ := hX.ex
  refine codeAny_builtin entry_sub_loop ?_
  rw [Around.under_plainId plain_sub_loop _]
  unfold Builtin.«re.Pattern.sub.loop»
  have tg := whole_target (M := model PP w) (x := x) (t := t) hP hC
  refine wpAny_bind (tg.here ?_)
  iterate 14 lk
  unfold reNextFound
  dsimp only
  refine hf x.cps k false _ _ _ _ _ (by exact Mine.q_277 hk) (by exact Nat.le_trans hz (by decide)) ?_
  cases q : find x.cps.toList k with
  | none =>
    dsimp only
    have eo := ho1 k (by exact Mine.q_277 hk) q
    by_cases hlt : k < x.cps.size
    · rw [if_pos (show ((k : Nat) : Int).toNat < _ from hlt)]
      refine wpAny_bind (slice0 hz ?_)
      refine wpAny_bind (push_L hL (by exact Mine.q_278 hn hz hk) fun h' c' e' => ?_)
      have el : ((l ++ [((⟨x.cps.extract k x.cps.size⟩ : Str), s.toks)]).map (·.1.cps.toList)).flatten = X ++ out x.cps.toList k := by
        rw [List.map_append, List.flatten_append, hl, eo]
        simp only [List.map_cons, List.map_nil, List.flatten_cons, List.flatten_nil, List.append_nil]
        rw [extract_list _ _ _ (by exact Mine.q_277 hk), List.take_of_length_le (by rw [List.length_drop, Array.length_toList]; exact Mine.q_279)]
      refine tail_L e' el ?_ hz (fun v => rfl) fun t' k' => ?_
      · rw [eo, List.length_append, List.length_drop, Array.length_toList (xs := x.cps)]; exact Mine.q_280 hXl hz hk
      · exact h h' _ t' c'
    · rw [if_neg (show ¬ ((k : Nat) : Int).toNat < _ from hlt)]
      have el : (l.map (·.1.cps.toList)).flatten = X ++ out x.cps.toList k := by
        rw [hl, eo, List.drop_eq_nil_iff.2 (by rw [Array.length_toList]; exact Mine.q_70 hlt), List.append_nil]
      refine tail_L hL el ?_ hz (fun v => rfl) fun t' k' => ?_
      · rw [eo, List.length_append, List.length_drop, Array.length_toList (xs := x.cps)]; exact Mine.q_280 hXl hz hk
      · exact h s.heap _ t' (fun b o n e => e)
  | some p =>
    dsimp only
    intro m h1 h2
    obtain ⟨w1, w2⟩ := hw k p q
    have eo := ho2 k p (by exact Mine.q_277 hk) q
    have hm : (m.handed == m.start) = false := by
      rw [h1, h2]
      have : ¬ (k + p.1 + p.2 = k + p.1) := by exact Mine.q_281 w1
      simpa using this
    have next : ∀ (s' : Shared) (l' : List (Str × Tok)) (ep' : Nat), s'.heap.get? L = some (listOf (strValues l').toArray ep') → (l'.map (·.1.cps.toList)).flatten = X ++ (x.cps.toList.drop k).take p.1 → l'.length ≤ 2 * k + 1 → Chg L s.heap s'.heap → s'.gens = s.gens → s'.drawn = s.drawn → s'.os = s.os →
        wpAny (model PP w) A.in1 (updateSeq L (fun q => q.push (.str repl tr))) (fun _ s2 => wpAny (model PP w) A.in1 (again (Code.builtin "re.Pattern.sub.loop" ⟨[.ref P, .str x t, .str repl tr, rawInt 0, rawInt 0, rawInt (cnt + 1), rawInt m.handed, rawInt m.handed, .bool (m.handed == m.start), .ref L, .bool false], []⟩))
          (fun fin s' => match fin with | .done f => R (.ok f) s' | .again c' => c'.quiet = true ∧ codeAny (model PP w) A c' R s') (fun e s' => R (.error e) s') s2) (fun e s' => R (.error e) s') s' := by
      intro s' l' ep' hL' hl' hn' c1 g1 g2 g3
      refine (push_L hL' (by exact Mine.q_282 hn' hz hk) fun h' c2 e' => ?_)
      refine wpAny_pure ⟨plainId_quiet plain_sub_loop _, ?_⟩
      rw [hm]
      have c3 : Chg L s.heap h' := c1.trans c2
      have hxl : (X ++ (x.cps.toList.drop k).take p.1).length ≤ 3 * k + p.1 := by
        rw [List.length_append, List.length_take]; exact Mine.q_283 hXl
      refine ih (x.cps.size - m.handed) (by exact Mine.q_284 hk w1 w2 h2) { s' with heap := h' } m.handed (X ++ (x.cps.toList.drop k).take p.1 ++ repl.cps.toList) (cnt + 1) (by exact Mine.q_285 w2 h2) (c3 _ _ (Ne.symm hLP) hP) (c3 _ _ (Ne.symm hLC) hC) ⟨_, _, e', ?_, ?_⟩ ?_ fun h'' tk t' c4 => ?_
      · rw [List.map_append, List.flatten_append, hl']; simp
      · rw [List.length_append, List.length_singleton]; exact Mine.q_286 w1 hn' h2
      · rw [List.length_append, Array.length_toList (xs := repl.cps), hr]; exact Mine.q_287 w1 hxl h2
      · have := h h'' tk t' (c3.trans c4)
        rw [eo] at this
        rw [h2]
        simp only [List.append_assoc] at this ⊢
        obtain ⟨a1, a2, a3, a4, a5⟩ := s'
        dsimp only at g1 g2 g3
        subst g1 g2 g3
        exact this
    by_cases hlt : k < m.start
    · rw [if_pos (show ((k : Nat) : Int).toNat < _ from hlt)]
      refine wpAny_bind (slice0 hz ?_)
      refine wpAny_bind (push_L hL (by exact Mine.q_278 hn hz hk) fun h' c' e' => ?_)
      iterate 5 lk
      refine wpAny_bind (next { s with heap := h', toks := s.toks + 1 } _ _ e' ?_ ?_ c' rfl rfl rfl)
      · rw [List.map_append, List.flatten_append, hl]
        simp only [List.map_cons, List.map_nil, List.flatten_cons, List.flatten_nil, List.append_nil]
        show X ++ (x.cps.extract k m.start).toList = _
        rw [extract_list _ _ _ (by exact Mine.q_288 h1), h1, Nat.add_sub_cancel_left]
      · rw [List.length_append, List.length_singleton]; exact Mine.q_289 hn
    · rw [if_neg (show ¬ ((k : Nat) : Int).toNat < _ from hlt)]
      iterate 5 lk
      refine wpAny_bind (next s _ _ hL ?_ (by exact Mine.q_290 hn) (fun b o n e => e) rfl rfl rfl)
      have : p.1 = 0 := by exact Mine.q_291 h1 hlt
      rw [hl, this, List.take_zero, List.append_nil]
end Mine
end

section
open PySem PySem.W PySem.Calls PySem.Spec PyProof.Rows PySem.Builtin.Re
set_option Elab.async false
set_option maxRecDepth 100000
set_option maxHeartbeats 4000000
set_option linter.unusedVariables false
namespace Mine
def dotsF : Bool → List Nat → List Nat
  | _, [] => []
  | b, c :: t => (if b && c == 46 then [46, 46] else [c]) ++ dotsF (c == 10) t
def newlF : Bool → List Nat → List Nat
  | _, [] => []
  | b, c :: t => (if c == 10 then (if b then [] else [13, 10]) else if c == 13 then [13, 10] else [c]) ++ newlF (c == 13) t
theorem dotsF_cons (b : Bool) (c : Nat) (t : List Nat) : dotsF b (c :: t) = (if b && c == 46 then [46, 46] else [c]) ++ dotsF (c == 10) t := rfl
theorem newlF_cons (b : Bool) (c : Nat) (t : List Nat) : newlF b (c :: t) = (if c == 10 then (if b then [] else [13, 10]) else if c == 13 then [13, 10] else [c]) ++ newlF (c == 13) t := rfl
theorem dotsF_none : ∀ {b : Bool} {l : List Nat}, findD b l = none → dotsF b l = l
  | b, [], _ => rfl
  | b, c :: t, h => by
    unfold findD at h
    split at h
    · cases h
    · rename_i q
      rw [dotsF_cons, if_neg q, dotsF_none (Option.map_eq_none_iff.mp h)]
      rfl
theorem dotsF_some : ∀ {b : Bool} {l : List Nat} {i : Nat}, findD b l = some i → i < l.length ∧ l.getD i 0 = 46 ∧ dotsF b l = l.take i ++ [46, 46] ++ dotsF false (l.drop (i + 1))
  | b, [], i, h => by cases h
  | b, c :: t, i, h => by
    unfold findD at h
    split at h
    · rename_i q
      cases h
      have q2 := q
      rw [Bool.and_eq_true, beq_iff_eq] at q2
      refine ⟨by simp, q2.2, ?_⟩
      rw [dotsF_cons, if_pos q, q2.2]
      rfl
    · rename_i q
      obtain ⟨j, e, rfl⟩ := Option.map_eq_some_iff.mp h
      obtain ⟨a, b1, b2⟩ := dotsF_some e
      refine ⟨by simpa using a, by simpa using b1, ?_⟩
      rw [dotsF_cons, if_neg q, b2]
      rfl
theorem newlF_none : ∀ {l : List Nat}, findN l = none → newlF false l = l
  | [], _ => rfl
  | c :: t, h => by
    rw [findN_cons] at h
    split at h
    · cases h
    · rename_i q
      have q' : (c == 10 || c == 13) = false := by simpa using q
      rw [Bool.or_eq_false_iff] at q'
      rw [newlF_cons, q'.1, q'.2, if_neg (by decide), if_neg (by decide), newlF_none (Option.map_eq_none_iff.mp h)]
      rfl
theorem newlF_true {l : List Nat} (h : (l.headD 0 == 10) = false) : newlF true l = newlF false l := by
  cases l with
  | nil => rfl
  | cons c t =>
    have h' : (c == 10) = false := h
    rw [newlF_cons, newlF_cons, h']
    rfl
theorem newlF_some : ∀ {l : List Nat} {p : Nat × Nat}, findN l = some p → 0 < p.2 ∧ p.1 + p.2 ≤ l.length ∧ newlF false l = l.take p.1 ++ [13, 10] ++ newlF false (l.drop (p.1 + p.2))
  | [], p, h => by cases h
  | c :: t, p, h => by
    rw [findN_cons] at h
    split at h
    · rename_i q
      cases h
      by_cases c10 : c = 10
      · subst c10
        exact ⟨Nat.succ_pos 0, by simp, rfl⟩
      · have e10 : (c == 10) = false := by simpa using c10
        rw [e10, Bool.false_or] at q
        have c13 : c = 13 := by simpa using q
        subst c13
        rw [newlF_cons]
        cases w : (t.headD 0 == 10) with
        | false =>
          refine ⟨by decide, by simp, ?_⟩
          show [13, 10] ++ newlF true t = [13, 10] ++ newlF false t
          rw [newlF_true w]
        | true =>
          cases t with
          | nil => cases w
          | cons d t =>
            have hd' : (d == 10) = true := w
            have hd2 : d = 10 := by simpa using hd'
            subst hd2
            exact ⟨by decide, by simp, rfl⟩
    · rename_i q
      obtain ⟨p', e, rfl⟩ := Option.map_eq_some_iff.mp h
      obtain ⟨a, b1, b2⟩ := newlF_some e
      have q' : (c == 10 || c == 13) = false := by simpa using q
      rw [Bool.or_eq_false_iff] at q'
      refine ⟨a, by simp only [List.length_cons]; exact Mine.q_329 b1, ?_⟩
      rw [newlF_cons, q'.1, q'.2, if_neg (by decide), if_neg (by decide), b2]
      dsimp only
      rw [show p'.1 + 1 + p'.2 = (p'.1 + p'.2) + 1 by exact Mine.q_330]
      rfl
def outD (text : List Nat) (k : Nat) : List Nat := dotsF (k == 0 || text.getD (k - 1) 0 == 10) (text.drop k)
def outN (text : List Nat) (k : Nat) : List Nat := newlF false (text.drop k)
end Mine
end

section
open PySem PySem.W PySem.Calls PySem.Spec PyProof.Rows PySem.Builtin.Re
set_option Elab.async false
set_option maxRecDepth 100000
set_option maxHeartbeats 4000000
set_option linter.unusedVariables false
namespace Mine
theorem sub_get {M : Model} {A : Around} {E : Value → Shared → Prop} {s : Shared} {Q : Bool → Shared → Prop} {P : Addr} {o : Obj} (hP : s.heap.get? P = some o) (hc : o.cls = .type "re.Pattern") (h : Q true s) : wpAny M A (isInstance (.ref P) (.type "re.Pattern")) Q E s := by
  have hT : Looks M s.heap (typeOf (.ref P)) (.type "re.Pattern") := by
    have := (Looks.ld (M := M) (part := none) hP).andThen (f := fun o => pure o.cls) .now
    rw [hc] at this
    exact this
  have hS : isSubtype (.type "re.Pattern") (.type "re.Pattern") = pure true := by rw [isSubtype_type]; kernel_rfl
  simp only [isInstance]
  exact wpAny_bind (hT.here (wpAny_of_eq hS h))
theorem named_sub (a b : Value) : reNamed "re.Pattern.sub" "sub" ["repl", "string", "count"] 2 [a, b] [] = pure [some a, some b, none] := by kernel_rfl
theorem call_str : typeLookup (.type "str") "__call__" = pure none := by rw [typeLookup_type, builtinLookup_eq_fast]; kernel_rfl
theorem split_sub : splitId "re.Pattern.sub" = some ("re.Pattern", "sub") := by decide +kernel
theorem kind_sub : builtinKind "re.Pattern.sub" = some .method := by decide +kernel
theorem args_sub (a b c : Value) : argsOk "re.Pattern.sub" ⟨[a, b, c], []⟩ := by unfold argsOk; kernel_rfl
theorem sub_c {w : World} {A : Around} {Q : Value → Shared → Prop} {E : Value → Shared → Prop} {find : List Nat → Nat → Option (Nat × Nat)} {out : List Nat → Nat → List Nat} {repl : Str} {tr : Tok} {P C : Addr} {px : Str} {pt : Tok} {fl : Int} {ft : Tok} {c : Array Nat} {x : Str} {t : Tok} {s : Shared}
    (hf : Finds c find) (hw : ∀ k p, find x.cps.toList k = some p → 0 < p.2 ∧ k + p.1 + p.2 ≤ x.cps.size)
    (ho1 : ∀ k, k ≤ x.cps.size → find x.cps.toList k = none → out x.cps.toList k = x.cps.toList.drop k)
    (ho2 : ∀ k p, k ≤ x.cps.size → find x.cps.toList k = some p → out x.cps.toList k = (x.cps.toList.drop k).take p.1 ++ repl.cps.toList ++ out x.cps.toList (k + p.1 + p.2))
    (hr : repl.cps.size = 2) (hb : repl.cps.contains 92 = false) (hz : x.cps.size ≤ 10000)
    (hP : s.heap.get? P = some (patObj px pt fl ft C)) (hC : s.heap.get? C = some (codeObj c))
    (h : ∀ h' tk t', Sub s.heap h' → Q (.str ⟨(out x.cps.toList 0).toArray⟩ t') { s with heap := h', toks := tk }) :
    wpAny (model PP w) A (call (.builtin "re.Pattern.sub") [.ref P, .str repl tr, .str x t]) Q E s := by
  have hI : Looks (model PP w) s.heap (isInstance (.ref P) (.type "re.Pattern")) true := fun A Q E s k q => sub_get (k _ _ hP) rfl q
  refine wpAny_call (codeAny_call_builtin plain_sub entry_sub (check_own split_sub (.inr kind_sub) hI (args_sub _ _ _) ?_))
  unfold Builtin.«re.Pattern.sub» reSubstitute
  dsimp only
  rw [named_sub]
  refine wpAny_bind (wpAny_pure ?_)
  dsimp only
  refine wpAny_bind (wpAny_pure ?_)
  refine wpAny_bind (wpAny_specialOf (typeIs_str _ _ _) call_str ?_)
  iterate 6 lk
  rw [hb]
  iterate 8 lk
  refine wpAny_bind (wpAny_holding ((whole_target hP hC).here ?_))
  rw [if_neg (by decide)]
  refine wpAny_bind (wpAny_newObj_type ?_)
  have hL := Heap.get?_push_size (h := s.heap) (o := { cls := .type "list", data := .seq ([] : List Value).toArray }) rfl
  have hPL : s.heap.objs.size ≠ P := fun e => Nat.lt_irrefl _ (e ▸ Heap.lt_size hP)
  have hCL : s.heap.objs.size ≠ C := fun e => Nat.lt_irrefl _ (e ▸ Heap.lt_size hC)
  refine wpAny_pure ⟨plainId_quiet plain_sub_loop _, ?_⟩
  refine sub_loop hf hw ho1 ho2 hr hz s.heap.objs.size hPL hCL x.cps.size _ 0 [] 0 (by exact Mine.q_292) (Heap.get?_push_of_some _ hP) (Heap.get?_push_of_some _ hC) ⟨[], 0, hL, rfl, Nat.le_refl _⟩ (Nat.le_refl _) fun h' tk t' c' => ?_
  exact h h' tk t' fun b o e => c' b o (fun q => Nat.lt_irrefl _ (q ▸ Heap.lt_size e)) (Heap.get?_push_of_some _ e)
end Mine
end

section
open PySem PySem.W PySem.Calls PySem.Spec PyProof.Rows
set_option Elab.async false
set_option maxRecDepth 100000
set_option maxHeartbeats 8000000
set_option linter.unusedVariables false
namespace Mine
theorem fill8 : PySem.Challenge.rw_sn0012_01 = PySem.Challenge.rw_sn0012_01 ∧ hd.heap_39 = hd.heap_39 := by
  k_fill
  exact ⟨rfl, rfl⟩
theorem pattern_attrs : PlainAttrs "re.Pattern" := ⟨⟨"object.__getattribute__", by rw [typeLookup_type, builtinLookup_eq_fast]; kernel_rfl, by decide +kernel⟩, by rw [typeLookup_type, builtinLookup_eq_fast]; kernel_rfl⟩
theorem slot_sub : Slot "re.Pattern" "sub" "re.Pattern.sub" := Slot.of (owner := "re.Pattern") (n := "sub") (by rw [typeLookup_type, builtinLookup_eq_fast]; kernel_rfl) split_sub (by decide +kernel) (by decide +kernel) (.inr (by decide +kernel)) (by rw [isSubtype_type]; kernel_rfl)
theorem pat_method {M : Model} {A : Around} {E : Value → Shared → Prop} {s : Shared} {Q : Value × List Value → Shared → Prop} {P C : Addr} {px : Str} {pt : Tok} {fl : Int} {ft : Tok} {pl : Sem Bool} (hP : s.heap.get? P = some (patObj px pt fl ft C)) (h : Q (.builtin "re.Pattern.sub", [.ref P]) s) : wpAny M A (getMethod (.ref P) "sub" pl) Q E s :=
  getMethod_builtin ⟨_, hP, rfl⟩ pattern_attrs slot_sub (by show builtinType _ = _; rw [builtinType_eq_fast]; kernel_rfl) (fun a e => by cases e; exact ⟨_, hP, rfl⟩) h
section
variable {w : World} {A : Around} {E : Value → Shared → Prop} {s : Shared} {h₀ : Heap} {L : Addr} {m : Str → Option Value} {news : List (Addr × Obj)} {Q : Value → Shared → Prop} {px : Str} {pt : Tok} {fl : Int} {ft : Tok} {x : Str} {t tr : Tok}
theorem fN_fits (l : List Nat) (k : Nat) (p : Nat × Nat) (h : fNl l k = some p) : 0 < p.2 ∧ k + p.1 + p.2 ≤ l.length := by
  obtain ⟨a, b, _⟩ := newlF_some h
  rw [List.length_drop] at b
  exact Mine.q_108 b a
theorem fD_fits (l : List Nat) (k : Nat) (p : Nat × Nat) (h : fD l k = some p) : 0 < p.2 ∧ k + p.1 + p.2 ≤ l.length := by
  obtain ⟨i, e, rfl⟩ := Option.map_eq_some_iff.mp h
  obtain ⟨a, _⟩ := dotsF_some e
  rw [List.length_drop] at a
  dsimp only
  exact Mine.q_109 a
theorem newl_K (F : Fr h₀ L s.heap m) (N : News h₀ L s.heap news) (hP : s.heap.get? 48 = some (patObj px pt fl ft 47)) (hC : s.heap.get? 47 = some (codeObj cN)) (hz : x.cps.size ≤ 10000)
    (h : ∀ h' tk t', Fr h₀ L h' m → News h₀ L h' news → Q (.str ⟨(newlF false x.cps.toList).toArray⟩ t') { s with heap := h', toks := tk }) : wpAny (model PP w) A (call (.builtin "re.Pattern.sub") [.ref 48, .str (Str.ofString "\r\n") tr, .str x t]) Q E s := by
  refine sub_c (find := fNl) (out := outN) finds_N (fun k p e => by rw [← Array.length_toList]; exact fN_fits _ _ _ e) (fun k hk e => newlF_none e) (fun k p hk e => ?_) (by decide +kernel) (by decide +kernel) hz hP hC fun h' tk t' k' => h h' tk t' (fr_sub F k') (news_sub N k')
  have := (newlF_some e).2.2
  unfold outN
  rw [this, List.drop_drop, show k + (p.1 + p.2) = k + p.1 + p.2 by exact Mine.q_110]
  congr 2
theorem dots_K (F : Fr h₀ L s.heap m) (N : News h₀ L s.heap news) (hP : s.heap.get? 43 = some (patObj px pt fl ft 42)) (hC : s.heap.get? 42 = some (codeObj cD)) (hz : x.cps.size ≤ 10000)
    (h : ∀ h' tk t', Fr h₀ L h' m → News h₀ L h' news → Q (.str ⟨(dotsF true x.cps.toList).toArray⟩ t') { s with heap := h', toks := tk }) : wpAny (model PP w) A (call (.builtin "re.Pattern.sub") [.ref 43, .str (Str.ofString "..") tr, .str x t]) Q E s := by
  refine sub_c (find := fD) (out := outD) finds_D (fun k p e => by rw [← Array.length_toList]; exact fD_fits _ _ _ e) (fun k hk e => dotsF_none (Option.map_eq_none_iff.mp e)) (fun k p hk e => ?_) (by decide +kernel) (by decide +kernel) hz hP hC fun h' tk t' k' => h h' tk t' (fr_sub F k') (news_sub N k')
  obtain ⟨i, e', rfl⟩ := Option.map_eq_some_iff.mp e
  obtain ⟨a, b, c⟩ := dotsF_some e'
  unfold outD
  dsimp only
  rw [c, List.drop_drop, show k + (i + 1) = k + i + 1 by exact Mine.q_111]
  have f1 : (k + i + 1 == 0) = false := by simp
  have f2 : x.cps.toList.getD (k + i) 0 = 46 := by
    rw [List.getD_eq_getElem?_getD, List.getElem?_drop] at b
    rw [List.getD_eq_getElem?_getD]; exact b
  rw [Nat.add_sub_cancel, f1, f2]
  congr 2
end
theorem newlF_len : ∀ (b : Bool) (l : List Nat), (newlF b l).length ≤ 2 * l.length
  | _, [] => Nat.le_refl _
  | b, c :: t => by
    rw [newlF_cons, List.length_append, List.length_cons]
    have := newlF_len (c == 13) t
    have : (if (c == 10) = true then (if b = true then ([] : List Nat) else [13, 10]) else if (c == 13) = true then [13, 10] else [c]).length ≤ 2 := by
      split
      · split <;> decide
      · split
        · decide
        · simp
    exact Mine.q_112 this ‹_›
local macro_rules | `(tactic| walk_at "call builtin:re.Pattern.sub cons nil") => `(tactic| refine haltN 1 ?_)
local macro_rules | `(tactic| walk_at "getMethod ref") => `(tactic| refine haltN 2 ?_)
theorem code_D : codeObj cD = { cls := .type "tuple", data := .seq #[.int 14 0, .int 4 0, .int 0 0, .int 1 0, .int 1 0, .int 6 0, .int 1 0, .int 16 0, .int 46 0, .int 1 0] } := by simp [codeObj, cD]
theorem code_N : codeObj cN = { cls := .type "tuple", data := .seq #[.int 14 0, .int 9 0, .int 4 0, .int 1 0, .int 2 0, .int 16 0, .int 10 0, .int 16 0, .int 13 0, .int 0 0, .int 7 0, .int 7 0, .int 16 0, .int 13 0, .int 16 0, .int 10 0, .int 15 0, .int 18 0, .int 5 0, .int 16 0, .int 10 0, .int 15 0, .int 13 0, .int 11 0, .int 16 0, .int 13 0, .int 5 0, .int 5 0, .int 0 0, .int 16 0, .int 10 0, .int 1 0, .int 15 0, .int 2 0, .int 0 0, .int 1 0] } := by simp [codeObj, cN]
theorem quote_c {w : World} {A : Around} {s : Shared} {h₀ : Heap} {R : Result → Shared → Prop} {mean : ExcName → Option Value} {mg mb : Str → Option Value} {x : Str} {t : Tok}
   (G : Gd w mean mg mb h₀) (k : Sub h₀ s.heap) (hz : x.cps.size ≤ 3000)
   (hdp : A.depth + 20 < recursionLimit) (hun : A.units + 200 < cLine) (hh : A.handled = none)
   (h : ∀ h' tk t', Sub s.heap h' → R (.ok (.ret (.str ⟨(dotsF true (newlF false x.cps.toList)).toArray⟩ t'))) { s with heap := h', toks := tk }) :
   codeAny (model PP w) A (.call (.ref 55) ⟨[.str x t], []⟩) R s := by
  obtain ⟨hd0, dp, fr, gd, un⟩ := A
  dsimp only at hdp hun hh
  subst hh
  refine' enterP [] [("data", .str x t)] G k ?k5 (f := 55) (cl := []) ?k6 ?k7 ?k8 ?k9 ?kB ?c5 ?c2 ?c3 ?c4 ?_; (case k5 => intro a ha; cases ha); (case k6 => k_is); (case k7 => k_is); (case k8 => (show dp < _; exact Mine.o_d0 hdp)); (case k9 => exact BindsTo.of_eq rfl); (case kB => exact locs rfl); (case c5 => decide); (case c2 => exact rfl); (case c3 => exact rfl); (case c4 => exact rfl)
  intro h₁ g F k1 eg G1 X T N0
  have p43 : g.get? 43 = some (patObj (Str.ofString "(?m)^\\.") 292 40 305 42) := X _ _ (by k_is)
  have p42 : g.get? 42 = some (codeObj cD) := code_D.symm ▸ X 42 _ (by k_is)
  have p48 : g.get? 48 = some (patObj (Str.ofString "(?:\\r\\n|\\n|\\r(?!\\n))") 308 32 347 47) := X _ _ (by k_is)
  have p47 : g.get? 47 = some (codeObj cN) := code_N.symm ▸ X 47 _ (by k_is)
  have hz3 : (newlF false x.cps.toList).length ≤ 10000 := by
    have := newlF_len false x.cps.toList
    rw [Array.length_toList (xs := x.cps)] at this
    exact Mine.q_113 this hz
  have hz2 : (⟨(newlF false x.cps.toList).toArray⟩ : Str).cps.size ≤ 10000 := by
    have := newlF_len false x.cps.toList
    rw [Array.length_toList (xs := x.cps)] at this
    show (newlF false x.cps.toList).toArray.size ≤ 10000
    rw [List.size_toArray]; omega
  k_steps
  repeat (any_goals (first
    | ((with_reducible refine goN 1 ?_); k_dflt (first | ((with_reducible show wpAny _ _ (call _ [Value.ref 48, _, _]) _ _ _); refine' newl_K ?q9F ?q9N ?q9hp ?q9hc ?q9hz ?_; (case q9F => k_asm); (case q9N => k_asm); (case q9hp => exact Fr.keep (by k_asm) _ _ (by assumption)); (case q9hc => exact Fr.keep (by k_asm) _ _ (by assumption)); (case q9hz => exact Nat.le_trans hz (by decide)); k_whole; intro _ _ _ _ _) | ((with_reducible show wpAny _ _ (call _ [Value.ref 43, _, _]) _ _ _); refine' dots_K ?q9F ?q9N ?q9hp ?q9hc ?q9hz ?_; (case q9F => k_asm); (case q9N => k_asm); (case q9hp => exact Fr.keep (by k_asm) _ _ (by assumption)); (case q9hc => exact Fr.keep (by k_asm) _ _ (by assumption)); (case q9hz => first | assumption | omega | (show Array.size _ ≤ _; simp only [List.size_toArray]; omega)); k_whole; intro _ _ _ _ _)); k_steps)
    | ((with_reducible refine goN 2 ?_); k_dflt (refine' pat_method ?q9hp ?_; (case q9hp => exact Fr.keep (by k_asm) _ _ (by assumption)); k_whole); k_steps)))
  rename Fr _ _ _ _ => F'
  exact h _ _ _ fun b o e => F'.keep b o (by rw [eg]; exact hideAll_get _ e (by intro q; cases q))
end Mine
end

section
open PySem PySem.StrLaws PySem.Builtin PySem.Builtin.Str
set_option Elab.async false
set_option maxRecDepth 100000
set_option linter.unusedVariables false
namespace Mine
theorem crlf_l : (Str.ofString "\r\n").cps.toList = [13, 10] := by decide +kernel
theorem crlf_n : (Str.ofString "\r\n").length = 2 := by decide +kernel
theorem at_iff {x : Str} {k : Nat} : At x (Str.ofString "\r\n") x.length k ↔ (x.cps.toList.drop k).take 2 = [13, 10] := by
  unfold At
  rw [subAt_eq, crlf_l, crlf_n]
  constructor
  · exact fun h => eq_of_beq h.2
  · intro h
    refine ⟨?_, by rw [h]; rfl⟩
    have := congrArg List.length h
    simp only [List.length_take, List.length_drop, List.length_cons, List.length_nil, Array.length_toList] at this
    show k + 2 ≤ x.cps.size
    exact Mine.q_221 this
theorem at_head {l : List Nat} {k : Nat} (h : (l.drop k).take 2 = [13, 10]) : l[k]? = some 13 := by
  have := congrArg (fun x => x[0]?) h
  simpa [List.getElem?_take, List.getElem?_drop] using this
theorem in_drop {l : List Nat} {a : Nat} {r t : List Nat} (h : l.drop a = r ++ t) {k : Nat} (h1 : a ≤ k) (h2 : k < a + r.length) (q : 13 ∉ r) : l[k]? ≠ some 13 := by
  intro e
  have e1 : l[k]? = (l.drop a)[k - a]? := by rw [List.getElem?_drop]; congr 1; exact Mine.q_222 h1
  rw [e1, h, List.getElem?_append_left (by exact Mine.q_223 h2 h1)] at e
  exact q (List.mem_of_getElem? e)
theorem inter_cons (s r r2 : List Nat) (t : List (List Nat)) : List.intercalate s (r :: r2 :: t) = r ++ (s ++ List.intercalate s (r2 :: t)) := by
  simp [List.intercalate, List.intersperse]
theorem inter_one (s r : List Nat) : List.intercalate s [r] = r := by
  simp [List.intercalate, List.intersperse]
theorem parts_rows (x : Str) : ∀ (rows : List (List Nat)) (a f : Nat) (cuts : List Nat), (∀ r ∈ rows, 13 ∉ r) → rows ≠ [] → x.cps.toList.drop a = List.intercalate [13, 10] rows → a ≤ x.length →
    ChainG x (Str.ofString "\r\n") x.length a cuts f → (∀ k, f ≤ k → ¬ At x (Str.ofString "\r\n") x.length k) → (partsFrom x 2 a cuts).map (·.cps.toList) = rows
  | [], _, _, _, _, h, _, _, _, _ => absurd rfl h
  | [r], a, f, cuts, hc, _, hd', ha, hG, hf => by
    rw [inter_one] at hd'
    have hn : ∀ k, a ≤ k → ¬ At x (Str.ofString "\r\n") x.length k := by
      intro k hk hA
      have e := at_head (at_iff.mp hA)
      have hkl : k < x.cps.toList.length := (List.getElem?_eq_some_iff.mp e).1
      have hlen := congrArg List.length hd'
      rw [List.length_drop] at hlen
      exact in_drop (t := []) (by rw [List.append_nil]; exact hd') hk (by exact Mine.q_224 hlen hkl) (hc r (.head _)) e
    match cuts, hG with
    | [], _ =>
      show [(strSub x a x.length).cps.toList] = _
      rw [strSub_toList, hd', List.take_of_length_le]
      have hlen := congrArg List.length hd'
      rw [List.length_drop, Array.length_toList] at hlen
      show r.length ≤ x.cps.size - a
      exact Mine.q_225 hlen
    | c :: cs, hG => exact absurd hG.2.1 (hn c hG.1)
  | r :: r2 :: t, a, f, cuts, hc, _, hd', ha, hG, hf => by
    rw [inter_cons] at hd'
    have hlt : ∀ k, a ≤ k → k < a + r.length → ¬ At x (Str.ofString "\r\n") x.length k := by
      intro k hk hk2 hA
      exact in_drop hd' hk hk2 (hc r (.head _)) (at_head (at_iff.mp hA))
    have hdr : x.cps.toList.drop (a + r.length) = [13, 10] ++ List.intercalate [13, 10] (r2 :: t) := by
      rw [← List.drop_drop, hd', List.drop_left]
    have hA : At x (Str.ofString "\r\n") x.length (a + r.length) := by
      rw [at_iff, hdr]; rfl
    match cuts, hG with
    | [], hG =>
      have : f = a := hG
      exact absurd hA (hf _ (by exact Mine.q_226 this))
    | c :: cs, hG =>
      obtain ⟨g1, g2, g3, g4⟩ := hG
      have hcl : c = a + r.length := by
        rcases Nat.lt_trichotomy c (a + r.length) with q | q | q
        · exact absurd g2 (hlt c g1 q)
        · exact q
        · exact absurd hA (g3 _ (by exact Mine.q_227) q)
      subst hcl
      rw [crlf_n] at g4
      show (strSub x a (a + r.length)).cps.toList :: (partsFrom x 2 (a + r.length + 2) cs).map (·.cps.toList) = _
      rw [strSub_toList, hd', Nat.add_sub_cancel_left, List.take_left]
      congr 1
      refine parts_rows x (r2 :: t) (a + r.length + 2) f cs (fun q hq => hc q (.tail _ hq)) (by simp) ?_ ?_ g4 hf
      · rw [← List.drop_drop, hdr]; rfl
      · have := hA.1; rw [crlf_n] at this; exact this
theorem split_rows (x : Str) (rows : List (List Nat)) (hc : ∀ r ∈ rows, 13 ∉ r) (h2 : 2 ≤ rows.length) (he : x.cps.toList = List.intercalate [13, 10] rows) (hk : strKind (Str.ofString "\r\n") ≤ strKind x) : (Txt.split x (Str.ofString "\r\n")).map (·.cps.toList) = rows := by
  obtain ⟨f, hG, hn⟩ := occ_tight x (Str.ofString "\r\n") (by rw [crlf_n]; decide)
  have key := parts_rows x rows 0 f _ hc (by rintro rfl; simp at h2) (by rw [List.drop_zero]; exact he) (Nat.zero_le _) hG hn
  obtain ⟨r, r2, t, rfl⟩ : ∃ r r2 t, rows = r :: r2 :: t := by
    match rows, h2 with
    | r :: r2 :: t, _ => exact ⟨r, r2, t, rfl⟩
  have hl : 2 ≤ x.length := by
    have := congrArg List.length he
    rw [inter_cons, List.length_append, List.length_append, Array.length_toList] at this
    show 2 ≤ x.cps.size
    rw [this]
    show 2 ≤ r.length + (2 + _)
    exact Mine.q_228
  unfold Txt.split
  rw [if_neg (by rw [crlf_n]; simp only [Bool.or_eq_true, decide_eq_true_eq]; exact Mine.q_229 hl hk)]
  split
  · rename_i q
    rw [List.isEmpty_iff.mp q] at key
    have h1 := congrArg List.length key
    simp [partsFrom] at h1
  · rw [partsBetween_eq, crlf_n]
    exact key

/-! ## what the receiver's rows are -/
def Clean (l : List Nat) : Prop := ∀ c ∈ l, c ≠ 10 ∧ c ≠ 13
theorem newlF_clean : ∀ {r : List Nat} (t : List Nat), Clean r → newlF false (r ++ t) = r ++ newlF false t
  | [], _, _ => rfl
  | c :: r, t, h => by
    have hc := h c (.head _)
    have e1 : (c == 10) = false := by simpa using hc.1
    have e2 : (c == 13) = false := by simpa using hc.2
    rw [List.cons_append, newlF_cons, e1, e2, newlF_clean t fun d hd' => h d (.tail _ hd')]
    rfl
def stuffL (l : List Nat) : List Nat := if l.headD 0 = 46 then 46 :: l else l
theorem dotsF_clean : ∀ {r : List Nat} (t : List Nat), Clean r → dotsF false (r ++ t) = r ++ dotsF false t
  | [], _, _ => rfl
  | c :: r, t, h => by
    have hc := h c (.head _)
    have e1 : (c == 10) = false := by simpa using hc.1
    rw [List.cons_append, dotsF_cons, e1, dotsF_clean t fun d hd' => h d (.tail _ hd')]
    rfl
theorem dotsF_row : ∀ {r : List Nat} (t : List Nat), Clean r → (t.headD 0 ≠ 46 ∨ r ≠ []) → dotsF true (r ++ t) = stuffL r ++ (dotsF (r == []) t)
  | [], _, _, _ => rfl
  | c :: r, t, h, _ => by
    have hc := h c (.head _)
    have e1 : (c == 10) = false := by simpa using hc.1
    rw [List.cons_append, dotsF_cons, e1, dotsF_clean t fun d hd' => h d (.tail _ hd')]
    unfold stuffL
    by_cases q : c = 46
    · subst q; rfl
    · rw [if_neg (by simpa using q), if_neg (by simpa using q)]; rfl
theorem dots_rows : ∀ (rows : List (List Nat)), (∀ r ∈ rows, Clean r) → dotsF true (List.intercalate [13, 10] rows) = List.intercalate [13, 10] (rows.map stuffL)
  | [], _ => rfl
  | [r], h => by
    have := dotsF_row (r := r) [] (h r (.head _)) (.inl (by decide))
    rw [List.append_nil] at this
    rw [List.map_cons, List.map_nil, inter_one, inter_one, this]
    show stuffL r ++ [] = _
    rw [List.append_nil]
  | r :: r2 :: t, h => by
    rw [List.map_cons, List.map_cons, inter_cons, inter_cons, dotsF_row ([13, 10] ++ List.intercalate [13, 10] (r2 :: t)) (h r (.head _)) (.inl (by simp))]
    congr 1
    have e : ∀ b, dotsF b ([13, 10] ++ List.intercalate [13, 10] (r2 :: t)) = [13, 10] ++ dotsF true (List.intercalate [13, 10] (r2 :: t)) := by intro b; cases b <;> rfl
    rw [e, dots_rows (r2 :: t) fun q hq => h q (.tail _ hq), List.map_cons]

def sepL (n : Int) : List Nat := if n.fmod 3 = 0 then [10] else if n.fmod 3 = 1 then [13] else [13, 10]
def mailN (R : Nat → Str) (first : Int) : Nat → List Nat
  | 0 => (R 0).cps.toList
  | i + 1 => mailN R first i ++ sepL (first + (1 + i)) ++ (R (i + 1)).cps.toList
def stuffS (x : Str) : Str := if (Txt.slice x none (some 1) == Str.ofString ".") = true then Str.ofString "." ++ x else x
def offS (c1 c2 : Str × Str) (x : Str) : Int := if (Txt.slice x none (some 1) != Str.ofString ".") = true then 0 else if (Txt.slice x (some (-1)) none == c2.2) = true then 0 else if (Txt.slice x (some (-1)) none == c1.2) = true then 2 else 1
def hearS (c1 c2 : Str × Str) (x : Str) : Str := Txt.slice x (some (offS c1 c2 x)) none
theorem inter_snoc (s r : List Nat) : ∀ (L : List (List Nat)), L ≠ [] → List.intercalate s (L ++ [r]) = List.intercalate s L ++ s ++ r
  | [], h => absurd rfl h
  | [a], _ => by rw [List.cons_append, List.nil_append, inter_cons, inter_one, inter_one, List.append_assoc]
  | a :: b :: t, _ => by
    have := inter_snoc s r (b :: t) (by simp)
    rw [List.cons_append, List.cons_append, inter_cons, inter_cons, ← List.cons_append, this]
    simp only [List.append_assoc]
theorem newlF_tr {t : List Nat} (h : t.headD 0 ≠ 10) : newlF true t = newlF false t := newlF_true (by simpa using h)
theorem fmod_step {x : Int} : (x.fmod 3 = 0 ∧ (x + 1).fmod 3 = 1) ∨ (x.fmod 3 = 1 ∧ (x + 1).fmod 3 = 2) ∨ (x.fmod 3 = 2 ∧ (x + 1).fmod 3 = 0) := by
  rw [Int.fmod_eq_emod_of_nonneg _ (by decide), Int.fmod_eq_emod_of_nonneg _ (by decide)]
  exact Mine.q_230
theorem newlF_mail (R : Nat → Str) (first : Int) (hR : ∀ k, Clean (R k).cps.toList) : ∀ (i : Nat) (t : List Nat), (t.headD 0 = 10 → (first + i).fmod 3 ≠ 1) →
    newlF false (mailN R first i ++ t) = List.intercalate [13, 10] ((List.range (i + 1)).map fun k => (R k).cps.toList) ++ newlF false t
  | 0, t, _ => by
    show newlF false ((R 0).cps.toList ++ t) = List.intercalate [13, 10] [(R 0).cps.toList] ++ _
    rw [inter_one, newlF_clean _ (hR 0)]
  | i + 1, t, ht => by
    have q0 := fmod_step (x := first + i)
    have e1 : first + (i : Int) + 1 = first + (1 + i) := by exact Mine.q_231
    have e2 : first + ((i + 1 : Nat) : Int) = first + (1 + i) := by exact Mine.q_232
    rw [e1] at q0
    rw [e2] at ht
    have step : newlF false (sepL (first + (1 + i)) ++ ((R (i + 1)).cps.toList ++ t)) = [13, 10] ++ ((R (i + 1)).cps.toList ++ newlF false t) := by
      rw [← newlF_clean t (hR (i + 1))]
      unfold sepL
      rcases q0 with ⟨_, q⟩ | ⟨_, q⟩ | ⟨_, q⟩
      · rw [if_neg (by exact Mine.q_233 q), if_pos q]
        show [13, 10] ++ newlF true ((R (i + 1)).cps.toList ++ t) = _
        rw [newlF_tr]
        show ((R (i + 1)).cps.toList ++ t).headD 0 ≠ 10
        cases hr : (R (i + 1)).cps.toList with
        | nil => exact fun e => ht e q
        | cons c r =>
          have := hR (i + 1)
          rw [hr] at this
          exact (this c (.head _)).1
      · rw [if_neg (by exact Mine.q_234 q), if_neg (by exact Mine.q_235 q)]
        rfl
      · rw [if_pos q]
        rfl
    show newlF false (mailN R first i ++ sepL _ ++ _ ++ t) = _
    rw [List.append_assoc, List.append_assoc, newlF_mail R first hR i _ ?_, step, List.range_succ (n := i + 1), List.map_append, List.map_cons, List.map_nil, inter_snoc _ _ _ (by simp)]
    · simp only [List.append_assoc]
    · intro hh
      unfold sepL at hh
      rcases q0 with ⟨q1, q⟩ | ⟨q1, q⟩ | ⟨q1, q⟩
      · rw [q1]; decide
      · rw [if_neg (by exact Mine.q_234 q), if_neg (by exact Mine.q_235 q)] at hh; cases hh
      · rw [q1]; decide

/-! ## the rows that there are -/
def rowS (n k : Nat) : Str := ⟨(List.replicate n 46 ++ [97 + k]).toArray⟩
def mid : List Str := [Str.ofString "-\x0b.", Str.ofString "", Str.ofString "."]
def allRows : List Str := mid ++ ((List.range 9).map fun n => (List.range 6).map fun k => rowS n k).flatten
theorem str_eq {a b : Str} (h : a.cps.toList = b.cps.toList) : a = b := by
  obtain ⟨a⟩ := a; obtain ⟨b⟩ := b
  congr 1
  exact Array.toList_inj.mp h
theorem all_rows : ∀ x ∈ allRows, ((stuffS x).cps.toList == stuffL x.cps.toList && x.cps.toList.all (fun c => c != 10 && c != 13) && decide (x.cps.toList.length ≤ 9)) = true := by
  rw [← List.all_eq_true]
  decide +kernel
theorem row_mem {n k : Nat} (hn : n < 9) (hk : k < 6) : rowS n k ∈ allRows := by
  refine List.mem_append_right _ (List.mem_flatten.mpr ⟨_, List.mem_map.mpr ⟨n, List.mem_range.mpr hn, rfl⟩, List.mem_map.mpr ⟨k, List.mem_range.mpr hk, rfl⟩⟩)
theorem row_facts {x : Str} (h : x ∈ allRows) : (stuffS x).cps.toList = stuffL x.cps.toList ∧ Clean x.cps.toList ∧ x.cps.toList.length ≤ 9 := by
  have := all_rows x h
  simp only [Bool.and_eq_true, decide_eq_true_eq, beq_iff_eq, List.all_eq_true, bne_iff_ne] at this
  exact ⟨this.1.1, this.1.2, this.2⟩
theorem mail_quoted {R : Nat → Str} {first : Int} (hR : ∀ k, R k ∈ allRows) : dotsF true (newlF false (mailN R first 8)) = List.intercalate [13, 10] ((List.range 9).map fun k => (stuffS (R k)).cps.toList) := by
  have h1 := newlF_mail R first (fun k => (row_facts (hR k)).2.1) 8 [] (fun h => by cases h)
  rw [List.append_nil] at h1
  rw [h1]
  show dotsF true (_ ++ []) = _
  rw [List.append_nil, dots_rows _ (by
    intro r hr
    obtain ⟨k, _, rfl⟩ := List.mem_map.mp hr
    exact (row_facts (hR k)).2.1), List.map_map]
  exact congrArg (List.intercalate [13, 10]) (List.map_congr_left fun k _ => ((row_facts (hR k)).1).symm)
theorem stuffL_clean {r : List Nat} (h : Clean r) : 13 ∉ stuffL r := by
  unfold stuffL
  intro q
  split at q
  · rcases List.mem_cons.mp q with q | q
    · cases q
    · exact (h 13 q).2 rfl
  · exact (h 13 q).2 rfl
theorem texts_eq : ∀ {a b : List Str}, a.map (·.cps.toList) = b.map (·.cps.toList) → a = b
  | [], [], _ => rfl
  | x :: a, y :: b, h => by
    rw [List.map_cons, List.map_cons] at h
    obtain ⟨h1, h2⟩ := List.cons.inj h
    rw [str_eq h1, texts_eq h2]
  | [], y :: b, h => by cases h
  | x :: a, [], h => by cases h
theorem split_told {R : Nat → Str} (hR : ∀ k, R k ∈ allRows) (L : List Nat) (hL : L = List.intercalate [13, 10] ((List.range 9).map fun k => (stuffS (R k)).cps.toList)) : Txt.split ⟨L.toArray⟩ (Str.ofString "\r\n") = (List.range 9).map fun k => stuffS (R k) := by
  have h := split_rows ⟨L.toArray⟩ ((List.range 9).map fun k => (stuffS (R k)).cps.toList) (by
    intro r hr
    obtain ⟨k, _, rfl⟩ := List.mem_map.mp hr
    rw [(row_facts (hR k)).1]
    exact stuffL_clean (row_facts (hR k)).2.1) (by simp) hL (by
    have e : strKind (Str.ofString "\r\n") = 1 := by decide +kernel
    rw [e]
    unfold Builtin.Str.strKind
    split
    · decide
    · split <;> decide)
  refine texts_eq (h.trans ?_)
  rw [List.map_map]
  rfl
theorem mail_split {R : Nat → Str} {first : Int} (hR : ∀ k, R k ∈ allRows) : Txt.split ⟨(dotsF true (newlF false (mailN R first 8))).toArray⟩ (Str.ofString "\r\n") = (List.range 9).map fun k => stuffS (R k) :=
  split_told hR _ (mail_quoted hR)
theorem mail_len {R : Nat → Str} {first : Int} (hR : ∀ k, R k ∈ allRows) : ∀ i, (mailN R first i).length ≤ 9 + 11 * i
  | 0 => (row_facts (hR 0)).2.2
  | i + 1 => by
    show (mailN R first i ++ sepL _ ++ _).length ≤ _
    have h1 := mail_len (first := first) hR i
    have h2 := (row_facts (hR (i + 1))).2.2
    have h3 : (sepL (first + (1 + i))).length ≤ 2 := by unfold sepL; split; · decide
                                                        · split <;> decide
    rw [List.length_append, List.length_append]
    exact Mine.q_236 h1 h3 h2
def heardOk (n k a b : Nat) : Bool := hearS (Str.empty, rowS 0 a) (Str.empty, rowS 0 b) (stuffS (rowS n k)) == rowS (if k = b then n + 1 else if k = a then n - 1 else n) k
theorem heard_all : (((List.range 8).all fun n => (List.range 6).all fun k => (List.range 6).all fun a => (List.range 6).all fun b => n == 0 || heardOk n k a b)) = true := by decide +kernel
theorem heard_mid : (mid.all fun x => (List.range 6).all fun a => (List.range 6).all fun b => hearS (Str.empty, rowS 0 a) (Str.empty, rowS 0 b) (stuffS x) == x) = true := by decide +kernel
theorem heard_row {n k a b : Nat} {c1 c2 : Str × Str} (h0 : 0 < n) (hn : n < 8) (hk : k < 6) (ha : a < 6) (hb : b < 6) (e1 : c1.2 = rowS 0 a) (e2 : c2.2 = rowS 0 b) :
    hearS c1 c2 (stuffS (rowS n k)) = rowS (if k = b then n + 1 else if k = a then n - 1 else n) k := by
  have h := heard_all
  simp only [List.all_eq_true, List.mem_range] at h
  have := h n hn k hk a ha b hb
  rw [Bool.or_eq_true] at this
  rcases this with q | q
  · have := eq_of_beq q; exact (Mine.q_237 h0 this).elim
  · have := eq_of_beq q
    unfold hearS offS at this ⊢
    rw [e1, e2]
    exact this
theorem heard_const {x : Str} {a b : Nat} {c1 c2 : Str × Str} (hx : x ∈ mid) (ha : a < 6) (hb : b < 6) (e1 : c1.2 = rowS 0 a) (e2 : c2.2 = rowS 0 b) : hearS c1 c2 (stuffS x) = x := by
  have h := heard_mid
  simp only [List.all_eq_true, List.mem_range] at h
  have := eq_of_beq (h x hx a ha b hb)
  unfold hearS offS at this ⊢
  rw [e1, e2]
  exact this
end Mine
end

section
open PySem PySem.W PySem.Calls PySem.Spec PyProof.Rows
set_option Elab.async false
set_option maxRecDepth 100000
set_option maxHeartbeats 8000000
set_option linter.unusedVariables false
namespace Mine
theorem fill11 : PySem.Challenge.rw_sn0012_01 = PySem.Challenge.rw_sn0012_01 ∧ hd.heap_39 = hd.heap_39 := by
  k_fill
  exact ⟨rfl, rfl⟩
local macro_rules | `(tactic| walk_at "pyIter ref") => `(tactic| ((with_reducible show wpAny _ _ _ (fun it s₂ => codeAny _ _ (Code.forLoop _ _ _ _ _) _ _) _ _); refine halt ?_))
local macro_rules | `(tactic| walk_at "CompSrc") => `(tactic| refine halt ?_)
local macro_rules | `(tactic| walk_at "CompEnd") => `(tactic| refine halt ?_)
local macro_rules | `(tactic| walk_at "exec For Name Call cons nil") => `(tactic| refine halt ?_)
theorem dotsF_len : ∀ (b : Bool) (l : List Nat), (dotsF b l).length ≤ 2 * l.length
  | _, [] => Nat.le_refl _
  | b, c :: t => by
    rw [dotsF_cons, List.length_append, List.length_cons]
    have := dotsF_len (c == 10) t
    have : (if (b && c == 46) = true then ([46, 46] : List Nat) else [c]).length ≤ 2 := by split <;> simp
    exact Mine.q_112 this ‹_›
theorem quote_K {w : World} {A : Around} {E : Value → Shared → Prop} {s : Shared} {Q : Value → Shared → Prop} {h₀ : Heap} {L : Addr} {m : Str → Option Value} {news : List (Addr × Obj)} {mean : ExcName → Option Value} {mg mb : Str → Option Value} {x : Str} {t : Tok}
   (G : Gd w mean mg mb h₀) (F : Fr h₀ L s.heap m) (N : News h₀ L s.heap news) (hz : x.cps.size ≤ 3000) (hdp : A.depth + 20 < recursionLimit) (hun : A.units + 200 < cLine) (hh : A.handled = none)
   (h : ∀ h' tk t' T, T.cps.toList = dotsF true (newlF false x.cps.toList) → T.length ≤ 20000 → Fr h₀ L h' m → News h₀ L h' news → Q (.str T t') { s with heap := h', toks := tk }) : wpAny (model PP w) A (call (.ref 55) [.str x t]) Q E s :=
  wpAny_call (quote_c G F.keep hz hdp hun hh fun h' tk t' k => h h' tk t' _ rfl (by
    have h1 := dotsF_len true (newlF false x.cps.toList)
    have h2 := newlF_len false x.cps.toList
    rw [Array.length_toList (xs := x.cps)] at h2
    show (dotsF true (newlF false x.cps.toList)).toArray.size ≤ _
    rw [List.size_toArray]; exact Mine.q_192 h1 h2 hz) (fr_sub F k) (news_sub N k))
theorem fmod3 (x : Int) : x.fmod 3 = 0 ∨ x.fmod 3 = 1 ∨ x.fmod 3 = 2 := by
  have := fmod_in x 3 (by decide)
  exact Mine.q_193 this
theorem mail_put {x kx : Str} {b : Str → Option Value} {c d e : Value} {y : Str} (hy : y ≠ kx) : (if y = x then some c else if y = kx then some e else if y = x then some d else b y) = (if y = x then some c else b y) := by
  by_cases h : y = x
  · rw [if_pos h, if_pos h]
  · rw [if_neg h, if_neg h, if_neg hy, if_neg h]
theorem str_app3 (a b c : Str) : (a ++ b ++ c : Str).cps.toList = a.cps.toList ++ b.cps.toList ++ c.cps.toList := by
  show (a.cps ++ b.cps ++ c.cps).toList = _
  simp
theorem mail_put2 {x kx : Str} {b : Str → Option Value} {c d e : Value} : ∀ y : Str, y ≠ kx → (if y = x then some c else if y = kx then some e else if y = x then some d else b y) = (if y = x then some c else b y) := fun y hy => mail_put hy
/-- a thing told, kept from the walk's eyes -/
structure Told (P : Prop) : Prop where
  out : P
theorem same_texts {R : Nat → Str} {M zl : List Nat} {T1 T2 : Str} {l : List (Str × Tok)} (h1 : T1.cps.toList = dotsF true (newlF false zl)) (hz : zl = M)
    (hS : Told (dotsF true (newlF false M) = List.intercalate [13, 10] ((List.range 9).map fun k => (stuffS (R k)).cps.toList)))
    (h2 : T2.cps.toList = List.intercalate (Str.ofString "\r\n").cps.toList (l.map fun x => x.1.cps.toList)) (hl : l.map (·.1) = (List.range 9).map fun k => stuffS (R k)) : T1 = T2 := by
  refine str_eq ?_
  rw [h1, hz, hS.out, h2, show (Str.ofString "\r\n").cps.toList = [13, 10] by decide +kernel, show (l.map fun x => x.1.cps.toList) = (l.map (·.1)).map (·.cps.toList) by rw [List.map_map]; rfl, hl, List.map_map]
  rfl
theorem same_split {R : Nat → Str} {M zl : List Nat} {T1 : Str} {l : List (Str × Tok)} (h1 : T1.cps.toList = dotsF true (newlF false zl)) (hz : zl = M)
    (hSp : Told (Txt.split ⟨(dotsF true (newlF false M)).toArray⟩ (Str.ofString "\r\n") = (List.range 9).map fun k => stuffS (R k))) (e : l.map (·.1) = Txt.split T1 (Str.ofString "\r\n")) : l.map (·.1) = (List.range 9).map fun k => stuffS (R k) := by
  have : T1 = ⟨(dotsF true (newlF false M)).toArray⟩ := str_eq (by rw [h1, hz])
  rw [e, this, hSp.out]
theorem strs_at {l : List (Str × Tok)} {f : Nat → Str} {n i : Nat} {v : Value} (h : l.map (·.1) = (List.range n).map f) (hv : (strValues l).toArray[i]? = some v) : ∃ t, v = .str (f i) t ∧ i < n := by
  have hv' : (l.map fun p => Value.str p.1 p.2)[i]? = some v := by simpa [strValues] using hv
  rw [List.getElem?_map] at hv'
  cases q : l[i]? with
  | none => rw [q] at hv'; cases hv'
  | some p =>
    rw [q] at hv'
    cases hv'
    have h2 := congrArg (fun x => x[i]?) h
    simp only [List.getElem?_map, q, Option.map_some] at h2
    cases q2 : (List.range n)[i]? with
    | none => rw [q2] at h2; cases h2
    | some k =>
      rw [q2] at h2
      have hi : i < n := by
        have := (List.getElem?_eq_some_iff.mp q2).1
        simpa using this
      rw [List.getElem?_range hi] at q2
      cases q2
      have h3 : p.1 = f i := Option.some.inj h2
      exact ⟨p.2, by show Value.str p.1 p.2 = _; rw [h3], hi⟩
theorem strValues_snoc (l : List (Str × Tok)) (x : Str) (t : Tok) : strValues l ++ [Value.str x t] = strValues (l ++ [(x, t)]) := by simp [strValues]
theorem map_snoc {l : List (Str × Tok)} {f : Nat → Str} {i : Nat} (h : l.map (·.1) = (List.range i).map f) (x : Str) (t : Tok) (hx : x = f i) : (l ++ [(x, t)]).map (·.1) = (List.range (i + 1)).map f := by
  rw [List.range_succ, List.map_append, List.map_append, h, hx]; rfl
theorem three0 {a b c : Value} : (#[a, b, c] : Array Value)[(0 : Int).toNat]? = some a := rfl
theorem three1 {a b c : Value} : (#[a, b, c] : Array Value)[(1 : Int).toNat]? = some b := rfl
theorem three2 {a b c : Value} : (#[a, b, c] : Array Value)[(2 : Int).toNat]? = some c := rfl
section
variable {w : World} {A : Around} {E : Value → Shared → Prop} {s : Shared} {Q : Value → Shared → Prop}
theorem item_G {value slice : PySem.Expr} {l : Addr} {items : Array Value} {n : Nat} {k : Int} {u : Tok} {x : Value} (hl : s.heap.get? l = some (listOf items n))
    (h0 : 0 ≤ k) (hfit : k < 2 ^ 63) (hx : items[k.toNat]? = some x) (h : Q x s)
    (hs : subscripted slice false (.ref l) (.int k u) = operate [.ref l, .int k u] (getItem (.ref l) (.int k u))) : wpAny (model PP w) A (subscriptTail value slice (.ref l) (.int k u)) Q E s :=
  tail_any (Heap.IsList.typeIs (s := s) ⟨_, hl, rfl, _, rfl⟩) slot_list_getitem.lookup (wpAny_getItem_list ⟨_, hl, rfl, _, rfl⟩ h0 hfit hx h) hs
end
local macro_rules | `(tactic| walk_at "subscriptTail") => `(tactic| ((with_reducible show wpAny _ _ (subscriptTail _ _ (Value.ref _) (Value.int _ _)) _ _ _); refine haltN 1 ?_))
local macro_rules | `(tactic| walk_at "binaryOp Add str str") => `(tactic| ((with_reducible show wpAny _ _ (binaryOp Operator.Add (Value.str _ _) (Value.str _ _)) _ _ _); refine haltN 2 ?_))
local macro_rules | `(tactic| walk_at "subscriptTail Name Slice str ref") => `(tactic| refine haltN 3 ?_)
theorem mailN_mono (R : Nat → Str) (first : Int) (i j : Nat) (h : i ≤ j) : (mailN R first i).length ≤ (mailN R first j).length := by
  induction j with
  | zero => rw [Nat.le_zero.mp h]; exact Nat.le_refl _
  | succ j ih =>
    rcases Nat.lt_or_ge i (j + 1) with l | l
    · refine Nat.le_trans (ih (by exact Mine.q_194 l)) ?_
      show _ ≤ (mailN R first j ++ sepL _ ++ _).length
      rw [List.length_append, List.length_append]; exact Mine.q_195
    · rw [show i = j + 1 by exact Mine.q_196 h l]; exact Nat.le_refl _
theorem mailN_row (R : Nat → Str) (first : Int) (i : Nat) : (R i).cps.toList.length ≤ (mailN R first i).length := by
  cases i with
  | zero => exact Nat.le_refl _
  | succ i =>
    show _ ≤ (mailN R first i ++ sepL _ ++ _).length
    rw [List.length_append]; exact Mine.q_197
theorem join_K {w : World} {A : Around} {E : Value → Shared → Prop} {s : Shared} {Q : Value → Shared → Prop} {h₀ : Heap} {L D : Addr} {m : Str → Option Value} {news : List (Addr × Obj)} {l : List (Str × Tok)} {ep : Nat} {sep : Str} {t : Tok}
    (F : Fr h₀ L s.heap m) (N : News h₀ L s.heap news) (hm : (D, listOf (strValues l).toArray ep) ∈ news) (hz : ((l.map (·.1)).map (·.length)).sum + l.length * sep.length ≤ sizeLine)
    (h : ∀ t' k T, T.cps.toList = List.intercalate sep.cps.toList (l.map (·.1.cps.toList)) → Fr h₀ L s.heap m → News h₀ L s.heap news → Q (.str T t') { s with toks := k }) : wpAny (model PP w) A (call (.builtin "str.join") [.str sep t, .ref D]) Q E s :=
  join_t (N _ hm).1 hz fun t' k => h t' k _ rfl F N
local macro_rules | `(tactic| walk_at "call builtin:str.join") => `(tactic| refine haltN 4 ?_)
theorem append_K {w : World} {A : Around} {E : Value → Shared → Prop} {s : Shared} {Q : Value → Shared → Prop} {h₀ : Heap} {L p : Addr} {m : Str → Option Value} {news : List (Addr × Obj)} {items : Array Value} {n : Nat} {v : Value}
    (F : Fr h₀ L s.heap m) (N : News h₀ L s.heap news) (hm : (p, listOf items n) ∈ news) (hz : items.size ≤ sizeLine)
    (h : ∀ h', Fr h₀ L h' m → (∀ rest, (∀ q ∈ rest, q.1 ≠ p) → (∀ q ∈ rest, q ∈ news) → News h₀ L h' ((p, listOf (items.push v) (n + 1)) :: rest)) → Q .none { s with heap := h' }) : wpAny (model PP w) A (call (.builtin "list.append") [.ref p, v]) Q E s := by
  have z := N _ hm
  refine wpAny_call_entry slot_list_append (Heap.IsList.typeIs (s := s) ⟨_, z.1, rfl, _, rfl⟩) entry_list_append ?_ (args_list_append _ _)
  show wpAny _ _ (updateSeq p (·.push v) >>= fun _ => ret .none) _ _ s
  refine wpAny_bind ?_
  refine wpAny_updateSeq z.1 rfl (wpAny_pure ⟨.none, rfl, ?_⟩)
  have c : Chg p s.heap (s.heap.update p (Obj.mapSeq (·.push v))) := fun b o n e => ((Heap.SameBut.update ..).2 b n).trans e
  have e : Obj.mapSeq (·.push v) (listOf items n) = listOf (items.push v) (n + 1) := by
    show (⟨_, _, .seq (items.push v) (if (items.push v).size == items.size then n else n + 1), _⟩ : Obj) = _
    have : ((items.push v).size == items.size) = false := by simp
    rw [this]; rfl
  have e1 : (s.heap.update p (Obj.mapSeq (·.push v))).get? p = some (listOf (items.push v) (n + 1)) := by
    rw [Heap.get?_update_self _ z.1 (by rw [e]; rfl), e]
  exact h _ (fr_chg F c z.2.2 z.2.1) fun rest r1 r2 => news_head ⟨e1, z.2⟩ (news_chg (news_weak N r2) c r1)
local macro_rules | `(tactic| walk_at "call builtin:list.append") => `(tactic| refine haltN 5 ?_)
local macro_rules | `(tactic| walk_at "call builtin:str.split") => `(tactic| refine haltN 6 ?_)
local macro_rules | `(tactic| walk_at "call ref") => `(tactic| (with_reducible refine hRefN 7 55 ?_))
theorem sum_le (c : Nat) : ∀ L : List Nat, (∀ x ∈ L, x ≤ c) → L.sum ≤ L.length * c
  | [], _ => Nat.zero_le _
  | x :: t, h => by
    rw [List.sum_cons, List.length_cons, Nat.succ_mul]
    have := sum_le c t fun y hy => h y (.tail _ hy)
    have := h x (.head _)
    exact Mine.q_198 this ‹_›
theorem stuff_len (x : Str) : (stuffS x).length ≤ x.length + 1 := by
  unfold stuffS
  split
  · show ((Str.ofString ".").cps ++ x.cps).size ≤ _
    rw [Array.size_append]
    have : (Str.ofString ".").cps.size = 1 := by decide +kernel
    show _ ≤ x.cps.size + 1
    exact Mine.q_199 this
  · exact Mine.q_200
theorem row_len {R : Nat → Str} {first : Int} (hlen : (mailN R first 8).length ≤ 3000) (i : Nat) (h : i < 9) : (stuffS (R i)).length ≤ 3001 := by
  have := mailN_mono R first i 8 (by exact Mine.q_201 h)
  have h2 := mailN_row R first i
  rw [Array.length_toList (xs := (R i).cps)] at h2
  have h3 := stuff_len (R i)
  have h4 : (R i).length = (R i).cps.size := rfl
  exact Mine.q_202 h3 h4 h2 this hlen
theorem join_len {R : Nat → Str} {first : Int} (hlen : (mailN R first 8).length ≤ 3000) {l : List (Str × Tok)} (hl : l.map (·.1) = (List.range 9).map fun k => stuffS (R k)) : ((l.map (·.1)).map (·.length)).sum + l.length * (Str.ofString "\r\n").length ≤ sizeLine := by
  have e9 : l.length = 9 := by simpa using congrArg List.length hl
  have := sum_le 3001 ((l.map (·.1)).map (·.length)) (by
    intro x hx
    rw [hl] at hx
    simp only [List.map_map, List.mem_map, List.mem_range] at hx
    obtain ⟨k, hk, rfl⟩ := hx
    exact row_len hlen k hk)
  rw [List.length_map, List.length_map, e9] at this
  have h2 : (Str.ofString "\r\n").length = 2 := by decide +kernel
  rw [h2, e9, sizeLine_eq]
  exact Mine.q_203 this
theorem off_put {x xo : Str} {b : Str → Option Value} {c d e : Option Value} : ∀ y : Str, y ≠ x → (if y = xo then c else if y = x then e else if y = xo then d else b y) = (if y = xo then c else b y) := fun y hy => by
  by_cases h : y = xo
  · rw [if_pos h, if_pos h]
  · rw [if_neg h, if_neg h, if_neg hy, if_neg h]
section
variable {prog : Program} {w : World} {A : Around} {s : Shared} {env : Env} {g : Heap} {σ : Type}
/-- the loop over a list, whose body sets one more local -/
theorem iter_list1 {Q : Flow → Shared → Prop} {E E' : Value → Shared → Prop} {x xo : Str} {px : Pos} {body : List Stmt} {l : Addr} {items : Array Value} {m : Str → Option Value} (hxo : Told (xo ≠ x)) (led : σ → List (Addr × Obj)) (J : Nat → σ → Prop)
    (hh : A.handled = none) (hx : env.kindOf x = some .local) (hp : (env.scope.kind == .class || (env.scope.kind == .module && env.locals != env.globals)) = false)
    (hl : ∀ z h m, Fr g env.locals h m → News g env.locals h (led z) → h.IsList l items)
    (z₀ : σ) (F : Fr g env.locals s.heap m) (N : News g env.locals s.heap (led z₀)) (h0 : J 0 z₀)
    (turn : ∀ I i v oI z o h tk, items[i]? = some v → J i z → Fr g env.locals h (fun y => if y = x then some v else if y = xo then o else m y) → News g env.locals h ((I, oI) :: led z) → (∀ q ∈ led z, q.1 ≠ I) → (∀ q ∈ led z₀, q.1 < I) →
      wpAny (model prog w) A (execs body env) (TurnE g env.locals x (fun (z : σ × Option Value) y => if y = xo then z.2 else m y) (fun z => led z.1) (fun z => J (i + 1) z.1) I oI s) (fun _ _ => False) { s with heap := h, toks := tk })
    (done : ∀ z h tk o o', J items.size z → Fr g env.locals h (fun y => if y = x then o else if y = xo then o' else m y) → News g env.locals h (led z) → Q .next { s with heap := h, toks := tk }) :
    wpAny (model prog w) A (pyIter (.ref l)) (fun it s₂ => codeAny (model prog w) A (.forLoop (.Name x px) it body [] env) (fun r s' => match r with | .ok f => Q f s' | .error e => E' e s') s₂) E s := by
  refine iter_list (σ := σ × Option Value) (fun z y => if y = xo then z.2 else m y) (fun z => led z.1) (fun i z => J i z.1) hh hx hp (fun z => hl z.1) (z₀, m xo) (fr_map F fun y => ?_) N h0
    (fun I i v oI z h tk => turn I i v oI z.1 z.2 h tk) (fun z h tk o => done z.1 h tk o z.2)
  by_cases q : y = xo
  · rw [if_pos q, q]
  · rw [if_neg q]
end
theorem hear1 {c1 c2 : Str × Str} {x : Str} (q : (Txt.slice x none (some 1) != Str.ofString ".") = true) : Txt.slice x (some 0) none = hearS c1 c2 x := by
  unfold hearS offS; rw [if_pos q]
theorem hear2 {c1 c2 : Str × Str} {x : Str} (q : (Txt.slice x none (some 1) != Str.ofString ".") = false) (q2 : (Txt.slice x (some (-1)) none == c2.2) = true) : Txt.slice x (some 0) none = hearS c1 c2 x := by
  unfold hearS offS; rw [if_neg (by rw [q]; decide), if_pos q2]
theorem hear3 {c1 c2 : Str × Str} {x : Str} (q : (Txt.slice x none (some 1) != Str.ofString ".") = false) (q2 : (Txt.slice x (some (-1)) none == c2.2) = false) (q3 : (Txt.slice x (some (-1)) none == c1.2) = true) : Txt.slice x (some 2) none = hearS c1 c2 x := by
  unfold hearS offS; rw [if_neg (by rw [q]; decide), if_neg (by rw [q2]; decide), if_pos q3]
theorem hear4 {c1 c2 : Str × Str} {x : Str} (q : (Txt.slice x none (some 1) != Str.ofString ".") = false) (q2 : (Txt.slice x (some (-1)) none == c2.2) = false) (q3 : (Txt.slice x (some (-1)) none == c1.2) = false) : Txt.slice x (some 1) none = hearS c1 c2 x := by
  unfold hearS offS; rw [if_neg (by rw [q]; decide), if_neg (by rw [q2]; decide), if_neg (by rw [q3]; decide)]
theorem sent_c {w : World} {A : Around} {s : Shared} {h₀ : Heap} {R' : Result → Shared → Prop} {mean : ExcName → Option Value} {mg mb : Str → Option Value}
   {a b1 b2 : Addr} {items : Array Value} {R : Nat → Str} {ep : Nat} {c1 c2 : Str × Str} {u1 u2 u3 u4 : Tok} {first : Int} {t1 : Tok}
   (G : Gd w mean mg mb h₀) (k : Sub h₀ s.heap)
   (ha : s.heap.get? a = some (listOf items ep)) (hz9 : items.size = 9) (hR : ∀ k, k < 9 → ∃ t, items[k]? = some (.str (R k) t))
   (hb1 : s.heap.get? b1 = some (tup2 c1.1 c1.2 u1 u2)) (hb2 : s.heap.get? b2 = some (tup2 c2.1 c2.2 u3 u4))
   (hS : Told (dotsF true (newlF false (mailN R first 8)) = List.intercalate [13, 10] ((List.range 9).map fun k => (stuffS (R k)).cps.toList)))
   (hSp : Told (Txt.split ⟨(dotsF true (newlF false (mailN R first 8))).toArray⟩ (Str.ofString "\r\n") = (List.range 9).map fun k => stuffS (R k)))
   (hlen : (mailN R first 8).length ≤ 3000) (hf0 : 0 ≤ first) (hf1 : first < 1000)
   (hdp : A.depth + 50 < recursionLimit) (hun : A.units + 500 < cLine) (hh : A.handled = none)
   (hres : ∀ h' tk r ls ep, ls.map (·.1) = (List.range 9).map (fun k => hearS c1 c2 (stuffS (R k))) → h'.get? r = some (listOf (strValues ls).toArray ep) → s.heap.get? r = none → Sub s.heap h' → R' (.ok (.ret (.ref r))) { s with heap := h', toks := tk }) :
   codeAny (model PP w) A (.call (.ref 172) ⟨[.ref a, .ref b1, .ref b2, .int first t1], []⟩) R' s := by
  obtain ⟨hd0, dp, fr, gd, un⟩ := A
  dsimp only at hdp hun hh
  subst hh
  refine' enterP [] [("rows", .ref a), ("less", .ref b1), ("more", .ref b2), ("first", .int first t1)] G k ?k5 (f := 172) (cl := []) ?k6 ?k7 ?k8 ?k9 ?kB ?c5 ?c2 ?c3 ?c4 ?_; (case k5 => intro a ha; cases ha); (case k6 => k_is); (case k7 => k_is); (case k8 => (show dp < _; exact Mine.o_d0 hdp)); (case k9 => exact BindsTo.of_eq rfl); (case kB => exact locs rfl); (case c5 => decide); (case c2 => exact rfl); (case c3 => exact rfl); (case c4 => exact rfl)
  intro h₁ g F k1 eg G1 X T N0
  have up : ∀ b o, s.heap.get? b = some o → g.get? b = some o := fun b o e => by rw [eg]; exact hideAll_get _ e (by intro q; cases q)
  have hga := up _ _ ha
  have hgb1 := up _ _ hb1
  have hgb2 := up _ _ hb2
  obtain ⟨t0, h0⟩ := hR 0 (by decide)
  k_steps
  repeat (any_goals (first
    | ((with_reducible refine goN 1 ?_); k_dflt (first | (refine' item_K ?q9N ?q9hm ?q9h0 ?q9hf ?q9hx ?_ ?q9hs; (case q9N => k_asm); (case q9hm => k_mem); (case q9h0 => omega); (case q9hf => omega); (case q9hx => first | assumption | (rename Int.fmod _ 3 = _ => hfm; rw [hfm]; first | exact three0 | exact three1 | exact three2)); (case q9hs => with_unfolding_all rfl); k_whole) | ((with_reducible show wpAny _ _ (subscriptTail _ _ (Value.ref _) (Value.int 1 _)) _ _ _); refine' tup_1 ?q9t ?_ ?q9hs; (case q9t => exact Fr.keep (by k_asm) _ _ (by assumption)); (case q9hs => with_unfolding_all rfl); k_whole) | (refine' item_G ?q9hl ?q9h0 ?q9hf ?q9hx ?_ ?q9hs; (case q9hl => exact Fr.keep (by k_asm) _ _ (by assumption)); (case q9h0 => decide); (case q9hf => decide); (case q9hx => first | rfl | assumption); (case q9hs => with_unfolding_all rfl); k_whole)); k_steps)))
  unfold Halt
  refine wpAny_For ?_
  k_steps
  unfold Halt
  rename Fr _ _ _ _ => F9
  rename News _ _ _ _ => N9
  rename IsRange _ _ _ _ _ _ _ _ => hr9
  refine' iter_range (σ := Str × Tok) (n := 8) (fun z y => if y = Str.ofString "mail" then some (.str z.1 z.2) else ([(Str.ofString "rows", Value.ref a), (Str.ofString "less", Value.ref b1), (Str.ofString "more", Value.ref b2), (Str.ofString "first", Value.int first t1)] : List (Str × Value)).reverse.lookup y) (fun _ => []) (fun i z => z.1.cps.toList = mailN R first i) ?hh ?hx ?hp ?hr ?hs ?hn (R 0, t0) ?kF ?kN ?h0 ?turn ?done
  case hh => rfl
  case hx => rfl
  case hp => rfl
  case hr => exact hr9
  case hs => decide
  case hn => decide
  case kF => exact F9
  case kN => exact N9
  case h0 => rfl
  case turn =>
    intro I i z h tk t hi hJ F' N' hI1 hI2
    clear F9 N9
    obtain ⟨tk1, h1⟩ := hR (i + 1) (by exact Mine.q_204 hi)
    have hix : (1 + (i : Int)).toNat = i + 1 := by exact Mine.q_205
    have h1' : items[(1 + (i : Int)).toNat]? = some (.str (R (i + 1)) tk1) := by rw [hix]; exact h1
    dsimp only at F' N'
    have fin : ∀ (l : List Nat) (c : Str), c.cps.toList = z.1.cps.toList ++ l ++ (R (i + 1)).cps.toList → sepL (first + (1 + i)) = l → c.cps.toList = mailN R first (i + 1) := by
      intro l c e1 e2
      rw [e1, hJ]
      show _ = mailN R first i ++ sepL (first + (1 + i)) ++ _
      rw [e2]
    have lz : z.1.length ≤ 3000 := by
      have := mailN_mono R first i 8 (by exact Mine.o_lel hi (by decide))
      rw [← hJ, Array.length_toList (xs := z.1.cps)] at this
      exact Nat.le_trans this hlen
    have lr : (R (i + 1)).length ≤ 3000 := by
      have := mailN_mono R first (i + 1) 8 (by exact Mine.q_206 hi)
      have h2 := mailN_row R first (i + 1)
      rw [Array.length_toList (xs := (R (i + 1)).cps)] at h2
      exact Nat.le_trans h2 (Nat.le_trans this hlen)
    have lf : (Str.ofString "\n").length = 1 := by decide +kernel
    have lc : (Str.ofString "\r").length = 1 := by decide +kernel
    have lcf : (Str.ofString "\r\n").length = 2 := by decide +kernel
    have cf : (Str.ofString "\n").cps.toList = [10] := by decide +kernel
    have cc : (Str.ofString "\r").cps.toList = [13] := by decide +kernel
    have ccf : (Str.ofString "\r\n").cps.toList = [13, 10] := by decide +kernel
    rcases fmod3 (first + (1 + i)) with hm3 | hm3 | hm3
    · have hs3 : sepL (first + (1 + i)) = [10] := by unfold sepL; rw [hm3]; rfl
      k_steps
      repeat (any_goals (first
        | ((with_reducible refine goN 1 ?_); k_dflt (first | (refine' item_K ?q9N ?q9hm ?q9h0 ?q9hf ?q9hx ?_ ?q9hs; (case q9N => k_asm); (case q9hm => k_mem); (case q9h0 => exact Mine.q_207 hm3); (case q9hf => exact Mine.q_208 hm3); (case q9hx => first | assumption | (rename Int.fmod _ 3 = _ => hfm; rw [hfm]; first | exact three0 | exact three1 | exact three2)); (case q9hs => with_unfolding_all rfl); k_whole) | ((with_reducible show wpAny _ _ (subscriptTail _ _ (Value.ref _) (Value.int 1 _)) _ _ _); refine' tup_1 ?q9t ?_ ?q9hs; (case q9t => exact Fr.keep (by k_asm) _ _ (by assumption)); (case q9hs => with_unfolding_all rfl); k_whole) | (refine' item_G ?q9hl ?q9h0 ?q9hf ?q9hx ?_ ?q9hs; (case q9hl => exact Fr.keep (by k_asm) _ _ (by assumption)); (case q9h0 => exact Mine.q_123); (case q9hf => exact Mine.q_210 hi); (case q9hx => first | rfl | assumption); (case q9hs => with_unfolding_all rfl); k_whole)); k_steps)
        | ((with_reducible refine goN 2 ?_); k_dflt (refine' SBL.add (hsz := ?q9hsz) ?_; (case q9hsz => (rw [sizeLine_eq]; (first | exact Mine.q_209 lz lf | exact Mine.q_211 lr lf ‹_› lz))); k_whole; intro _ _ _); k_steps)))
      rename_i tz tkz hlz hz Fx Nx
      exact ⟨.inl rfl, _, _, _, (z.1 ++ Str.ofString "\n" ++ R (i + 1), tz), rfl, Fx, mail_put2, news_weak Nx (fun q hq => by rw [List.mem_singleton] at hq; rw [hq]; first | exact .head _ | exact .tail _ (.head _)), (fun q hq => nomatch hq), fin _ (z.1 ++ Str.ofString "\n" ++ R (i + 1)) (by rw [str_app3, cf]) hs3⟩
    · have hs3 : sepL (first + (1 + i)) = [13] := by unfold sepL; rw [hm3]; rfl
      k_steps
      repeat (any_goals (first
        | ((with_reducible refine goN 1 ?_); k_dflt (first | (refine' item_K ?q9N ?q9hm ?q9h0 ?q9hf ?q9hx ?_ ?q9hs; (case q9N => k_asm); (case q9hm => k_mem); (case q9h0 => exact Mine.q_212 hm3); (case q9hf => exact Mine.q_213 hm3); (case q9hx => first | assumption | (rename Int.fmod _ 3 = _ => hfm; rw [hfm]; first | exact three0 | exact three1 | exact three2)); (case q9hs => with_unfolding_all rfl); k_whole) | ((with_reducible show wpAny _ _ (subscriptTail _ _ (Value.ref _) (Value.int 1 _)) _ _ _); refine' tup_1 ?q9t ?_ ?q9hs; (case q9t => exact Fr.keep (by k_asm) _ _ (by assumption)); (case q9hs => with_unfolding_all rfl); k_whole) | (refine' item_G ?q9hl ?q9h0 ?q9hf ?q9hx ?_ ?q9hs; (case q9hl => exact Fr.keep (by k_asm) _ _ (by assumption)); (case q9h0 => exact Mine.q_123); (case q9hf => exact Mine.q_210 hi); (case q9hx => first | rfl | assumption); (case q9hs => with_unfolding_all rfl); k_whole)); k_steps)
        | ((with_reducible refine goN 2 ?_); k_dflt (refine' SBL.add (hsz := ?q9hsz) ?_; (case q9hsz => (rw [sizeLine_eq]; (first | exact Mine.q_209 lz lc | exact Mine.q_211 lr lc ‹_› lz))); k_whole; intro _ _ _); k_steps)))
      rename_i tz tkz hlz hz Fx Nx
      exact ⟨.inl rfl, _, _, _, (z.1 ++ Str.ofString "\r" ++ R (i + 1), tz), rfl, Fx, mail_put2, news_weak Nx (fun q hq => by rw [List.mem_singleton] at hq; rw [hq]; first | exact .head _ | exact .tail _ (.head _)), (fun q hq => nomatch hq), fin _ (z.1 ++ Str.ofString "\r" ++ R (i + 1)) (by rw [str_app3, cc]) hs3⟩
    · have hs3 : sepL (first + (1 + i)) = [13, 10] := by unfold sepL; rw [hm3]; rfl
      k_steps
      repeat (any_goals (first
        | ((with_reducible refine goN 1 ?_); k_dflt (first | (refine' item_K ?q9N ?q9hm ?q9h0 ?q9hf ?q9hx ?_ ?q9hs; (case q9N => k_asm); (case q9hm => k_mem); (case q9h0 => exact Mine.q_214 hm3); (case q9hf => exact Mine.q_215 hm3); (case q9hx => first | assumption | (rename Int.fmod _ 3 = _ => hfm; rw [hfm]; first | exact three0 | exact three1 | exact three2)); (case q9hs => with_unfolding_all rfl); k_whole) | ((with_reducible show wpAny _ _ (subscriptTail _ _ (Value.ref _) (Value.int 1 _)) _ _ _); refine' tup_1 ?q9t ?_ ?q9hs; (case q9t => exact Fr.keep (by k_asm) _ _ (by assumption)); (case q9hs => with_unfolding_all rfl); k_whole) | (refine' item_G ?q9hl ?q9h0 ?q9hf ?q9hx ?_ ?q9hs; (case q9hl => exact Fr.keep (by k_asm) _ _ (by assumption)); (case q9h0 => exact Mine.q_123); (case q9hf => exact Mine.q_210 hi); (case q9hx => first | rfl | assumption); (case q9hs => with_unfolding_all rfl); k_whole)); k_steps)
        | ((with_reducible refine goN 2 ?_); k_dflt (refine' SBL.add (hsz := ?q9hsz) ?_; (case q9hsz => (rw [sizeLine_eq]; (first | exact Mine.q_216 lz lcf | exact Mine.q_217 lr lcf ‹_› lz))); k_whole; intro _ _ _); k_steps)))
      rename_i tz tkz hlz hz Fx Nx
      exact ⟨.inl rfl, _, _, _, (z.1 ++ Str.ofString "\r\n" ++ R (i + 1), tz), rfl, Fx, mail_put2, news_weak Nx (fun q hq => by rw [List.mem_singleton] at hq; rw [hq]; first | exact .head _ | exact .tail _ (.head _)), (fun q hq => nomatch hq), fin _ (z.1 ++ Str.ofString "\r\n" ++ R (i + 1)) (by rw [str_app3, ccf]) hs3⟩
  case done =>
    intro z h tk o hJ F' N'
    have hz3 : z.1.cps.size ≤ 3000 := by
      rw [← Array.length_toList (xs := z.1.cps), hJ]; exact hlen
    dsimp only at F' N' ⊢
    k_steps
    repeat (any_goals (first
      | ((with_reducible refine goN 7 ?_); k_dflt (refine' quote_K ?q9G ?q9F ?q9N ?q9hz ?q9dp ?q9un ?q9hh ?_; (case q9G => assumption); (case q9F => k_asm); (case q9N => k_asm); (case q9hz => with_reducible assumption); (case q9dp => (simp only [depth_deeper]; exact Mine.o_d2 hdp)); (case q9un => (simp only [units_deeper]; exact Mine.o_d2 hun)); (case q9hh => rfl); k_whole); intro _ _ _ _ _ _ _ _; k_steps)))
    unfold Halt
    rename Fr _ _ _ _ => Fq
    rename News _ _ _ _ => Nq
    refine LCg.CompSrc.base rfl Fq Nq ⟨_, hga, rfl, _, rfl⟩ (by rw [hz9, sizeLine_eq]; decide) fun g' => ?_
    refine rest_inv (n := items.size) (J := fun i ys news => news = [] ∧ ∃ l : List (Str × Tok), ys = strValues l ∧ l.map (·.1) = (List.range i).map (fun k => stuffS (R k))) ?turn ?fin _ 0 [] _ (Nat.zero_add _) ⟨rfl, [], rfl, rfl⟩
    case turn =>
      rintro i ys news hi ⟨rfl, l, rfl, hl⟩ v I oI C oC D m₂ h tk E' hv hC hx F' N' off ne
      rw [hz9] at hi
      obtain ⟨tr, hr⟩ := hR i hi
      rw [hr] at hv
      cases hv
      clear Fq Nq
      have lr : (R i).length ≤ 3000 := by
        have := mailN_mono R first i 8 (by exact Mine.q_201 hi)
        have h2 := mailN_row R first i
        rw [Array.length_toList (xs := (R i).cps)] at h2
        exact Nat.le_trans h2 (Nat.le_trans this hlen)
      have ldot : (Str.ofString ".").length = 1 := by decide +kernel
      k_steps
      repeat (any_goals (first
        | ((with_reducible refine goN 2 ?_); k_dflt (refine' SBL.add (hsz := ?q9hsz) ?_; (case q9hsz => (rw [sizeLine_eq]; exact Mine.q_218 ldot lr)); k_whole; intro _ _ _); k_steps)
        | ((with_reducible refine goN 3 ?_); k_dflt (first | ((with_reducible show wpAny _ _ (subscriptTail _ (Expr.Slice none (some _) none _) _ _) _ _ _); refine' slice_strN_ns (hsz := ?q9hsz) (s := ⟨_, _, _, _, _⟩) ?q9F ?q9N ?_; (case q9F => k_asm); (case q9N => k_asm); (case q9hsz => (rw [sizeLine_eq]; exact Nat.le_trans lr (by decide))); k_whole) | ((with_reducible show wpAny _ _ (subscriptTail _ (Expr.Slice (some _) none none _) _ _) _ _ _); refine' slice_strN_sn (hsz := ?q9hsz) (s := ⟨_, _, _, _, _⟩) ?q9F ?q9N ?_; (case q9F => k_asm); (case q9N => k_asm); (case q9hsz => (rw [sizeLine_eq]; omega)); k_whole)); intro _ _ _ _ _; k_steps)))
      all_goals (
        unfold Halt
        rename Fr _ _ _ _ => Fx
        rename News _ _ _ _ => Nx
        refine LCg.CompEnd.intro Fx Nx [] (by lcg_sub) trivial (.inl ⟨_, hga, rfl, _, rfl⟩) ⟨rfl, l ++ [(_, _)], strValues_snoc _ _ _, map_snoc hl _ _ ?_⟩
        unfold stuffS)
      · rw [if_pos (by assumption)]
      · rw [if_neg (by rename (_ == _) = false => q; rw [q]; decide)]
    case fin =>
      rintro ys news ⟨rfl, l, rfl, hl⟩
      rw [hz9] at hl
      show LCg.FinE _ _ _ _ _ _ _
      unfold LCg.FinE
      intro D h tk F' N' o1
      clear Fq Nq
      have hjz : ((l.map (·.1)).map (·.length)).sum + l.length * (Str.ofString "\r\n").length ≤ sizeLine := join_len hlen hl
      dsimp only at F' N' ⊢
      k_steps
      repeat (any_goals (first
        | ((with_reducible refine goN 4 ?_); k_dflt (refine' join_K ?q9F ?q9N ?q9hm ?q9hz ?_; (case q9F => k_asm); (case q9N => k_asm); (case q9hm => k_mem); (case q9hz => first | with_reducible assumption | assumption); k_whole); intro _ _ _ _ _ _; k_steps)))
      · rename (_ != _) = true => q
        rename _ = dotsF _ _ => hT1
        rename _ = List.intercalate _ _ => hT2
        rw [bne_iff_ne] at q
        exact absurd (same_texts hT1 hJ hS hT2 hl) q
      · unfold Halt
        refine wpAny_For ?_
        k_steps
        repeat (any_goals (first
          | ((with_reducible refine goN 6 ?_); k_dflt (refine' splitN1 (hsz := ?q9hsz) ?q9F ?q9N ?q9hy ?_; (case q9F => k_asm); (case q9N => k_asm); (case q9hy => decide +kernel); (case q9hsz => (rw [sizeLine_eq]; exact Mine.q_219 ‹_›)); k_whole); intro _ _ _ _ _ _; k_steps)))
        unfold Halt
        rename Fr _ _ _ _ => F9
        rename News _ _ _ _ => N9
        rename _ = dotsF _ _ => hT1
        rename _ = Txt.split _ _ => e9
        have e10 := same_split hT1 hJ hSp e9
        clear e9
        rename_i ah hh2 l1a hh1 F8 N8 ls hh0 k0
        have hls9 : ls.length = 9 := by simpa using congrArg List.length e10
        refine' iter_list1 (σ := List (Str × Tok) × Nat) (xo := "off") (items := (strValues ls).toArray) ?hxo (led := fun z => [(hh1.objs.size, { cls := .type "list", data := .seq (strValues ls).toArray }), (ah, listOf (strValues z.1).toArray z.2)])
          (J := fun i z => z.1.map (·.1) = (List.range i).map fun k => hearS c1 c2 (stuffS (R k))) ?hh ?hx ?hp ?hl ([], 0) F9 ?kN ?h0 ?turn ?done
        case hxo => exact ⟨by decide +kernel⟩
        case hh => rfl
        case hx => rfl
        case hp => rfl
        case hl => intro z h m F N; exact ⟨_, (N _ (.head _)).1, rfl, _, rfl⟩
        case kN => exact news_weak N9 (by lcg_sub)
        case h0 => rfl
        case turn =>
          intro I i v oI z oo h tk hv hJ9 F' N' hI1 hI2
          obtain ⟨tv, rfl, hi⟩ := strs_at e10 hv
          have hne : hh1.objs.size ≠ ah := fun e => Nat.lt_irrefl _ (e ▸ Heap.lt_size (N8 _ (.head _)).1)
          clear F9 N9 F8 N8
          dsimp only at F' N'
          have lz9 : (strValues z.1).length ≤ 9 := by have := congrArg List.length hJ9; simp [strValues] at this ⊢; exact Mine.q_220 this hi
          have lrow : (stuffS (R i)).length ≤ 3001 := row_len hlen i hi
          k_steps
          repeat (any_goals (first
            | ((with_reducible refine goN 1 ?_); k_dflt (first | (refine' item_K ?q9N ?q9hm ?q9h0 ?q9hf ?q9hx ?_ ?q9hs; (case q9N => k_asm); (case q9hm => k_mem); (case q9h0 => omega); (case q9hf => omega); (case q9hx => first | assumption | (rename Int.fmod _ 3 = _ => hfm; rw [hfm]; first | exact three0 | exact three1 | exact three2)); (case q9hs => with_unfolding_all rfl); k_whole) | ((with_reducible show wpAny _ _ (subscriptTail _ _ (Value.ref _) (Value.int 1 _)) _ _ _); refine' tup_1 ?q9t ?_ ?q9hs; (case q9t => exact Fr.keep (by k_asm) _ _ (by assumption)); (case q9hs => with_unfolding_all rfl); k_whole) | (refine' item_G ?q9hl ?q9h0 ?q9hf ?q9hx ?_ ?q9hs; (case q9hl => exact Fr.keep (by k_asm) _ _ (by assumption)); (case q9h0 => omega); (case q9hf => omega); (case q9hx => first | rfl | assumption); (case q9hs => with_unfolding_all rfl); k_whole)); k_steps)
            | ((with_reducible refine goN 3 ?_); k_dflt (first | ((with_reducible show wpAny _ _ (subscriptTail _ (Expr.Slice none (some _) none _) _ _) _ _ _); refine' slice_strN_ns (hsz := ?q9hsz) (s := ⟨_, _, _, _, _⟩) ?q9F ?q9N ?_; (case q9F => k_asm); (case q9N => k_asm); (case q9hsz => (rw [sizeLine_eq]; exact Nat.le_trans lrow (by decide))); k_whole) | ((with_reducible show wpAny _ _ (subscriptTail _ (Expr.Slice (some _) none none _) _ _) _ _ _); refine' slice_strN_sn (hsz := ?q9hsz) (s := ⟨_, _, _, _, _⟩) ?q9F ?q9N ?_; (case q9F => k_asm); (case q9N => k_asm); (case q9hsz => (rw [sizeLine_eq]; exact Nat.le_trans lrow (by decide))); k_whole)); intro _ _ _ _ _; k_steps)
            | ((with_reducible refine goN 5 ?_); k_dflt (refine' append_K ?q9F ?q9N ?q9hm ?q9hz ?_; (case q9F => k_asm); (case q9N => k_asm); (case q9hm => k_mem); (case q9hz => (simp only [List.size_toArray]; rw [sizeLine_eq]; exact Nat.le_trans lz9 (by decide))); k_whole); intro _ _ _; k_steps)))
          all_goals (
            rename Fr _ _ _ _ => Fx
            rename (∀ rest : List (Addr × Obj), _) => NA
            have Nx := NA [(I, oI), (hh1.objs.size, { cls := .type "list", data := .seq (strValues ls).toArray })] (by
              intro q hq
              simp only [List.mem_cons, List.not_mem_nil, or_false] at hq
              rcases hq with rfl | rfl
              · exact Ne.symm (hI1 _ (.tail _ (.head _)))
              · exact hne) (by lcg_sub)
            rw [List.push_toArray, strValues_snoc] at Nx
            refine ⟨.inl rfl, _, _, _, ((z.1 ++ [(_, _)], z.2 + 1), _), rfl, Fx, off_put, news_weak Nx (by lcg_sub), ?_, map_snoc hJ9 _ _ ?_⟩
            · intro q hq
              simp only [List.mem_cons, List.not_mem_nil, or_false] at hq
              rcases hq with rfl | rfl
              · have q9 := hI1 _ (.head _); exact q9
              · have q9 := hI1 _ (.tail _ (.head _)); exact q9
            · clear NA Nx Fx
              first
              | ((with_reducible rename (_ != _) = true => q1); exact hear1 q1)
              | ((with_reducible rename (_ != _) = false => q1); (with_reducible rename (_ == c2.2) = true => q2); exact hear2 q1 q2)
              | ((with_reducible rename (_ != _) = false => q1); (with_reducible rename (_ == c2.2) = false => q2); (with_reducible rename (_ == c1.2) = true => q3); exact hear3 q1 q2 q3)
              | ((with_reducible rename (_ != _) = false => q1); (with_reducible rename (_ == c2.2) = false => q2); (with_reducible rename (_ == c1.2) = false => q3); exact hear4 q1 q2 q3))
        case done =>
          intro z h1 tk o o' hJ9 F' N'
          clear F9 N9 F8 N8
          rw [show (strValues ls).toArray.size = 9 by simpa [strValues] using hls9] at hJ9
          dsimp only at F' N' ⊢
          k_steps
          refine hres _ _ _ z.1 _ hJ9 (N' _ (.tail _ (.head _))).1 ?_ (fun b o e => F'.keep b o (up b o e))
          have e0 := (N' _ (.tail _ (.head _))).2.2
          cases e1 : s.heap.get? ah with
          | none => rfl
          | some o9 => rw [up _ _ e1] at e0; cases e0
end Mine
end

section
open PySem PySem.W PySem.Calls PySem.Spec PyProof.Rows
set_option Elab.async false
set_option maxRecDepth 100000
set_option maxHeartbeats 8000000
set_option linter.unusedVariables false
namespace Mine
theorem fill9 : PySem.Challenge.rw_sn0012_01 = PySem.Challenge.rw_sn0012_01 ∧ hd.heap_39 = hd.heap_39 := by
  k_fill
  exact ⟨rfl, rfl⟩
abbrev flt3 (r g b : UInt64) (ta tb tc : Tok) : Obj := { cls := .type "tuple", data := .seq #[.float r ta, .float g tb, .float b tc] }
def hsvOut (j : Int) (f s v : UInt64) : UInt64 × UInt64 × UInt64 :=
  let p := Float64.mul v (Float64.sub 4607182418800017408 s)
  let q := Float64.mul v (Float64.sub 4607182418800017408 (Float64.mul s f))
  let t := Float64.mul v (Float64.sub 4607182418800017408 (Float64.mul s (Float64.sub 4607182418800017408 f)))
  if j = 0 then (v, t, p) else if j = 1 then (q, v, p) else if j = 2 then (p, v, t) else if j = 3 then (p, q, v) else if j = 4 then (t, p, v) else (v, p, q)
def six (fh : UInt64) : UInt64 := Float64.mul fh 4618441417868443648
def sixI (fh : UInt64) : Int := Flt.toInt Float64.truncOf (six fh)
theorem new_g0 {a : Addr} {h g : Heap} (e : g = hideAll h []) (q : g.get? a = none) : h.get? a = none := by
  cases z : h.get? a with
  | none => rfl
  | some o => rw [e, hideAll_get _ z (by intro q; cases q)] at q; cases q
theorem fmod_in6 (x : Int) : 0 ≤ x.fmod 6 ∧ x.fmod 6 < 6 := by
  rw [Int.fmod_eq_emod_of_nonneg _ (by decide)]
  exact ⟨Int.emod_nonneg _ (by decide), Int.emod_lt_of_pos _ (by decide)⟩
theorem hsv_c {w : World} {A : Around} {s : Shared} {h₀ : Heap} {R : Result → Shared → Prop} {mean : ExcName → Option Value} {mg mb : Str → Option Value} {fh fs fv : UInt64} {t1 t2 t3 : Tok}
   (G : Gd w mean mg mb h₀) (k : Sub h₀ s.heap) (q1 : (Float64.cmp fs 0 == some Ordering.eq) = false) (q2 : Float64.isNaN (six fh) = false) (q3 : Float64.isInf (six fh) = false) (q4 : (sixI fh).natAbs < 1000)
   (hdp : A.depth + 20 < recursionLimit) (hun : A.units + 200 < cLine) (hh : A.handled = none)
   (h : ∀ h' tk a r g b ta tb tc, Sub s.heap h' → s.heap.get? a = none → h'.get? a = some (flt3 r g b ta tb tc) → (r, g, b) = hsvOut ((sixI fh).fmod 6) (Float64.sub (six fh) (Float64.ofInt (sixI fh))) fs fv → (t3 ≠ 0 → ta ≠ 0 ∧ tb ≠ 0 ∧ tc ≠ 0) → R (.ok (.ret (.ref a))) { s with heap := h', toks := tk }) :
   codeAny (model PP w) A (.call (.ref 69) ⟨[.float fh t1, .float fs t2, .float fv t3], []⟩) R s := by
  obtain ⟨hd0, dp, fr, gd, un⟩ := A
  dsimp only at hdp hun hh
  subst hh
  refine' enterP [] [("h", .float fh t1), ("s", .float fs t2), ("v", .float fv t3)] G k ?k5 (f := 69) (cl := []) ?k6 ?k7 ?k8 ?k9 ?kB ?c5 ?c2 ?c3 ?c4 ?_; (case k5 => intro a ha; cases ha); (case k6 => k_is); (case k7 => k_is); (case k8 => (show dp < _; exact Mine.o_d0 hdp)); (case k9 => exact BindsTo.of_eq rfl); (case kB => exact locs rfl); (case c5 => decide); (case c2 => exact rfl); (case c3 => exact rfl); (case c4 => exact rfl)
  intro h₁ g F k1 eg G1 X T N0
  k_steps
  all_goals (try first
    | exact absurd (by assumption) (by rw [q1]; decide)
    | (rename Float64.isNaN _ = true => z; exact absurd (z.symm.trans q2) (by decide))
    | (rename Float64.isInf _ = true => z; exact absurd (z.symm.trans q3) (by decide))
    | (rename 2 ^ 1024 - 2 ^ 970 ≤ _ => z; exact absurd (Nat.le_trans (show 1000 ≤ 2 ^ 1024 - 2 ^ 970 by decide) z) (Nat.not_le.mpr q4)))
  all_goals (try (rename_i z _; exact absurd (z.symm.trans q1) (by decide)))
  all_goals (try (
    rename Fr _ _ _ _ => F'
    rename News _ _ _ _ => N'
    rename Int.fmod _ 6 = _ => e
    have e' : (sixI fh).fmod 6 = _ := e
    refine h _ _ _ _ _ _ _ _ _ (fun b o z => F'.keep b o (by rw [eg]; exact hideAll_get _ z (by intro q; cases q))) (new_g0 eg (N'.fresh (.head _))) (N'.get (.head _)) (by rw [e']; rfl) (fun hz => ⟨by first | exact hz | exact Nat.succ_ne_zero _, by first | exact hz | exact Nat.succ_ne_zero _, by first | exact hz | exact Nat.succ_ne_zero _⟩)))
  all_goals (
    exfalso
    have z := fmod_in6 (sixI fh)
    have n0 : (sixI fh).fmod 6 ≠ 0 := by assumption
    have n1 : (sixI fh).fmod 6 ≠ 1 := by assumption
    have n2 : (sixI fh).fmod 6 ≠ 2 := by assumption
    have n3 : (sixI fh).fmod 6 ≠ 3 := by assumption
    have n4 : (sixI fh).fmod 6 ≠ 4 := by assumption
    have n5 : (sixI fh).fmod 6 ≠ 5 := by assumption
    exact Mine.q_29 z n0 n1 n2 n3 n4 n5)
end Mine
end

section
open PySem PySem.W PySem.Calls PySem.Spec PyProof.Rows PySem.Flt
set_option Elab.async false
set_option maxRecDepth 100000
set_option maxHeartbeats 8000000
set_option linter.unusedVariables false
namespace Mine
def mx2 (x y : UInt64) : UInt64 := if (Float64.cmp x y == some .lt) = true then y else x
def mn2 (x y : UInt64) : UInt64 := if (Float64.cmp y x == some .lt) = true then y else x
section
variable {w : World} {A : Around} {E : Value → Shared → Prop} {s : Shared} {Q : Value → Shared → Prop} {x y z : UInt64} {t u v : Tok} {h₀ : Heap} {L : Addr} {m : Str → Option Value} {news : List (Addr × Obj)}
theorem three_num : ∀ e ∈ (#[.float x t, .float y u, .float z v] : Array Value), NumV e := by
  intro e he
  simp only [List.mem_toArray, List.mem_cons, List.not_mem_nil, or_false] at he
  rcases he with rfl | rfl | rfl <;> exact .float _ _
theorem three_old {h₂ : Heap} {a c : Obj} (k : ∀ b o, b ∉ [(s.heap.push a).objs.size] → ((s.heap.push a).push c).get? b = some o → h₂.get? b = some o) : Sub s.heap h₂ := fun q o e => by
  refine k q o (fun hm => ?_) (Heap.get?_push_of_some _ (Heap.get?_push_of_some _ e))
  have := Heap.lt_size e
  rw [List.mem_singleton] at hm
  rw [hm, Heap.size_push] at this
  exact Nat.lt_irrefl _ (Nat.lt_of_succ_lt this)
theorem max3_f (hh : A.handled = none) (F : Fr h₀ L s.heap m) (N : News h₀ L s.heap news) (h : ∀ h' tk p, (p = t ∨ p = u ∨ p = v) → s.toks ≤ tk → Fr h₀ L h' m → News h₀ L h' news → Q (.float (mx2 (mx2 x y) z) p) { s with heap := h', toks := tk }) :
    wpAny (model PP w) A (call (.builtin "max") [.float x t, .float y u, .float z v]) Q E s := by
  have hT : (s.heap.push { cls := .type "tuple", data := .seq #[.float x t, .float y u, .float z v] }).IsTuple s.heap.objs.size #[.float x t, .float y u, .float z v] := ⟨_, Heap.get?_push_size _ rfl, rfl, 0, rfl⟩
  refine any_toks ?_
  refine call_max_three (wpAny_pyIter_tuple hT ?_)
  have hsz : ∀ o, (s.heap.push o).objs.size = s.heap.objs.size + 1 := fun o => Heap.size_push ..
  refine ⟨_, [_, s.heap.objs.size], [_], _, _, _, _, rfl, Walks.tuple (A := A.in1) hh _ s.heap.objs.size (by rw [hsz]; exact Nat.ne_of_lt (Nat.lt_succ_self _)) _,
    ⟨⟨_, Heap.get?_push_size _ rfl, rfl, rfl⟩, hT.push _⟩, fun c hc => ?_, by simp, cmpOf_gt _ three_num, fun r h' tk hP hk => ?_⟩
  · show c < ((s.heap.push _).push _).objs.size
    rw [Heap.size_push, hsz]
    rw [hsz] at hc
    rcases List.mem_cons.mp hc with rfl | hc
    · exact Nat.lt_succ_self _
    · rw [List.mem_singleton] at hc
      rw [hc]; exact Nat.lt_succ_of_lt (Nat.lt_succ_self _)
  · have k := three_old (s := s) hk
    have hv : ∃ p, r = .float (mx2 (mx2 x y) z) p ∧ (p = t ∨ p = u ∨ p = v) := by
      unfold mx2
      cases c1 : (Float64.cmp x y == some .lt) with
      | true =>
        cases c2 : (Float64.cmp y z == some .lt) with
        | true => simp [argBest, ltV, c1, c2] at hP; exact ⟨v, by simp [c2]; exact hP.symm, by simp⟩
        | false => simp [argBest, ltV, c1, c2] at hP; exact ⟨u, by simp [c2]; exact hP.symm, by simp⟩
      | false =>
        cases c2 : (Float64.cmp x z == some .lt) with
        | true => simp [argBest, ltV, c1, c2] at hP; exact ⟨v, by simp [c2]; exact hP.symm, by simp⟩
        | false => simp [argBest, ltV, c1, c2] at hP; exact ⟨t, by simp [c2]; exact hP.symm, by simp⟩
    obtain ⟨p, rfl, hp⟩ := hv
    exact fun hle => h h' tk p hp hle (fr_sub F k) (news_sub N k)
theorem min3_f (hh : A.handled = none) (F : Fr h₀ L s.heap m) (N : News h₀ L s.heap news) (h : ∀ h' tk p, (p = t ∨ p = u ∨ p = v) → s.toks ≤ tk → Fr h₀ L h' m → News h₀ L h' news → Q (.float (mn2 (mn2 x y) z) p) { s with heap := h', toks := tk }) :
    wpAny (model PP w) A (call (.builtin "min") [.float x t, .float y u, .float z v]) Q E s := by
  have hT : (s.heap.push { cls := .type "tuple", data := .seq #[.float x t, .float y u, .float z v] }).IsTuple s.heap.objs.size #[.float x t, .float y u, .float z v] := ⟨_, Heap.get?_push_size _ rfl, rfl, 0, rfl⟩
  refine any_toks ?_
  refine call_min_three (wpAny_pyIter_tuple hT ?_)
  have hsz : ∀ o, (s.heap.push o).objs.size = s.heap.objs.size + 1 := fun o => Heap.size_push ..
  refine ⟨_, [_, s.heap.objs.size], [_], _, _, _, _, rfl, Walks.tuple (A := A.in1) hh _ s.heap.objs.size (by rw [hsz]; exact Nat.ne_of_lt (Nat.lt_succ_self _)) _,
    ⟨⟨_, Heap.get?_push_size _ rfl, rfl, rfl⟩, hT.push _⟩, fun c hc => ?_, by simp, cmpOf_lt _ three_num, fun r h' tk hP hk => ?_⟩
  · show c < ((s.heap.push _).push _).objs.size
    rw [Heap.size_push, hsz]
    rw [hsz] at hc
    rcases List.mem_cons.mp hc with rfl | hc
    · exact Nat.lt_succ_self _
    · rw [List.mem_singleton] at hc
      rw [hc]; exact Nat.lt_succ_of_lt (Nat.lt_succ_self _)
  · have k := three_old (s := s) hk
    have hv : ∃ p, r = .float (mn2 (mn2 x y) z) p ∧ (p = t ∨ p = u ∨ p = v) := by
      unfold mn2
      cases c1 : (Float64.cmp y x == some .lt) with
      | true =>
        cases c2 : (Float64.cmp z y == some .lt) with
        | true => simp [argBest, ltV, c1, c2] at hP; exact ⟨v, by simp [c2]; exact hP.symm, by simp⟩
        | false => simp [argBest, ltV, c1, c2] at hP; exact ⟨u, by simp [c2]; exact hP.symm, by simp⟩
      | false =>
        cases c2 : (Float64.cmp z x == some .lt) with
        | true => simp [argBest, ltV, c1, c2] at hP; exact ⟨v, by simp [c2]; exact hP.symm, by simp⟩
        | false => simp [argBest, ltV, c1, c2] at hP; exact ⟨t, by simp [c2]; exact hP.symm, by simp⟩
    obtain ⟨p, rfl, hp⟩ := hv
    exact fun hle => h h' tk p hp hle (fr_sub F k) (news_sub N k)
end
end Mine
end

section
open PySem PySem.W PySem.Calls PySem.Spec PyProof.Rows
set_option Elab.async false
set_option maxRecDepth 100000
set_option maxHeartbeats 8000000
set_option linter.unusedVariables false
namespace Mine
theorem fill10 : PySem.Challenge.rw_sn0012_01 = PySem.Challenge.rw_sn0012_01 ∧ hd.heap_39 = hd.heap_39 := by
  k_fill
  exact ⟨rfl, rfl⟩
local macro_rules | `(tactic| walk_at "call builtin:max") => `(tactic| refine haltN 1 ?_)
local macro_rules | `(tactic| walk_at "call builtin:min") => `(tactic| refine haltN 2 ?_)
local macro_rules | `(tactic| walk_at "execs cons") => `(tactic| refine haltN 3 ?_)
local macro_rules | `(tactic| walk_at "execs nil") => `(tactic| refine haltN 4 ?_)
def rgbHue (r g b : UInt64) (first second : Bool) : UInt64 :=
  let M := mx2 (mx2 r g) b
  let D := Float64.sub M (mn2 (mn2 r g) b)
  let rc := Float64.div (Float64.sub M r) D
  let gc := Float64.div (Float64.sub M g) D
  let bc := Float64.div (Float64.sub M b) D
  let h := if first then Float64.sub bc gc else if second then Float64.sub (Float64.add 4611686018427387904 rc) bc else Float64.sub (Float64.add 4616189618054758400 gc) rc
  (Float64.divmod (Float64.div h 4618441417868443648) 4607182418800017408).2
def rgbOut (c : UInt64 × UInt64 × UInt64) : UInt64 × UInt64 × UInt64 :=
  let M := mx2 (mx2 c.1 c.2.1) c.2.2
  (rgbHue c.1 c.2.1 c.2.2 (Float64.cmp c.1 M == some .eq) (Float64.cmp c.2.1 M == some .eq), Float64.div (Float64.sub M (mn2 (mn2 c.1 c.2.1) c.2.2)) M, M)
theorem rgb_c {w : World} {A : Around} {s : Shared} {h₀ : Heap} {R : Result → Shared → Prop} {mean : ExcName → Option Value} {mg mb : Str → Option Value} {fr_ fg fb : UInt64} {t1 t2 t3 : Tok}
   (G : Gd w mean mg mb h₀) (k : Sub h₀ s.heap)
   (q1 : (Float64.cmp (mn2 (mn2 fr_ fg) fb) (mx2 (mx2 fr_ fg) fb) == some Ordering.eq) = false) (q2 : Float64.isZero (mx2 (mx2 fr_ fg) fb) = false) (q3 : Float64.isZero (Float64.sub (mx2 (mx2 fr_ fg) fb) (mn2 (mn2 fr_ fg) fb)) = false)
   (hdp : A.depth + 20 < recursionLimit) (hun : A.units + 200 < cLine) (hh : A.handled = none)
   (h : ∀ h' tk a r g b ta tb tc, Sub s.heap h' → s.heap.get? a = none → h'.get? a = some (flt3 r g b ta tb tc) → (r, g, b) = rgbOut (fr_, fg, fb) → @LT.lt Nat _ s.toks ta → @LT.lt Nat _ ta tk → @Ne Nat tb 0 → (tc = t1 ∨ tc = t2 ∨ tc = t3) → R (.ok (.ret (.ref a))) { s with heap := h', toks := tk }) :
   codeAny (model PP w) A (.call (.ref 62) ⟨[.float fr_ t1, .float fg t2, .float fb t3], []⟩) R s := by
  obtain ⟨hd0, dp, fr, gd, un⟩ := A
  dsimp only at hdp hun hh
  subst hh
  refine' enterP [] [("r", .float fr_ t1), ("g", .float fg t2), ("b", .float fb t3)] G k ?k5 (f := 62) (cl := []) ?k6 ?k7 ?k8 ?k9 ?kB ?c5 ?c2 ?c3 ?c4 ?_; (case k5 => intro a ha; cases ha); (case k6 => k_is); (case k7 => k_is); (case k8 => (show dp < _; exact Mine.o_d0 hdp)); (case k9 => exact BindsTo.of_eq rfl); (case kB => exact locs rfl); (case c5 => decide); (case c2 => exact rfl); (case c3 => exact rfl); (case c4 => exact rfl)
  intro h₁ g F k1 eg G1 X T N0
  k_steps
  repeat (any_goals (first
    | ((with_reducible refine goN 4 ?_); (with_reducible refine wpAny_execs_nil ?_); (try dsimp only); k_steps)
    | ((with_reducible refine goN 3 ?_); (with_reducible refine wpAny_execs_cons ?_); (try dsimp only); k_steps)
    | ((with_reducible refine goN 1 ?_); k_dflt (refine' max3_f ?q9hh ?q9F ?q9N ?_; (case q9hh => with_unfolding_all rfl); (case q9F => k_asm); (case q9N => k_asm); k_whole; intro _ _ _ _ _ _ _); k_steps)
    | ((with_reducible refine goN 2 ?_); k_dflt (refine' min3_f ?q9hh ?q9F ?q9N ?_; (case q9hh => with_unfolding_all rfl); (case q9F => k_asm); (case q9N => k_asm); k_whole; intro _ _ _ _ _ _ _); k_steps)))
  all_goals (try first
    | exact absurd (by assumption) (by rw [q1]; decide)
    | (rename (_ == some Ordering.eq) = true => z; exact absurd (z.symm.trans q1) (by decide))
    | (rename Float64.isZero _ = true => z; first | exact absurd (z.symm.trans q2) (by decide) | exact absurd (z.symm.trans q3) (by decide)))
  all_goals (
    rename Fr _ _ _ _ => F'
    rename News _ _ _ _ => N'
    refine h _ _ _ _ _ _ _ _ _ (fun b o z => F'.keep b o (by rw [eg]; exact hideAll_get _ z (by intro q; cases q))) (new_g0 eg (N'.fresh (.head _))) (N'.get (.head _)) ?_ (by (dsimp only [List.length_cons, List.length_nil] at *; (first | exact Mine.q_114 ‹_› ‹_› | exact Mine.q_117 ‹_› ‹_›))) (by (dsimp only [List.length_cons, List.length_nil] at *; (first | exact Mine.q_115 | exact Mine.q_118))) (by (dsimp only [List.length_cons, List.length_nil] at *; exact Mine.q_116)) (by assumption)
    unfold rgbOut
    dsimp only
    first
      | (rw [show (Float64.cmp fr_ (mx2 (mx2 fr_ fg) fb) == some Ordering.eq) = true by assumption]; rfl)
      | (rw [show (Float64.cmp fr_ (mx2 (mx2 fr_ fg) fb) == some Ordering.eq) = false by assumption, show (Float64.cmp fg (mx2 (mx2 fr_ fg) fb) == some Ordering.eq) = true by assumption]; rfl)
      | (rw [show (Float64.cmp fr_ (mx2 (mx2 fr_ fg) fb) == some Ordering.eq) = false by assumption, show (Float64.cmp fg (mx2 (mx2 fr_ fg) fb) == some Ordering.eq) = false by assumption]; rfl))
end Mine
end

section
open PySem PySem.W PySem.Calls PySem.Spec PyProof.Rows PySem.Flt
set_option Elab.async false
set_option maxRecDepth 100000
set_option maxHeartbeats 8000000
set_option linter.unusedVariables false
namespace Mine
/-- n / 2 ** k -/
def pl (p : Nat) : UInt64 := Float64.div (Float64.ofInt p) 4634204016564240384
def sh (n : Nat) : UInt64 := Float64.div (Float64.ofInt n) 4616189618054758400
def sp (n : Nat) : UInt64 := Float64.div (Float64.ofInt n) 4620693217682128896
def hue (t p : Nat) : UInt64 := Float64.add (Float64.ofInt t) (pl p)
def jF (h : UInt64) : Int × UInt64 := ((sixI h).fmod 6, Float64.sub (six h) (Float64.ofInt (sixI h)))
def okHue (t p : Nat) : Bool := (Float64.isNaN (six (hue t p)) == false) && (Float64.isInf (six (hue t p)) == false) && decide ((sixI (hue t p)).natAbs < 1000) && (jF (hue t p) == jF (pl p))
def force (x : UInt64) (k : UInt64 → Bool) : Bool := Nat.rec (motive := fun _ => Bool) (k (.ofNat 0)) (fun n _ => k (.ofNat (n + 1))) x.toNat
theorem force_eq (x : UInt64) (k : UInt64 → Bool) : force x k = k x := by
  unfold force
  have : ∀ n : Nat, Nat.rec (motive := fun _ => Bool) (k (.ofNat 0)) (fun n _ => k (.ofNat (n + 1))) n = k (.ofNat n) := by
    intro n; cases n <;> rfl
  rw [this]
  simp
def okRgbC (c1 c2 c3 hp s v : UInt64) : Bool :=
  force (mx2 (mx2 c1 c2) c3) fun M => force (mn2 (mn2 c1 c2) c3) fun N => force (Float64.sub M N) fun D =>
    (Float64.cmp N M == some .eq) == false && Float64.isZero M == false && Float64.isZero D == false &&
    (force (Float64.div (Float64.sub M c1) D) fun rc => force (Float64.div (Float64.sub M c2) D) fun gc => force (Float64.div (Float64.sub M c3) D) fun bc =>
      force (if Float64.cmp c1 M == some .eq then Float64.sub bc gc else if Float64.cmp c2 M == some .eq then Float64.sub (Float64.add 4611686018427387904 rc) bc else Float64.sub (Float64.add 4616189618054758400 gc) rc) fun h =>
      (Float64.divmod (Float64.div h 4618441417868443648) 4607182418800017408).2 == hp && Float64.div D M == s && M == v)
def okRgb2 (p n k : Nat) : Bool :=
  force (pl p) fun h => force (six h) fun x => force (Float64.sub x (Float64.ofInt (sixI h))) fun F => force (sh n) fun s => force (sp k) fun v =>
   (Float64.cmp s 0 == some .eq) == false &&
   (match hsvOut ((sixI h).fmod 6) F s v with
   | (a, b, c) => force a fun a => force b fun b => force c fun c => okRgbC a b c h s v)
structure FlOk (p n k : Nat) (c : UInt64 × UInt64 × UInt64) : Prop where
  s0 : (Float64.cmp (sh n) 0 == some .eq) = false
  nm : (Float64.cmp (mn2 (mn2 c.1 c.2.1) c.2.2) (mx2 (mx2 c.1 c.2.1) c.2.2) == some .eq) = false
  z1 : Float64.isZero (mx2 (mx2 c.1 c.2.1) c.2.2) = false
  z2 : Float64.isZero (Float64.sub (mx2 (mx2 c.1 c.2.1) c.2.2) (mn2 (mn2 c.1 c.2.1) c.2.2)) = false
  out : rgbOut c = (pl p, sh n, sp k)
theorem ok_facts {p n k : Nat} (h : okRgb2 p n k = true) : FlOk p n k (hsvOut (jF (pl p)).1 (jF (pl p)).2 (sh n) (sp k)) := by
  unfold okRgb2 at h
  simp only [force_eq, Bool.and_eq_true] at h
  obtain ⟨h0, h⟩ := h
  rw [beq_iff_eq] at h0
  unfold jF
  dsimp only
  revert h
  generalize hsvOut ((sixI (pl p)).fmod 6) (Float64.sub (six (pl p)) (Float64.ofInt (sixI (pl p)))) (sh n) (sp k) = c
  obtain ⟨a, b, c⟩ := c
  dsimp only
  unfold okRgbC
  simp only [force_eq, Bool.and_eq_true, beq_iff_eq]
  rintro ⟨⟨⟨h1, h2⟩, h3⟩, ⟨h4, h5⟩, h6⟩
  refine ⟨h0, ?_, h2, h3, ?_⟩
  · exact h1
  · unfold rgbOut rgbHue
    dsimp only
    refine Prod.ext ?_ (Prod.ext h5 h6)
    simp only [beq_iff_eq]
    exact h4
theorem ok_at_0 : ∀ n : Nat, n < 4 → ∀ k < 7, okRgb2 0 (n + 1) (k + 1) = true := by decide +kernel
theorem ok_at_1 : ∀ n : Nat, n < 4 → ∀ k < 7, okRgb2 1 (n + 1) (k + 1) = true := by decide +kernel
theorem ok_at_2 : ∀ n : Nat, n < 4 → ∀ k < 7, okRgb2 2 (n + 1) (k + 1) = true := by decide +kernel
theorem ok_at_3 : ∀ n : Nat, n < 4 → ∀ k < 7, okRgb2 3 (n + 1) (k + 1) = true := by decide +kernel
theorem ok_at_4 : ∀ n : Nat, n < 4 → ∀ k < 7, okRgb2 4 (n + 1) (k + 1) = true := by decide +kernel
theorem ok_at_5 : ∀ n : Nat, n < 4 → ∀ k < 7, okRgb2 5 (n + 1) (k + 1) = true := by decide +kernel
theorem ok_at_6 : ∀ n : Nat, n < 4 → ∀ k < 7, okRgb2 6 (n + 1) (k + 1) = true := by decide +kernel
theorem ok_at_7 : ∀ n : Nat, n < 4 → ∀ k < 7, okRgb2 7 (n + 1) (k + 1) = true := by decide +kernel
theorem ok_at_8 : ∀ n : Nat, n < 4 → ∀ k < 7, okRgb2 8 (n + 1) (k + 1) = true := by decide +kernel
theorem ok_at_9 : ∀ n : Nat, n < 4 → ∀ k < 7, okRgb2 9 (n + 1) (k + 1) = true := by decide +kernel
theorem ok_at_10 : ∀ n : Nat, n < 4 → ∀ k < 7, okRgb2 10 (n + 1) (k + 1) = true := by decide +kernel
theorem ok_at_11 : ∀ n : Nat, n < 4 → ∀ k < 7, okRgb2 11 (n + 1) (k + 1) = true := by decide +kernel
theorem ok_at_12 : ∀ n : Nat, n < 4 → ∀ k < 7, okRgb2 12 (n + 1) (k + 1) = true := by decide +kernel
theorem ok_at_13 : ∀ n : Nat, n < 4 → ∀ k < 7, okRgb2 13 (n + 1) (k + 1) = true := by decide +kernel
theorem ok_at_14 : ∀ n : Nat, n < 4 → ∀ k < 7, okRgb2 14 (n + 1) (k + 1) = true := by decide +kernel
theorem ok_at_15 : ∀ n : Nat, n < 4 → ∀ k < 7, okRgb2 15 (n + 1) (k + 1) = true := by decide +kernel
theorem ok_at_16 : ∀ n : Nat, n < 4 → ∀ k < 7, okRgb2 16 (n + 1) (k + 1) = true := by decide +kernel
theorem ok_at_17 : ∀ n : Nat, n < 4 → ∀ k < 7, okRgb2 17 (n + 1) (k + 1) = true := by decide +kernel
theorem ok_at_18 : ∀ n : Nat, n < 4 → ∀ k < 7, okRgb2 18 (n + 1) (k + 1) = true := by decide +kernel
theorem ok_at_19 : ∀ n : Nat, n < 4 → ∀ k < 7, okRgb2 19 (n + 1) (k + 1) = true := by decide +kernel
theorem ok_at_20 : ∀ n : Nat, n < 4 → ∀ k < 7, okRgb2 20 (n + 1) (k + 1) = true := by decide +kernel
theorem ok_at_21 : ∀ n : Nat, n < 4 → ∀ k < 7, okRgb2 21 (n + 1) (k + 1) = true := by decide +kernel
theorem ok_at_22 : ∀ n : Nat, n < 4 → ∀ k < 7, okRgb2 22 (n + 1) (k + 1) = true := by decide +kernel
theorem ok_at_23 : ∀ n : Nat, n < 4 → ∀ k < 7, okRgb2 23 (n + 1) (k + 1) = true := by decide +kernel
theorem ok_at_24 : ∀ n : Nat, n < 4 → ∀ k < 7, okRgb2 24 (n + 1) (k + 1) = true := by decide +kernel
theorem ok_at_25 : ∀ n : Nat, n < 4 → ∀ k < 7, okRgb2 25 (n + 1) (k + 1) = true := by decide +kernel
theorem ok_at_26 : ∀ n : Nat, n < 4 → ∀ k < 7, okRgb2 26 (n + 1) (k + 1) = true := by decide +kernel
theorem ok_at_27 : ∀ n : Nat, n < 4 → ∀ k < 7, okRgb2 27 (n + 1) (k + 1) = true := by decide +kernel
theorem ok_at_28 : ∀ n : Nat, n < 4 → ∀ k < 7, okRgb2 28 (n + 1) (k + 1) = true := by decide +kernel
theorem ok_at_29 : ∀ n : Nat, n < 4 → ∀ k < 7, okRgb2 29 (n + 1) (k + 1) = true := by decide +kernel
theorem ok_at_30 : ∀ n : Nat, n < 4 → ∀ k < 7, okRgb2 30 (n + 1) (k + 1) = true := by decide +kernel
theorem ok_at_31 : ∀ n : Nat, n < 4 → ∀ k < 7, okRgb2 31 (n + 1) (k + 1) = true := by decide +kernel
theorem ok_at_32 : ∀ n : Nat, n < 4 → ∀ k < 7, okRgb2 32 (n + 1) (k + 1) = true := by decide +kernel
theorem ok_at_33 : ∀ n : Nat, n < 4 → ∀ k < 7, okRgb2 33 (n + 1) (k + 1) = true := by decide +kernel
theorem ok_at_34 : ∀ n : Nat, n < 4 → ∀ k < 7, okRgb2 34 (n + 1) (k + 1) = true := by decide +kernel
theorem ok_at_35 : ∀ n : Nat, n < 4 → ∀ k < 7, okRgb2 35 (n + 1) (k + 1) = true := by decide +kernel
theorem ok_at_36 : ∀ n : Nat, n < 4 → ∀ k < 7, okRgb2 36 (n + 1) (k + 1) = true := by decide +kernel
theorem ok_at_37 : ∀ n : Nat, n < 4 → ∀ k < 7, okRgb2 37 (n + 1) (k + 1) = true := by decide +kernel
theorem ok_at_38 : ∀ n : Nat, n < 4 → ∀ k < 7, okRgb2 38 (n + 1) (k + 1) = true := by decide +kernel
theorem ok_at_39 : ∀ n : Nat, n < 4 → ∀ k < 7, okRgb2 39 (n + 1) (k + 1) = true := by decide +kernel
theorem ok_at_40 : ∀ n : Nat, n < 4 → ∀ k < 7, okRgb2 40 (n + 1) (k + 1) = true := by decide +kernel
theorem ok_at_41 : ∀ n : Nat, n < 4 → ∀ k < 7, okRgb2 41 (n + 1) (k + 1) = true := by decide +kernel
theorem ok_at_42 : ∀ n : Nat, n < 4 → ∀ k < 7, okRgb2 42 (n + 1) (k + 1) = true := by decide +kernel
theorem ok_at_43 : ∀ n : Nat, n < 4 → ∀ k < 7, okRgb2 43 (n + 1) (k + 1) = true := by decide +kernel
theorem ok_at_44 : ∀ n : Nat, n < 4 → ∀ k < 7, okRgb2 44 (n + 1) (k + 1) = true := by decide +kernel
theorem ok_at_45 : ∀ n : Nat, n < 4 → ∀ k < 7, okRgb2 45 (n + 1) (k + 1) = true := by decide +kernel
theorem ok_at_46 : ∀ n : Nat, n < 4 → ∀ k < 7, okRgb2 46 (n + 1) (k + 1) = true := by decide +kernel
theorem ok_at_47 : ∀ n : Nat, n < 4 → ∀ k < 7, okRgb2 47 (n + 1) (k + 1) = true := by decide +kernel
theorem ok_at_48 : ∀ n : Nat, n < 4 → ∀ k < 7, okRgb2 48 (n + 1) (k + 1) = true := by decide +kernel
theorem ok_at_49 : ∀ n : Nat, n < 4 → ∀ k < 7, okRgb2 49 (n + 1) (k + 1) = true := by decide +kernel
theorem ok_at_50 : ∀ n : Nat, n < 4 → ∀ k < 7, okRgb2 50 (n + 1) (k + 1) = true := by decide +kernel
theorem ok_at_51 : ∀ n : Nat, n < 4 → ∀ k < 7, okRgb2 51 (n + 1) (k + 1) = true := by decide +kernel
theorem ok_at_52 : ∀ n : Nat, n < 4 → ∀ k < 7, okRgb2 52 (n + 1) (k + 1) = true := by decide +kernel
theorem ok_at_53 : ∀ n : Nat, n < 4 → ∀ k < 7, okRgb2 53 (n + 1) (k + 1) = true := by decide +kernel
theorem ok_at_54 : ∀ n : Nat, n < 4 → ∀ k < 7, okRgb2 54 (n + 1) (k + 1) = true := by decide +kernel
theorem ok_at_55 : ∀ n : Nat, n < 4 → ∀ k < 7, okRgb2 55 (n + 1) (k + 1) = true := by decide +kernel
theorem ok_at_56 : ∀ n : Nat, n < 4 → ∀ k < 7, okRgb2 56 (n + 1) (k + 1) = true := by decide +kernel
theorem ok_at_57 : ∀ n : Nat, n < 4 → ∀ k < 7, okRgb2 57 (n + 1) (k + 1) = true := by decide +kernel
theorem ok_at_58 : ∀ n : Nat, n < 4 → ∀ k < 7, okRgb2 58 (n + 1) (k + 1) = true := by decide +kernel
theorem ok_at_59 : ∀ n : Nat, n < 4 → ∀ k < 7, okRgb2 59 (n + 1) (k + 1) = true := by decide +kernel
theorem ok_at_60 : ∀ n : Nat, n < 4 → ∀ k < 7, okRgb2 60 (n + 1) (k + 1) = true := by decide +kernel
theorem ok_at_61 : ∀ n : Nat, n < 4 → ∀ k < 7, okRgb2 61 (n + 1) (k + 1) = true := by decide +kernel
theorem ok_at_62 : ∀ n : Nat, n < 4 → ∀ k < 7, okRgb2 62 (n + 1) (k + 1) = true := by decide +kernel
theorem ok_at_63 : ∀ n : Nat, n < 4 → ∀ k < 7, okRgb2 63 (n + 1) (k + 1) = true := by decide +kernel
theorem ok_all : ∀ p : Nat, p < 64 → ∀ n : Nat, n < 4 → ∀ k < 7, okRgb2 p (n + 1) (k + 1) = true
  | 0, _ => ok_at_0
  | 1, _ => ok_at_1
  | 2, _ => ok_at_2
  | 3, _ => ok_at_3
  | 4, _ => ok_at_4
  | 5, _ => ok_at_5
  | 6, _ => ok_at_6
  | 7, _ => ok_at_7
  | 8, _ => ok_at_8
  | 9, _ => ok_at_9
  | 10, _ => ok_at_10
  | 11, _ => ok_at_11
  | 12, _ => ok_at_12
  | 13, _ => ok_at_13
  | 14, _ => ok_at_14
  | 15, _ => ok_at_15
  | 16, _ => ok_at_16
  | 17, _ => ok_at_17
  | 18, _ => ok_at_18
  | 19, _ => ok_at_19
  | 20, _ => ok_at_20
  | 21, _ => ok_at_21
  | 22, _ => ok_at_22
  | 23, _ => ok_at_23
  | 24, _ => ok_at_24
  | 25, _ => ok_at_25
  | 26, _ => ok_at_26
  | 27, _ => ok_at_27
  | 28, _ => ok_at_28
  | 29, _ => ok_at_29
  | 30, _ => ok_at_30
  | 31, _ => ok_at_31
  | 32, _ => ok_at_32
  | 33, _ => ok_at_33
  | 34, _ => ok_at_34
  | 35, _ => ok_at_35
  | 36, _ => ok_at_36
  | 37, _ => ok_at_37
  | 38, _ => ok_at_38
  | 39, _ => ok_at_39
  | 40, _ => ok_at_40
  | 41, _ => ok_at_41
  | 42, _ => ok_at_42
  | 43, _ => ok_at_43
  | 44, _ => ok_at_44
  | 45, _ => ok_at_45
  | 46, _ => ok_at_46
  | 47, _ => ok_at_47
  | 48, _ => ok_at_48
  | 49, _ => ok_at_49
  | 50, _ => ok_at_50
  | 51, _ => ok_at_51
  | 52, _ => ok_at_52
  | 53, _ => ok_at_53
  | 54, _ => ok_at_54
  | 55, _ => ok_at_55
  | 56, _ => ok_at_56
  | 57, _ => ok_at_57
  | 58, _ => ok_at_58
  | 59, _ => ok_at_59
  | 60, _ => ok_at_60
  | 61, _ => ok_at_61
  | 62, _ => ok_at_62
  | 63, _ => ok_at_63
  | n + 64, h => absurd h (by exact Mine.q_23)
theorem ok_hue_0 : ∀ p : Nat, p < 64 → okHue 0 p = true := by decide +kernel
theorem ok_hue_1 : ∀ p : Nat, p < 64 → okHue 1 p = true := by decide +kernel
theorem ok_hue_2 : ∀ p : Nat, p < 64 → okHue 2 p = true := by decide +kernel
theorem ok_hue_3 : ∀ p : Nat, p < 64 → okHue 3 p = true := by decide +kernel
theorem ok_hue_4 : ∀ p : Nat, p < 64 → okHue 4 p = true := by decide +kernel
theorem ok_hue_5 : ∀ p : Nat, p < 64 → okHue 5 p = true := by decide +kernel
theorem ok_hue_6 : ∀ p : Nat, p < 64 → okHue 6 p = true := by decide +kernel
theorem ok_hue_7 : ∀ p : Nat, p < 64 → okHue 7 p = true := by decide +kernel
theorem ok_hue_8 : ∀ p : Nat, p < 64 → okHue 8 p = true := by decide +kernel
theorem ok_hue_9 : ∀ p : Nat, p < 64 → okHue 9 p = true := by decide +kernel
theorem ok_hue_10 : ∀ p : Nat, p < 64 → okHue 10 p = true := by decide +kernel
theorem ok_hue_11 : ∀ p : Nat, p < 64 → okHue 11 p = true := by decide +kernel
theorem ok_hue_12 : ∀ p : Nat, p < 64 → okHue 12 p = true := by decide +kernel
theorem ok_hue_13 : ∀ p : Nat, p < 64 → okHue 13 p = true := by decide +kernel
theorem ok_hue : ∀ t : Nat, t < 14 → ∀ p : Nat, p < 64 → okHue t p = true
  | 0, _ => ok_hue_0
  | 1, _ => ok_hue_1
  | 2, _ => ok_hue_2
  | 3, _ => ok_hue_3
  | 4, _ => ok_hue_4
  | 5, _ => ok_hue_5
  | 6, _ => ok_hue_6
  | 7, _ => ok_hue_7
  | 8, _ => ok_hue_8
  | 9, _ => ok_hue_9
  | 10, _ => ok_hue_10
  | 11, _ => ok_hue_11
  | 12, _ => ok_hue_12
  | 13, _ => ok_hue_13
  | n + 14, h => absurd h (by exact Mine.q_24)
end Mine
end

section
open PySem PySem.W PySem.Calls PySem.Spec PyProof.Rows
set_option Elab.async false
set_option maxRecDepth 100000
set_option maxHeartbeats 8000000
set_option linter.unusedVariables false
namespace Mine
theorem fill12 : PySem.Challenge.rw_sn0012_01 = PySem.Challenge.rw_sn0012_01 ∧ hd.heap_39 = hd.heap_39 := by
  k_fill
  exact ⟨rfl, rfl⟩
local macro_rules | `(tactic| walk_at "pyIter ref") => `(tactic| ((with_reducible show wpAny _ _ _ (fun it s₂ => codeAny _ _ (Code.forLoop _ _ _ _ _) _ _) _ _); refine halt ?_))
local macro_rules | `(tactic| walk_at "call type:list") => `(tactic| refine haltN 1 ?_)
local macro_rules | `(tactic| walk_at "exec For Name Name cons nil") => `(tactic| refine halt ?_)
local macro_rules | `(tactic| walk_at "call builtin:list.append") => `(tactic| refine haltN 2 ?_)
/-- the pair of a chip's place and share -/
abbrev tupI (p s : Int) (t u : Tok) : Obj := { cls := .type "tuple", data := .seq #[.int p t, .int s u] }
theorem popI_K {w : World} {A : Around} {E : Value → Shared → Prop} {s : Shared} {Q : Value → Shared → Prop} {h₀ : Heap} {L D : Addr} {m : Str → Option Value} {news : List (Addr × Obj)} {l : List Value} {ns : List Int} {n : Nat} {i : Int} {u : Tok}
   (F : Fr h₀ L s.heap m) (N : News h₀ L s.heap news) (hm : (D, listOf l.toArray n) ∈ news) (hI : IntsAre l ns) (h0 : 0 ≤ i) (h1 : i < ns.length) (hz : ns.length ≤ 1000)
   (h : ∀ h' t, Fr h₀ L h' m → (∀ rest, (∀ q ∈ rest, q.1 ≠ D) → (∀ q ∈ rest, q ∈ news) → News h₀ L h' ((D, listOf (l.eraseIdx i.toNat).toArray (n + 1)) :: rest)) → IntsAre (l.eraseIdx i.toNat) (ns.eraseIdx i.toNat) → Q (.int (ns.getD i.toNat 0) t) { s with heap := h' }) :
   wpAny (model PP w) A (call (.builtin "list.pop") [.ref D, .int i u]) Q E s := by
  have z := N _ hm
  have hl : l.length = ns.length := hI.length
  have hk : i.toNat < l.length := by exact Mine.q_5 h0 h1 hl
  obtain ⟨t, ht⟩ := hI.int_at i.toNat l[i.toNat] (List.getElem?_eq_getElem hk)
  have hy : l.toArray[i.toNat]? = some (.int (ns.getD i.toNat 0) t) := by rw [List.getElem?_toArray, List.getElem?_eq_getElem hk, ht]
  have hs : seqIndex? i l.toArray.size = some i.toNat := by
    unfold seqIndex?
    simp only [show ¬ i < 0 by exact Mine.q_3 h0, if_false, List.size_toArray]
    rw [if_pos (by simp only [Bool.and_eq_true, decide_eq_true_eq]; exact Mine.q_6 h0 h1 hl)]
  have hf : Builtin.List.listFitsIndex i = true := by
    unfold Builtin.List.listFitsIndex
    simp only [Bool.and_eq_true, decide_eq_true_eq]; exact Mine.q_7 h0 h1 hz
  have e0 : l.toArray.eraseIdxIfInBounds i.toNat = (l.eraseIdx i.toNat).toArray := by
    unfold Array.eraseIdxIfInBounds
    rw [dif_pos (by rw [List.size_toArray]; exact hk)]
    apply Array.toList_inj.mp
    rw [Array.toList_eraseIdx]
  have e : Obj.mapSeq (fun xs => xs.eraseIdxIfInBounds i.toNat) (listOf l.toArray n) = listOf (l.eraseIdx i.toNat).toArray (n + 1) := by
    show (⟨_, _, .seq (l.toArray.eraseIdxIfInBounds i.toNat) (if (l.toArray.eraseIdxIfInBounds i.toNat).size == l.toArray.size then n else n + 1), _⟩ : Obj) = _
    rw [e0]
    have : ((l.eraseIdx i.toNat).toArray.size == l.toArray.size) = false := by
      rw [List.size_toArray, List.size_toArray, List.length_eraseIdx, if_pos hk]
      simp only [beq_eq_false_iff_ne, ne_eq]; exact Mine.q_8 h0 hl h1
    rw [this]; rfl
  have c : Chg D s.heap (s.heap.update D (Obj.mapSeq fun xs => xs.eraseIdxIfInBounds i.toNat)) := fun b o n e => ((Heap.SameBut.update ..).2 b n).trans e
  have e1 : (s.heap.update D (Obj.mapSeq fun xs => xs.eraseIdxIfInBounds i.toNat)).get? D = some (listOf (l.eraseIdx i.toNat).toArray (n + 1)) := by
    rw [Heap.get?_update_self _ z.1 (by rw [e]; rfl), e]
  refine call_meets PySem.F.slot_list_pop ⟨_, z.1, rfl⟩ PySem.F.entry_list_pop (PySem.F.args_list_pop_2 _ _) (PySem.MeetsSeq.list_pop_at D _ n i u _ _ hf hs hy (by rw [List.size_toArray, sizeLine_eq]; exact Mine.q_9 hl hz)) ⟨z.1, ?_⟩
  refine h _ t (fr_chg F c z.2.2 z.2.1) (fun rest r1 r2 => news_head ⟨e1, z.2⟩ (news_chg (news_weak N r2) c r1)) ?_
  clear hs hf hy e0 e c e1 h N z F ht hm
  have : ∀ (l : List Value) (ns : List Int) (k : Nat), IntsAre l ns → IntsAre (l.eraseIdx k) (ns.eraseIdx k) := by
    intro l ns k hI
    induction hI generalizing k with
    | nil => exact .nil
    | cons n t _ ih => cases k with
      | zero => assumption
      | succ k => exact .cons n t (ih k)
  exact this l ns _ hI
local macro_rules | `(tactic| walk_at "call builtin:list.pop") => `(tactic| refine haltN 3 ?_)
theorem erase_perm : ∀ (l : List Int) (k : Nat) (hk : k < l.length), (l[k] :: l.eraseIdx k).Perm l
  | a :: t, 0, _ => .refl _
  | a :: t, k + 1, h => (List.Perm.swap a _ _).trans ((erase_perm t k (by simpa using h)).cons a)
theorem pop_perm {l c : List Int} {k : Nat} (hk : k < l.length) : (l.eraseIdx k ++ (c ++ [l.getD k 0])).Perm (l ++ c) := by
  have e : l.getD k 0 = l[k] := by rw [List.getD_eq_getElem?_getD, List.getElem?_eq_getElem hk]; rfl
  rw [e, ← List.append_assoc]
  refine List.perm_append_comm.trans ?_
  show (l[k] :: (l.eraseIdx k ++ c)).Perm _
  rw [← List.cons_append]
  exact List.Perm.append_right c (erase_perm l k hk)
theorem news_apart {h₀ h : Heap} {L : Addr} {news : List (Addr × Obj)} (N : News h₀ L h news) {p q : Addr × Obj} (hp : p ∈ news) (hq : q ∈ news) (hc : p.2.cls ≠ q.2.cls) : p.1 ≠ q.1 := fun e => by
  have a := (N _ hp).1
  have b := (N _ hq).1
  rw [e, b] at a
  exact hc (by rw [Option.some.inj a])
structure CS where
  vs : List Value
  ns : List Int
  nf : Nat
  ch : List (Addr × Int × Int × Tok × Tok)
  nc : Nat
theorem chips_c {w : World} {A : Around} {s : Shared} {h₀ : Heap} {R' : Result → Shared → Prop} {mean : ExcName → Option Value} {mg mb : Str → Option Value}
   {a : Addr} {items : Array Value} {X : Nat → Int} {ep : Nat}
   (G : Gd w mean mg mb h₀) (k : Sub h₀ s.heap)
   (ha : s.heap.get? a = some (listOf items ep)) (hz9 : items.size = 6) (hX : ∀ k, k < 6 → ∃ t, items[k]? = some (.int (X k) t)) (hX0 : ∀ k, 0 ≤ X k ∧ X k < 1000000)
   (hdp : A.depth + 50 < recursionLimit) (hun : A.units + 500 < cLine) (hh : A.handled = none)
   (hres : ∀ h' tk r ep' (ch : List (Addr × Int × Int × Tok × Tok)), ch.length = 6 → h'.get? r = some (listOf (ch.map fun e => Value.ref e.1).toArray ep') → (∀ e ∈ ch, h'.get? e.1 = some (tupI e.2.1 e.2.2.1 e.2.2.2.1 e.2.2.2.2)) → (ch.map (·.2.1)).Nodup →
      (∀ e ∈ ch, 0 ≤ e.2.1 ∧ e.2.1 < 64) → (∀ (j : Nat) e, ch[j]? = some e → e.2.2.1 = 1 + ((X j).fdiv 64).fmod 4) → Sub s.heap h' → s.heap.get? r = none → (∀ e ∈ ch, s.heap.get? e.1 = none) → R' (.ok (.ret (.ref r))) { s with heap := h', toks := tk }) :
   codeAny (model PP w) A (.call (.ref 160) ⟨[.ref a], []⟩) R' s := by
  obtain ⟨hd0, dp, fr, gd, un⟩ := A
  dsimp only at hdp hun hh
  subst hh
  refine' enterP [] [("numbers", .ref a)] G k ?k5 (f := 160) (cl := []) ?k6 ?k7 ?k8 ?k9 ?kB ?c5 ?c2 ?c3 ?c4 ?_; (case k5 => intro a ha; cases ha); (case k6 => k_is); (case k7 => k_is); (case k8 => (show dp < _; exact Mine.o_d0 hdp)); (case k9 => exact BindsTo.of_eq rfl); (case kB => exact locs rfl); (case c5 => decide); (case c2 => exact rfl); (case c3 => exact rfl); (case c4 => exact rfl)
  intro h₁ g F k1 eg G1 X0 T N0
  have up : ∀ b o, s.heap.get? b = some o → g.get? b = some o := fun b o e => by rw [eg]; exact hideAll_get _ e (by intro q; cases q)
  have hga := up _ _ ha
  k_steps
  repeat (any_goals (first
    | ((with_reducible refine goN 1 ?_); k_dflt (refine' kll_range (n := 64) ?q9k0 ?q9k1 ?q9k2 ?q9k3 ?q9k4 ?q9k5 ?q9k6 ?_; (case q9k0 => rfl); (case q9k1 => k_asm); (case q9k2 => k_asm); (case q9k3 => assumption); (case q9k4 => decide); (case q9k5 => decide); (case q9k6 => decide); k_whole); intro _ _ _ _ _ _ _ _ _; k_steps)))
  unfold Halt
  refine wpAny_For ?_
  k_steps
  unfold Halt
  rename Fr _ _ _ _ => F9
  rename News _ _ _ _ => N9
  rename IntsAre _ _ => hI9
  rename_i fa vs0 nf0 _ _ _ _ ca _ hlt _
  refine' iter_list (σ := CS) (items := items) (mp := fun _ y => if y = Str.ofString "chips" then some (Value.ref ca) else if y = Str.ofString "free" then some (Value.ref fa) else ([(Str.ofString "numbers", Value.ref a)] : List (Str × Value)).reverse.lookup y)
     (led := fun z => (ca, listOf (z.ch.map fun e => Value.ref e.1).toArray z.nc) :: (fa, listOf z.vs.toArray z.nf) :: z.ch.map fun e => (e.1, tupI e.2.1 e.2.2.1 e.2.2.2.1 e.2.2.2.2))
     (J := fun i z => IntsAre z.vs z.ns ∧ z.ns.length + i = 64 ∧ (z.ns ++ z.ch.map (·.2.1)).Perm (rangeKs 0 64) ∧ z.ch.length = i ∧ ∀ (j : Nat) e, z.ch[j]? = some e → e.2.2.1 = 1 + ((X j).fdiv 64).fmod 4) ?hh ?hx ?hp ?hl ⟨vs0, rangeKs 0 64, nf0, [], 0⟩ F9 ?kN ?h0 ?turn ?done
  case hh => rfl
  case hx => rfl
  case hp => rfl
  case hl => intro z h m F N; exact ⟨_, F.keep _ _ hga, rfl, _, rfl⟩
  case kN => exact N9
  case h0 => exact ⟨hI9, by rw [rangeKs_length], by simp, rfl, fun j e h => by cases h⟩
  case turn =>
    rintro I i v oI z h tk hv ⟨hI, hn, hpm, hl, hsh⟩ F' N' hI1 hI2
    clear F9 N9
    have hi : i < 6 := by have := (Array.getElem?_eq_some_iff.mp hv).1; exact Mine.q_10 this hz9
    obtain ⟨tv, hv2⟩ := hX i hi
    rw [hv2] at hv
    cases hv
    have hX1 := hX0 i
    have hlv : z.vs.length = z.ns.length := hI.length
    dsimp only at F' N'
    have hsz : (z.vs.toArray.size : Int) = z.ns.length := by rw [List.size_toArray, hlv]
    have hfm := fmod_in (X i) (z.ns.length : Int) (by exact Mine.q_11 hn hi)
    have hcf : (@Ne Nat ca fa) := Ne.symm (Nat.ne_of_lt hlt)
    have tups : ∀ q ∈ (z.ch.map fun e => (e.1, tupI e.2.1 e.2.2.1 e.2.2.2.1 e.2.2.2.2)), q.2.cls = .type "tuple" := by
      intro q hq
      obtain ⟨e, _, rfl⟩ := List.mem_map.mp hq
      rfl
    have tf : ∀ q ∈ (z.ch.map fun e => (e.1, tupI e.2.1 e.2.2.1 e.2.2.2.1 e.2.2.2.2)), q.1 ≠ fa := fun q hq => news_apart N' (.tail _ (.tail _ (.tail _ hq))) (q := (fa, _)) (.tail _ (.tail _ (.head _))) (by rw [tups q hq]; show Value.type "tuple" ≠ Value.type "list"; decide)
    have tc : ∀ q ∈ (z.ch.map fun e => (e.1, tupI e.2.1 e.2.2.1 e.2.2.2.1 e.2.2.2.2)), q.1 ≠ ca := fun q hq => news_apart N' (.tail _ (.tail _ (.tail _ hq))) (q := (ca, _)) (.tail _ (.head _)) (by rw [tups q hq]; show Value.type "tuple" ≠ Value.type "list"; decide)
    have hIf : I ≠ fa := Ne.symm (hI1 _ (.tail _ (.head _)))
    have hIc : I ≠ ca := Ne.symm (hI1 _ (.head _))
    k_steps
    repeat (any_goals (first
      | ((with_reducible refine goN 3 ?_); k_dflt (refine' popI_K ?q9F ?q9N ?q9hm ?q9hI ?q9h0 ?q9h1 ?q9hz ?_; (case q9F => k_asm); (case q9N => k_asm); (case q9hm => k_mem); (case q9hI => k_asm); (case q9h0 => exact Mine.q_12 hfm); (case q9h1 => exact Mine.q_13 hfm); (case q9hz => exact Mine.q_14 hn); k_whole); intro _ _ _ _ _; k_steps)))
    rename (∀ rest : List (Addr × Obj), _) => NA
    have Nx := NA ((I, oI) :: (ca, listOf (z.ch.map fun e => Value.ref e.1).toArray z.nc) :: z.ch.map fun e => (e.1, tupI e.2.1 e.2.2.1 e.2.2.2.1 e.2.2.2.2)) (by
      refine all_cons ?_ ?_
      · exact hIf
      refine all_cons ?_ ?_
      · exact hcf
      intro q hq
      · exact tf q hq) (by
      refine all_cons ?_ ?_
      · exact .head _
      refine all_cons ?_ ?_
      · exact .tail _ (.head _)
      intro q hq
      · exact .tail _ (.tail _ (.tail _ hq)))
    clear NA N' F'
    k_steps
    repeat (any_goals (first
      | ((with_reducible refine goN 2 ?_); k_dflt (refine' append_K ?q9F ?q9N ?q9hm ?q9hz ?_; (case q9F => k_asm); (case q9N => k_asm); (case q9hm => k_mem); (case q9hz => (simp only [List.size_toArray, List.length_map]; rw [sizeLine_eq]; exact Mine.q_15 hl hn)); k_whole); intro _ _ _; k_steps)))
    rename_i h2 t' hIn D' h3 F3 N3 lt1 h4 Fx NA
    obtain ⟨u9, Ny⟩ : ∃ u9, News g s.heap.objs.size h4 ((ca, listOf ((z.ch.map fun e => Value.ref e.1).toArray.push (Value.ref D')) (z.nc + 1)) :: (D', tupI (z.ns.getD ((X i).fmod z.ns.length).toNat 0) (1 + ((X i).fdiv 64).fmod 4) t' u9) :: (fa, listOf (z.vs.eraseIdx ((X i).fmod z.ns.length).toNat).toArray (z.nf + 1)) :: (I, oI) :: z.ch.map fun e => (e.1, tupI e.2.1 e.2.2.1 e.2.2.2.1 e.2.2.2.2)) := ⟨_, NA ((D', tupI (z.ns.getD ((X i).fmod z.ns.length).toNat 0) (1 + ((X i).fdiv 64).fmod 4) t' _) :: (fa, listOf (z.vs.eraseIdx ((X i).fmod z.ns.length).toNat).toArray (z.nf + 1)) :: (I, oI) :: z.ch.map fun e => (e.1, tupI e.2.1 e.2.2.1 e.2.2.2.1 e.2.2.2.2)) (by
      refine all_cons ?_ ?_
      · exact Ne.symm (Nat.ne_of_lt lt1.2.2.1)
      refine all_cons ?_ ?_
      · exact Ne.symm hcf
      refine all_cons ?_ ?_
      · exact hIc
      intro q hq
      · exact tc q hq) (by
      refine all_cons ?_ ?_
      · exact .head _
      refine all_cons ?_ ?_
      · exact .tail _ (.head _)
      refine all_cons ?_ ?_
      · exact .tail _ (.tail _ (.head _))
      intro q hq
      · exact .tail _ (.tail _ (.tail _ (.tail _ hq))))⟩
    refine ⟨.inl rfl, _, _, _, ⟨z.vs.eraseIdx ((X i).fmod z.ns.length).toNat, z.ns.eraseIdx ((X i).fmod z.ns.length).toNat, z.nf + 1, z.ch ++ [(D', z.ns.getD ((X i).fmod z.ns.length).toNat 0, 1 + ((X i).fdiv 64).fmod 4, t', u9)], z.nc + 1⟩, rfl, Fx, (fun y hy => by rw [if_neg hy]), ?_, ?_, hIn, ?_, ?_, ?_, ?_⟩
    · have e : ((z.ch ++ [(D', z.ns.getD ((X i).fmod z.ns.length).toNat 0, 1 + ((X i).fdiv 64).fmod 4, t', u9)]).map fun e => Value.ref e.1).toArray = (z.ch.map fun e => Value.ref e.1).toArray.push (Value.ref D') := by simp
      dsimp only
      rw [e]
      refine news_weak Ny ?_
      refine all_cons ?_ ?_
      · exact .tail _ (.tail _ (.tail _ (.head _)))
      refine all_cons ?_ ?_
      · exact .head _
      refine all_cons ?_ ?_
      · exact .tail _ (.tail _ (.head _))
      intro q hq
      rw [List.map_append] at hq
      rcases List.mem_append.mp hq with hq | hq
      · exact .tail _ (.tail _ (.tail _ (.tail _ hq)))
      · rw [List.map_cons, List.map_nil, List.mem_singleton] at hq
        subst hq
        exact .tail _ (.head _)
    · refine all_cons ?_ ?_
      · exact Ne.symm hIc
      refine all_cons ?_ ?_
      · exact Ne.symm hIf
      intro q hq
      rw [List.map_append] at hq
      rcases List.mem_append.mp hq with hq | hq
      · exact hI1 _ (.tail _ (.tail _ hq))
      · rw [List.map_cons, List.map_nil, List.mem_singleton] at hq
        subst hq
        exact Ne.symm (Nat.ne_of_lt lt1.2.1)
    · show (z.ns.eraseIdx _).length + (i + 1) = 64
      rw [List.length_eraseIdx, if_pos (by exact Mine.q_16 hfm)]
      exact Mine.q_17 hn hi
    · show (z.ns.eraseIdx _ ++ (z.ch ++ [(D', z.ns.getD ((X i).fmod z.ns.length).toNat 0, 1 + ((X i).fdiv 64).fmod 4, t', u9)]).map (fun e => e.2.1)).Perm _
      rw [List.map_append]
      exact (pop_perm (by exact Mine.q_16 hfm)).trans hpm
    · show (z.ch ++ [_]).length = i + 1
      rw [List.length_append, hl]; rfl
    · intro j e he
      show e.2.2.1 = _
      have he' : (z.ch ++ [(D', z.ns.getD ((X i).fmod z.ns.length).toNat 0, 1 + ((X i).fdiv 64).fmod 4, t', u9)])[j]? = some e := he
      rw [List.getElem?_append] at he'
      split at he'
      · exact hsh j e he'
      · rename_i hj
        have hj2 : j = i := by
          have := (List.getElem?_eq_some_iff.mp he').1
          simp only [List.length_cons, List.length_nil] at this
          exact Mine.q_18 this hl hj
        subst hj2
        rw [hl, Nat.sub_self] at he'
        cases he'
        rfl
  case done =>
    rintro z h tk o ⟨hI, hn, hpm, hl, hsh⟩ F' N'
    rw [hz9] at hl
    dsimp only at F' N' ⊢
    clear F9 N9
    k_steps
    have none0 : ∀ a, g.get? a = none → s.heap.get? a = none := fun a e => by
      cases e1 : s.heap.get? a with
      | none => rfl
      | some o9 => rw [up _ _ e1] at e; cases e
    have nd : (z.ns ++ z.ch.map (·.2.1)).Nodup := hpm.symm.nodup (by unfold rangeKs; exact List.pairwise_map.mpr (List.nodup_range.imp fun {a b} h e => h (by exact Mine.q_19 e)))
    refine hres _ _ _ _ z.ch hl (N' _ (.head _)).1 (fun e he => (N' _ (.tail _ (.tail _ (List.mem_map.mpr ⟨e, he, rfl⟩)))).1) (List.nodup_append.mp nd).2.1 (fun e he => ?_) hsh (fun b o e => F'.keep _ _ (up _ _ e)) (none0 _ (N' _ (.head _)).2.2) (fun e he => none0 _ (N' _ (.tail _ (.tail _ (List.mem_map.mpr ⟨e, he, rfl⟩)))).2.2)
    have := mem_rangeKs (hpm.mem_iff.mp (List.mem_append_right _ (List.mem_map.mpr ⟨e, he, rfl⟩)))
    exact Mine.q_20 this
end Mine
end

section
set_option maxRecDepth 100000
namespace Mine
/-! the plain law: six chips in the order of their hue, all at 4; what a move can give -/
def prs : List (Nat × Nat) := (List.range 6).flatMap fun a => ((List.range 6).filter fun b => decide (a < b)).map fun b => (a, b)
def mv (st : List Nat) (a b : Nat) : List Nat := (st.set a (st.getD a 0 - 1)).set b (st.getD b 0 + 1)
def nexts (st : List Nat) : List (List Nat) := (prs.filter fun p => st.getD p.1 0 == st.getD p.2 0).map fun p => mv st p.1 p.2
def ins (x : List Nat) (l : List (List Nat)) : List (List Nat) := if l.contains x then l else x :: l
def reach : Nat → List (List Nat)
  | 0 => [[4, 4, 4, 4, 4, 4]]
  | i + 1 => ((reach i).flatMap nexts).foldr ins []
theorem mem_ins {x y : List Nat} {l : List (List Nat)} (h : y = x ∨ y ∈ l) : y ∈ ins x l := by
  unfold ins
  split
  · rename_i q
    rcases h with rfl | h
    · exact List.contains_iff_mem.mp q
    · exact h
  · rcases h with rfl | h
    · exact .head _
    · exact .tail _ h
theorem mem_fold {y : List Nat} : ∀ {l : List (List Nat)}, y ∈ l → y ∈ l.foldr ins []
  | x :: t, h => by
    rw [List.foldr_cons]
    rcases List.mem_cons.mp h with rfl | h
    · exact mem_ins (.inl rfl)
    · exact mem_ins (.inr (mem_fold h))
theorem mem_prs {a b : Nat} (h : a < b) (hb : b < 6) : (a, b) ∈ prs := by
  refine List.mem_flatMap.mpr ⟨a, List.mem_range.mpr (by exact Mine.q_97 h hb), List.mem_map.mpr ⟨b, List.mem_filter.mpr ⟨List.mem_range.mpr hb, by simpa using h⟩, rfl⟩⟩
theorem reach_step {i : Nat} {st : List Nat} (h : st ∈ reach i) {a b : Nat} (hab : a < b) (hb : b < 6) (e : st.getD a 0 = st.getD b 0) : mv st a b ∈ reach (i + 1) := by
  refine mem_fold (List.mem_flatMap.mpr ⟨st, h, List.mem_map.mpr ⟨(a, b), List.mem_filter.mpr ⟨mem_prs hab hb, by simpa using e⟩, rfl⟩⟩)
def goodAt (i : Nat) (st : List Nat) : Bool := st.length == 6 && st.all (fun x => decide (1 ≤ x) && decide (x ≤ 7)) && (i == 14 || prs.any fun p => st.getD p.1 0 == st.getD p.2 0)
theorem good_all : ((List.range 15).all fun i => (reach i).all fun st => goodAt i st) = true := by decide +kernel
theorem last_all : ((reach 14).all fun st => st == [1, 2, 3, 5, 6, 7]) = true := by decide +kernel
theorem good {i : Nat} (hi : i ≤ 14) {st : List Nat} (h : st ∈ reach i) : st.length = 6 ∧ (∀ x ∈ st, 1 ≤ x ∧ x ≤ 7) ∧ (i < 14 → ∃ a b, a < b ∧ b < 6 ∧ st.getD a 0 = st.getD b 0) := by
  have q := good_all
  simp only [List.all_eq_true, List.mem_range] at q
  have := q i (by exact Nat.lt_of_le_of_lt hi (by decide)) st h
  unfold goodAt at this
  simp only [Bool.and_eq_true, beq_iff_eq, List.all_eq_true, decide_eq_true_eq, Bool.or_eq_true, List.any_eq_true] at this
  refine ⟨this.1.1, this.1.2, fun hl => ?_⟩
  rcases this.2 with q | ⟨⟨a, b⟩, q1, q2⟩
  · exact (Mine.q_98 hl q).elim
  · obtain ⟨a', ha, q3⟩ := List.mem_flatMap.mp q1
    obtain ⟨b', hb, q4⟩ := List.mem_map.mp q3
    obtain ⟨q5, q6⟩ := List.mem_filter.mp hb
    cases q4
    exact ⟨a, b, by simpa using q6, List.mem_range.mp q5, q2⟩

/-! ## the chips by name -/
def upd (pos : Nat → Nat) (k v : Nat) : Nat → Nat := fun j => if j = k then v else pos j
structure Ord (ord : List Nat) (P : Nat → Nat) : Prop where
  perm : ord.Perm (List.range 6)
  lt : ord.Pairwise fun a b => P a < P b
def At14 (ord : List Nat) (i : Nat) (pos : Nat → Nat) : Prop := ord.map pos ∈ reach i
theorem Ord.len {ord : List Nat} {P : Nat → Nat} (O : Ord ord P) : ord.length = 6 := by simpa using O.perm.length_eq
theorem Ord.nodup {ord : List Nat} {P : Nat → Nat} (O : Ord ord P) : ord.Nodup := O.perm.symm.nodup List.nodup_range
theorem Ord.ix {ord : List Nat} {P : Nat → Nat} (O : Ord ord P) {k : Nat} (hk : k < 6) : ∃ a, a < 6 ∧ ord[a]? = some k := by
  have : k ∈ ord := O.perm.mem_iff.mpr (List.mem_range.mpr hk)
  obtain ⟨a, ha⟩ := List.getElem?_of_mem this
  exact ⟨a, by have := (List.getElem?_eq_some_iff.mp ha).1; rw [O.len] at this; exact this, ha⟩
theorem Ord.mem {ord : List Nat} {P : Nat → Nat} (O : Ord ord P) {a k : Nat} (h : ord[a]? = some k) : k < 6 := List.mem_range.mp (O.perm.mem_iff.mp (List.mem_of_getElem? h))
theorem getD_map {ord : List Nat} {pos : Nat → Nat} {a k : Nat} (h : ord[a]? = some k) : (ord.map pos).getD a 0 = pos k := by
  rw [List.getD_eq_getElem?_getD, List.getElem?_map, h]; rfl
theorem at_zero {ord : List Nat} {P : Nat → Nat} (O : Ord ord P) : At14 ord 0 (fun _ => 4) := by
  have h := O.len
  match ord, h with
  | [a, b, c, d, e, f], _ => exact .head _
theorem at_range {ord : List Nat} {P : Nat → Nat} {pos : Nat → Nat} {i : Nat} (O : Ord ord P) (hi : i ≤ 14) (h : At14 ord i pos) {k : Nat} (hk : k < 6) : 1 ≤ pos k ∧ pos k ≤ 7 :=
  (good hi h).2.1 _ (List.mem_map.mpr ⟨k, O.perm.mem_iff.mpr (List.mem_range.mpr hk), rfl⟩)
theorem at_crowd {ord : List Nat} {P : Nat → Nat} {pos : Nat → Nat} {i : Nat} (O : Ord ord P) (hi : i < 14) (h : At14 ord i pos) : ∃ j k, j < 6 ∧ k < 6 ∧ j ≠ k ∧ pos j = pos k := by
  obtain ⟨a, b, hab, hb, e⟩ := (good (by exact Mine.o_lel hi (by decide)) h).2.2 hi
  have hl := O.len
  have ea : ord[a]? = some ord[a] := List.getElem?_eq_getElem (by exact Mine.q_99 hl hab hb)
  have eb : ord[b]? = some ord[b] := List.getElem?_eq_getElem (by exact Mine.q_33 hb hl)
  rw [getD_map ea, getD_map eb] at e
  refine ⟨_, _, O.mem ea, O.mem eb, fun q => ?_, e⟩
  have := List.pairwise_iff_getElem.mp O.lt a b (by exact Mine.q_99 hl hab hb) (by exact Mine.q_33 hb hl) hab
  rw [q] at this
  exact Nat.lt_irrefl _ this
theorem at_step {ord : List Nat} {P : Nat → Nat} {pos : Nat → Nat} {i : Nat} (O : Ord ord P) (h : At14 ord i pos) {j k : Nat} (hj : j < 6) (hk : k < 6) (hP : P j < P k) (e : pos j = pos k) :
    At14 ord (i + 1) (upd (upd pos j (pos j - 1)) k (pos k + 1)) := by
  obtain ⟨a, ha, ea⟩ := O.ix hj
  obtain ⟨b, hb, eb⟩ := O.ix hk
  have hl := O.len
  have ga : ord[a]'(by exact Mine.q_33 ha hl) = j := (List.getElem?_eq_some_iff.mp ea).2
  have gb : ord[b]'(by exact Mine.q_33 hb hl) = k := (List.getElem?_eq_some_iff.mp eb).2
  have hab : a < b := by
    rcases Nat.lt_trichotomy a b with q | q | q
    · exact q
    · subst q; rw [ga] at gb; subst gb; exact Mine.q_100 hP
    · have := List.pairwise_iff_getElem.mp O.lt b a (by exact Mine.q_33 hb hl) (by exact Mine.q_33 ha hl) q
      rw [ga, gb] at this
      exact Mine.q_101 hP this
  have hm := reach_step h hab hb (by rw [getD_map ea, getD_map eb]; exact e)
  unfold At14
  have : ord.map (upd (upd pos j (pos j - 1)) k (pos k + 1)) = mv (ord.map pos) a b := by
    unfold mv
    rw [getD_map ea, getD_map eb]
    refine List.ext_getElem? fun c => ?_
    rw [List.getElem?_set, List.getElem?_set, List.getElem?_map, List.getElem?_map]
    simp only [List.length_map, List.length_set, hl]
    by_cases hc : c < 6
    · have ec : ord[c]? = some ord[c] := List.getElem?_eq_getElem (by exact Mine.q_33 hc hl)
      rw [ec]
      have nd := O.nodup
      by_cases q1 : b = c
      · subst q1; simp [upd, gb, hb]
      · rw [if_neg q1]
        have n1 : ord[c]'(by exact Mine.q_33 hc hl) ≠ k := fun q => q1 ((List.getElem_inj nd).mp (gb.trans q.symm))
        by_cases q2 : a = c
        · subst q2; rw [if_pos rfl, if_pos ha]; simp only [upd, Option.map_some]; rw [if_neg n1, if_pos ga]
        · rw [if_neg q2]
          have n2 : ord[c]'(by exact Mine.q_33 hc hl) ≠ j := fun q => q2 ((List.getElem_inj nd).mp (ga.trans q.symm))
          simp only [upd, Option.map_some]; rw [if_neg n1, if_neg n2]
    · rw [List.getElem?_eq_none (by exact Mine.q_102 hl hc), if_neg (by exact Mine.q_103 hb hc), if_neg (by exact Mine.q_103 ha hc)]; rfl
  rw [this]
  exact hm
theorem at_last {ord : List Nat} {pos : Nat → Nat} (h : At14 ord 14 pos) : ord.map pos = [1, 2, 3, 5, 6, 7] := by
  have := last_all
  simp only [List.all_eq_true] at this
  exact eq_of_beq (this _ h)
theorem ord_ex {P : Nat → Nat} (hP : ∀ j k, j < 6 → k < 6 → j ≠ k → P j ≠ P k) : ∃ ord, Ord ord P := by
  refine ⟨(List.range 6).mergeSort (fun a b => decide (P a ≤ P b)), List.mergeSort_perm _ _, ?_⟩
  have hp := List.mergeSort_perm (List.range 6) (fun a b => decide (P a ≤ P b))
  have h1 := List.pairwise_mergeSort (le := fun a b => decide (P a ≤ P b)) (by intro a b c; simp only [decide_eq_true_eq]; exact Mine.q_104) (by intro a b; simp only [Bool.or_eq_true, decide_eq_true_eq]; exact Mine.q_105) (List.range 6)
  have h2 : ((List.range 6).mergeSort (fun a b => decide (P a ≤ P b))).Nodup := hp.symm.nodup List.nodup_range
  refine (List.pairwise_iff_getElem.mpr fun a b ha hb hab => ?_)
  have q := List.pairwise_iff_getElem.mp h1 a b ha hb hab
  simp only [decide_eq_true_eq] at q
  have m1 := List.mem_range.mp (hp.mem_iff.mp (List.getElem_mem ha))
  have m2 := List.mem_range.mp (hp.mem_iff.mp (List.getElem_mem hb))
  have ne : P (((List.range 6).mergeSort (fun a b => decide (P a ≤ P b)))[a]) ≠ P (((List.range 6).mergeSort (fun a b => decide (P a ≤ P b)))[b]) :=
    hP _ _ m1 m2 fun q => by have := (List.getElem_inj h2).mp q; exact Mine.q_106 hab this
  exact Mine.q_107 ne q
end Mine
end

section
open PySem PySem.W PySem.Calls PySem.Spec PyProof.Rows
set_option Elab.async false
set_option maxRecDepth 100000
set_option maxHeartbeats 8000000
set_option linter.unusedVariables false
namespace Mine
/-! ## the piles, as a ledger and as a heap -/
structure PS where
  T : List (Addr × Obj)
  its : Nat → Array Value
  ep : Nat → Nat
  pc : Nat → List (Str × Str)
def PcT (g : Heap) (T : List (Addr × Obj)) (items : List Value) (pc : List (Str × Str)) : Prop :=
  items.length = pc.length ∧ ∀ (i : Nat) (v : Value) (c : Str × Str), items[i]? = some v → pc[i]? = some c → ∃ a t u, v = .ref a ∧ (g.get? a = some (tup2 c.1 c.2 t u) ∨ (a, tup2 c.1 c.2 t u) ∈ T)
structure PileOk (w : World) (g : Heap) (p dx : Nat → Addr) (tt : Nat → Tok) (z : PS) : Prop where
  memP : ∀ j, j < 9 → (p j, accObj (dx j) (z.its j) (z.ep j)) ∈ z.T
  memD : ∀ j, j < 9 → (dx j, accDict w (tt j) 408) ∈ z.T
  pcs : ∀ j, j < 9 → PcT g z.T (z.its j).toList (z.pc j)
  cls : ∀ q ∈ z.T, q.2.cls ≠ .type "range_iterator" ∧ q.2.cls ≠ .type "list" ∧ q.2.cls ≠ .type "list_iterator" ∧ (∀ v, q.2.data ≠ .cell v)
structure HeapOk (w : World) (p dx : Nat → Addr) (tt : Nat → Tok) (its : Nat → Array Value) (ep : Nat → Nat) (pc : Nat → List (Str × Str)) (h : Heap) : Prop where
  pile : ∀ j, j < 9 → h.get? (p j) = some (accObj (dx j) (its j) (ep j))
  dict : ∀ j, j < 9 → h.get? (dx j) = some (accDict w (tt j) 408)
  pcs : ∀ j, j < 9 → Pieces h (its j).toList (pc j)
section
variable {w : World} {g h : Heap} {L : Addr} {m : Str → Option Value} {p dx : Nat → Addr} {tt : Nat → Tok} {its : Nat → Array Value} {ep : Nat → Nat} {pc : Nat → List (Str × Str)} {T T' : List (Addr × Obj)}
theorem PcT.mono {items : List Value} {c : List (Str × Str)} (x : PcT g T items c) (k : ∀ q ∈ T, q ∈ T') : PcT g T' items c :=
  ⟨x.1, fun i v d e1 e2 => let ⟨a, t, u, q1, q2⟩ := x.2 i v d e1 e2; ⟨a, t, u, q1, q2.imp id (k _)⟩⟩
theorem PcT.at' {items : List Value} {c : List (Str × Str)} (x : PcT g T items c) (F : Fr g L h m) (N : News g L h T) : Pieces h items c :=
  ⟨x.1, fun i v d e1 e2 => let ⟨a, t, u, q1, q2⟩ := x.2 i v d e1 e2; ⟨a, t, u, q1, q2.elim (F.keep _ _) fun q => (N _ q).1⟩⟩
theorem PileOk.heap {z : PS} (x : PileOk w g p dx tt z) (F : Fr g L h m) (N : News g L h z.T) : HeapOk w p dx tt z.its z.ep z.pc h :=
  ⟨fun j hj => (N _ (x.memP j hj)).1, fun j hj => (N _ (x.memD j hj)).1, fun j hj => (x.pcs j hj).at' F N⟩
theorem ne_local {a : Addr} {o : Obj} (F : Fr g L h m) (e : h.get? a = some o) (hd' : ∀ es ep, o.data ≠ .dict es ep) : a ≠ L := by
  rintro rfl
  obtain ⟨oL, es, ep, hL, hd2, _⟩ := F.ns
  rw [hL] at e
  exact hd' _ _ ((Option.some.inj e) ▸ hd2)
theorem pcT_ex (F : Fr g L h m) : ∀ (items : List Value) (c : List (Str × Str)), Pieces h items c → ∃ Tp, News g L h Tp ∧ PcT g Tp items c ∧ ∀ q ∈ Tp, q.2.cls = .type "tuple" ∧ (∀ v, q.2.data ≠ .cell v)
  | [], c, x => ⟨[], (fun _ q => nomatch q), ⟨x.1, fun i v d e => by cases e⟩, (fun _ q => nomatch q)⟩
  | v :: items, [], x => by cases x.1
  | v :: items, d :: c, x => by
    have xt : Pieces h items c := ⟨by have := x.1; simpa using this, fun i v' d' e1 e2 => x.2 (i + 1) v' d' e1 e2⟩
    obtain ⟨Tp, N, y, hc⟩ := pcT_ex F items c xt
    obtain ⟨a, t, u, rfl, ha⟩ := x.2 0 v d rfl rfl
    have haL : a ≠ L := ne_local F ha (fun es ep q => by cases q)
    cases q : g.get? a with
    | some o =>
      have e := F.keep _ _ q
      rw [ha] at e
      cases e
      refine ⟨Tp, N, ⟨x.1, fun i v' d' e1 e2 => ?_⟩, hc⟩
      cases i with
      | zero => cases e1; cases e2; exact ⟨a, t, u, rfl, .inl q⟩
      | succ i => exact y.2 i v' d' e1 e2
    | none =>
      refine ⟨(a, tup2 d.1 d.2 t u) :: Tp, ?_, ⟨x.1, fun i v' d' e1 e2 => ?_⟩, ?_⟩
      · intro r hr
        rcases List.mem_cons.mp hr with rfl | hr
        · exact ⟨ha, haL, q⟩
        · exact N _ hr
      · cases i with
        | zero => cases e1; cases e2; exact ⟨a, t, u, rfl, .inr (.head _)⟩
        | succ i =>
          obtain ⟨a', t', u', q1, q2⟩ := y.2 i v' d' e1 e2
          exact ⟨a', t', u', q1, q2.imp id (.tail _)⟩
      · intro r hr
        rcases List.mem_cons.mp hr with rfl | hr
        · exact ⟨rfl, (fun v e => by cases e)⟩
        · exact hc _ hr
theorem mkLed_n (F : Fr g L h m) (H : HeapOk w p dx tt its ep pc h) (fr : ∀ j, j < 9 → p j ≠ L ∧ dx j ≠ L ∧ g.get? (p j) = none ∧ g.get? (dx j) = none) : ∀ n, n ≤ 9 → ∃ T, News g L h T ∧ (∀ j, j < n → (p j, accObj (dx j) (its j) (ep j)) ∈ T ∧ (dx j, accDict w (tt j) 408) ∈ T ∧ PcT g T (its j).toList (pc j)) ∧
     ∀ q ∈ T, q.2.cls ≠ .type "range_iterator" ∧ q.2.cls ≠ .type "list" ∧ q.2.cls ≠ .type "list_iterator" ∧ (∀ v, q.2.data ≠ .cell v)
  | 0, _ => ⟨[], (fun _ q => nomatch q), (fun _ q => absurd q (Nat.not_lt_zero _)), (fun _ q => nomatch q)⟩
  | n + 1, hn => by
    obtain ⟨T, N, y, hc⟩ := mkLed_n F H fr n (by exact Mine.q_62 hn)
    obtain ⟨Tp, N2, y2, hc2⟩ := pcT_ex F _ _ (H.pcs n (by exact Mine.q_63 hn))
    obtain ⟨f1, f2, f3, f4⟩ := fr n (by exact Mine.q_63 hn)
    refine ⟨(p n, accObj (dx n) (its n) (ep n)) :: (dx n, accDict w (tt n) 408) :: (Tp ++ T), ?_, ?_, ?_⟩
    · intro r hr
      rcases List.mem_cons.mp hr with rfl | hr
      · exact ⟨H.pile n (by exact Mine.q_63 hn), f1, f3⟩
      rcases List.mem_cons.mp hr with rfl | hr
      · exact ⟨H.dict n (by exact Mine.q_63 hn), f2, f4⟩
      rcases List.mem_append.mp hr with hr | hr
      · exact N2 _ hr
      · exact N _ hr
    · intro j hj
      by_cases q : j = n
      · subst q
        exact ⟨.head _, .tail _ (.head _), y2.mono fun r hr => .tail _ (.tail _ (List.mem_append_left _ hr))⟩
      · obtain ⟨a, b, c⟩ := y j (by exact Mine.q_64 hj q)
        exact ⟨.tail _ (.tail _ (List.mem_append_right _ a)), .tail _ (.tail _ (List.mem_append_right _ b)), c.mono fun r hr => .tail _ (.tail _ (List.mem_append_right _ hr))⟩
    · intro r hr
      rcases List.mem_cons.mp hr with rfl | hr
      · exact ⟨(fun e => by cases e), (fun e => by cases e), (fun e => by cases e), (fun v e => by cases e)⟩
      rcases List.mem_cons.mp hr with rfl | hr
      · refine ⟨?_, ?_, ?_, (fun v e => by cases e)⟩ <;> (show Value.type "dict" ≠ _; decide)
      rcases List.mem_append.mp hr with hr | hr
      · obtain ⟨a, b⟩ := hc2 _ hr
        refine ⟨?_, ?_, ?_, b⟩ <;> (rw [a]; decide)
      · exact hc _ hr
theorem mkLed (F : Fr g L h m) (H : HeapOk w p dx tt its ep pc h) (fr : ∀ j, j < 9 → p j ≠ L ∧ dx j ≠ L ∧ g.get? (p j) = none ∧ g.get? (dx j) = none) : ∃ T, News g L h T ∧ PileOk w g p dx tt ⟨T, its, ep, pc⟩ := by
  obtain ⟨T, N, y, hc⟩ := mkLed_n F H fr 9 (Nat.le_refl _)
  exact ⟨T, N, fun j hj => (y j hj).1, fun j hj => (y j hj).2.1, fun j hj => (y j hj).2.2, hc⟩
def updA {α : Type} (f : Nat → α) (k : Nat) (v : α) : Nat → α := fun j => if j = k then v else f j
theorem HeapOk.chg {h' : Heap} {st : Nat} {it : Array Value} {e' : Nat} {c' : List (Str × Str)} (H : HeapOk w p dx tt its ep pc h) (inj : ∀ i j, i < 9 → j < 9 → p i = p j → i = j) (hst : st < 9) (c : Chg (p st) h h') (e : h'.get? (p st) = some (accObj (dx st) it e'))
    (hp : Pieces h' it.toList c') : HeapOk w p dx tt (updA its st it) (updA ep st e') (updA pc st c') h' := by
  have hps := H.pile st hst
  refine ⟨fun j hj => ?_, fun j hj => ?_, fun j hj => ?_⟩
  · unfold updA
    by_cases q : j = st
    · subst q; rw [if_pos rfl, if_pos rfl]; exact e
    · rw [if_neg q, if_neg q]; exact c _ _ (fun x => q (inj j st hj hst x)) (H.pile j hj)
  · refine c _ _ (fun x => ?_) (H.dict j hj)
    have := H.dict j hj
    rw [x, hps] at this; cases this
  · unfold updA
    by_cases q : j = st
    · subst q; rw [if_pos rfl, if_pos rfl]; exact hp
    · rw [if_neg q, if_neg q]
      refine (H.pcs j hj).mono fun b d f t u e2 => c _ _ (fun x => ?_) e2
      rw [x, hps] at e2; cases e2
theorem news_more {T : List (Addr × Obj)} {q : Addr × Obj} (N : News g L h T) (hq : q ∈ T) : News g L h (q :: T) := news_weak N fun r hr => by
  rcases List.mem_cons.mp hr with rfl | hr
  · exact hq
  · exact hr
theorem news_app {T T' : List (Addr × Obj)} (N : News g L h T) (N' : News g L h T') : News g L h (T ++ T') := fun q hq => (List.mem_append.mp hq).elim (N q) (N' q)
end
def pds (w : World) (l : List (Addr × Addr × Tok)) : List (Addr × Obj) := l.flatMap fun e => [(e.1, accObj e.2.1 #[] 0), (e.2.1, accDict w e.2.2 408)]
theorem pds_snoc {w : World} {l : List (Addr × Addr × Tok)} {a b : Addr} {t : Tok} : ∀ q ∈ pds w (l ++ [(a, b, t)]), q = (a, accObj b #[] 0) ∨ q = (b, accDict w t 408) ∨ q ∈ pds w l := by
  intro q hq
  unfold pds at hq ⊢
  rw [List.flatMap_append, List.mem_append] at hq
  rcases hq with hq | hq
  · exact .inr (.inr hq)
  · simp only [List.flatMap_cons, List.flatMap_nil, List.append_nil, List.mem_cons, List.not_mem_nil, or_false] at hq
    rcases hq with hq | hq
    · exact .inl hq
    · exact .inr (.inl hq)
theorem pds_fst {w : World} {l : List (Addr × Addr × Tok)} {e : Addr × Addr × Tok} (he : e ∈ l) : (e.1, accObj e.2.1 #[] 0) ∈ pds w l := List.mem_flatMap.mpr ⟨e, he, .head _⟩
theorem pds_snd {w : World} {l : List (Addr × Addr × Tok)} {e : Addr × Addr × Tok} (he : e ∈ l) : (e.2.1, accDict w e.2.2 408) ∈ pds w l := List.mem_flatMap.mpr ⟨e, he, .tail _ (.head _)⟩
theorem piles_of {w : World} {g : Heap} {l : List (Addr × Addr × Tok)} (hl : l.length = 9) (nd : (l.map (·.1)).Nodup) : ∃ (p dx : Nat → Addr) (tt : Nat → Tok), (∀ j, j < 9 → (l.map fun e => Value.ref e.1).toArray[j]? = some (.ref (p j))) ∧ (∀ i j, i < 9 → j < 9 → p i = p j → i = j) ∧
    PileOk w g p dx tt ⟨pds w l, fun _ => #[], fun _ => 0, fun _ => []⟩ := by
  have at' : ∀ j, j < 9 → l[j]? = some (l[j]?.getD (0, 0, 0)) := fun j hj => by
    rw [List.getElem?_eq_getElem (by exact Mine.q_170 hj hl)]; rfl
  refine ⟨fun j => (l[j]?.getD (0, 0, 0)).1, fun j => (l[j]?.getD (0, 0, 0)).2.1, fun j => (l[j]?.getD (0, 0, 0)).2.2, fun j hj => ?_, fun i j hi hj e => ?_, fun j hj => pds_fst (List.mem_of_getElem? (at' j hj)), fun j hj => pds_snd (List.mem_of_getElem? (at' j hj)), fun j hj => ⟨rfl, fun i v c e => by simp at e⟩, ?_⟩
  · rw [List.getElem?_toArray, List.getElem?_map, at' j hj]; rfl
  · have e1 : (l.map (·.1))[i]'(by rw [List.length_map]; exact Mine.q_170 hi hl) = (l.map (·.1))[j]'(by rw [List.length_map]; exact Mine.q_170 hj hl) := by
      rw [List.getElem_map, List.getElem_map]
      dsimp only at e
      rw [List.getElem?_eq_getElem (by exact Mine.q_170 hi hl), List.getElem?_eq_getElem (by exact Mine.q_170 hj hl)] at e
      exact e
    exact (List.getElem_inj nd).mp e1
  · intro q hq
    unfold pds at hq
    obtain ⟨e, _, he⟩ := List.mem_flatMap.mp hq
    simp only [List.mem_cons, List.not_mem_nil, or_false] at he
    rcases he with rfl | rfl
    · exact ⟨(fun e => by cases e), (fun e => by cases e), (fun e => by cases e), (fun v e => by cases e)⟩
    · refine ⟨?_, ?_, ?_, (fun v e => by cases e)⟩ <;> (show Value.type "dict" ≠ _; decide)
def rowsAt (pos : Nat → Nat) (k : Nat) : Str := if k < 3 then rowS (pos k) k else if k = 3 then Str.ofString "-\x0b." else if k = 4 then Str.ofString "" else if k = 5 then Str.ofString "." else rowS (pos (k - 3)) (k - 3)
theorem rows0 : [Str.ofString "....a", Str.ofString "....b", Str.ofString "....c", Str.ofString "-\x0b.", Str.ofString "", Str.ofString ".", Str.ofString "....d", Str.ofString "....e", Str.ofString "....f"] = (List.range 9).map (rowsAt fun _ => 4) := by decide +kernel
/-- making an accumulator, with a ledger -/
theorem make_K {w : World} {A : Around} {E : Value → Shared → Prop} {s : Shared} {Q : Value → Shared → Prop} {h₀ : Heap} {L : Addr} {m : Str → Option Value} {news : List (Addr × Obj)} {mean : ExcName → Option Value} {mg mb : Str → Option Value}
   (G : Gd w mean mg mb h₀) (F : Fr h₀ L s.heap m) (N : News h₀ L s.heap news) (hdp : A.depth + 20 < recursionLimit) (hun : A.units + 200 < cLine)
   (h : ∀ h' tk p dx t, Fr h₀ L h' m → News h₀ L h' ((p, accObj dx #[] 0) :: (dx, accDict w t 408) :: news) → (∀ q ∈ news, q.1 < dx) → dx < p → Q (.ref p) { s with heap := h', toks := tk }) : wpAny (model PP w) A (call (.ref 149) []) Q E s := by
  refine wpAny_call (make_c G F.keep hdp hun fun h' tk p dx t k e1 e2 n1 n2 lt ls => ?_)
  have none0 : ∀ a, s.heap.get? a = none → h₀.get? a = none := fun a e => by
    cases q : h₀.get? a with
    | none => rfl
    | some o => have := F.keep _ _ q; rw [e] at this; cases this
  have nL : ∀ a, s.heap.get? a = none → a ≠ L := fun a e q => by
    obtain ⟨oL, _, _, hL, _⟩ := F.ns
    rw [q, hL] at e; cases e
  refine h h' tk p dx t (fr_sub F k) ?_ (fun q hq => ls _ _ (N q hq).1) lt
  exact news_cons (news_cons (news_sub N k) e2 (nL _ n2) (none0 _ n2)) e1 (nL _ n1) (none0 _ n1)

section
variable {w : World} {A : Around} {E : Value → Shared → Prop} {s : Shared} {g : Heap} {L : Addr} {m : Str → Option Value} {mean : ExcName → Option Value} {mg mb : Str → Option Value} {p dx : Nat → Addr} {tt : Nat → Tok} {z : PS} {front : List (Addr × Obj)}
theorem PileOk.fresh (x : PileOk w g p dx tt z) (N : News g L s.heap z.T) : ∀ j, j < 9 → p j ≠ L ∧ dx j ≠ L ∧ g.get? (p j) = none ∧ g.get? (dx j) = none :=
  fun j hj => ⟨(N _ (x.memP j hj)).2.1, (N _ (x.memD j hj)).2.1, (N _ (x.memP j hj)).2.2, (N _ (x.memD j hj)).2.2⟩
theorem push_step {Q : Value → Shared → Prop} {st : Nat} {fws x : Str} {t1 t2 : Tok} (G : Gd w mean mg mb g) (F : Fr g L s.heap m) (N : News g L s.heap (front ++ z.T)) (PO : PileOk w g p dx tt z) (inj : ∀ i j, i < 9 → j < 9 → p i = p j → i = j) (hst : st < 9)
   (hf : ∀ q ∈ front, ∀ d i e, q.2 ≠ accObj d i e) (hz : (z.pc st).length ≤ 100) (hdp : A.depth + 20 < recursionLimit) (hun : A.units + 200 < cLine)
   (h : ∀ h' tk z', Fr g L h' m → News g L h' (front ++ z'.T) → PileOk w g p dx tt z' → (∀ j, z'.pc j = if j = st then z.pc st ++ [(fws, x)] else z.pc j) → Q .none { s with heap := h', toks := tk }) :
   wpAny (model PP w) A (call (.ref 93) [.ref (p st), .str fws t1, .str x t2]) Q E s := by
  have NT : News g L s.heap z.T := news_weak N fun q hq => List.mem_append_right _ hq
  have H := PO.heap F NT
  have fr := PO.fresh NT
  have hps := PO.pcs st hst
  have hsz : (z.its st).size = (z.pc st).length := by rw [← hps.1]; exact (Array.length_toList (xs := z.its st)).symm
  refine wpAny_call (push_c G F.keep (H.pile st hst) (fr st hst).2.2.1 (H.dict st hst) (by rw [hsz, sizeLine_eq]; exact Nat.le_trans hz (by decide)) (by exact Mine.o_d1 hdp) (by exact Mine.o_d1 hun) fun h' tk a c e1 e2 e3 => ?_)
  have F' := fr_chg F c (fr st hst).2.2.1 (fr st hst).1
  have H' := H.chg inj hst c e1 (c' := z.pc st ++ [(fws, x)]) (by
    rw [Array.toList_push]
    refine ((H.pcs st hst).mono fun b d f t u e => c _ _ (fun q => ?_) e).app ⟨rfl, fun i v d q1 q2 => ?_⟩
    · rw [q, H.pile st hst] at e; cases e
    · cases i with
      | zero => cases q1; cases q2; exact ⟨a, t1, t2, rfl, e2⟩
      | succ i => cases q1)
  obtain ⟨T', N', PO'⟩ := mkLed F' H' fr
  refine h h' tk ⟨T', updA z.its st ((z.its st).push (.ref a)), updA z.ep st (z.ep st + 1), updA z.pc st (z.pc st ++ [(fws, x)])⟩ F' (news_app (news_chg (news_weak N fun q hq => List.mem_append_left _ hq) c fun q hq e => ?_) N') PO' fun j => rfl
  have a1 := (N _ (List.mem_append_left _ hq)).1
  rw [e, H.pile st hst] at a1
  exact hf _ hq _ _ _ (Option.some.inj a1).symm
theorem two_step {Q : Value → Shared → Prop} {st : Nat} {x : Int} {t1 : Tok} (G : Gd w mean mg mb g) (F : Fr g L s.heap m) (N : News g L s.heap (front ++ z.T)) (PO : PileOk w g p dx tt z) (inj : ∀ i j, i < 9 → j < 9 → p i = p j → i = j) (hst : st < 9)
   (hf : ∀ q ∈ front, ∀ d i e, q.2 ≠ accObj d i e) (hz2 : 2 ≤ (z.pc st).length) (hz : (z.pc st).length ≤ 6) (hx0 : 0 ≤ x) (hx1 : x < 1000000) (hdp : A.depth + 30 < recursionLimit) (hun : A.units + 300 < cLine) (hh : A.handled = none)
   (h : ∀ h' tk r b1 b2 c1 c2 z', Fr g L h' m → News g L h' ((r, listOf #[.ref b1, .ref b2] 0) :: (front ++ z'.T)) → PileOk w g p dx tt z' → (∀ j, j ≠ st → z'.pc j = z.pc j) → (z.pc st).Perm (c1 :: c2 :: z'.pc st) → PcT g z'.T [.ref b1, .ref b2] [c1, c2] → Q (.ref r) { s with heap := h', toks := tk }) :
   wpAny (model PP w) A (call (.ref 167) [.ref (p st), .int x t1]) Q E s := by
  have NT : News g L s.heap z.T := news_weak N fun q hq => List.mem_append_right _ hq
  have H := PO.heap F NT
  have fr := PO.fresh NT
  have hps := PO.pcs st hst
  have hsz : (z.its st).size = (z.pc st).length := by rw [← hps.1]; exact (Array.length_toList (xs := z.its st)).symm
  refine wpAny_call (two_c G F.keep (H.pile st hst) (fr st hst).2.2.1 (H.dict st hst) (H.pcs st hst) (by rw [hsz]; exact hz2) (by rw [hsz]; exact hz) hx0 hx1 (by exact Mine.o_d1 hdp) (by exact Mine.o_d1 hun) hh fun h' tk r b1 b2 c1 c2 u1 u2 u3 u4 it' pc' ep' c e1 e2 e3 e4 e5 e6 hp => ?_)
  have F' := fr_chg F c (fr st hst).2.2.1 (fr st hst).1
  have H' := H.chg inj hst c e5 e6
  obtain ⟨T', N', PO'⟩ := mkLed F' H' fr
  have P2 : Pieces h' [.ref b1, .ref b2] [c1, c2] := ⟨rfl, fun i v d q1 q2 => by
    match i with
    | 0 => cases q1; cases q2; exact ⟨b1, _, _, rfl, e3⟩
    | 1 => cases q1; cases q2; exact ⟨b2, _, _, rfl, e4⟩
    | i + 2 => cases q1⟩
  obtain ⟨Tb, Nb, Pb, hcb⟩ := pcT_ex F' _ _ P2
  have r0 : g.get? r = none := by
    cases q : g.get? r with
    | none => rfl
    | some o => have := F.keep _ _ q; rw [e2] at this; cases this
  have rL : r ≠ L := ne_local F' e1 (fun es ep q => by cases q)
  refine h h' tk r b1 b2 c1 c2 ⟨Tb ++ T', updA z.its st it', updA z.ep st ep', updA z.pc st pc'⟩ F' (news_cons (news_app (news_chg (news_weak N fun q hq => List.mem_append_left _ hq) c fun q hq e => ?_) (news_app Nb N')) e1 rL r0) ⟨fun j hj => List.mem_append_right _ (PO'.memP j hj), fun j hj => List.mem_append_right _ (PO'.memD j hj), fun j hj => (PO'.pcs j hj).mono fun q hq => List.mem_append_right _ hq, fun q hq => ?_⟩ (fun j hj => by show updA z.pc st pc' j = _; unfold updA; rw [if_neg hj]) (by show (z.pc st).Perm (c1 :: c2 :: updA z.pc st pc' st); unfold updA; rw [if_pos rfl]; exact hp) (Pb.mono fun q hq => List.mem_append_left _ hq)
  · have a1 := (N _ (List.mem_append_left _ hq)).1
    rw [e, H.pile st hst] at a1
    exact hf _ hq _ _ _ (Option.some.inj a1).symm
  · rcases List.mem_append.mp hq with hq | hq
    · obtain ⟨a, b⟩ := hcb _ hq
      refine ⟨?_, ?_, ?_, b⟩ <;> (rw [a]; decide)
    · exact PO'.cls _ hq
end

theorem mp_self {m : Str → Option Value} {a b c : Option Value} (h1 : m (Str.ofString "rows") = a) (h2 : m (Str.ofString "wishes") = b) (h3 : m (Str.ofString "chips") = c) : ∀ y, m y = if y = Str.ofString "rows" then a else if y = Str.ofString "wishes" then b else if y = Str.ofString "chips" then c else m y := fun y => by
  by_cases q1 : y = Str.ofString "rows"
  · rw [if_pos q1, q1, h1]
  · rw [if_neg q1]
    by_cases q2 : y = Str.ofString "wishes"
    · rw [if_pos q2, q2, h2]
    · rw [if_neg q2]
      by_cases q3 : y = Str.ofString "chips"
      · rw [if_pos q3, q3, h3]
      · rw [if_neg q3]
structure MS where
  z : PS
  ra : Addr
  rls : List (Str × Tok)
  re : Nat
  pos : Nat → Nat
  ex : Str → Option Value
def chipsAt (pos : Nat → Nat) (j : Nat) : List Nat := (List.range 6).filter fun k => pos k == j

theorem two_mem {l : List Nat} {j k : Nat} (hj : j ∈ l) (hk : k ∈ l) (h : j ≠ k) : 2 ≤ l.length := by
  match l, hj, hk with
  | [a], hj, hk => rw [List.mem_singleton] at hj hk; exact absurd (hj.trans hk.symm) h
  | a :: b :: t, _, _ => simp
theorem PileOk.size {w : World} {g : Heap} {p dx : Nat → Addr} {tt : Nat → Tok} {z : PS} (x : PileOk w g p dx tt z) {j : Nat} (hj : j < 9) : (z.its j).size = (z.pc j).length := by
  rw [← (x.pcs j hj).1]; exact (Array.length_toList (xs := z.its j)).symm
theorem crowd_ex {ord : List Nat} {P : Nat → Nat} {pos : Nat → Nat} {pc : Nat → List (Str × Str)} {f : Nat → Str × Str} {i : Nat} (O : Ord ord P) (hi : i < 14) (h : At14 ord i pos) (hp : ∀ j, j < 9 → (pc j).Perm ((chipsAt pos j).map f)) : ∃ st, 1 ≤ st ∧ st ≤ 7 ∧ 2 ≤ (pc st).length := by
  obtain ⟨j, k, hj, hk, hne, e⟩ := at_crowd O hi h
  obtain ⟨r1, r2⟩ := at_range O (by exact Mine.o_lel hi (by decide)) h hj
  refine ⟨pos j, r1, r2, ?_⟩
  rw [(hp _ (by exact Nat.lt_of_le_of_lt r2 (by decide))).length_eq, List.length_map]
  exact two_mem (j := j) (k := k) (List.mem_filter.mpr ⟨List.mem_range.mpr hj, by simp⟩) (List.mem_filter.mpr ⟨List.mem_range.mpr hk, by simp [e]⟩) hne

theorem dat_strs {news : List (Addr × Obj)} : ∀ l : List (Str × Tok), DatAll news (strValues l) (l.map fun x => Dat.str x.1)
  | [] => .nil
  | x :: l => .cons (.str _ _) (dat_strs l)
theorem dat_ints {news : List (Addr × Obj)} : ∀ l : List (Nat × Tok), DatAll news (l.map fun c => Value.int c.1 c.2) (l.map fun c => Dat.int c.1)
  | [] => .nil
  | x :: l => .cons (.int _ _) (dat_ints l)
section
variable {prog : Program} {w : World} {A : Around} {E : Value → Shared → Prop} {s : Shared} {h₀ : Heap} {L a b : Addr} {news : List (Addr × Obj)} {Q : Value → Shared → Prop}
theorem eqnil_D {oa : Obj} {xs : List Value} {ka kb : Nat} {ds : List Dat} (N : News h₀ L s.heap news) (ma : (a, oa) ∈ news) (ca : oa.cls = .type "list") (da : oa.data = .seq xs.toArray ka) (Da : DatAll news xs ds) (mb : (b, listOf #[] kb) ∈ news)
    (ha : ∀ d ∈ ds, kqdOk 8 d = true) (hne : ds ≠ []) (hu : A.units + 64 < cLine) (h : Q (.bool false) s) : wpAny (model prog w) A (compareOp .Eq (.ref a) (.ref b)) Q E s :=
  kqd_eq (xs := xs) (ys := []) (es := []) N ma ca da Da (fun _ q => q) mb rfl rfl (DatAll.nil (news := news)) (fun _ q => q) ha (fun _ q => nomatch q) hu (by rw [decide_eq_false hne]; exact h)
theorem eqnil_strs {l : List (Str × Tok)} {k kb : Nat} (N : News h₀ L s.heap news) (ma : (a, listOf (strValues l).toArray k) ∈ news) (mb : (b, listOf #[] kb) ∈ news) (hok : ∀ x ∈ l.map (·.1), PyData.strOk x = true) (hne : 0 < l.length) (hu : A.units + 64 < cLine) (h : Q (.bool false) s) : wpAny (model prog w) A (compareOp .Eq (.ref a) (.ref b)) Q E s :=
  eqnil_D N ma rfl rfl (dat_strs l) mb (fun d hd' => by obtain ⟨x, hx, rfl⟩ := List.mem_map.mp hd'; exact hok _ (List.mem_map.mpr ⟨x, hx, rfl⟩)) (fun q => by rw [List.map_eq_nil_iff] at q; rw [q] at hne; exact Nat.lt_irrefl _ hne) hu h
theorem eqnil_ints {l : List (Nat × Tok)} {kb : Nat} (N : News h₀ L s.heap news) (ma : (a, LCg.lst (l.map fun c => Value.int c.1 c.2)) ∈ news) (mb : (b, listOf #[] kb) ∈ news) (hne : 0 < l.length) (hu : A.units + 64 < cLine) (h : Q (.bool false) s) : wpAny (model prog w) A (compareOp .Eq (.ref a) (.ref b)) Q E s :=
  eqnil_D N ma rfl rfl (dat_ints l) mb (fun d hd' => by obtain ⟨x, hx, rfl⟩ := List.mem_map.mp hd'; rfl) (fun q => by rw [List.map_eq_nil_iff] at q; rw [q] at hne; exact Nat.lt_irrefl _ hne) hu h
end
theorem len_cs {prog : Program} {w : World} {A : Around} {E : Value → Shared → Prop} {s : Shared} {h₀ : Heap} {L a : Addr} {news : List (Addr × Obj)} {Q : Value → Shared → Prop} {l : List (Nat × Tok)} (N : News h₀ L s.heap news) (ma : (a, LCg.lst (l.map fun c => Value.int c.1 c.2)) ∈ news) (hz : l.length ≤ 1000)
   (h : Q (.int l.length (s.toks + 1)) { s with toks := s.toks + 1 + 1 }) : wpAny (model prog w) A (call (.builtin "len") [.ref a]) Q E s := by
  have e : (l.map fun c => Value.int c.1 c.2).toArray.size = l.length := by simp
  refine PyProof.Rows.len_list ⟨_, (N _ ma).1, rfl, _, rfl⟩ (by rw [e]; exact Mine.q_171 hz) ?_
  rw [e]; exact h
theorem strok_all : (allRows.all fun x => PyData.strOk x) = true := by decide +kernel
theorem rowsAt_mem {pos : Nat → Nat} (h : ∀ k, k < 6 → pos k ≤ 8) {k : Nat} (hk : k < 9) : rowsAt pos k ∈ allRows := by
  unfold rowsAt
  split
  · have := h k (by exact Nat.lt_of_lt_of_le ‹_› (by decide)); exact row_mem (by exact Nat.lt_of_le_of_lt this (by decide)) (by exact Nat.lt_of_lt_of_le ‹_› (by decide))
  split
  · exact List.mem_append_left _ (.head _)
  split
  · exact List.mem_append_left _ (.tail _ (.head _))
  split
  · exact List.mem_append_left _ (.tail _ (.tail _ (.head _)))
  · have := h (k - 3) (by exact Mine.q_172 hk); exact row_mem (by exact Nat.lt_of_le_of_lt this (by decide)) (by exact Mine.q_172 hk)
theorem rows_ok {pos : Nat → Nat} (h : ∀ k, k < 6 → pos k ≤ 8) {l : List Str} (e : l = (List.range 9).map (rowsAt pos)) : ∀ x ∈ l, PyData.strOk x = true := by
  intro x hx
  rw [e] at hx
  obtain ⟨k, hk, rfl⟩ := List.mem_map.mp hx
  exact List.all_eq_true.mp strok_all _ (rowsAt_mem h (List.mem_range.mp hk))

theorem perm_map_cons {c : Str × Str} {l : List (Str × Str)} {L : List Nat} {f : Nat → Str × Str} (h : (c :: l).Perm (L.map f)) : ∃ a L', L.Perm (a :: L') ∧ f a = c ∧ l.Perm (L'.map f) := by
  have hc : c ∈ L.map f := h.mem_iff.mp (.head _)
  obtain ⟨a, ha, e⟩ := List.mem_map.mp hc
  have q := List.perm_cons_erase ha
  refine ⟨a, L.erase a, q, e, ?_⟩
  have q2 := h.trans (q.map f)
  rw [List.map_cons, e] at q2
  exact q2.cons_inv
theorem two_of {pc : List (Str × Str)} {c1 c2 : Str × Str} {pc' : List (Str × Str)} {pos : Nat → Nat} {st : Nat} {f : Nat → Str × Str} (h : pc.Perm ((chipsAt pos st).map f)) (h2 : pc.Perm (c1 :: c2 :: pc')) :
    ∃ a b rest, (chipsAt pos st).Perm (a :: b :: rest) ∧ c1 = f a ∧ c2 = f b ∧ pc'.Perm (rest.map f) ∧ a ≠ b ∧ a < 6 ∧ b < 6 ∧ pos a = st ∧ pos b = st := by
  obtain ⟨a, L', q1, e1, r1⟩ := perm_map_cons (h2.symm.trans h)
  obtain ⟨b, L2, q2, e2, r2⟩ := perm_map_cons r1
  have q3 : (chipsAt pos st).Perm (a :: b :: L2) := q1.trans (q2.cons a)
  have nd : (a :: b :: L2).Nodup := q3.nodup (List.Nodup.sublist List.filter_sublist List.nodup_range)
  have ma := List.mem_filter.mp (q3.mem_iff.mpr (.head _))
  have mb := List.mem_filter.mp (q3.mem_iff.mpr (.tail _ (.head _)))
  refine ⟨a, b, L2, q3, e1.symm, e2.symm, r2, ?_, List.mem_range.mp ma.1, List.mem_range.mp mb.1, by simpa using ma.2, by simpa using mb.2⟩
  rintro rfl
  exact (List.nodup_cons.mp nd).1 (.head _)
theorem chips_le {pos : Nat → Nat} {st : Nat} : (chipsAt pos st).length ≤ 6 := by
  have := List.length_filter_le (fun k => pos k == st) (List.range 6)
  rw [List.length_range] at this; exact this
theorem fdiv5 {x : Int} (h0 : 0 ≤ x) (h1 : x < 1000000) : 0 ≤ x.fdiv 5 ∧ x.fdiv 5 < 1000000 := by
  rw [Int.fdiv_eq_ediv_of_nonneg _ (by decide)]; exact Mine.q_173 h0 h1
theorem mp_self6 {m : Str → Option Value} {a b c d e f : Option Value} (h1 : m (Str.ofString "rows") = a) (h2 : m (Str.ofString "wishes") = b) (h3 : m (Str.ofString "chips") = c) (h4 : m (Str.ofString "seen") = d) (h5 : m (Str.ofString "stop") = e) (h6 : m (Str.ofString "turn") = f) :
    ∀ y, m y = if y = Str.ofString "rows" then a else if y = Str.ofString "wishes" then b else if y = Str.ofString "chips" then c else if y = Str.ofString "seen" then d else if y = Str.ofString "stop" then e else if y = Str.ofString "turn" then f else m y := fun y => by
  refine (mp_self h1 h2 h3 y).trans ?_
  congr 1; congr 1; congr 1
  by_cases q1 : y = Str.ofString "seen"
  · rw [if_pos q1, q1, h4]
  · rw [if_neg q1]
    by_cases q2 : y = Str.ofString "stop"
    · rw [if_pos q2, q2, h5]
    · rw [if_neg q2]
      by_cases q3 : y = Str.ofString "turn"
      · rw [if_pos q3, q3, h6]
      · rw [if_neg q3]
/-- a pair of a hue and a piece -/
abbrev tupF (f : UInt64) (t : Tok) (b : Addr) : Obj := { cls := .type "tuple", data := .seq #[.float f t, .ref b] }
structure SS where
  sl : List (Addr × UInt64 × Tok × Addr)
  se : Nat
  ex : Str → Option Value

/-- a piece that stands in the base or in a part of the ledger -/
def PieceAt (g : Heap) (L : Addr) (T : List (Addr × Obj)) (b : Addr) (c : Str × Str) (t u : Tok) : Prop := ∀ h m T', Fr g L h m → News g L h T' → (∀ q ∈ T, q ∈ T') → h.get? b = some (tup2 c.1 c.2 t u)
theorem PcT.ex {g : Heap} {L : Addr} {T : List (Addr × Obj)} {items : List Value} {pc : List (Str × Str)} (x : PcT g T items pc) {i : Nat} {v : Value} {c : Str × Str} (e1 : items[i]? = some v) (e2 : pc[i]? = some c) : ∃ a t u, v = .ref a ∧ PieceAt g L T a c t u := by
  obtain ⟨a, t, u, q1, q2⟩ := x.2 i v c e1 e2
  refine ⟨a, t, u, q1, fun h m T' F N k => ?_⟩
  rcases q2 with q2 | q2
  · exact F.keep _ _ q2
  · exact (N _ (k _ q2)).1

theorem index_K {prog : Program} {w : World} {A : Around} {E : Value → Shared → Prop} {s : Shared} {Q : Value → Shared → Prop} {x y : Str} {t u : Tok} {k : Nat} (hA : A.handled = none) (hf : Txt.find x y = (k : Int)) (h : Q (.int k s.toks) { s with toks := s.toks + 1 }) :
    wpAny (model prog w) A (call (.builtin "str.index") [.str x t, .str y u]) Q E s :=
  index_or hA (fun e => by rw [hf] at e; exact (Mine.q_174 e).elim) (fun _ _ => by rw [hf]; exact h)
theorem find_all : ((List.range 6).all fun k => Txt.find (Str.ofString "abcdef") (rowS 0 k) == (k : Int)) = true := by decide +kernel
theorem find_letter {k : Nat} (h : k < 6) : Txt.find (Str.ofString "abcdef") (rowS 0 k) = (k : Int) := eq_of_beq (List.all_eq_true.mp find_all k (List.mem_range.mpr h))

theorem row_at {pos : Nat → Nat} {l : List (Str × Tok)} {k : Nat} (hk : k < 6) (e : l.map (·.1) = (List.range 9).map (rowsAt pos)) : ∃ t, (strValues l).toArray[((k : Int) + 3 * ((k : Int).fdiv 3)).toNat]? = some (.str (rowS (pos k) k) t) := by
  have hi : ((k : Int) + 3 * ((k : Int).fdiv 3)).toNat < 9 ∧ rowsAt pos ((k : Int) + 3 * ((k : Int).fdiv 3)).toNat = rowS (pos k) k := by
    match k, hk with
    | 0, _ => exact ⟨by decide, rfl⟩
    | 1, _ => exact ⟨by decide, rfl⟩
    | 2, _ => exact ⟨by decide, rfl⟩
    | 3, _ => exact ⟨by decide, rfl⟩
    | 4, _ => exact ⟨by decide, rfl⟩
    | 5, _ => exact ⟨by decide, rfl⟩
  generalize ((k : Int) + 3 * ((k : Int).fdiv 3)).toNat = n at hi
  obtain ⟨h1, h2⟩ := hi
  have e2 := congrArg (fun x => x[n]?) e
  simp only [List.getElem?_map, List.getElem?_range h1, Option.map_some] at e2
  rw [h2] at e2
  cases q : l[n]? with
  | none => rw [q] at e2; cases e2
  | some p =>
    rw [q] at e2
    have e3 : p.1 = rowS (pos k) k := Option.some.inj e2
    refine ⟨p.2, ?_⟩
    rw [List.getElem?_toArray]
    show (l.map fun p => Value.str p.1 p.2)[n]? = _
    rw [List.getElem?_map, q, ← e3]; rfl

theorem not_over {n : Int} (h : n.natAbs < 1000000) : ¬ Flt.Over n := by
  have : (1000000 : Nat) ≤ 2 ^ 1024 - 2 ^ 970 := by decide +kernel
  exact Nat.not_le.mpr (Nat.lt_of_lt_of_le h this)
theorem div_K {prog : Program} {w : World} {A : Around} {E : Value → Shared → Prop} {s : Shared} {Q : Value → Shared → Prop} {n : Int} {a : UInt64} {t u : Tok} (hA : A.handled = none) (hn : n.natAbs < 1000000) (hz : Float64.isZero a = false)
   (h : Q (.float (Float64.div (Float64.ofInt n) a) s.toks) { s with toks := s.toks + 1 }) : wpAny (model prog w) A (binaryOp .Div (.int n u) (.float a t)) Q E s :=
  Flt.truediv_if hA (fun o => absurd o (not_over hn)) (fun _ o => by rw [hz] at o; cases o) fun _ _ => h
def piece (S : Nat → Nat) (k : Nat) : Str × Str := (Txt.mul (Str.ofString " ") (S k : Int), rowS 0 k)
theorem blank_all : ((List.range 5).all fun n => (Txt.mul (Str.ofString " ") (n : Int)).length == n) = true := by decide +kernel
theorem len_blank {prog : Program} {w : World} {A : Around} {E : Value → Shared → Prop} {s : Shared} {Q : Value → Shared → Prop} {S : Nat → Nat} {k : Nat} {t : Tok} (hS : S k ≤ 4) (h : Q (.int (S k) (s.toks + 1)) { s with toks := s.toks + 1 + 1 }) : wpAny (model prog w) A (call (.builtin "len") [.str (piece S k).1 t]) Q E s := by
  have e : (piece S k).1.length = S k := eq_of_beq (List.all_eq_true.mp blank_all (S k) (List.mem_range.mpr (by exact Nat.lt_of_le_of_lt hS (by decide))))
  refine len_str (by rw [e]; exact Mine.q_175 hS) ?_
  rw [e]; exact h

theorem news_off {h₀ h : Heap} {L : Addr} {news : List (Addr × Obj)} (N : News h₀ L h news) {p q : Addr × Obj} (hp : p ∈ news) (hq : q ∈ news) (hc : p.2 ≠ q.2) : p.1 ≠ q.1 := fun e => by
  have a := (N _ hp).1
  have b := (N _ hq).1
  rw [e, b] at a
  exact hc (Option.some.inj a).symm

theorem pick_two {g : Heap} {L : Addr} {T : List (Addr × Obj)} {c0 c1 y0 y1 : Addr} {S P pos : Nat → Nat} {ka kb st : Nat} {rest l : List Nat} (hP2 : PcT g T [.ref c0, .ref c1] [piece S ka, piece S kb]) (hy0 : y0 = if P ka < P kb then c0 else c1) (hy1 : y1 = if P ka < P kb then c1 else c0)
   (hPne : P ka ≠ P kb) (ha6 : ka < 6) (hb6 : kb < 6) (hpa : pos ka = st) (hpb : pos kb = st) (hch : l.Perm (ka :: kb :: rest)) :
   ∃ lo hi ta ua tb ub, PieceAt g L T y0 (piece S lo) ta ua ∧ PieceAt g L T y1 (piece S hi) tb ub ∧ lo < 6 ∧ hi < 6 ∧ P lo < P hi ∧ pos lo = st ∧ pos hi = st ∧ l.Perm (lo :: hi :: rest) := by
  obtain ⟨a0, t0', u0', e0, q0⟩ := hP2.ex (L := L) (i := 0) rfl rfl
  obtain ⟨a1, t1', u1', e1, q1⟩ := hP2.ex (L := L) (i := 1) rfl rfl
  cases e0
  cases e1
  by_cases hlt9 : P ka < P kb
  · rw [if_pos hlt9] at hy0 hy1
    subst hy0 hy1
    exact ⟨ka, kb, _, _, _, _, q0, q1, ha6, hb6, hlt9, hpa, hpb, hch⟩
  · rw [if_neg hlt9] at hy0 hy1
    subst hy0 hy1
    exact ⟨kb, ka, _, _, _, _, q1, q0, hb6, ha6, by exact Mine.q_176 hPne hlt9, hpb, hpa, hch.trans (List.Perm.swap _ _ _)⟩

theorem PieceAt.use {g h : Heap} {L : Addr} {m : Str → Option Value} {T T' : List (Addr × Obj)} {b : Addr} {c : Str × Str} {t u : Tok} (x : PieceAt g L T b c t u) (F : Fr g L h m) (N : News g L h T') (k : ∀ q ∈ T, q ∈ T') : h.get? b = some (tup2 c.1 c.2 t u) := x h m T' F N k
/-- one piece, kept in a ledger of its own -/
theorem piece_own {g h : Heap} {L : Addr} {m : Str → Option Value} {b : Addr} {c : Str × Str} {t u : Tok} (F : Fr g L h m) (e : h.get? b = some (tup2 c.1 c.2 t u)) : ∃ Tp, News g L h Tp ∧ PieceAt g L Tp b c t u ∧ ∀ q ∈ Tp, q.2.cls = .type "tuple" := by
  have bL : b ≠ L := ne_local F e (fun es ep q => by cases q)
  cases q : g.get? b with
  | some o =>
    have e2 := F.keep _ _ q
    rw [e] at e2
    cases e2
    exact ⟨[], (fun _ z => nomatch z), (fun h' m' T' F' N' k => F'.keep _ _ q), (fun _ z => nomatch z)⟩
  | none =>
    refine ⟨[(b, tup2 c.1 c.2 t u)], fun r hr => ?_, fun h' m' T' F' N' k => (N' _ (k _ (.head _))).1, fun r hr => ?_⟩
    · rw [List.mem_singleton] at hr; subst hr; exact ⟨e, bL, q⟩
    · rw [List.mem_singleton] at hr; subst hr; rfl
def rows9 (pos : Nat → Nat) (k : Nat) : Str := if k < 9 then rowsAt pos k else Str.ofString "."
theorem rows9_mem {pos : Nat → Nat} (h : ∀ k, k < 6 → pos k ≤ 8) (k : Nat) : rows9 pos k ∈ allRows := by
  unfold rows9
  split
  · exact rowsAt_mem h (by assumption)
  · exact List.mem_append_left _ (.tail _ (.tail _ (.head _)))
theorem rows_get {pos : Nat → Nat} {l : List (Str × Tok)} (e : l.map (·.1) = (List.range 9).map (rowsAt pos)) : ∀ k, k < 9 → ∃ t, (strValues l).toArray[k]? = some (.str (rows9 pos k) t) := by
  intro n h1
  have e2 := congrArg (fun x => x[n]?) e
  simp only [List.getElem?_map, List.getElem?_range h1, Option.map_some] at e2
  cases q : l[n]? with
  | none => rw [q] at e2; cases e2
  | some p =>
    rw [q] at e2
    have e3 : p.1 = rowsAt pos n := Option.some.inj e2
    refine ⟨p.2, ?_⟩
    unfold rows9
    rw [if_pos h1, List.getElem?_toArray]
    show (l.map fun p => Value.str p.1 p.2)[n]? = _
    rw [List.getElem?_map, q, ← e3]; rfl
theorem heard_rows {S pos : Nat → Nat} {lo hi : Nat} {l : List (Str × Tok)} (hlo : lo < 6) (hhi : hi < 6) (hp : ∀ k, k < 6 → 1 ≤ pos k ∧ pos k ≤ 7) (hne : lo ≠ hi) (e : l.map (·.1) = (List.range 9).map fun k => hearS (piece S lo) (piece S hi) (stuffS (rows9 pos k))) :
   l.map (·.1) = (List.range 9).map (rowsAt (upd (upd pos lo (pos lo - 1)) hi (pos hi + 1))) := by
  rw [e]
  refine List.map_congr_left fun k hk => ?_
  have hk9 := List.mem_range.mp hk
  unfold rows9
  rw [if_pos hk9]
  have one : ∀ j, j < 6 → hearS (piece S lo) (piece S hi) (stuffS (rowS (pos j) j)) = rowS (upd (upd pos lo (pos lo - 1)) hi (pos hi + 1) j) j := by
    intro j hj
    obtain ⟨a, b⟩ := hp j hj
    rw [heard_row a (by exact Nat.lt_of_le_of_lt b (by decide)) hj hlo hhi rfl rfl]
    unfold upd
    by_cases q1 : j = hi
    · rw [if_pos q1, if_pos q1, q1]
    · rw [if_neg q1, if_neg q1]
      by_cases q2 : j = lo
      · rw [if_pos q2, if_pos q2, q2]
      · rw [if_neg q2, if_neg q2]
  unfold rowsAt
  split
  · exact one k (by exact Nat.lt_of_lt_of_le ‹_› (by decide))
  split
  · exact heard_const (.head _) hlo hhi rfl rfl
  split
  · exact heard_const (.tail _ (.head _)) hlo hhi rfl rfl
  split
  · exact heard_const (.tail _ (.tail _ (.head _))) hlo hhi rfl rfl
  · exact one (k - 3) (by exact Mine.q_172 hk9)
theorem nodup_perm {l1 l2 : List Nat} (h1 : l1.Nodup) (h2 : l2.Nodup) (h : ∀ a, a ∈ l1 ↔ a ∈ l2) : l1.Perm l2 := by
  rw [List.perm_iff_count]
  intro a
  have a1 := List.nodup_iff_count.mp h1 a
  have a2 := List.nodup_iff_count.mp h2 a
  have b1 : 0 < List.count a l1 ↔ a ∈ l1 := List.count_pos_iff
  have b2 : 0 < List.count a l2 ↔ a ∈ l2 := List.count_pos_iff
  have := h a
  by_cases q : a ∈ l1
  · have := b1.mpr q
    have := b2.mpr ((h a).mp q)
    exact Mine.q_177 ‹_› this a1 a2
  · have z1 : ¬ 0 < List.count a l1 := fun z => q (b1.mp z)
    have z2 : ¬ 0 < List.count a l2 := fun z => q ((h a).mpr (b2.mp z))
    exact Mine.q_178 z1 z2
theorem chips_nodup {pos : Nat → Nat} {j : Nat} : (chipsAt pos j).Nodup := List.Nodup.sublist List.filter_sublist List.nodup_range
theorem mem_chips {pos : Nat → Nat} {j k : Nat} : k ∈ chipsAt pos j ↔ k < 6 ∧ pos k = j := by
  unfold chipsAt
  rw [List.mem_filter, List.mem_range, beq_iff_eq]
theorem chips_step {S pos : Nat → Nat} {lo hi st : Nat} {rest : List Nat} {pc pc' : Nat → List (Str × Str)} (hlo : lo < 6) (hhi : hi < 6) (hne : lo ≠ hi) (hplo : pos lo = st) (hphi : pos hi = st) (h1 : 1 ≤ st) (h7 : st ≤ 7) (hch : (chipsAt pos st).Perm (lo :: hi :: rest))
   (hperm : ∀ j, j < 9 → j ≠ st → (pc j).Perm ((chipsAt pos j).map (piece S))) (hrest : (pc st).Perm (rest.map (piece S)))
   (hpc : ∀ j, pc' j = if j = st + 1 then pc j ++ [piece S hi] else if j = st - 1 then pc j ++ [piece S lo] else pc j) :
   ∀ j, j < 9 → (pc' j).Perm ((chipsAt (upd (upd pos lo (pos lo - 1)) hi (pos hi + 1)) j).map (piece S)) := by
  intro j hj
  have mem' : ∀ k j, k ∈ chipsAt (upd (upd pos lo (pos lo - 1)) hi (pos hi + 1)) j ↔ k < 6 ∧ (if k = hi then st + 1 else if k = lo then st - 1 else pos k) = j := by
    intro k j
    rw [mem_chips]
    unfold upd
    rw [hplo, hphi]
  have nd2 : (lo :: hi :: rest).Nodup := hch.nodup chips_nodup
  rw [hpc]
  by_cases q1 : j = st + 1
  · rw [if_pos q1]
    have e : (chipsAt (upd (upd pos lo (pos lo - 1)) hi (pos hi + 1)) j).Perm (chipsAt pos j ++ [hi]) := by
      refine nodup_perm chips_nodup (List.nodup_append.mpr ⟨chips_nodup, List.pairwise_singleton _ _, ?_⟩) fun k => ?_
      · intro a ha b hb e
        rw [List.mem_singleton] at hb
        rw [mem_chips] at ha
        rw [e, hb, hphi] at ha
        exact Mine.q_179 q1 ha
      · rw [mem', List.mem_append, List.mem_singleton, mem_chips]
        constructor
        · rintro ⟨a, b⟩
          split at b
          · exact .inr (by assumption)
          · split at b
            · exact Mine.q_180 b q1
            · exact .inl ⟨a, b⟩
        · rintro (⟨a, b⟩ | rfl)
          · refine ⟨a, ?_⟩
            rw [if_neg (by rintro rfl; exact Mine.q_181 q1 b hphi), if_neg (by rintro rfl; exact Mine.q_181 q1 b hplo)]; exact b
          · exact ⟨hhi, by rw [if_pos rfl, q1]⟩
    have h9 := (hperm j hj (by exact Mine.q_182 q1)).append_right [piece S hi]
    refine h9.trans ?_
    have := (e.map (piece S)).symm
    rw [List.map_append] at this
    exact this
  rw [if_neg q1]
  by_cases q2 : j = st - 1
  · rw [if_pos q2]
    have e : (chipsAt (upd (upd pos lo (pos lo - 1)) hi (pos hi + 1)) j).Perm (chipsAt pos j ++ [lo]) := by
      refine nodup_perm chips_nodup (List.nodup_append.mpr ⟨chips_nodup, List.pairwise_singleton _ _, ?_⟩) fun k => ?_
      · intro a ha b hb e
        rw [List.mem_singleton] at hb
        rw [mem_chips] at ha
        rw [e, hb, hplo] at ha
        exact Mine.q_183 h1 q2 ha
      · rw [mem', List.mem_append, List.mem_singleton, mem_chips]
        constructor
        · rintro ⟨a, b⟩
          split at b
          · exact Mine.q_184 b q2
          · split at b
            · exact .inr (by assumption)
            · exact .inl ⟨a, b⟩
        · rintro (⟨a, b⟩ | rfl)
          · refine ⟨a, ?_⟩
            rw [if_neg (by rintro rfl; exact Mine.q_185 h1 q2 hphi b), if_neg (by rintro rfl; exact Mine.q_185 h1 q2 hplo b)]; exact b
          · exact ⟨hlo, by rw [if_neg hne, if_pos rfl, q2]⟩
    have h9 := (hperm j hj (by exact Mine.q_186 h1 q2)).append_right [piece S lo]
    refine h9.trans ?_
    have := (e.map (piece S)).symm
    rw [List.map_append] at this
    exact this
  rw [if_neg q2]
  by_cases q3 : j = st
  · rw [q3]
    refine hrest.trans (List.Perm.map _ (nodup_perm (List.nodup_cons.mp (List.nodup_cons.mp nd2).2).2 chips_nodup fun k => ?_))
    rw [mem']
    have hm : k ∈ chipsAt pos st ↔ k ∈ lo :: hi :: rest := hch.mem_iff
    rw [mem_chips, List.mem_cons, List.mem_cons] at hm
    constructor
    · intro hk
      have hk1 := hm.mpr (.inr (.inr hk))
      refine ⟨hk1.1, ?_⟩
      rw [if_neg (by rintro rfl; exact (List.nodup_cons.mp (List.nodup_cons.mp nd2).2).1 hk), if_neg (by rintro rfl; exact (List.nodup_cons.mp nd2).1 (.tail _ hk))]
      exact hk1.2
    · rintro ⟨a, b⟩
      split at b
      · exact (Mine.q_187 b).elim
      · split at b
        · exact (Mine.q_188 b h1).elim
        · rcases hm.mp ⟨a, b⟩ with q | q | q
          · contradiction
          · contradiction
          · exact q
  · refine (hperm j hj q3).trans (List.Perm.map _ (nodup_perm chips_nodup chips_nodup fun k => ?_))
    rw [mem', mem_chips]
    constructor
    · rintro ⟨a, b⟩
      refine ⟨a, ?_⟩
      rw [if_neg (by rintro rfl; exact Mine.q_189 b hphi q3), if_neg (by rintro rfl; exact Mine.q_189 b hplo q3)]; exact b
    · rintro ⟨a, b⟩
      split at b
      · exact Mine.q_190 b q1
      · split at b
        · exact Mine.q_191 b q2
        · exact ⟨a, b⟩
end Mine
end

section
open PySem PySem.W PySem.Calls PySem.Spec PyProof.Rows PySem.Flt PySem.SeqAt
set_option Elab.async false
set_option maxRecDepth 100000
set_option maxHeartbeats 8000000
set_option linter.unusedVariables false
namespace Mine
theorem fill14 : PySem.Challenge.rw_sn0012_01 = PySem.Challenge.rw_sn0012_01 ∧ hd.heap_39 = hd.heap_39 := by
  k_fill
  exact ⟨rfl, rfl⟩
theorem row_count_all : ((List.range 9).all fun n => (List.range 6).all fun k => Txt.count (rowS n k) (Str.ofString ".") == (n : Int)) = true := by decide +kernel
theorem row_count {n k : Nat} (hn : n < 9) (hk : k < 6) : Txt.count (rowS n k) (Str.ofString ".") = (n : Int) := by
  have h := row_count_all
  simp only [List.all_eq_true, List.mem_range] at h
  exact eq_of_beq (h n hn k hk)
section
variable {w : World} {A : Around} {E : Value → Shared → Prop} {s : Shared} {Q : Value → Shared → Prop} {g : Heap} {L : Addr} {m : Str → Option Value} {mean : ExcName → Option Value} {mg mb : Str → Option Value} {news : List (Addr × Obj)}
theorem count_row {n k : Nat} {t u : Tok} (hn : n < 9) (hk : k < 6) (h : Q (.int n s.toks) { s with toks := s.toks + 1 }) : wpAny (model PP w) A (call (.builtin "str.count") [.str (rowS n k) t, .str (Str.ofString ".") u]) Q E s :=
  call_gives F.slot_str_count (typeIs_str _ _ _) F.entry_str_count (F.args_str_count_2 _ _) (gives_str_count _ _ t u) (by
    have e := row_count hn hk
    show Q (.int (Txt.count (rowS n k) (Str.ofString ".")) s.toks) _
    rw [e]; exact h)
theorem hsv_K {p n k t0 : Nat} {t1 t2 t3 : Tok} (G : Gd w mean mg mb g) (F : Fr g L s.heap m) (N : News g L s.heap news) (hp : p < 64) (ht : t0 < 14) (hn : 1 ≤ n ∧ n ≤ 4) (hk : 1 ≤ k ∧ k ≤ 7) (h3 : @Ne Nat t3 0) (hdp : A.depth + 20 < recursionLimit) (hun : A.units + 200 < cLine) (hh : A.handled = none)
   (h : ∀ h' tk a c ta tb tc, Fr g L h' m → News g L h' ((a, flt3 (Prod.fst c) (Prod.fst (Prod.snd c)) (Prod.snd (Prod.snd c)) ta tb tc) :: news) → FlOk p n k c → (@Ne Nat ta 0 ∧ @Ne Nat tb 0 ∧ @Ne Nat tc 0) → @LE.le Nat _ s.toks tk → Q (.ref a) { s with heap := h', toks := tk }) :
   wpAny (model PP w) A (call (.ref 69) [.float (Float64.add (Float64.ofInt (0 + (t0 : Int))) (Float64.div (Float64.ofInt p) 4634204016564240384)) t1, .float (Float64.div (Float64.ofInt n) 4616189618054758400) t2, .float (Float64.div (Float64.ofInt k) 4620693217682128896) t3]) Q E s := by
  have eh : Float64.add (Float64.ofInt (0 + (t0 : Int))) (Float64.div (Float64.ofInt p) 4634204016564240384) = hue t0 p := by rw [Int.zero_add]; rfl
  have es : Float64.div (Float64.ofInt n) 4616189618054758400 = sh n := rfl
  have ek : Float64.div (Float64.ofInt k) 4620693217682128896 = sp k := rfl
  rw [eh, es, ek]
  have o1 := ok_hue t0 ht p hp
  obtain ⟨n, rfl⟩ : ∃ n', n = n' + 1 := ⟨n - 1, by exact Mine.q_166 hn⟩
  obtain ⟨k, rfl⟩ : ∃ k', k = k' + 1 := ⟨k - 1, by exact Mine.q_167 hk⟩
  have o2 := ok_facts (ok_all p hp n (by exact Mine.q_168 hn) k (by exact Mine.q_169 hk))
  unfold okHue at o1
  simp only [Bool.and_eq_true, beq_iff_eq, decide_eq_true_eq] at o1
  refine any_toks ?_
  refine wpAny_call (hsv_c G F.keep o2.s0 o1.1.1.1 o1.1.1.2 o1.1.2 hdp hun hh fun h' tk a r g' b ta tb tc k0 n0 e1 e2 e9 => ?_)
  intro le
  have r0 : g.get? a = none := by
    cases q : g.get? a with
    | none => rfl
    | some o => have := F.keep _ _ q; rw [n0] at this; cases this
  have aL : a ≠ L := fun q => by
    obtain ⟨oL, _, _, hL, _⟩ := F.ns
    rw [q, hL] at n0; cases n0
  refine h h' tk a (r, g', b) ta tb tc (fr_sub F k0) (news_cons (news_sub N k0) e1 aL r0) ?_ (e9 h3) le
  rw [e2]
  have e3 := o1.2
  unfold jF at e3 o2
  obtain ⟨e4, e5⟩ := Prod.mk.inj e3
  rw [e4, e5]
  exact o2
theorem rgb_K {p n k : Nat} {c : UInt64 × UInt64 × UInt64} {t1 t2 t3 : Tok} (G : Gd w mean mg mb g) (F : Fr g L s.heap m) (N : News g L s.heap news) (o : FlOk p n k c) (hz : @Ne Nat t1 0 ∧ @Ne Nat t2 0 ∧ @Ne Nat t3 0) (hdp : A.depth + 20 < recursionLimit) (hun : A.units + 200 < cLine) (hh : A.handled = none)
   (h : ∀ h' tk a ta tb tc, Fr g L h' m → News g L h' ((a, flt3 (pl p) (sh n) (sp k) ta tb tc) :: news) → @LT.lt Nat _ s.toks ta → @LT.lt Nat _ ta tk → (@Ne Nat ta 0 ∧ @Ne Nat tb 0 ∧ @Ne Nat tc 0) → Q (.ref a) { s with heap := h', toks := tk }) :
   wpAny (model PP w) A (call (.ref 62) [.float c.1 t1, .float c.2.1 t2, .float c.2.2 t3]) Q E s := by
  refine wpAny_call (rgb_c G F.keep o.nm o.z1 o.z2 hdp hun hh fun h' tk a r g' b ta tb tc k0 n0 e1 e2 q1 q2 q3 q4 => ?_)
  have r0 : g.get? a = none := by
    cases q : g.get? a with
    | none => rfl
    | some o => have := F.keep _ _ q; rw [n0] at this; cases this
  have aL : a ≠ L := fun q => by
    obtain ⟨oL, _, _, hL, _⟩ := F.ns
    rw [q, hL] at n0; cases n0
  have e3 : (r, g', b) = (pl p, sh n, sp k) := e2.trans o.out
  obtain ⟨e4, e5⟩ := Prod.mk.inj e3
  obtain ⟨e5, e6⟩ := Prod.mk.inj e5
  subst e4 e5 e6
  refine h h' tk a ta tb tc (fr_sub F k0) (news_cons (news_sub N k0) e1 aL r0) q1 q2 ⟨Nat.ne_of_gt (Nat.lt_of_le_of_lt (Nat.zero_le _) q1), q3, ?_⟩
  rcases q4 with rfl | rfl | rfl
  · exact hz.1
  · exact hz.2.1
  · exact hz.2.2
end
theorem ns_none {K : Frag} {h : Heap} {a : Addr} {mg : Str → Option Value} {n : Str} (X : K.In h) (G : h.Ns a mg) (e : nsIn K a n = some none) : mg n = none := by
  unfold nsIn at e
  split at e
  · rename_i c d es' n' sl q
    obtain ⟨o, es, ep, ho, hd', _, hf⟩ := G
    have q2 := (X _ _ q).symm.trans ho
    cases q2
    cases hd'
    split at e
    · cases e
    · rename_i he
      rw [← hf]
      unfold nsFind findBy
      rw [← Array.find?_toList, he]
      rfl
  · cases e
theorem not_booked {w : World} {g h : Heap} {L : Addr} {m mg mb : Str → Option Value} {mean : ExcName → Option Value} (G : Gd w mean mg mb g) (F : Fr g L h m) : NoneBooked h := by
  obtain ⟨mc, h1, _⟩ := G.T.nolimit
  exact ⟨mc, h1.keeps F.keep, ns_none G.X h1 (by k_is)⟩
section
variable {A : Around} {s : Shared} {a b : UInt64} {t u : Tok}
theorem created_any {M : Model} {A : Around} {E : Value → Shared → Prop} {s : Shared} {c : Bool} {t u : Tok} {Q : Bool → Shared → Prop} (h0 : @Ne Nat t 0) (h1 : @Ne Nat u 0) (hb : NoneBooked s.heap) (hq : ∀ b, Q b s) : wpAny M A (isSame.created c t u) Q E s := by
  have z : (t == 0 || u == 0) = false := by
    rw [Bool.or_eq_false_iff]
    exact ⟨beq_eq_false_iff_ne.mpr h0, beq_eq_false_iff_ne.mpr h1⟩
  unfold isSame.created
  refine wpAny_ite ?_
  rw [if_neg (by rw [z]; decide)]
  refine wpAny_ite ?_
  split
  · exact wpAny_pure (hq _)
  refine wpAny_ite ?_
  split
  · exact wpAny_pure (hq _)
  refine wpAny_bind (wpAny_sharingNotTold_none hb ?_)
  first | rw [if_neg Bool.false_ne_true] | simp only [Bool.false_eq_true, if_false]
  refine wpAny_bind (wpAny_sharingNotTold_none hb ?_)
  first | rw [if_neg Bool.false_ne_true] | simp only [Bool.false_eq_true, if_false]
  exact wpAny_bind (wpAny_rule (wpAny_bind (wpAny_askSetting (wpAny_pure (hq _)))))
theorem created_no {M : Model} {A : Around} {E : Value → Shared → Prop} {s : Shared} {t u : Tok} {Q : Bool → Shared → Prop} (h0 : @Ne Nat t 0) (h1 : @Ne Nat u 0) (h2 : @Ne Nat t u) (hq : Q false s) : wpAny M A (isSame.created false t u) Q E s := by
  have z : (t == 0 || u == 0) = false := by
    rw [Bool.or_eq_false_iff]
    exact ⟨beq_eq_false_iff_ne.mpr h0, beq_eq_false_iff_ne.mpr h1⟩
  unfold isSame.created
  refine wpAny_ite ?_
  rw [if_neg (by rw [z]; decide)]
  refine wpAny_ite ?_
  rw [if_neg (by rw [beq_iff_eq]; exact h2)]
  refine wpAny_ite ?_
  rw [if_pos (by decide)]
  exact wpAny_pure hq
theorem float_at (hb : NoneBooked s.heap) (ht : @Ne Nat t 0) (hu : @Ne Nat u 0) (h : (Float64.cmp a a == some Ordering.eq) = true) : EqAt A s (.float a t) (.float a u) true := fun prog w E Q hq => by
  unfold eqBool
  refine wpAny_holding ?_
  refine wpAny_ite_split (fun _ => ?_) (fun _ => ?_)
  · exact wpAny_bind (wpAny_rule (wpAny_pure hq))
  · refine wpAny_bind ?_
    show wpAny _ _ (isSame.created _ t u) _ _ _
    refine created_any ht hu hb fun b => ?_
    cases b with
    | true => exact wpAny_pure hq
    | false => exact wpAny_bind (AutoFloatOps.eq_0 (by rw [h]; exact wpAny_truthy_bool hq))
theorem float_off (ht : @Ne Nat t 0) (hu : @Ne Nat u 0) (htu : @Ne Nat t u) (hab : a ≠ b) (h : (Float64.cmp a b == some Ordering.eq) = false) : EqAt A s (.float a t) (.float b u) false := fun prog w E Q hq => by
  unfold eqBool
  refine wpAny_holding ?_
  refine wpAny_ite_split (fun q => ?_) (fun _ => ?_)
  · have := eq_of_beq q
    cases this
    exact absurd rfl hab
  · refine wpAny_bind ?_
    show wpAny _ _ (isSame.created (a == b && !Float64.isNaN a) t u) _ _ _
    rw [show (a == b) = false from beq_eq_false_iff_ne.mpr hab]
    refine created_no ht hu htu ?_
    exact wpAny_bind (AutoFloatOps.eq_0 (by rw [h]; exact wpAny_truthy_bool hq))
end
theorem pl_refl : ∀ p : Nat, p < 64 → (Float64.cmp (pl p) (pl p) == some Ordering.eq) = true := by decide +kernel
theorem sh_refl : ∀ p : Nat, p < 5 → (Float64.cmp (sh p) (sh p) == some Ordering.eq) = true := by decide +kernel
theorem sp_refl : ∀ p : Nat, p < 8 → (Float64.cmp (sp p) (sp p) == some Ordering.eq) = true := by decide +kernel
theorem told_ne {w : World} {A : Around} {E : Value → Shared → Prop} {s : Shared} {Q : Value → Shared → Prop} {g : Heap} {L : Addr} {m : Str → Option Value} {mean : ExcName → Option Value} {mg mb : Str → Option Value} {news : List (Addr × Obj)} {l b : Addr} {p n k : Nat} {ta tb tc ua ub uc : Tok}
   (G : Gd w mean mg mb g) (F : Fr g L s.heap m) (N : News g L s.heap news) (m1 : (l, flt3 (pl p) (sh n) (sp k) ta tb tc) ∈ news) (m2 : (b, flt3 (Float64.div (Float64.ofInt p) 4634204016564240384) (Float64.div (Float64.ofInt n) 4616189618054758400) (Float64.div (Float64.ofInt k) 4620693217682128896) ua ub uc) ∈ news)
   (hp : p < 64) (hn : n ≤ 4) (hk : k ≤ 7) (z1 : @Ne Nat ta 0 ∧ @Ne Nat tb 0 ∧ @Ne Nat tc 0) (z2 : @Ne Nat ua 0 ∧ @Ne Nat ub 0 ∧ @Ne Nat uc 0) (hu : A.units < cLine) (h : Q (.bool false) s) : wpAny (model PP w) A (compareOp .NotEq (.ref l) (.ref b)) Q E s := by
  have hb := not_booked G F
  refine RcNeAt.tuples (items := #[.float (pl p) ta, .float (sh n) tb, .float (sp k) tc]) (items2 := #[.float (pl p) ua, .float (sh n) ub, .float (sp k) uc]) (e := fun _ => true) ⟨_, (N _ m1).1, rfl, 0, rfl⟩ ⟨_, (N _ m2).1, rfl, 0, rfl⟩ hu (fun j h1 h2 => ?_) _ w E Q h
  match j, h1 with
  | 0, _ => exact float_at hb z1.1 z2.1 (pl_refl p hp)
  | 1, _ => exact float_at hb z1.2.1 z2.2.1 (sh_refl n (by exact Nat.lt_of_le_of_lt hn (by decide)))
  | 2, _ => exact float_at hb z1.2.2 z2.2.2 (sp_refl k (by exact Nat.lt_of_le_of_lt hk (by decide)))
end Mine
end

section
open PySem PySem.W PySem.Calls PySem.Spec PyProof.Rows PySem.Flt PySem.SeqAt
set_option Elab.async false
set_option maxRecDepth 100000
set_option maxHeartbeats 8000000
set_option linter.unusedVariables false
namespace Mine
theorem fill15 : PySem.Challenge.rw_sn0012_01 = PySem.Challenge.rw_sn0012_01 ∧ hd.heap_39 = hd.heap_39 := by
  k_fill
  exact ⟨rfl, rfl⟩
def cmpOk (a b : UInt64) (p q : Nat) : Bool := Float64.cmp a b == (if p < q then some .lt else if q < p then some .gt else some .eq)
theorem pl_cmp_all : ((List.range 64).all fun p => force (pl p) fun a => (List.range 64).all fun q => force (pl q) fun b => cmpOk a b p q) = true := by decide +kernel
theorem pl_cmp {p q : Nat} (hp : p < 64) (hq : q < 64) : Float64.cmp (pl p) (pl q) = (if p < q then some .lt else if q < p then some .gt else some .eq) := by
  have h := pl_cmp_all
  simp only [List.all_eq_true, List.mem_range, force_eq] at h
  exact eq_of_beq (h p hp q hq)
theorem oneLt_float {prog : Program} {w : World} {A : Around} {E : Value → Shared → Prop} {s : Shared} {a b : UInt64} {t u : Tok} {c : Bool} {Q : Bool → Shared → Prop} (hc : (Float64.cmp a b == some Ordering.lt) = c) (h : Q c s) : wpAny (model prog w) A (oneLt' true (.float a t) (.float b u)) Q E s := by
  rw [oneLt'_eq]
  simp only [if_true]
  refine wpAny_bind (wpAny_cRoomFor_byValue rfl ?_)
  refine wpAny_bind (wpAny_callSpecialIfBound?_slot (typeIs_float s a t) F.slot_float_lt (call_gives F.slot_float_lt (typeIs_float s a t) F.entry_float_lt (F.args_float_lt_2 _ _) (AutoFloatG5.float___lt___float_float_0 a t b u) ?_))
  show wpAny _ _ (truthOfDropped (Value.bool (Float64.cmp a b == some Ordering.lt))) _ _ _
  rw [hc]
  exact wpAny_truthy_bool h
local macro_rules | `(tactic| walk_at "eqBool") => `(tactic| ((with_reducible show wpAny _ _ (eqBool (Value.float _ _) (Value.float _ _)) _ _ _); refine haltN 1 ?_))
local macro_rules | `(tactic| walk_at "oneLt'") => `(tactic| (k_here; kat_flag; refine oneLt_float (by assumption) ?_))
theorem sorted_two {w : World} {A : Around} {E : Value → Shared → Prop} {s : Shared} {Q : Value → Shared → Prop} {g : Heap} {L : Addr} {m : Str → Option Value} {mean : ExcName → Option Value} {mg mb : Str → Option Value} {news : List (Addr × Obj)} {sn D0 D1 c0 c1' : Addr} {p q se : Nat} {t0 t1 : Tok}
   (G : Gd w mean mg mb g) (F : Fr g L s.heap m) (N : News g L s.heap ((sn, listOf #[.ref D0, .ref D1] se) :: (D0, tupF (pl p) t0 c0) :: (D1, tupF (pl q) t1 c1') :: news)) (hp : p < 64) (hq : q < 64) (hpq : p ≠ q) (z0 : @Ne Nat t0 0) (z1 : @Ne Nat t1 0) (ht : @LT.lt Nat _ t0 t1) (hun : A.units + 64 < cLine) (hh : A.handled = none)
   (h : ∀ D e h' tk x0 x1 f0 f1 u0 u1 y0 y1, y0 = (if p < q then c0 else c1') → y1 = (if p < q then c1' else c0) → Fr g L h' m → News g L h' ((D, listOf #[.ref x0, .ref x1] e) :: (x0, tupF f0 u0 y0) :: (x1, tupF f1 u1 y1) :: news) → Q (.ref D) { s with heap := h', toks := tk }) :
   wpAny (model PP w) A (call (.builtin "sorted") [.ref sn]) Q E s := by
  have X := G.X
  have T := G.T
  obtain ⟨sh0, sg, sd, stk, sos⟩ := s
  dsimp only at F N h ⊢
  have hne : @Ne Nat t1 t0 := Ne.symm (Nat.ne_of_lt ht)
  have c1 := pl_cmp hq hp
  have hab : pl q ≠ pl p := fun e => by
    rw [e] at c1
    have := pl_cmp hp hp
    rw [this, if_neg (Nat.lt_irrefl _), if_neg (Nat.lt_irrefl _)] at c1
    rcases Nat.lt_trichotomy p q with r | r | r
    · rw [if_neg (by exact Mine.q_65 r), if_pos r] at c1; cases c1
    · exact hpq r
    · rw [if_pos r] at c1; cases c1
  have heq : (Float64.cmp (pl q) (pl p) == some Ordering.eq) = false := by
    rw [c1]
    rcases Nat.lt_trichotomy p q with r | r | r
    · rw [if_neg (by exact Mine.q_65 r), if_pos r]; rfl
    · exact absurd r hpq
    · rw [if_pos r]; rfl
  by_cases hlt : p < q
  · have hc : (Float64.cmp (pl q) (pl p) == some Ordering.lt) = false := by rw [c1, if_neg (by exact Mine.q_65 hlt), if_pos hlt]; rfl
    simp only [if_pos hlt] at h
    refine kat_sorted (vs := [.ref D0, .ref D1]) F N ⟨_, (N _ (.head _)).1, rfl, _, rfl⟩ (Nat.le_refl 2) (by show 2 < 64; decide) fun D e1 h' F' N' lt => ?_
    refine kat_kind (T := .type "float") (fs := [.float (pl p) t0, .float (pl q) t1]) (KatTups.cons (N' _ (.tail _ (.tail _ (.head _)))).1 rfl rfl rfl (KatTups.cons (N' _ (.tail _ (.tail _ (.tail _ (.head _))))).1 rfl rfl rfl KatTups.nil)) (Nat.zero_lt_succ 1) ?tt rfl ?_
    case tt =>
      intro v hv
      simp only [List.mem_cons, List.not_mem_nil, or_false] at hv
      rcases hv with rfl | rfl <;> exact .now
    clear F N
    k_steps
    repeat (any_goals (first
      | ((with_reducible refine goN 1 ?_); refine float_off (by assumption) (by assumption) (by assumption) (by assumption) (by assumption) _ _ _ _ ?_; k_steps)))
    exact KasFin.intro F' N' (UpdF.head fun q hq => Nat.ne_of_lt (lt q hq)) fun h2 c2 F2 N2 => h D c2 h2 _ D0 D1 _ _ t0 t1 c0 c1' rfl rfl F2 (news_weak N2 (by
      refine all_cons ?_ ?_
      · exact .head _
      refine all_cons ?_ ?_
      · exact .tail _ (.tail _ (.head _))
      refine all_cons ?_ ?_
      · exact .tail _ (.tail _ (.tail _ (.head _)))
      intro q hq
      · exact .tail _ (.tail _ (.tail _ (.tail _ hq)))))
  · have hc : (Float64.cmp (pl q) (pl p) == some Ordering.lt) = true := by rw [c1, if_pos (by exact Mine.q_176 hpq hlt)]; rfl
    simp only [if_neg hlt] at h
    refine kat_sorted (vs := [.ref D0, .ref D1]) F N ⟨_, (N _ (.head _)).1, rfl, _, rfl⟩ (Nat.le_refl 2) (by show 2 < 64; decide) fun D e1 h' F' N' lt => ?_
    refine kat_kind (T := .type "float") (fs := [.float (pl p) t0, .float (pl q) t1]) (KatTups.cons (N' _ (.tail _ (.tail _ (.head _)))).1 rfl rfl rfl (KatTups.cons (N' _ (.tail _ (.tail _ (.tail _ (.head _))))).1 rfl rfl rfl KatTups.nil)) (Nat.zero_lt_succ 1) ?tt rfl ?_
    case tt =>
      intro v hv
      simp only [List.mem_cons, List.not_mem_nil, or_false] at hv
      rcases hv with rfl | rfl <;> exact .now
    clear F N
    k_steps
    repeat (any_goals (first
      | ((with_reducible refine goN 1 ?_); refine float_off (by assumption) (by assumption) (by assumption) (by assumption) (by assumption) _ _ _ _ ?_; k_steps)))
    exact KasFin.intro F' N' (UpdF.head fun q hq => Nat.ne_of_lt (lt q hq)) fun h2 c2 F2 N2 => h D c2 h2 _ D1 D0 _ _ t1 t0 c1' c0 rfl rfl F2 (news_weak N2 (by
      refine all_cons ?_ ?_
      · exact .head _
      refine all_cons ?_ ?_
      · exact .tail _ (.tail _ (.tail _ (.head _)))
      refine all_cons ?_ ?_
      · exact .tail _ (.tail _ (.head _))
      intro q hq
      · exact .tail _ (.tail _ (.tail _ (.tail _ hq)))))
end Mine
end

section
open PySem PySem.W PySem.Calls PySem.Spec PyProof.Rows
set_option Elab.async false
set_option maxRecDepth 100000
set_option maxHeartbeats 8000000
set_option linter.unusedVariables false
namespace Mine
theorem fill13 : PySem.Challenge.rw_sn0012_01 = PySem.Challenge.rw_sn0012_01 ∧ hd.heap_39 = hd.heap_39 := by
  k_fill
  exact ⟨rfl, rfl⟩
/-- entering a plain def that makes cells; nothing old may be written -/
theorem enterC {w : World} {mean : ExcName → Option Value} {mg mb : Str → Option Value} {A : Around} {s : Shared} {h₀ : Heap} {R : Result → Shared → Prop}
    {name qual : Str} {params : Arguments} {body : List Stmt} {scope : Scope} {dV kV doc pm cdv ct oc : Value} {an od : Option Addr} {osl : Array (Option Value)} {f : Addr} {args : Args}
    (hs : List Addr) (binds : List (Str × Value)) (G : Gd w mean mg mb h₀) (hk0 : Sub h₀ s.heap) (hn : ∀ a ∈ hs, h₀.get? a = none)
    (ho : (hd.heap_39 w.params).lookup f = some ⟨oc, od, .func (fnX name qual params body scope [] dV kV doc pm an cdv ct), osl⟩) (hcd : codeIn (hd.heap_39 w.params) cdv qual = true) (hroom : A.depth < recursionLimit)
    (hbind : BindsTo s (fnX name qual params body scope [] dV kV doc pm an cdv ct) args binds)
    (hkind : ∀ n, ∀ x ∈ binds, scope.names.lookup x.1 = some .local ∨ (scope.names.lookup x.1 = some .cell ∧ ((cellsFrom n scope.names []).lookup x.1).isSome = true))
    (hnd : ((cellsFrom 0 scope.names []).map (·.1)).Nodup) (hco : scope.isCoroutine = false) (hgen : scope.isGenerator = false) (hk : scope.kind = .function)
    (h : ∀ h₁ g tk cells, Fr g s.heap.objs.size h₁ (bindL (envOfC qual scope s.heap.objs.size f cdv).kindOf binds fun _ => none) → Sub s.heap h₁ → g = hideAll s.heap hs → Gd w mean mg mb g → (hd.heap_39 w.params).In g → TopRead hd.view_39 LO mg mb g →
      News g s.heap.objs.size h₁ cells → CellsAre (bindC (envOfC qual scope s.heap.objs.size f cdv).kindOf binds fun _ => none) (cellsFrom (s.heap.objs.size + 1) scope.names []) cells →
      wpAny (model PP w) (A.deeper (envOfC qual scope s.heap.objs.size f cdv)) (execs body (envOfC qual scope s.heap.objs.size f cdv))
        (fun fl s' => R (.ok (.ret (match fl with | .ret v => v | _ => .none))) s') (fun _ _ => False) { s with heap := h₁, toks := tk }) :
    codeAny (model PP w) A (.call (.ref f) args) R s := by
  have Gs := G.keeps hk0
  refine codeAny_call_function hroom (Gs.X _ _ ho) rfl hco hgen rfl (codeRec_of Gs.X hcd) (hbind _ _ _ _ ?_)
  refine wpAny_newFunctionEnv_cells hk (hkind _) fun env' he s' x => ?_
  subst he
  refine ⟨Gs.T.nolimit.keeps x.toInCall.keep, codeAny_func ?_⟩
  refine el_2_2 (x.done) fun h₁ tk e9_2 _ => ?_; subst e9_2
  have hk₁ := x.toInCall.keep
  refine el_1_2 (Cl.news (h₀ := s.heap) (Nat.le_refl _) fun n c hm => ⟨x.cell n c (lookup_of_mem_nodup (cellsFrom_names scope.names 0 (s.heap.objs.size + 1) [] [] rfl ▸ hnd) hm), x.above n c hm⟩) fun cells NC Y => ?_
  have G' := G.keeps (base_hide hk0 hn)
  refine wpAny_mono (h h₁ _ tk cells ⟨x.toInCall.ns, fun b o e => hk₁ b o (of_hideAll _ e), Nat.le_of_eq (hideAll_size _ _)⟩ hk₁ rfl G' G'.X G'.T (fun p hp => ?_) Y) (fun _ _ x => x) (fun _ _ x => x.elim)
  refine ⟨(NC p hp).1, (NC p hp).2.1, ?_⟩
  cases q : (hideAll s.heap hs).get? p.1 with
  | none => rfl
  | some o => have := of_hideAll _ q; rw [(NC p hp).2.2] at this; cases this
local macro_rules | `(tactic| walk_at "pyIter ref") => `(tactic| ((with_reducible show wpAny _ _ _ (fun it s₂ => codeAny _ _ (Code.forLoop _ _ _ _ _) _ _) _ _); refine halt ?_))
local macro_rules | `(tactic| walk_at "CompSrc") => `(tactic| refine halt ?_)
/-- as long as this stands, the walk goes on by itself through a comprehension -/
structure GoOn : Prop where
local macro_rules | `(tactic| walk_at "CompEnd") => `(tactic| ((fail_if_success (with_reducible rename GoOn => go9)); refine halt ?_))
local macro_rules | `(tactic| walk_at "CompEnd") => `(tactic| ((with_reducible rename GoOn => go9); (rename Fr _ _ _ _ => Fc9); (rename News _ _ _ _ => Nc9); rename_i off9 ne9; refine LCg.CompEnd.intro Fc9 Nc9 _ (fun q hq => hq) off9 (.inr ⟨_, .head _, rfl, _, rfl⟩) ?_))
local macro_rules | `(tactic| walk_at "CompSrcT") => `(tactic| refine halt ?_)
local macro_rules | `(tactic| walk_at "exec For Name Call cons nil") => `(tactic| refine halt ?_)


local macro_rules | `(tactic| walk_at "call ref") => `(tactic| (with_reducible refine hRefN 1 149 ?_))
section
variable {w : World} {A : Around} {E : Value → Shared → Prop} {s : Shared} {Q : Value → Shared → Prop}
theorem tupI_1 {value slice : PySem.Expr} {b : Addr} {x y : Int} {t u tk : Tok} (hb : s.heap.get? b = some (tupI x y t u)) (h : Q (.int y u) s)
    (hs : subscripted slice false (.ref b) (.int 1 tk) = operate [.ref b, .int 1 tk] (getItem (.ref b) (.int 1 tk))) : wpAny (model PP w) A (subscriptTail value slice (.ref b) (.int 1 tk)) Q E s :=
  item_tupleT (l := [.int x t, .int y u]) (j := 1) (x := .int y u) ⟨_, hb, rfl, _, rfl⟩ (by decide) (by decide) rfl rfl h hs
end
local macro_rules | `(tactic| walk_at "subscriptTail Name BinOp ref int") => `(tactic| refine haltN 2 ?_)
local macro_rules | `(tactic| walk_at "subscriptTail Name Name ref int") => `(tactic| refine haltN 3 ?_)
local macro_rules | `(tactic| walk_at "subscriptTail") => `(tactic| ((fail_if_success (with_reducible show wpAny _ _ (subscriptTail (Expr.Name (PySem.Str.ofString "told") _) _ _ _) _ _ _)); (with_reducible show wpAny _ _ (subscriptTail _ _ (Value.ref _) (Value.int _ _)) _ _ _); refine haltN 4 ?_))
local macro_rules | `(tactic| walk_at "subscriptTail Name Constant ref int") => `(tactic| ((fail_if_success (with_reducible show wpAny _ _ (subscriptTail (Expr.Name (PySem.Str.ofString "told") _) _ _ _) _ _ _)); refine haltN 5 ?_))
local macro_rules | `(tactic| walk_at "call builtin:str.index") => `(tactic| refine haltN 19 ?_)
/-- as long as this stands, the counter of tokens is not made small -/
structure NoGen : Prop where
local macro_rules | `(tactic| walk_at "assign Tuple cons ref") => `(tactic| ((with_reducible rename NoGen => ng9); refine haltN 6 ?_))
local macro_rules | `(tactic| walk_at "execs cons") => `(tactic| ((with_reducible rename NoGen => ng9); refine haltN 7 ?_))
local macro_rules | `(tactic| walk_at "execs nil") => `(tactic| ((with_reducible rename NoGen => ng9); refine haltN 8 ?_))
local macro_rules | `(tactic| walk_at "call builtin:str.count") => `(tactic| refine haltN 20 ?_)
local macro_rules | `(tactic| walk_at "call ref") => `(tactic| (with_reducible refine hRefN 9 69 ?_))
local macro_rules | `(tactic| walk_at "call ref") => `(tactic| (with_reducible refine hRefN 10 62 ?_))
local macro_rules | `(tactic| walk_at "compareOp NotEq ref ref") => `(tactic| refine haltN 11 ?_)
local macro_rules | `(tactic| walk_at "call builtin:list.append") => `(tactic| refine haltN 12 ?_)
set_option hygiene false in
local macro_rules | `(tactic| walk_at "call builtin:sorted") => `(tactic| (k_here; k_dflt (refine' sorted_two ?G ?F ?N ?hp ?hq ?hpq ?z0 ?z1 ?ht ?hu rfl ?_; (case G => assumption); (case F => k_asm); (case N => k_asm); (case hp => assumption); (case hq => assumption); (case hpq => assumption); (case z0 => assumption); (case z1 => assumption); (case ht => assumption); (case hu => (simp only [units_deeper]; omega)); k_whole); intro D' e' h' tk' x0' x1' f0' f1' u0' u1' y0s y1s hy0s hy1s F' N'))
local macro_rules | `(tactic| walk_at "getMethod ref") => `(tactic| ((fail_if_success (with_reducible rename NoGen => ng9)); refine haltN 13 ?_))
local macro_rules | `(tactic| walk_at "call ref") => `(tactic| (with_reducible refine hRef 93 ?_))
local macro_rules | `(tactic| walk_at "call ref") => `(tactic| (with_reducible refine hRefN 14 146 ?_))
local macro_rules | `(tactic| walk_at "compareOp Eq ref ref") => `(tactic| refine haltN 15 ?_)
local macro_rules | `(tactic| walk_at "call builtin:len") => `(tactic| (with_reducible refine hLenRN 16 ?_))
local macro_rules | `(tactic| walk_at "call ref") => `(tactic| (with_reducible refine hRef 167 ?_))
local macro_rules | `(tactic| walk_at "call ref") => `(tactic| (with_reducible refine hRef 172 ?_))
local macro_rules | `(tactic| walk_at "call builtin:len") => `(tactic| (with_reducible refine hLenSN 17 ?_))
local macro_rules | `(tactic| walk_at "binaryOp Div int float") => `(tactic| refine haltN 18 ?_)
theorem letter_all : ((List.range 6).all fun i => Txt.item (Str.ofString "abcdef") (0 + (i : Int)) == rowS 0 i) = true := by decide +kernel
theorem letter {i : Nat} (h : i < 6) : Txt.item (Str.ofString "abcdef") (0 + (i : Int)) = rowS 0 i := eq_of_beq (List.all_eq_true.mp letter_all i (List.mem_range.mpr h))
theorem run_c {w : World} {A : Around} {s : Shared} {h₀ : Heap} {R' : Result → Shared → Prop} {mean : ExcName → Option Value} {mg mb : Str → Option Value}
   {ca wa : Addr} {chips wishes : Array Value} {ec ew : Nat} {P S : Nat → Nat} {W : Nat → Int} {ord : List Nat}
   (G : Gd w mean mg mb h₀) (k : Sub h₀ s.heap)
   (hc : s.heap.get? ca = some (listOf chips ec)) (hc6 : chips.size = 6) (hcs : ∀ k, k < 6 → ∃ a t u, chips[k]? = some (.ref a) ∧ s.heap.get? a = some (tupI (P k) (S k) t u))
   (hw : s.heap.get? wa = some (listOf wishes ew)) (hw14 : wishes.size = 14) (hws : ∀ k, k < 14 → ∃ t, wishes[k]? = some (.int (W k) t)) (hW0 : ∀ k, 0 ≤ W k ∧ W k < 1000000)
   (hP : ∀ k, P k < 64) (hS : ∀ k, 1 ≤ S k ∧ S k ≤ 4) (O : Ord ord P)
   (hdp : A.depth + 100 < recursionLimit) (hun : A.units + 1000 < cLine) (hh : A.handled = none)
   (hres : ∀ h' tk r ra pl (ls : List (Str × Tok)) er (pa : Array Value) (p dx : Nat → Addr) (tt : Nat → Tok) its ep (pc : Nat → List (Str × Str)) (pos : Nat → Nat), ord.map pos = [1, 2, 3, 5, 6, 7] → ls.map (·.1) = (List.range 9).map (rowsAt pos) →
      h'.get? r = some { cls := .type "tuple", data := .seq #[.ref ra, .ref pl] } → h'.get? ra = some (listOf (strValues ls).toArray er) → h'.get? pl = some (listOf pa 9) → pa.size = 9 → (∀ j, j < 9 → pa[j]? = some (.ref (p j))) → (∀ i j, i < 9 → j < 9 → p i = p j → i = j) →
      HeapOk w p dx tt its ep pc h' → (∀ j, j < 9 → (pc j).Perm ((chipsAt pos j).map (piece S))) → (∀ j, j < 9 → s.heap.get? (p j) = none ∧ s.heap.get? (dx j) = none) → s.heap.get? r = none → s.heap.get? ra = none → s.heap.get? pl = none → Sub s.heap h' →
      R' (.ok (.ret (.ref r))) { s with heap := h', toks := tk }) :
   codeAny (model PP w) A (.call (.ref 177) ⟨[.ref ca, .ref wa], []⟩) R' s := by
  obtain ⟨hd0, dp, fr, gd, un⟩ := A
  dsimp only at hdp hun hh
  subst hh
  refine' enterC [] [("chips", .ref ca), ("wishes", .ref wa)] G k ?k5 (f := 177) ?k6 ?k7 ?k8 ?k9 ?kB ?kN ?c2 ?c3 ?c4 ?_; (case k5 => intro a ha; cases ha); (case k6 => k_is); (case k7 => k_is); (case k8 => (show dp < _; exact Mine.o_d0 hdp)); (case k9 => exact BindsTo.of_eq rfl)
  case kB =>
    intro n x hx
    simp only [List.mem_cons, List.not_mem_nil, or_false] at hx
    rcases hx with rfl | rfl
    · exact .inl rfl
    · exact .inl rfl
  case kN => decide
  case c2 => exact rfl
  case c3 => exact rfl
  case c4 => exact rfl
  intro h₁ g tk cells F k1 eg G1 X T N0 Y
  have hY := CellsAre.one Y
  refine el_1_2 (hY) fun o' hE' d1' => ?_
  subst hE'
  clear Y
  have up : ∀ b o, s.heap.get? b = some o → g.get? b = some o := fun b o e => by rw [eg]; exact hideAll_get _ e (by intro q; cases q)
  have hgc := up _ _ hc
  have hgw := up _ _ hw
  have d1 : o'.data = .cell none := d1'
  clear d1'
  have F0 : Fr g s.heap.objs.size h₁ (fun y => if y = Str.ofString "wishes" then some (.ref wa) else if y = Str.ofString "chips" then some (.ref ca) else none) := F
  clear F
  k_steps
  unfold Halt
  rename Fr _ _ _ _ => Fq
  rename News _ _ _ _ => Nq
  rename IsRange _ _ _ _ _ _ _ _ => hr9
  rename_i rl h92 l91 h91 F91 N91 h90 tk90 t1 u1 v1 aq
  obtain ⟨rls, hrl, Nq2⟩ : ∃ (rls : List (Str × Tok)), rls.map (·.1) = (List.range 9).map (rowsAt fun _ => 4) ∧ News g s.heap.objs.size h90 [(rl, PySem.W.listOf (strValues rls).toArray 0), (s.heap.objs.size + 1, o')] :=
    ⟨[(Str.ofString "....a", _), (Str.ofString "....b", _), (Str.ofString "....c", _), (Str.ofString "-\x0b.", _), (Str.ofString "", _), (Str.ofString ".", _), (Str.ofString "....d", _), (Str.ofString "....e", _), (Str.ofString "....f", _)], rows0, Nq⟩
  clear N91 F91 Nq aq
  refine LCg.CompSrc.range rfl Fq Nq2 hr9 (by decide) (n := 9) (by decide) (by rw [sizeLine_eq]; decide) fun g' => ?_
  refine rest_inv (n := 9) (J := fun i ys news => ∃ l : List (Addr × Addr × Tok), l.length = i ∧ ys = l.map (fun e => Value.ref e.1) ∧ (l.map (·.1)).Nodup ∧ news = (rl, PySem.W.listOf (strValues rls).toArray 0) :: (s.heap.objs.size + 1, o') :: pds w l) ?turn ?fin _ 0 [] _ (Nat.zero_add _) ⟨[], rfl, rfl, List.Pairwise.nil, rfl⟩
  case turn =>
    rintro i ys news hi ⟨l, hl, rfl, nd, rfl⟩ v I oI C oC D m₂ h tk E' hv hC hx F' N' off ne
    clear Fq Nq2
    k_steps
    repeat (any_goals (first
      | ((with_reducible refine goN 1 ?_); k_dflt (refine' make_K ?q9G ?q9F ?q9N ?q9dp ?q9un ?_; (case q9G => assumption); (case q9F => k_asm); (case q9N => k_asm); (case q9dp => (simp only [depth_deeper]; exact Mine.o_d2 hdp)); (case q9un => (simp only [units_deeper]; exact Mine.o_d2 hun)); k_whole); intro _ _ _ _ _ _ _ _ _; k_steps)))
    rename_i h' tk' p dx t' F2 N2 ls lt
    unfold Halt
    refine LCg.CompEnd.intro F2 N2 ((rl, PySem.W.listOf (strValues rls).toArray 0) :: (s.heap.objs.size + 1, o') :: pds w (l ++ [(p, dx, t')])) ?sub ?off trivial ⟨l ++ [(p, dx, t')], by rw [List.length_append, hl]; rfl, by rw [List.map_append]; rfl, ?nd, rfl⟩
    case sub =>
      refine all_cons ?_ ?_
      · exact .tail _ (.tail _ (.head _))
      refine all_cons ?_ ?_
      · exact .tail _ (.tail _ (.tail _ (.head _)))
      refine all_cons ?_ ?_
      · exact .tail _ (.tail _ (.tail _ (.tail _ (.head _))))
      refine all_cons ?_ ?_
      · exact .tail _ (.tail _ (.tail _ (.tail _ (.tail _ (.head _)))))
      refine all_cons ?_ ?_
      · exact .tail _ (.tail _ (.tail _ (.tail _ (.tail _ (.tail _ (.head _))))))
      intro q hq
      rcases pds_snoc q hq with rfl | rfl | hq
      · exact .head _
      · exact .tail _ (.head _)
      · exact .tail _ (.tail _ (.tail _ (.tail _ (.tail _ (.tail _ (.tail _ hq))))))
    case off =>
      have lI : I < dx := ls _ (.head _)
      have lC : C < dx := ls _ (.tail _ (.head _))
      have lD : D < dx := ls _ (.tail _ (.tail _ (.head _)))
      refine LCg.Off3.of fun q hq => ?_
      have old := off.mem
      revert q
      refine all_cons ?_ ?_
      · exact old _ (.head _)
      refine all_cons ?_ ?_
      · exact old _ (.tail _ (.head _))
      intro q hq
      rcases pds_snoc q hq with rfl | rfl | hq
      · exact ⟨Ne.symm (Nat.ne_of_lt (Nat.lt_trans lI lt)), Ne.symm (Nat.ne_of_lt (Nat.lt_trans lC lt)), Ne.symm (Nat.ne_of_lt (Nat.lt_trans lD lt))⟩
      · exact ⟨Ne.symm (Nat.ne_of_lt lI), Ne.symm (Nat.ne_of_lt lC), Ne.symm (Nat.ne_of_lt lD)⟩
      · exact old _ (.tail _ (.tail _ hq))
    case nd =>
      rw [List.map_append, List.map_cons, List.map_nil]
      refine List.nodup_append.mpr ⟨nd, List.pairwise_singleton _ _, fun a ha b hb e => ?_⟩
      rw [List.mem_singleton] at hb
      refine el_1_2 (List.mem_map.mp ha) fun e' he' e9_2 => ?_; subst e9_2
      have := ls _ (.tail _ (.tail _ (.tail _ (.tail _ (.tail _ (pds_fst he'))))))
      exact absurd (Nat.lt_trans this lt) (by show ¬ e'.1 < p; rw [e, hb]; exact Nat.lt_irrefl _)
  case fin =>
    rintro ys news ⟨l, hl, rfl, nd, rfl⟩
    show LCg.FinE _ _ _ _ _ _ _
    unfold LCg.FinE
    intro D h tk F' N' o1
    clear Fq Nq2 o1
    refine el_3_3 (piles_of (w := w) (g := g) hl nd) fun p dx tt hps inj PO => ?_
    have N2 : News g s.heap.objs.size h ((D, PySem.W.listOf (l.map fun e => Value.ref e.1).toArray 9) :: (rl, PySem.W.listOf (strValues rls).toArray 0) :: (s.heap.objs.size + 1, o') :: pds w l) := by
      have e : (l.map fun e => Value.ref e.1).length = 9 := by rw [List.length_map, hl]
      have e2 : LCg.lst (l.map fun e => Value.ref e.1) = PySem.W.listOf (l.map fun e => Value.ref e.1).toArray 9 := by
        show PySem.W.listOf _ (l.map fun e => Value.ref e.1).length = _
        rw [e]
      rw [e2] at N'
      exact N'
    clear N'
    have hpz : (l.map fun e => Value.ref e.1).toArray.size = 9 := by rw [List.size_toArray, List.length_map, hl]
    generalize (l.map fun e => Value.ref e.1).toArray = pa at hps hpz N2
    generalize pds w l = T0 at PO N2
    clear hl nd
    dsimp only at F' ⊢
    have zc := N2 _ (.tail _ (.tail _ (.head _)))
    refine wpAny_storeName_cell (c := s.heap.objs.size + 1) rfl rfl rfl ⟨o', zc.1, d1⟩ fun h3 hv hs3 => ?_
    refine el_1_2 (hv) fun o2 ho2 hd2 => ?_
    have c3 : Chg (s.heap.objs.size + 1) h h3 := fun b o n e => (hs3.2 b n).trans e
    have F3 := fr_chg F' c3 zc.2.2 zc.2.1
    have ncell : ∀ q ∈ ((D, PySem.W.listOf pa 9) :: (rl, PySem.W.listOf (strValues rls).toArray 0) :: T0), q.1 ≠ s.heap.objs.size + 1 := by
      intro q hq e
      have hq2 : q ∈ ((D, PySem.W.listOf pa 9) :: (rl, PySem.W.listOf (strValues rls).toArray 0) :: (s.heap.objs.size + 1, o') :: T0) := by
        rcases List.mem_cons.mp hq with rfl | hq
        · exact .head _
        rcases List.mem_cons.mp hq with rfl | hq
        · exact .tail _ (.head _)
        · exact .tail _ (.tail _ (.tail _ hq))
      have e2 := (N2 _ hq2).1
      rw [e, zc.1] at e2
      have e3 : q.2.data = .cell none := (Option.some.inj e2) ▸ d1
      rcases List.mem_cons.mp hq with rfl | hq
      · cases e3
      rcases List.mem_cons.mp hq with rfl | hq
      · cases e3
      · exact (PO.cls _ hq).2.2.2 _ e3
    have N3 : News g s.heap.objs.size h3 ((s.heap.objs.size + 1, o2) :: (D, PySem.W.listOf pa 9) :: (rl, PySem.W.listOf (strValues rls).toArray 0) :: T0) :=
      news_head ⟨ho2, zc.2⟩ (news_chg (news_weak N2 (by
        refine all_cons ?_ ?_
        · exact .head _
        refine all_cons ?_ ?_
        · exact .tail _ (.head _)
        intro q hq
        · exact .tail _ (.tail _ (.tail _ hq)))) c3 ncell)
    clear N2 F' ncell
    k_steps
    unfold Halt
    refine wpAny_For ?_
    k_steps
    unfold Halt
    rename Fr _ _ _ _ => F9
    rename News _ _ _ _ => N9
    rename IsRange _ _ _ _ _ _ _ _ => hr9
    refine' iter_range (σ := PS) (n := 6) (fun _ y => if y = Str.ofString "rows" then some (Value.ref rl) else if y = Str.ofString "wishes" then some (Value.ref wa) else if y = Str.ofString "chips" then some (Value.ref ca) else none)
      (fun z => (s.heap.objs.size + 1, o2) :: (D, PySem.W.listOf pa 9) :: (rl, PySem.W.listOf (strValues rls).toArray 0) :: z.T)
      (fun i z => PileOk w g p dx tt z ∧ ∀ j, j < 9 → z.pc j = if j = 4 then (List.range i).map (piece S) else []) ?hh ?hx ?hp ?hr ?hs ?hn ⟨T0, fun _ => #[], fun _ => 0, fun _ => []⟩ ?kF ?kN ?h0 ?turn ?done
    case hh => rfl
    case hx => rfl
    case hp => rfl
    case hr => exact hr9
    case hs => decide
    case hn => decide
    case kF => exact F9
    case kN => exact N9
    case h0 => exact ⟨PO, fun j hj => by split <;> rfl⟩
    case turn =>
      --A
      rintro I i z h tk t hi ⟨PO1, hpc⟩ F' N' hI1 hI2
      clear F9 N9 PO
      refine el_3_2 (hcs i hi) fun ta tt1 tu hch hta => ?_
      have hta2 := up _ _ hta
      have hch2 : chips[(0 + (i : Int)).toNat]? = some (Value.ref ta) := by rw [show (0 + (i : Int)).toNat = i by exact Mine.q_38]; exact hch
      have hSi := hS i
      have N4 := news_more (news_more N' (.tail _ (.tail _ (.tail _ (.tail _ (PO1.memD 4 (by decide))))))) (.tail _ (.tail _ (.tail _ (.tail _ (.tail _ (PO1.memP 4 (by decide)))))))
      clear N'
      (try dsimp only at F' N4)
      k_steps
      repeat (any_goals (first
        | ((with_reducible refine goN 3 ?_); k_dflt (first | (refine' item_K ?q9N ?q9hm ?q9h0 ?q9hf ?q9hx ?_ ?q9hs; (case q9N => k_asm); (case q9hm => k_mem); (case q9h0 => omega); (case q9hf => omega); (case q9hx => first | with_reducible assumption | assumption | (rename (∀ j, j < 9 → _[j]? = some _) => hps9; exact hps9 _ (by omega))); (case q9hs => with_unfolding_all rfl); k_whole) | (refine' item_G ?q9hl ?q9h0 ?q9hf ?q9hx ?_ ?q9hs; (case q9hl => exact Fr.keep (by k_asm) _ _ (by assumption)); (case q9h0 => exact Mine.q_39); (case q9hf => exact Mine.q_43 hi); (case q9hx => first | with_reducible assumption | rfl | assumption); (case q9hs => with_unfolding_all rfl); k_whole) | (refine' item_K ?q9N ?q9hm ?q9h0 ?q9hf ?q9hx ?_ ?q9hs; (case q9N => k_asm); (case q9hm => k_mem); (case q9h0 => omega); (case q9hf => omega); (case q9hx => first | with_reducible assumption | assumption | (rename (∀ j, j < 9 → _[j]? = some _) => hps9; exact hps9 _ (by omega))); (case q9hs => with_unfolding_all rfl); k_whole) | ((with_reducible show wpAny _ _ (subscriptTail _ _ (Value.ref _) (Value.int 1 _)) _ _ _); refine' tupI_1 ?q9t ?_ ?q9hs; (case q9t => exact Fr.keep (by k_asm) _ _ (by assumption)); (case q9hs => with_unfolding_all rfl); k_whole) | (refine' item_G ?q9hl ?q9h0 ?q9hf ?q9hx ?_ ?q9hs; (case q9hl => exact Fr.keep (by k_asm) _ _ (by assumption)); (case q9h0 => omega); (case q9hf => omega); (case q9hx => first | with_reducible assumption | rfl | assumption); (case q9hs => with_unfolding_all rfl); k_whole)); k_steps)
        | ((with_reducible refine goN 4 ?_); k_dflt (first | (refine' item_K ?q9N ?q9hm ?q9h0 ?q9hf ?q9hx ?_ ?q9hs; (case q9N => k_asm); (case q9hm => k_mem); (case q9h0 => omega); (case q9hf => omega); (case q9hx => first | with_reducible assumption | assumption | (rename (∀ j, j < 9 → _[j]? = some _) => hps9; exact hps9 _ (by omega))); (case q9hs => with_unfolding_all rfl); k_whole) | ((with_reducible show wpAny _ _ (subscriptTail _ _ (Value.ref _) (Value.int 1 _)) _ _ _); refine' tupI_1 ?q9t ?_ ?q9hs; (case q9t => exact Fr.keep (by k_asm) _ _ (by assumption)); (case q9hs => with_unfolding_all rfl); k_whole) | (refine' item_G ?q9hl ?q9h0 ?q9hf ?q9hx ?_ ?q9hs; (case q9hl => exact Fr.keep (by k_asm) _ _ (by assumption)); (case q9h0 => omega); (case q9hf => omega); (case q9hx => first | with_reducible assumption | rfl | assumption); (case q9hs => with_unfolding_all rfl); k_whole)); k_steps)
        | ((with_reducible refine goN 5 ?_); k_dflt (first | ((with_reducible show wpAny _ _ (subscriptTail _ _ (Value.ref _) (Value.int 1 _)) _ _ _); refine' tup_1 (PieceAt.use ?q9pa ?q9F ?q9N ?q9k) ?_ ?q9hs; (case q9pa => with_reducible assumption); (case q9F => k_asm); (case q9N => k_asm); (case q9k => (intro q hq; repeat (first | exact hq | exact List.mem_append_right _ hq | exact List.mem_append_left _ hq | refine List.Mem.tail _ ?_))); (case q9hs => with_unfolding_all rfl); k_whole) | ((with_reducible show wpAny _ _ (subscriptTail _ _ (Value.ref _) (Value.int 0 _)) _ _ _); refine' tup_0 (PieceAt.use ?q9pa ?q9F ?q9N ?q9k) ?_ ?q9hs; (case q9pa => with_reducible assumption); (case q9F => k_asm); (case q9N => k_asm); (case q9k => (intro q hq; repeat (first | exact hq | exact List.mem_append_right _ hq | exact List.mem_append_left _ hq | refine List.Mem.tail _ ?_))); (case q9hs => with_unfolding_all rfl); k_whole) | (refine' item_K ?q9N ?q9hm ?q9h0 ?q9hf ?q9hx ?_ ?q9hs; (case q9N => k_asm); (case q9hm => k_mem); (case q9h0 => decide); (case q9hf => decide); (case q9hx => first | with_reducible assumption | assumption | (rename (∀ j, j < 9 → _[j]? = some _) => hps9; exact hps9 _ (by exact Mine.q_119))); (case q9hs => with_unfolding_all rfl); k_whole) | ((with_reducible show wpAny _ _ (subscriptTail _ _ (Value.ref _) (Value.int 1 _)) _ _ _); refine' tupI_1 ?q9t ?_ ?q9hs; (case q9t => exact Fr.keep (by k_asm) _ _ (by assumption)); (case q9hs => with_unfolding_all rfl); k_whole) | (refine' item_G ?q9hl ?q9h0 ?q9hf ?q9hx ?_ ?q9hs; (case q9hl => exact Fr.keep (by k_asm) _ _ (by assumption)); (case q9h0 => omega); (case q9hf => omega); (case q9hx => first | with_reducible assumption | rfl | assumption); (case q9hs => with_unfolding_all rfl); k_whole)); k_steps)
        | ((with_reducible refine goN 13 ?_); k_dflt (refine' acc_method ?q9X ?q9hp ?q9hd ?q9hf ?q9ht ?q9hs ?_; (case q9X => k_in); (case q9hp => exact News.get (by k_asm) (by k_mem)); (case q9hd => exact News.get (by k_asm) (by k_mem)); (case q9hf => k_is); (case q9ht => k_is); (case q9hs => rfl); k_whole); k_steps)))
      unfold Halt
      rename_i t9 _ _ _ _
      rw [letter hi]
      have hcell : ∀ d i e, o2 ≠ accObj d i e := fun d i e q => by rw [q] at hd2; cases hd2
      refine push_step (st := 4) (front := [(I, rIter (0 + ((i + 1 : Nat) : Int)) (((6 : Nat) : Int) - ((i + 1 : Nat) : Int))), (s.heap.objs.size + 1, o2), (D, PySem.W.listOf pa 9), (rl, PySem.W.listOf (strValues rls).toArray 0)]) G1 F' (news_weak N4 fun q hq => .tail _ (.tail _ hq)) PO1 inj (by decide) ?hf ?hz (by simp only [depth_deeper]; exact Mine.o_d2 hdp) (by simp only [units_deeper]; exact Mine.o_d2 hun) ?_
      case hf =>
        intro q hq
        simp only [List.mem_cons, List.not_mem_nil, or_false] at hq
        rcases hq with rfl | rfl | rfl | rfl
        · exact fun d i e q => by cases q
        · exact hcell
        · exact fun d i e q => by cases q
        · exact fun d i e q => by cases q
      case hz => rw [hpc 4 (by decide), if_pos rfl]; simp; exact Mine.o_lel hi (by decide)
      intro h5 tk5 z5 F5 N5 PO5 hpc5
      clear N4 F'
      k_steps
      refine ⟨.inl rfl, _, _, _, z5, rfl, F5, (fun y hy => by rw [if_neg hy]), N5, fun q hq => ?_, PO5, fun j hj => ?_⟩
      · revert q
        refine all_cons ?_ ?_
        · exact hI1 _ (.head _)
        refine all_cons ?_ ?_
        · exact hI1 _ (.tail _ (.head _))
        refine all_cons ?_ ?_
        · exact hI1 _ (.tail _ (.tail _ (.head _)))
        intro q hq
        · exact news_apart N5 (.tail _ (.tail _ (.tail _ (.tail _ hq)))) (q := (I, _)) (.head _) (PO5.cls _ hq).1
      · rw [hpc5]
        by_cases q : j = 4
        · subst q
          rw [if_pos rfl, if_pos rfl, hpc 4 (by decide), if_pos rfl, List.range_succ, List.map_append]; rfl
        · rw [if_neg q, if_neg q, hpc j hj, if_neg q]
      --B
    case done =>
      rintro z0 h tk ok ⟨PO1, hpc⟩ F' N'
      clear F9 N9 PO hr9
      have F2 := fr_map F' (mp_self (a := some (Value.ref rl)) (b := some (Value.ref wa)) (c := some (Value.ref ca)) rfl rfl rfl)
      clear F'
      (try dsimp only at F2 N' ⊢)
      k_steps
      unfold Halt
      refine wpAny_For ?_
      k_steps
      unfold Halt
      rename Fr _ _ _ _ => F9
      rename News _ _ _ _ => N9
      rename IsRange _ _ _ _ _ _ _ _ => hr9
      refine' iter_range (σ := MS) (n := 14) (fun z y => if y = Str.ofString "rows" then some (Value.ref z.ra) else if y = Str.ofString "wishes" then some (Value.ref wa) else if y = Str.ofString "chips" then some (Value.ref ca) else z.ex y)
        (fun z => (s.heap.objs.size + 1, o2) :: (D, PySem.W.listOf pa 9) :: (z.ra, PySem.W.listOf (strValues z.rls).toArray z.re) :: z.z.T)
        (fun i z => PileOk w g p dx tt z.z ∧ z.rls.map (·.1) = (List.range 9).map (rowsAt z.pos) ∧ At14 ord i z.pos ∧ ∀ j, j < 9 → (z.z.pc j).Perm ((chipsAt z.pos j).map (piece S))) ?hh ?hx ?hp ?hr ?hs ?hn ⟨z0, rl, rls, 0, fun _ => 4, fun y => if y = Str.ofString "k" then ok else if y = Str.ofString "rows" then some (Value.ref rl) else if y = Str.ofString "wishes" then some (Value.ref wa) else if y = Str.ofString "chips" then some (Value.ref ca) else none⟩ ?kF ?kN ?h0 ?turn ?done
      case hh => rfl
      case hx => rfl
      case hp => rfl
      case hr => exact hr9
      case hs => decide
      case hn => decide
      case kF => exact F9
      case kN => exact N9
      case h0 =>
        refine ⟨PO1, hrl, at_zero O, fun j hj => ?_⟩
        rw [hpc j hj]
        unfold chipsAt
        by_cases q : j = 4
        · subst q; rw [if_pos rfl]; exact .refl _
        · rw [if_neg q]
          have : ((List.range 6).filter fun k => (4 : Nat) == j) = [] := by
            rw [List.filter_eq_nil_iff]; intro a _; simp; exact Mine.q_120 q
          rw [this]; exact .refl _
      case turn =>
        rintro I i z h tk t hi ⟨PO2, hrows, hat, hperm⟩ F' N' hI1 hI2
        clear F9 N9 PO1 hpc hr9
        k_steps
        unfold Halt
        rename Fr _ _ _ _ => Fq
        rename News _ _ _ _ => Nq
        rename IsRange _ _ _ _ _ _ _ _ => hr9
        refine LCt.CompSrcT.range rfl Fq Nq hr9 (by decide) (n := 7) (by decide) (by rw [sizeLine_eq]; decide) fun g' => ?_
        refine rest_invT (n := 7) (J := fun i' ys news => news = ((I, rIter (0 + ((i + 1 : Nat) : Int)) (((14 : Nat) : Int) - ((i + 1 : Nat) : Int))) :: (s.heap.objs.size + 1, o2) :: (D, PySem.W.listOf pa 9) :: (z.ra, PySem.W.listOf (strValues z.rls).toArray z.re) :: z.z.T) ∧
          ∃ cs : List (Nat × Tok), ys = cs.map (fun c => Value.int c.1 c.2) ∧ cs.length ≤ i' ∧ (∀ c ∈ cs, 1 ≤ c.1 ∧ c.1 ≤ 7 ∧ 2 ≤ (z.z.its c.1).size) ∧ (∀ st, 1 ≤ st → st ≤ i' → 2 ≤ (z.z.its st).size → ∃ c ∈ cs, c.1 = st)) ?turn ?fin _ 0 [] _ (Nat.zero_add _) ⟨rfl, [], rfl, Nat.le_refl _, (fun c q => nomatch q), (fun st a b => by exact (Mine.q_121 a b).elim)⟩
        case turn =>
          --A
          rintro i' ys news hi' ⟨rfl, cs, rfl, hcs0, hcs1, hcs2⟩ v I' oI C oC D' m₂ h' tk' E' hv hC hx F2 N2 off ne
          obtain ⟨tv, rfl⟩ := hv
          clear Fq Nq hr9
          have N4 := news_more (news_more N2 (.tail _ (.tail _ (.tail _ (.tail _ (.tail _ (.tail _ (.tail _ (PO2.memD (1 + (i' : Int)).toNat (by exact Mine.q_122 hi')))))))))) (.tail _ (.tail _ (.tail _ (.tail _ (.tail _ (.tail _ (.tail _ (.tail _ (PO2.memP (1 + (i' : Int)).toNat (by exact Mine.q_122 hi'))))))))))
          clear N2
          k_steps
          repeat (any_goals (first
            | ((with_reducible refine goN 3 ?_); k_dflt (first | (refine' item_K ?q9N ?q9hm ?q9h0 ?q9hf ?q9hx ?_ ?q9hs; (case q9N => k_asm); (case q9hm => k_mem); (case q9h0 => exact Mine.q_123); (case q9hf => exact Mine.q_124 hi'); (case q9hx => first | with_reducible assumption | assumption | (rename (∀ j, j < 9 → _[j]? = some _) => hps9; exact hps9 _ (by exact Mine.q_122 hi'))); (case q9hs => with_unfolding_all rfl); k_whole) | (refine' item_G ?q9hl ?q9h0 ?q9hf ?q9hx ?_ ?q9hs; (case q9hl => exact Fr.keep (by k_asm) _ _ (by assumption)); (case q9h0 => omega); (case q9hf => omega); (case q9hx => first | with_reducible assumption | rfl | assumption); (case q9hs => with_unfolding_all rfl); k_whole) | (refine' item_K ?q9N ?q9hm ?q9h0 ?q9hf ?q9hx ?_ ?q9hs; (case q9N => k_asm); (case q9hm => k_mem); (case q9h0 => omega); (case q9hf => omega); (case q9hx => first | with_reducible assumption | assumption | (rename (∀ j, j < 9 → _[j]? = some _) => hps9; exact hps9 _ (by omega))); (case q9hs => with_unfolding_all rfl); k_whole) | ((with_reducible show wpAny _ _ (subscriptTail _ _ (Value.ref _) (Value.int 1 _)) _ _ _); refine' tupI_1 ?q9t ?_ ?q9hs; (case q9t => exact Fr.keep (by k_asm) _ _ (by assumption)); (case q9hs => with_unfolding_all rfl); k_whole) | (refine' item_G ?q9hl ?q9h0 ?q9hf ?q9hx ?_ ?q9hs; (case q9hl => exact Fr.keep (by k_asm) _ _ (by assumption)); (case q9h0 => omega); (case q9hf => omega); (case q9hx => first | with_reducible assumption | rfl | assumption); (case q9hs => with_unfolding_all rfl); k_whole)); k_steps)
            | ((with_reducible refine goN 13 ?_); k_dflt (refine' acc_method ?q9X ?q9hp ?q9hd ?q9hf ?q9ht ?q9hs ?_; (case q9X => k_in); (case q9hp => exact News.get (by k_asm) (by k_mem)); (case q9hd => exact News.get (by k_asm) (by k_mem)); (case q9hf => k_is); (case q9ht => k_is); (case q9hs => rfl); k_whole); k_steps)
            | ((with_reducible refine goN 14 ?_); k_dflt (refine' count_K ?q9G ?q9F ?q9N ?q9hm ?q9hd ?q9dp ?q9un ?_; (case q9G => assumption); (case q9F => k_asm); (case q9N => k_asm); (case q9hm => k_mem); (case q9hd => exact News.get (by k_asm) (by k_mem)); (case q9dp => (simp only [depth_deeper]; exact Mine.o_d2 hdp)); (case q9un => (simp only [units_deeper]; exact Mine.o_d2 hun)); k_whole); intro _ _ _ _ _; (try k_sweep); k_steps)))
          · unfold Halt
            rename _ < _ => hlt
            rename Fr _ _ _ _ => Fx
            rename News _ _ _ _ => Nx
            refine LCg.CompEnd.intro Fx Nx _ (fun q hq => .tail _ (.tail _ hq)) off trivial ⟨rfl, cs ++ [(1 + i', tv)], by rw [List.map_append]; rfl, by rw [List.length_append]; exact Nat.add_le_add_right hcs0 1, fun c hc => ?_, fun st a b q => ?_⟩
            · rcases List.mem_append.mp hc with hc | hc
              · exact hcs1 c hc
              · rw [List.mem_singleton] at hc; subst hc
                rw [show (1 + (i' : Int)).toNat = 1 + i' by exact Mine.q_125] at hlt
                exact ⟨by show 1 ≤ 1 + i'; exact Mine.q_126, by show 1 + i' ≤ 7; exact Mine.q_127 hi', by show 2 ≤ (z.z.its (1 + i')).size; exact Mine.q_128 hlt⟩
            · by_cases e : st = 1 + i'
              · exact ⟨(1 + i', tv), List.mem_append_right _ (.head _), e.symm⟩
              · refine el_1_2 (hcs2 st a (by exact Mine.q_129 b e) q) fun c hc e2 => ?_
                exact ⟨c, List.mem_append_left _ hc, e2⟩
          · unfold Halt
            rename ¬ (_ < _) => hlt
            rename Fr _ _ _ _ => Fx
            rename News _ _ _ _ => Nx
            refine LCg.CompEnd.intro Fx Nx _ (fun q hq => .tail _ (.tail _ hq)) off trivial ⟨rfl, cs, rfl, Nat.le_succ_of_le hcs0, hcs1, fun st a b q => ?_⟩
            by_cases e : st = 1 + i'
            · rw [show (1 + (i' : Int)).toNat = 1 + i' by exact Mine.q_125, ← e] at hlt; exact (Mine.q_130 q hlt).elim
            · exact hcs2 st a (by exact Mine.q_129 b e) q
          --B
        case fin =>
          rintro ys news ⟨rfl, cs, rfl, hcs0, hcs1, hcs2⟩
          show LCg.FinA _ _ _ _ _ _ _ _
          unfold LCg.FinA
          intro D9 h tk F' N' o1
          clear Fq Nq hr9
          have hne : 0 < cs.length := by
            refine el_1_3 (crowd_ex O hi hat hperm) fun st a b c => ?_
            refine el_1_2 (hcs2 st a b (by rw [PO2.size (by exact Nat.lt_of_le_of_lt b (by decide))]; exact c)) fun q hq _ => ?_
            exact List.length_pos_of_mem hq
          have hr9 : z.rls.length = 9 := by simpa using congrArg List.length hrows
          (try dsimp only at F' N' ⊢)
          have hpos8 : ∀ k, k < 6 → z.pos k ≤ 8 := fun k hk => by have := at_range O (by exact Mine.o_lel hi (by decide)) hat hk; exact Mine.q_131 this
          have hrok := rows_ok hpos8 hrows
          obtain ⟨tw, hw1⟩ := hws i hi
          have hw2 : wishes[(0 + (i : Int)).toNat]? = some (Value.int (W i) tw) := by rw [show (0 + (i : Int)).toNat = i by exact Mine.q_38]; exact hw1
          have hWi := hW0 i
          have hfm := fmod_in (W i) (cs.length : Int) (by exact Mine.q_132 hne)
          have hcs8 : cs.length ≤ 1000 := by exact Nat.le_trans hcs0 (by decide)
          obtain ⟨c, hcx, hcm⟩ : ∃ c : Nat × Tok, (cs.map fun c => Value.int (c.1 : Int) c.2).toArray[((W i).fmod (cs.length : Int)).toNat]? = some (Value.int (c.1 : Int) c.2) ∧ c ∈ cs := by
            have hk : ((W i).fmod (cs.length : Int)).toNat < cs.length := by exact Mine.q_16 hfm
            refine ⟨cs[((W i).fmod (cs.length : Int)).toNat], ?_, List.getElem_mem hk⟩
            rw [List.getElem?_toArray, List.getElem?_map, List.getElem?_eq_getElem hk]; rfl
          obtain ⟨st, tst⟩ := c
          refine el_0_3 (hcs1 _ hcm) fun hst1 hst7 hst2 => ?_
          dsimp only at hcx hst1 hst7 hst2
          k_steps
          repeat (any_goals (first
            | ((with_reducible refine goN 2 ?_); k_dflt (first | (refine' item_K ?q9N ?q9hm ?q9h0 ?q9hf ?q9hx ?_ ?q9hs; (case q9N => k_asm); (case q9hm => k_mem); (case q9h0 => exact Mine.q_12 hfm); (case q9hf => exact Mine.q_135 hfm hcs0); (case q9hx => with_reducible assumption); (case q9hs => with_unfolding_all rfl); k_whole) | (refine' item_K ?q9N ?q9hm ?q9h0 ?q9hf ?q9hx ?_ ?q9hs; (case q9N => k_asm); (case q9hm => k_mem); (case q9h0 => omega); (case q9hf => omega); (case q9hx => first | with_reducible assumption | assumption | (rename (∀ j, j < 9 → _[j]? = some _) => hps9; exact hps9 _ (by omega))); (case q9hs => with_unfolding_all rfl); k_whole) | ((with_reducible show wpAny _ _ (subscriptTail _ _ (Value.ref _) (Value.int 1 _)) _ _ _); refine' tupI_1 ?q9t ?_ ?q9hs; (case q9t => exact Fr.keep (by k_asm) _ _ (by assumption)); (case q9hs => with_unfolding_all rfl); k_whole) | (refine' item_G ?q9hl ?q9h0 ?q9hf ?q9hx ?_ ?q9hs; (case q9hl => exact Fr.keep (by k_asm) _ _ (by assumption)); (case q9h0 => omega); (case q9hf => omega); (case q9hx => first | with_reducible assumption | rfl | assumption); (case q9hs => with_unfolding_all rfl); k_whole)); k_steps)
            | ((with_reducible refine goN 3 ?_); k_dflt (first | (refine' item_K ?q9N ?q9hm ?q9h0 ?q9hf ?q9hx ?_ ?q9hs; (case q9N => k_asm); (case q9hm => k_mem); (case q9h0 => omega); (case q9hf => omega); (case q9hx => first | with_reducible assumption | assumption | (rename (∀ j, j < 9 → _[j]? = some _) => hps9; exact hps9 _ (by omega))); (case q9hs => with_unfolding_all rfl); k_whole) | (refine' item_G ?q9hl ?q9h0 ?q9hf ?q9hx ?_ ?q9hs; (case q9hl => exact Fr.keep (by k_asm) _ _ (by assumption)); (case q9h0 => exact Mine.q_39); (case q9hf => exact Mine.q_134 hi); (case q9hx => first | with_reducible assumption | rfl | assumption); (case q9hs => with_unfolding_all rfl); k_whole) | (refine' item_K ?q9N ?q9hm ?q9h0 ?q9hf ?q9hx ?_ ?q9hs; (case q9N => k_asm); (case q9hm => k_mem); (case q9h0 => omega); (case q9hf => omega); (case q9hx => first | with_reducible assumption | assumption | (rename (∀ j, j < 9 → _[j]? = some _) => hps9; exact hps9 _ (by omega))); (case q9hs => with_unfolding_all rfl); k_whole) | ((with_reducible show wpAny _ _ (subscriptTail _ _ (Value.ref _) (Value.int 1 _)) _ _ _); refine' tupI_1 ?q9t ?_ ?q9hs; (case q9t => exact Fr.keep (by k_asm) _ _ (by assumption)); (case q9hs => with_unfolding_all rfl); k_whole) | (refine' item_G ?q9hl ?q9h0 ?q9hf ?q9hx ?_ ?q9hs; (case q9hl => exact Fr.keep (by k_asm) _ _ (by assumption)); (case q9h0 => omega); (case q9hf => omega); (case q9hx => first | with_reducible assumption | rfl | assumption); (case q9hs => with_unfolding_all rfl); k_whole)); k_steps)
            | ((with_reducible refine goN 15 ?_); k_dflt (first | (refine' eqnil_strs ?q9N ?q9ma ?q9mb ?q9hok ?q9hl ?q9hu ?_; (case q9N => k_asm); (case q9ma => k_mem); (case q9mb => k_mem); (case q9hok => with_reducible assumption); (case q9hl => exact Mine.q_133 hr9); (case q9hu => (simp only [units_deeper]; exact Mine.o_d2 hun)); k_whole) | (refine' eqnil_ints ?q9N ?q9ma ?q9mb ?q9hl ?q9hu ?_; (case q9N => k_asm); (case q9ma => k_mem); (case q9mb => k_mem); (case q9hl => omega); (case q9hu => (simp only [units_deeper]; exact Mine.o_d2 hun)); k_whole)); k_steps)
            | ((with_reducible refine goN 16 ?_); k_dflt (refine' len_cs ?q9N ?q9hm ?q9hz ?_; (case q9N => k_asm); (case q9hm => k_mem); (case q9hz => omega); k_whole); k_steps)))
          unfold Halt
          rename_i sn hx1 lx hx2 Fs Ns
          have Nt : News g s.heap.objs.size hx2 ((sn, PySem.W.listOf #[] 0) :: (I, rIter (0 + ((i + 1 : Nat) : Int)) (((14 : Nat) : Int) - ((i + 1 : Nat) : Int))) :: (s.heap.objs.size + 1, o2) :: (D, PySem.W.listOf pa 9) :: (z.ra, PySem.W.listOf (strValues z.rls).toArray z.re) :: z.z.T) := news_weak Ns (by
            refine all_cons ?_ ?_
            · exact .head _
            intro q hq
            · exact .tail _ (.tail _ (.tail _ (.tail _ hq))))
          clear Ns
          have hpst : pa[((st : Nat) : Int).toNat]? = some (Value.ref (p st)) := hps st (by exact Nat.lt_of_le_of_lt hst7 (by decide))
          have hq5 := fdiv5 hWi.1 hWi.2
          refine wpAny_For ?_
          k_steps
          repeat (any_goals (first
            | ((with_reducible refine goN 3 ?_); k_dflt (first | (refine' item_K ?q9N ?q9hm ?q9h0 ?q9hf ?q9hx ?_ ?q9hs; (case q9N => k_asm); (case q9hm => k_mem); (case q9h0 => exact Mine.q_136); (case q9hf => exact Mine.q_137 hst7); (case q9hx => first | with_reducible assumption | assumption | (rename (∀ j, j < 9 → _[j]? = some _) => hps9; exact hps9 _ (by omega))); (case q9hs => with_unfolding_all rfl); k_whole) | (refine' item_G ?q9hl ?q9h0 ?q9hf ?q9hx ?_ ?q9hs; (case q9hl => exact Fr.keep (by k_asm) _ _ (by assumption)); (case q9h0 => exact Mine.q_39); (case q9hf => exact Mine.q_134 hi); (case q9hx => first | with_reducible assumption | rfl | assumption); (case q9hs => with_unfolding_all rfl); k_whole) | (refine' item_K ?q9N ?q9hm ?q9h0 ?q9hf ?q9hx ?_ ?q9hs; (case q9N => k_asm); (case q9hm => k_mem); (case q9h0 => omega); (case q9hf => omega); (case q9hx => first | with_reducible assumption | assumption | (rename (∀ j, j < 9 → _[j]? = some _) => hps9; exact hps9 _ (by omega))); (case q9hs => with_unfolding_all rfl); k_whole) | ((with_reducible show wpAny _ _ (subscriptTail _ _ (Value.ref _) (Value.int 1 _)) _ _ _); refine' tupI_1 ?q9t ?_ ?q9hs; (case q9t => exact Fr.keep (by k_asm) _ _ (by assumption)); (case q9hs => with_unfolding_all rfl); k_whole) | (refine' item_G ?q9hl ?q9h0 ?q9hf ?q9hx ?_ ?q9hs; (case q9hl => exact Fr.keep (by k_asm) _ _ (by assumption)); (case q9h0 => omega); (case q9hf => omega); (case q9hx => first | with_reducible assumption | rfl | assumption); (case q9hs => with_unfolding_all rfl); k_whole)); k_steps)))
          unfold Halt
          rename Fr _ _ _ _ => Fs2
          rename News _ _ _ _ => Ns2
          have hcell : ∀ d i e, o2 ≠ accObj d i e := fun d i e q => by rw [q] at hd2; cases hd2
          have hszst := PO2.size (j := st) (by exact Nat.lt_of_le_of_lt hst7 (by decide))
          refine two_step (st := st) (front := [(sn, PySem.W.listOf #[] 0), (I, rIter (0 + ((i + 1 : Nat) : Int)) (((14 : Nat) : Int) - ((i + 1 : Nat) : Int))), (s.heap.objs.size + 1, o2), (D, PySem.W.listOf pa 9), (z.ra, PySem.W.listOf (strValues z.rls).toArray z.re)]) G1 Fs2 Ns2 PO2 inj (by exact Nat.lt_of_le_of_lt hst7 (by decide)) ?hf (by exact Mine.q_138 hst2 hszst) ?hz hq5.1 hq5.2 (by simp only [depth_deeper]; exact Mine.o_d2 hdp) (by simp only [units_deeper]; exact Mine.o_d2 hun) rfl ?_
          case hf =>
            intro q hq
            simp only [List.mem_cons, List.not_mem_nil, or_false] at hq
            rcases hq with rfl | rfl | rfl | rfl | rfl
            · exact fun d i e q => by cases q
            · exact fun d i e q => by cases q
            · exact hcell
            · exact fun d i e q => by cases q
            · exact fun d i e q => by cases q
          case hz => rw [(hperm st (by exact Nat.lt_of_le_of_lt hst7 (by decide))).length_eq, List.length_map]; exact chips_le
          intro h6 tk6 r b1 b2 c1 c2 z6 F6 N6 PO6 hpcj hperm2 hP2
          refine el_3_9 (two_of (hperm st (by exact Nat.lt_of_le_of_lt hst7 (by decide))) hperm2) fun ka kb rest hch e9_4 e9_5 hrest hab ha6 hb6 hpa hpb => ?_; subst e9_4; subst e9_5
          clear Ns2 Fs2
          k_steps
          unfold Halt
          obtain ⟨ex7, F7⟩ : ∃ ex7 : Str → Option Value, Fr g s.heap.objs.size h6 (fun y => if y = Str.ofString "rows" then some (Value.ref z.ra) else if y = Str.ofString "wishes" then some (Value.ref wa) else if y = Str.ofString "chips" then some (Value.ref ca) else if y = Str.ofString "seen" then some (Value.ref sn) else if y = Str.ofString "stop" then some (Value.int st tst) else if y = Str.ofString "turn" then some (Value.int (0 + (i : Int)) t) else ex7 y) :=
            ⟨_, fr_map F6 (mp_self6 (a := some (Value.ref z.ra)) (b := some (Value.ref wa)) (c := some (Value.ref ca)) (d := some (Value.ref sn)) (e := some (Value.int st tst)) (f := some (Value.int (0 + (i : Int)) t)) rfl rfl rfl rfl rfl rfl)⟩
          have N7 : News g s.heap.objs.size h6 ((sn, PySem.W.listOf #[] 0) :: (r, PySem.W.listOf #[Value.ref b1, Value.ref b2] 0) :: (I, rIter (0 + ((i + 1 : Nat) : Int)) (((14 : Nat) : Int) - ((i + 1 : Nat) : Int))) :: (s.heap.objs.size + 1, o2) :: (D, PySem.W.listOf pa 9) :: (z.ra, PySem.W.listOf (strValues z.rls).toArray z.re) :: z6.T) := news_weak N6 (by
            refine all_cons ?_ ?_
            · exact .tail _ (.head _)
            refine all_cons ?_ ?_
            · exact .head _
            intro q hq
            · exact .tail _ (.tail _ hq))
          have nsn : sn ≠ r := fun e => by
            have a1 := (N7 _ (.head _)).1
            have a2 := (N7 _ (.tail _ (.head _))).1
            rw [e, a2] at a1
            cases a1
          clear F6 N6
          refine' iter_listK (σ := SS) (items := #[Value.ref b1, Value.ref b2]) (mp := fun z2 y => if y = Str.ofString "rows" then some (Value.ref z.ra) else if y = Str.ofString "wishes" then some (Value.ref wa) else if y = Str.ofString "chips" then some (Value.ref ca) else if y = Str.ofString "seen" then some (Value.ref sn) else if y = Str.ofString "stop" then some (Value.int st tst) else if y = Str.ofString "turn" then some (Value.int (0 + (i : Int)) t) else z2.ex y)
            (led := fun z2 => (sn, PySem.W.listOf (z2.sl.map fun e => Value.ref e.1).toArray z2.se) :: (r, PySem.W.listOf #[Value.ref b1, Value.ref b2] 0) :: (I, rIter (0 + ((i + 1 : Nat) : Int)) (((14 : Nat) : Int) - ((i + 1 : Nat) : Int))) :: (s.heap.objs.size + 1, o2) :: (D, PySem.W.listOf pa 9) :: (z.ra, PySem.W.listOf (strValues z.rls).toArray z.re) :: ((z2.sl.map fun e => (e.1, tupF e.2.1 e.2.2.1 e.2.2.2)) ++ z6.T))
            (J := fun n z2 tk => z2.sl.length = n ∧ (∀ (j : Nat) e, z2.sl[j]? = some e → e.2.1 = pl (P (if j = 0 then ka else kb)) ∧ e.2.2.2 = (if j = 0 then b1 else b2) ∧ @Ne Nat e.2.2.1 0 ∧ @LT.lt Nat _ e.2.2.1 tk) ∧ ∀ e e', z2.sl[0]? = some e → z2.sl[1]? = some e' → @LT.lt Nat _ e.2.2.1 e'.2.2.1) ?hmono ?hh ?hx ?hp ?hl ⟨[], 0, ex7⟩ F7 N7 ?h0 ?turn3 ?done3
          case hh => rfl
          case hx => rfl
          case hp => rfl
          case hl => intro z' h' m' F N; exact ⟨_, (N _ (.tail _ (.head _))).1, rfl, _, rfl⟩
          case hmono => exact fun i z a b ⟨h1, h2, h3⟩ le => ⟨h1, fun j e q => let ⟨a1, a2, a3, a4⟩ := h2 j e q; ⟨a1, a2, a3, Nat.lt_of_lt_of_le a4 le⟩, h3⟩
          case h0 => exact ⟨rfl, (fun j e q => by cases q), (fun e e' q => by cases q)⟩
          case turn3 =>
            --A
            rintro I2 n v oI z2 h tk hv ⟨hsl, hse, hso⟩ F' N' hI1 hI2
            have hn2 : n < 2 := by have := (Array.getElem?_eq_some_iff.mp hv).1; exact this
            have ng : NoGen := ⟨⟩
            clear F7 N7
            obtain ⟨bb, kk, tb, ub, rfl, hbb, hkk, hPA, hk6, hkp⟩ : ∃ bb kk tb ub, v = .ref bb ∧ bb = (if n = 0 then b1 else b2) ∧ kk = (if n = 0 then ka else kb) ∧ PieceAt g s.heap.objs.size z6.T bb (piece S kk) tb ub ∧ kk < 6 ∧ z.pos kk = st := by
              match n, hv with
              | 0, hv =>
                cases hv
                refine el_3_2 (hP2.ex (L := s.heap.objs.size) (i := 0) rfl rfl) fun a t' u' e q => ?_
                cases e
                exact ⟨b1, ka, t', u', rfl, rfl, rfl, q, ha6, hpa⟩
              | 1, hv =>
                cases hv
                refine el_3_2 (hP2.ex (L := s.heap.objs.size) (i := 1) rfl rfl) fun a t' u' e q => ?_
                cases e
                exact ⟨b2, kb, t', u', rfl, rfl, rfl, q, hb6, hpb⟩
              | n + 2, hv => cases hv
            (try dsimp only at F' N')
            have hfind : Txt.find (Str.ofString "abcdef") (piece S kk).2 = (kk : Int) := find_letter hk6
            refine el_3_2 (hcs kk hk6) fun tca tt1 tu1 hch1 hta => ?_
            have hck : chips[((kk : Nat) : Int).toNat]? = some (Value.ref tca) := hch1
            have hta2 := up _ _ hta
            have hTup : IsTup g tca #[Value.int (P kk) tt1, Value.int (S kk) tu1] := ⟨_, hta2, rfl, _, rfl⟩
            obtain ⟨trow, hrow⟩ := row_at hk6 hrows
            rw [hkp] at hrow
            have hPk := hP kk
            have hSk := hS kk
            have hkd : 0 ≤ (kk : Int).fdiv 3 ∧ (kk : Int).fdiv 3 ≤ 1 := by rw [Int.fdiv_eq_ediv_of_nonneg _ (by decide)]; exact Mine.q_139 hk6
            k_steps
            repeat (any_goals (first
              | ((with_reducible refine goN 2 ?_); k_dflt (first | (refine' item_K ?q9N ?q9hm ?q9h0 ?q9hf ?q9hx ?_ ?q9hs; (case q9N => k_asm); (case q9hm => k_mem); (case q9h0 => exact Mine.q_140 hkd); (case q9hf => exact Mine.q_141 hkd hk6); (case q9hx => with_reducible assumption); (case q9hs => with_unfolding_all rfl); k_whole) | (refine' item_K ?q9N ?q9hm ?q9h0 ?q9hf ?q9hx ?_ ?q9hs; (case q9N => k_asm); (case q9hm => k_mem); (case q9h0 => omega); (case q9hf => omega); (case q9hx => first | with_reducible assumption | assumption | (rename (∀ j, j < 9 → _[j]? = some _) => hps9; exact hps9 _ (by omega))); (case q9hs => with_unfolding_all rfl); k_whole) | ((with_reducible show wpAny _ _ (subscriptTail _ _ (Value.ref _) (Value.int 1 _)) _ _ _); refine' tupI_1 ?q9t ?_ ?q9hs; (case q9t => exact Fr.keep (by k_asm) _ _ (by assumption)); (case q9hs => with_unfolding_all rfl); k_whole) | (refine' item_G ?q9hl ?q9h0 ?q9hf ?q9hx ?_ ?q9hs; (case q9hl => exact Fr.keep (by k_asm) _ _ (by assumption)); (case q9h0 => omega); (case q9hf => omega); (case q9hx => first | with_reducible assumption | rfl | assumption); (case q9hs => with_unfolding_all rfl); k_whole)); k_steps)
              | ((with_reducible refine goN 3 ?_); k_dflt (first | (refine' item_K ?q9N ?q9hm ?q9h0 ?q9hf ?q9hx ?_ ?q9hs; (case q9N => k_asm); (case q9hm => k_mem); (case q9h0 => omega); (case q9hf => omega); (case q9hx => first | with_reducible assumption | assumption | (rename (∀ j, j < 9 → _[j]? = some _) => hps9; exact hps9 _ (by omega))); (case q9hs => with_unfolding_all rfl); k_whole) | (refine' item_G ?q9hl ?q9h0 ?q9hf ?q9hx ?_ ?q9hs; (case q9hl => exact Fr.keep (by k_asm) _ _ (by assumption)); (case q9h0 => exact Mine.q_136); (case q9hf => exact Mine.q_42 hk6); (case q9hx => first | with_reducible assumption | rfl | assumption); (case q9hs => with_unfolding_all rfl); k_whole) | (refine' item_K ?q9N ?q9hm ?q9h0 ?q9hf ?q9hx ?_ ?q9hs; (case q9N => k_asm); (case q9hm => k_mem); (case q9h0 => omega); (case q9hf => omega); (case q9hx => first | with_reducible assumption | assumption | (rename (∀ j, j < 9 → _[j]? = some _) => hps9; exact hps9 _ (by omega))); (case q9hs => with_unfolding_all rfl); k_whole) | ((with_reducible show wpAny _ _ (subscriptTail _ _ (Value.ref _) (Value.int 1 _)) _ _ _); refine' tupI_1 ?q9t ?_ ?q9hs; (case q9t => exact Fr.keep (by k_asm) _ _ (by assumption)); (case q9hs => with_unfolding_all rfl); k_whole) | (refine' item_G ?q9hl ?q9h0 ?q9hf ?q9hx ?_ ?q9hs; (case q9hl => exact Fr.keep (by k_asm) _ _ (by assumption)); (case q9h0 => omega); (case q9hf => omega); (case q9hx => first | with_reducible assumption | rfl | assumption); (case q9hs => with_unfolding_all rfl); k_whole)); k_steps)
              | ((with_reducible refine goN 5 ?_); k_dflt (first | ((with_reducible show wpAny _ _ (subscriptTail _ _ (Value.ref _) (Value.int 1 _)) _ _ _); refine' tup_1 (PieceAt.use ?q9pa ?q9F ?q9N ?q9k) ?_ ?q9hs; (case q9pa => with_reducible assumption); (case q9F => k_asm); (case q9N => k_asm); (case q9k => (intro q hq; repeat (first | exact hq | exact List.mem_append_right _ hq | exact List.mem_append_left _ hq | refine List.Mem.tail _ ?_))); (case q9hs => with_unfolding_all rfl); k_whole) | ((with_reducible show wpAny _ _ (subscriptTail _ _ (Value.ref _) (Value.int 0 _)) _ _ _); refine' tup_0 (PieceAt.use ?q9pa ?q9F ?q9N ?q9k) ?_ ?q9hs; (case q9pa => with_reducible assumption); (case q9F => k_asm); (case q9N => k_asm); (case q9k => (intro q hq; repeat (first | exact hq | exact List.mem_append_right _ hq | exact List.mem_append_left _ hq | refine List.Mem.tail _ ?_))); (case q9hs => with_unfolding_all rfl); k_whole) | (refine' item_K ?q9N ?q9hm ?q9h0 ?q9hf ?q9hx ?_ ?q9hs; (case q9N => k_asm); (case q9hm => k_mem); (case q9h0 => omega); (case q9hf => omega); (case q9hx => first | with_reducible assumption | assumption | (rename (∀ j, j < 9 → _[j]? = some _) => hps9; exact hps9 _ (by omega))); (case q9hs => with_unfolding_all rfl); k_whole) | ((with_reducible show wpAny _ _ (subscriptTail _ _ (Value.ref _) (Value.int 1 _)) _ _ _); refine' tupI_1 ?q9t ?_ ?q9hs; (case q9t => exact Fr.keep (by k_asm) _ _ (by assumption)); (case q9hs => with_unfolding_all rfl); k_whole) | (refine' item_G ?q9hl ?q9h0 ?q9hf ?q9hx ?_ ?q9hs; (case q9hl => exact Fr.keep (by k_asm) _ _ (by assumption)); (case q9h0 => omega); (case q9hf => omega); (case q9hx => first | with_reducible assumption | rfl | assumption); (case q9hs => with_unfolding_all rfl); k_whole)); k_steps)
              | ((with_reducible refine goN 6 ?_); k_dflt (refine' unpackN_ ?q9F ?q9N ?q9T ?q9k1 ?q9k2 ?q9k3 ?_; (case q9F => k_asm); (case q9N => k_asm); (case q9T => first | exact Fr.tup (by k_asm) (by assumption) | exact News.isTup (by k_asm) (by k_mem)); (case q9k1 => exact rfl); (case q9k2 => exact rfl); (case q9k3 => exact rfl); k_whole); intro _ _ _; k_steps)
              | ((with_reducible refine goN 7 ?_); (with_reducible refine wpAny_execs_cons ?_); (try dsimp only); k_steps)
              | ((with_reducible refine goN 8 ?_); (with_reducible refine wpAny_execs_nil ?_); (try dsimp only); k_steps)
              | ((with_reducible refine goN 20 ?_); k_dflt (refine' count_row ?q9a ?q9b ?_; (case q9a => omega); (case q9b => omega); k_whole); k_steps)
              | ((with_reducible refine goN 19 ?_); k_dflt (refine' index_K rfl (by assumption) ?_; k_whole); k_steps)
              | ((with_reducible refine goN 9 ?_); k_dflt (refine' hsv_K ?q9G ?q9F ?q9N ?q9hp ?q9ht ?q9hn ?q9hk ?q9h3 ?q9dp ?q9un rfl ?_; (case q9G => assumption); (case q9F => k_asm); (case q9N => k_asm); (case q9hp => omega); (case q9ht => omega); (case q9hn => omega); (case q9hk => exact Mine.q_146 hst1 hst7); (case q9h3 => exact Nat.succ_ne_zero _); (case q9dp => (simp only [depth_deeper]; exact Mine.o_d2 hdp)); (case q9un => (simp only [units_deeper]; exact Mine.o_d2 hun)); k_whole); intro _ _ _ _ _ _ _ _ _ _ _ _; k_steps)
              | ((with_reducible refine goN 10 ?_); k_dflt (refine' rgb_K ?q9G ?q9F ?q9N ?q9o ?q9hz ?q9dp ?q9un rfl ?_; (case q9G => assumption); (case q9F => k_asm); (case q9N => k_asm); (case q9o => assumption); (case q9hz => assumption); (case q9dp => (simp only [depth_deeper]; exact Mine.o_d2 hdp)); (case q9un => (simp only [units_deeper]; exact Mine.o_d2 hun)); k_whole); intro _ _ _ _ _ _ _ _ _ _ _; k_steps)
              | ((with_reducible refine goN 11 ?_); k_dflt (refine' told_ne ?q9G ?q9F ?q9N ?q9m1 ?q9m2 ?q9hp ?q9hn ?q9hk ?q9z1 ?q9z2 ?q9hu ?_; (case q9G => assumption); (case q9F => k_asm); (case q9N => k_asm); (case q9m1 => k_mem); (case q9m2 => k_mem); (case q9hp => omega); (case q9hn => exact Mine.q_143 hSk); (case q9hk => omega); (case q9z1 => assumption); (case q9z2 => exact ⟨Nat.succ_ne_zero _, Nat.succ_ne_zero _, Nat.succ_ne_zero _⟩); (case q9hu => (simp only [units_deeper]; exact Mine.o_d1 hun)); k_whole); k_steps)
              | ((with_reducible refine goN 12 ?_); k_dflt (refine' append_K ?q9F ?q9N ?q9hm ?q9hz ?_; (case q9F => k_asm); (case q9N => k_asm); (case q9hm => k_mem); (case q9hz => (simp only [List.size_toArray, List.length_map]; rw [sizeLine_eq]; exact Mine.q_147 hsl hn2)); k_whole); intro _ _ _; k_steps)
              | ((with_reducible refine goN 17 ?_); k_dflt (refine' len_blank ?q9hS ?_; (case q9hS => exact Mine.q_143 hSk); k_whole); k_steps)
              | ((with_reducible refine goN 18 ?_); k_dflt (refine' div_K rfl ?q9hn ?q9hz ?_; (case q9hn => (first | exact Mine.q_142 hPk | exact Mine.q_144 hSk | exact Mine.q_145 hst7)); (case q9hz => decide +kernel); k_whole); k_steps)))
            rename_i le9 e1 e2 e3 e4 e5 tkr ar tar tbr tcr l1r l2r nzr e6 Dt e7 lt1 Dn hbf Fb Nb lt2 hx Fx NA
            have lxs : D < sn ∧ z.ra < sn := ⟨lx.2.2.2.2.2.1, lx.2.2.2.2.2.2.1⟩
            obtain ⟨tn, Ny, q1, q2, q3⟩ : ∃ tn : Tok, News g s.heap.objs.size hx ((sn, PySem.W.listOf ((z2.sl.map fun e => Value.ref e.1).toArray.push (Value.ref Dn)) (z2.se + 1)) :: (Dn, tupF (pl (P kk)) tn bb) :: (r, PySem.W.listOf #[Value.ref b1, Value.ref b2] 0) :: (I2, oI) :: (I, rIter (0 + ((i + 1 : Nat) : Int)) (((14 : Nat) : Int) - ((i + 1 : Nat) : Int))) :: (s.heap.objs.size + 1, o2) :: (D, PySem.W.listOf pa 9) :: (z.ra, PySem.W.listOf (strValues z.rls).toArray z.re) :: ((z2.sl.map fun e => (e.1, tupF e.2.1 e.2.2.1 e.2.2.2)) ++ z6.T)) ∧
                @LT.lt Nat _ tk tn ∧ @LT.lt Nat _ tn tkr ∧ @Ne Nat tn 0 := by
              refine ⟨tar, NA _ ?_ ?_, ?_, l2r, nzr.1⟩
              · intro q hq
                rcases List.mem_cons.mp hq with rfl | hq
                · exact news_off Nb (.head _) (q := (sn, _)) (.tail _ (.tail _ (.tail _ (.tail _ (.tail _ (.head _)))))) (fun e => absurd (congrArg Obj.cls e) (by show Value.type "tuple" ≠ Value.type "list"; decide))
                rcases List.mem_cons.mp hq with rfl | hq
                · exact Ne.symm nsn
                rcases List.mem_cons.mp hq with rfl | hq
                · exact Ne.symm (hI1 _ (.head _))
                rcases List.mem_cons.mp hq with rfl | hq
                · exact news_off Nb (.tail _ (.tail _ (.tail _ (.tail _ (.tail _ (.tail _ (.tail _ (.head _)))))))) (q := (sn, _)) (.tail _ (.tail _ (.tail _ (.tail _ (.tail _ (.head _)))))) (fun e => absurd (congrArg Obj.cls e) (by show Value.type "range_iterator" ≠ Value.type "list"; decide))
                rcases List.mem_cons.mp hq with rfl | hq
                · exact news_off Nb (.tail _ (.tail _ (.tail _ (.tail _ (.tail _ (.tail _ (.tail _ (.tail _ (.head _))))))))) (q := (sn, _)) (.tail _ (.tail _ (.tail _ (.tail _ (.tail _ (.head _)))))) (fun e => by dsimp only at e; rw [e] at hd2; cases hd2)
                rcases List.mem_cons.mp hq with rfl | hq
                · exact Nat.ne_of_lt lxs.1
                rcases List.mem_cons.mp hq with rfl | hq
                · exact Nat.ne_of_lt lxs.2
                refine news_apart Nb (.tail _ (.tail _ (.tail _ (.tail _ (.tail _ (.tail _ (.tail _ (.tail _ (.tail _ (.tail _ (.tail _ hq))))))))))) (q := (sn, _)) (.tail _ (.tail _ (.tail _ (.tail _ (.tail _ (.head _)))))) ?_
                rcases List.mem_append.mp hq with hq | hq
                · refine el_1_2 (List.mem_map.mp hq) fun e _ e9_2 => ?_; subst e9_2
                  show Value.type "tuple" ≠ Value.type "list"
                  decide
                · exact (PO6.cls _ hq).2.1
              · refine all_cons ?_ ?_
                · exact .head _
                refine all_cons ?_ ?_
                · exact .tail _ (.tail _ (.tail _ (.tail _ (.tail _ (.tail _ (.head _))))))
                refine all_cons ?_ ?_
                · exact .tail _ (.tail _ (.tail _ (.tail _ (.head _))))
                intro q hq
                · exact .tail _ (.tail _ (.tail _ (.tail _ (.tail _ (.tail _ (.tail _ hq))))))
              · (dsimp only at le9 l1r; exact Mine.q_148 le9 l1r)
            obtain ⟨ex8, Fx8⟩ : ∃ ex8 : Str → Option Value, Fr g s.heap.objs.size hx (fun y => if y = Str.ofString "rows" then some (Value.ref z.ra) else if y = Str.ofString "wishes" then some (Value.ref wa) else if y = Str.ofString "chips" then some (Value.ref ca) else if y = Str.ofString "seen" then some (Value.ref sn) else if y = Str.ofString "stop" then some (Value.int st tst) else if y = Str.ofString "turn" then some (Value.int (0 + (i : Int)) t) else ex8 y) :=
              ⟨_, fr_map Fx (mp_self6 (a := some (Value.ref z.ra)) (b := some (Value.ref wa)) (c := some (Value.ref ca)) (d := some (Value.ref sn)) (e := some (Value.int st tst)) (f := some (Value.int (0 + (i : Int)) t)) rfl rfl rfl rfl rfl rfl)⟩
            refine ⟨.inl rfl, _, _, _, ⟨z2.sl ++ [(Dn, pl (P kk), tn, bb)], z2.se + 1, ex8⟩, rfl, Fx8, (fun y hy => rfl), ?_, ?_, ?_, ?_, ?_⟩
            · have e : ((z2.sl ++ [(Dn, pl (P kk), tn, bb)]).map fun e => Value.ref e.1).toArray = (z2.sl.map fun e => Value.ref e.1).toArray.push (Value.ref Dn) := by simp
              dsimp only
              rw [e]
              refine news_weak Ny ?_
              refine all_cons ?_ ?_
              · exact .tail _ (.tail _ (.tail _ (.head _)))
              refine all_cons ?_ ?_
              · exact .head _
              refine all_cons ?_ ?_
              · exact .tail _ (.tail _ (.head _))
              refine all_cons ?_ ?_
              · exact .tail _ (.tail _ (.tail _ (.tail _ (.head _))))
              refine all_cons ?_ ?_
              · exact .tail _ (.tail _ (.tail _ (.tail _ (.tail _ (.head _)))))
              refine all_cons ?_ ?_
              · exact .tail _ (.tail _ (.tail _ (.tail _ (.tail _ (.tail _ (.head _))))))
              refine all_cons ?_ ?_
              · exact .tail _ (.tail _ (.tail _ (.tail _ (.tail _ (.tail _ (.tail _ (.head _)))))))
              intro q hq
              rw [List.map_append, List.append_assoc] at hq
              rcases List.mem_append.mp hq with hq | hq
              · exact .tail _ (.tail _ (.tail _ (.tail _ (.tail _ (.tail _ (.tail _ (.tail _ (List.mem_append_left _ hq))))))))
              rcases List.mem_append.mp hq with hq | hq
              · rw [List.map_cons, List.map_nil, List.mem_singleton] at hq
                subst hq
                exact .tail _ (.head _)
              · exact .tail _ (.tail _ (.tail _ (.tail _ (.tail _ (.tail _ (.tail _ (.tail _ (List.mem_append_right _ hq))))))))
            · intro q hq
              rcases List.mem_cons.mp hq with rfl | hq
              · have q9 := hI1 _ (.head _); exact q9
              rcases List.mem_cons.mp hq with rfl | hq
              · exact hI1 _ (.tail _ (.head _))
              rcases List.mem_cons.mp hq with rfl | hq
              · exact hI1 _ (.tail _ (.tail _ (.head _)))
              rcases List.mem_cons.mp hq with rfl | hq
              · exact hI1 _ (.tail _ (.tail _ (.tail _ (.head _))))
              rcases List.mem_cons.mp hq with rfl | hq
              · exact hI1 _ (.tail _ (.tail _ (.tail _ (.tail _ (.head _)))))
              rcases List.mem_cons.mp hq with rfl | hq
              · exact hI1 _ (.tail _ (.tail _ (.tail _ (.tail _ (.tail _ (.head _))))))
              rw [List.map_append, List.append_assoc] at hq
              rcases List.mem_append.mp hq with hq | hq
              · exact hI1 _ (.tail _ (.tail _ (.tail _ (.tail _ (.tail _ (.tail _ (List.mem_append_left _ hq)))))))
              rcases List.mem_append.mp hq with hq | hq
              · rw [List.map_cons, List.map_nil, List.mem_singleton] at hq
                subst hq
                exact Ne.symm (Nat.ne_of_lt lt2.2.2.2.1)
              · exact hI1 _ (.tail _ (.tail _ (.tail _ (.tail _ (.tail _ (.tail _ (List.mem_append_right _ hq)))))))
            · show (z2.sl ++ [_]).length = n + 1
              rw [List.length_append, hsl]; rfl
            · intro j e he
              have he' : (z2.sl ++ [(Dn, pl (P kk), tn, bb)])[j]? = some e := he
              rw [List.getElem?_append] at he'
              split at he'
              · refine el_0_4 (hse j e he') fun a1 a2 a3 a4 => ?_
                exact ⟨a1, a2, a3, by ((try dsimp only); exact Mine.q_149 a4 q1 q2)⟩
              · rename_i hj
                have hj2 : j = n := by
                  have := (List.getElem?_eq_some_iff.mp he').1
                  simp only [List.length_cons, List.length_nil] at this
                  exact Mine.q_18 this hsl hj
                subst hj2
                rw [hsl, Nat.sub_self] at he'
                cases he'
                exact ⟨by rw [hkk], by rw [hbb], q3, by ((try dsimp only); exact Mine.q_150 q2)⟩
            · intro e e' h0 h1
              have h0' : (z2.sl ++ [(Dn, pl (P kk), tn, bb)])[0]? = some e := h0
              have h1' : (z2.sl ++ [(Dn, pl (P kk), tn, bb)])[1]? = some e' := h1
              rw [List.getElem?_append] at h0' h1'
              split at h1'
              · rename_i hj
                rw [if_pos (by exact Mine.q_57 hj)] at h0'
                exact hso e e' h0' h1'
              · rename_i hj
                split at h0'
                · have a4 := (hse 0 e h0').2.2.2
                  have e9 : z2.sl.length = 1 := by exact Mine.q_151 ‹_› hsl hn2
                  rw [e9] at h1'
                  cases h1'
                  exact Nat.lt_trans a4 q1
                · have e9 : z2.sl.length = 0 := by exact Mine.q_152 ‹_›
                  rw [e9] at h1'
                  cases h1'
            --B
          case done3 =>
            rintro z2 h tk o8 ⟨hsl, hse, hso⟩ F' N'
            clear F7 N7
            obtain ⟨⟨D0, f0, t0, c0⟩, ⟨D1, f1, t1, c1⟩, hsl2⟩ : ∃ e0 e1, z2.sl = [e0, e1] := by
              match hz : z2.sl, hsl with
              | [a, b], _ => exact ⟨a, b, rfl⟩
            refine el_0_4 (hse 0 _ (by rw [hsl2]; rfl)) fun g1 g2 g3 _ => ?_
            refine el_0_4 (hse 1 _ (by rw [hsl2]; rfl)) fun g4 g5 g6 _ => ?_
            have g7 := hso _ _ (by rw [hsl2]; rfl) (by rw [hsl2]; rfl)
            dsimp only at g1 g2 g3 g4 g5 g6 g7
            rw [if_pos rfl] at g1 g2
            rw [if_neg (by decide)] at g4 g5
            subst g1 g2 g4 g5
            rw [hsl2] at N'
            have N7 : News g s.heap.objs.size h ((sn, PySem.W.listOf #[Value.ref D0, Value.ref D1] z2.se) :: (D0, tupF (pl (P ka)) t0 c0) :: (D1, tupF (pl (P kb)) t1 c1) :: (I, rIter (0 + ((i + 1 : Nat) : Int)) (((14 : Nat) : Int) - ((i + 1 : Nat) : Int))) :: (s.heap.objs.size + 1, o2) :: (D, PySem.W.listOf pa 9) :: (z.ra, PySem.W.listOf (strValues z.rls).toArray z.re) :: z6.T) := news_weak N' (by
              refine all_cons ?_ ?_
              · exact .head _
              refine all_cons ?_ ?_
              · exact .tail _ (.tail _ (.tail _ (.tail _ (.tail _ (.tail _ (.head _))))))
              refine all_cons ?_ ?_
              · exact .tail _ (.tail _ (.tail _ (.tail _ (.tail _ (.tail _ (.tail _ (.head _)))))))
              refine all_cons ?_ ?_
              · exact .tail _ (.tail _ (.head _))
              refine all_cons ?_ ?_
              · exact .tail _ (.tail _ (.tail _ (.head _)))
              refine all_cons ?_ ?_
              · exact .tail _ (.tail _ (.tail _ (.tail _ (.head _))))
              refine all_cons ?_ ?_
              · exact .tail _ (.tail _ (.tail _ (.tail _ (.tail _ (.head _)))))
              intro q hq
              · exact .tail _ (.tail _ (.tail _ (.tail _ (.tail _ (.tail _ (.tail _ (.tail _ hq))))))))
            clear N'
            have hPne : P ka ≠ P kb := by
              intro e
              refine el_1_2 (O.ix ha6) fun x hx ex => ?_
              refine el_1_2 (O.ix hb6) fun y hy ey => ?_
              have hl9 := O.len
              have gx : ord[x]'(by exact Mine.q_33 hx hl9) = ka := (List.getElem?_eq_some_iff.mp ex).2
              have gy : ord[y]'(by exact Mine.q_33 hy hl9) = kb := (List.getElem?_eq_some_iff.mp ey).2
              rcases Nat.lt_trichotomy x y with q | q | q
              · have := List.pairwise_iff_getElem.mp O.lt x y (by exact Mine.q_33 hx hl9) (by exact Mine.q_33 hy hl9) q
                rw [gx, gy] at this; exact Mine.q_106 this e
              · subst q; exact hab (gx.symm.trans gy)
              · have := List.pairwise_iff_getElem.mp O.lt y x (by exact Mine.q_33 hy hl9) (by exact Mine.q_33 hx hl9) q
                rw [gx, gy] at this; exact Mine.q_153 this e
            have hPa := hP ka
            have hPb := hP kb
            have go : GoOn := ⟨⟩
            (try dsimp only at F' ⊢)
            k_steps
            unfold Halt
            rename Fr _ _ _ _ => Fs3
            rename News _ _ _ _ => Ns3
            (with_reducible rename GoOn => go10); clear go10
            refine el_6_8 (pick_two (L := s.heap.objs.size) hP2 hy0s hy1s hPne ha6 hb6 hpa hpb hch) fun lo hi9 ta9 ua9 tb9 ub9 hA hB hlo6 hhi6 hlt9 hplo hphi hch9 => ?_
            have hmem := rows9_mem hpos8
            have hra := (Ns3 _ (.tail _ (.tail _ (.tail _ (.tail _ (.tail _ (.tail _ (.tail _ (.head _))))))))).1
            have hAe := hA _ _ _ Fs3 Ns3 (fun q hq => .tail _ (.tail _ (.tail _ (.tail _ (.tail _ (.tail _ (.tail _ (.tail _ hq))))))))
            have hBe := hB _ _ _ Fs3 Ns3 (fun q hq => .tail _ (.tail _ (.tail _ (.tail _ (.tail _ (.tail _ (.tail _ (.tail _ hq))))))))
            have hz99 : (strValues z.rls).toArray.size = 9 := by rw [List.size_toArray, strValues, List.length_map]; exact hr9
            have hget := rows_get hrows
            have f0 : 0 ≤ 0 + (i : Int) := by exact Mine.q_39
            have f1 : 0 + (i : Int) < 1000 := by exact Mine.q_154 hi
            have hdp9 : dp + 1 + 50 < recursionLimit := by exact Mine.o_d2 hdp
            have hun9 : un + 1 + 500 < cLine := by exact Mine.o_d2 hun
            refine wpAny_call ?_
            refine sent_c (R := rows9 z.pos) (c1 := piece S lo) (c2 := piece S hi9) (first := 0 + (i : Int)) G1 Fs3.keep hra hz99 hget hAe hBe ⟨mail_quoted hmem⟩ ⟨mail_split hmem⟩ (Nat.le_trans (mail_len hmem 8) (by decide)) f0 f1 ?dp9 ?un9 rfl ?_
            case dp9 => (simp only [depth_deeper]; omega)
            case un9 => (simp only [units_deeper]; exact Mine.o_d2 hun)
            intro h10 tk10 r10 ls10 ep10 hls10 hr10 hr0 k10
            have F10 := fr_sub Fs3 k10
            have r10g : g.get? r10 = none := by
              cases q : g.get? r10 with
              | none => rfl
              | some o => have q2 := Fs3.keep _ _ q; rw [hr0] at q2; cases q2
            have r10L := ne_local F10 hr10 (fun es ep q => by cases q)
            refine el_1_3 (piece_own F10 (k10 _ _ hBe)) fun Tp NTp hB' hTpc => ?_
            have Ns4 := news_sub Ns3 k10
            have N10 : News g s.heap.objs.size h10 ((r10, PySem.W.listOf (strValues ls10).toArray ep10) :: (I, rIter (0 + ((i + 1 : Nat) : Int)) (((14 : Nat) : Int) - ((i + 1 : Nat) : Int))) :: (s.heap.objs.size + 1, o2) :: (D, PySem.W.listOf pa 9) :: (Tp ++ z6.T)) := by
              refine news_cons (fun q hq => ?_) hr10 r10L r10g
              revert q
              refine all_cons ?_ ?_
              · exact Ns4 _ (.tail _ (.tail _ (.tail _ (.tail _ (.head _)))))
              refine all_cons ?_ ?_
              · exact Ns4 _ (.tail _ (.tail _ (.tail _ (.tail _ (.tail _ (.head _))))))
              refine all_cons ?_ ?_
              · exact Ns4 _ (.tail _ (.tail _ (.tail _ (.tail _ (.tail _ (.tail _ (.head _)))))))
              intro q hq
              rcases List.mem_append.mp hq with hq | hq
              · exact NTp _ hq
              · exact Ns4 _ (.tail _ (.tail _ (.tail _ (.tail _ (.tail _ (.tail _ (.tail _ (.tail _ hq))))))))
            have N11 := news_more (news_more N10 (.tail _ (.tail _ (.tail _ (.tail _ (List.mem_append_right _ (PO6.memD (st - 1) (by exact Mine.q_155 hst7)))))))) (.tail _ (.tail _ (.tail _ (.tail _ (.tail _ (List.mem_append_right _ (PO6.memP (st - 1) (by exact Mine.q_155 hst7))))))))
            clear N10 Ns4 Ns3 Fs3 hra hAe hBe hget NTp
            have hpm : pa[((st : Int) - 1).toNat]? = some (Value.ref (p (st - 1))) := by rw [show ((st : Int) - 1).toNat = st - 1 by exact Mine.q_156]; exact hps _ (by exact Mine.q_155 hst7)
            have hpp : pa[((st : Int) + 1).toNat]? = some (Value.ref (p (st + 1))) := by rw [show ((st : Int) + 1).toNat = st + 1 by exact Mine.q_157]; exact hps _ (by exact Mine.q_158 hst7)
            (try dsimp only at F10 N11 ⊢)
            k_steps
            repeat (any_goals (first
              | ((with_reducible refine goN 2 ?_); k_dflt (first | (refine' item_K ?q9N ?q9hm ?q9h0 ?q9hf ?q9hx ?_ ?q9hs; (case q9N => k_asm); (case q9hm => k_mem); (case q9h0 => exact Mine.q_159 hst1); (case q9hf => exact Mine.q_160 hst7); (case q9hx => with_reducible assumption); (case q9hs => with_unfolding_all rfl); k_whole) | (refine' item_K ?q9N ?q9hm ?q9h0 ?q9hf ?q9hx ?_ ?q9hs; (case q9N => k_asm); (case q9hm => k_mem); (case q9h0 => omega); (case q9hf => omega); (case q9hx => first | with_reducible assumption | assumption | (rename (∀ j, j < 9 → _[j]? = some _) => hps9; exact hps9 _ (by omega))); (case q9hs => with_unfolding_all rfl); k_whole) | ((with_reducible show wpAny _ _ (subscriptTail _ _ (Value.ref _) (Value.int 1 _)) _ _ _); refine' tupI_1 ?q9t ?_ ?q9hs; (case q9t => exact Fr.keep (by k_asm) _ _ (by assumption)); (case q9hs => with_unfolding_all rfl); k_whole) | (refine' item_G ?q9hl ?q9h0 ?q9hf ?q9hx ?_ ?q9hs; (case q9hl => exact Fr.keep (by k_asm) _ _ (by assumption)); (case q9h0 => omega); (case q9hf => omega); (case q9hx => first | with_reducible assumption | rfl | assumption); (case q9hs => with_unfolding_all rfl); k_whole)); k_steps)
              | ((with_reducible refine goN 5 ?_); k_dflt (first | ((with_reducible show wpAny _ _ (subscriptTail _ _ (Value.ref _) (Value.int 1 _)) _ _ _); refine' tup_1 (PieceAt.use ?q9pa ?q9F ?q9N ?q9k) ?_ ?q9hs; (case q9pa => with_reducible assumption); (case q9F => k_asm); (case q9N => k_asm); (case q9k => (intro q hq; repeat (first | exact hq | exact List.mem_append_right _ hq | exact List.mem_append_left _ hq | refine List.Mem.tail _ ?_))); (case q9hs => with_unfolding_all rfl); k_whole) | ((with_reducible show wpAny _ _ (subscriptTail _ _ (Value.ref _) (Value.int 0 _)) _ _ _); refine' tup_0 (PieceAt.use ?q9pa ?q9F ?q9N ?q9k) ?_ ?q9hs; (case q9pa => with_reducible assumption); (case q9F => k_asm); (case q9N => k_asm); (case q9k => (intro q hq; repeat (first | exact hq | exact List.mem_append_right _ hq | exact List.mem_append_left _ hq | refine List.Mem.tail _ ?_))); (case q9hs => with_unfolding_all rfl); k_whole) | (refine' item_K ?q9N ?q9hm ?q9h0 ?q9hf ?q9hx ?_ ?q9hs; (case q9N => k_asm); (case q9hm => k_mem); (case q9h0 => omega); (case q9hf => omega); (case q9hx => first | with_reducible assumption | assumption | (rename (∀ j, j < 9 → _[j]? = some _) => hps9; exact hps9 _ (by omega))); (case q9hs => with_unfolding_all rfl); k_whole) | ((with_reducible show wpAny _ _ (subscriptTail _ _ (Value.ref _) (Value.int 1 _)) _ _ _); refine' tupI_1 ?q9t ?_ ?q9hs; (case q9t => exact Fr.keep (by k_asm) _ _ (by assumption)); (case q9hs => with_unfolding_all rfl); k_whole) | (refine' item_G ?q9hl ?q9h0 ?q9hf ?q9hx ?_ ?q9hs; (case q9hl => exact Fr.keep (by k_asm) _ _ (by assumption)); (case q9h0 => omega); (case q9hf => omega); (case q9hx => first | with_reducible assumption | rfl | assumption); (case q9hs => with_unfolding_all rfl); k_whole)); k_steps)
              | ((with_reducible refine goN 13 ?_); k_dflt (refine' acc_method ?q9X ?q9hp ?q9hd ?q9hf ?q9ht ?q9hs ?_; (case q9X => k_in); (case q9hp => exact News.get (by k_asm) (by k_mem)); (case q9hd => exact News.get (by k_asm) (by k_mem)); (case q9hf => k_is); (case q9ht => k_is); (case q9hs => rfl); k_whole); k_steps)))
            unfold Halt
            rename Fr _ _ _ _ => F11
            rename News _ _ _ _ => N12
            have hfr : ∀ q ∈ ([(r10, PySem.W.listOf (strValues ls10).toArray ep10), (I, rIter (0 + ((i + 1 : Nat) : Int)) (((14 : Nat) : Int) - ((i + 1 : Nat) : Int))), (s.heap.objs.size + 1, o2), (D, PySem.W.listOf pa 9)] ++ Tp), ∀ d i e, q.2 ≠ accObj d i e := by
              intro q hq
              rcases List.mem_append.mp hq with hq | hq
              · simp only [List.mem_cons, List.not_mem_nil, or_false] at hq
                rcases hq with rfl | rfl | rfl | rfl
                · exact fun d i e q => by cases q
                · exact fun d i e q => by cases q
                · exact hcell
                · exact fun d i e q => by cases q
              · intro d i e q2
                have := hTpc _ hq
                rw [q2] at this
                cases this
            have hl7 : ∀ j, j < 9 → j ≠ st → (z6.pc j).length ≤ 6 := fun j hj hn => by rw [hpcj j hn, (hperm j hj).length_eq, List.length_map]; exact chips_le
            refine push_step (st := st - 1) (z := z6) (front := [(r10, PySem.W.listOf (strValues ls10).toArray ep10), (I, rIter (0 + ((i + 1 : Nat) : Int)) (((14 : Nat) : Int) - ((i + 1 : Nat) : Int))), (s.heap.objs.size + 1, o2), (D, PySem.W.listOf pa 9)] ++ Tp) G1 F11 (news_weak N12 (fun q hq => .tail _ (.tail _ hq))) PO6 inj (by exact Mine.q_155 hst7) hfr (Nat.le_trans (hl7 _ (by exact Mine.q_155 hst7) (by exact Mine.q_161 hst1)) (by decide)) (by simp only [depth_deeper]; exact Mine.o_d2 hdp) (by simp only [units_deeper]; exact Mine.o_d2 hun) ?_
            intro h12 tk12 z7 F13 N13 PO7 hpc7
            clear F11 N12
            have N14 := news_more (news_more N13 (.tail _ (.tail _ (.tail _ (.tail _ (List.mem_append_right _ (PO7.memD (st + 1) (by exact Mine.q_158 hst7)))))))) (.tail _ (.tail _ (.tail _ (.tail _ (.tail _ (List.mem_append_right _ (PO7.memP (st + 1) (by exact Mine.q_158 hst7))))))))
            have N15 : News g s.heap.objs.size h12 ((p (st + 1), accObj (dx (st + 1)) (z7.its (st + 1)) (z7.ep (st + 1))) :: (dx (st + 1), accDict w (tt (st + 1)) 408) :: (r10, PySem.W.listOf (strValues ls10).toArray ep10) :: (I, rIter (0 + ((i + 1 : Nat) : Int)) (((14 : Nat) : Int) - ((i + 1 : Nat) : Int))) :: (s.heap.objs.size + 1, o2) :: (D, PySem.W.listOf pa 9) :: (Tp ++ z7.T)) := N14
            clear N14 N13
            (try dsimp only at F13 ⊢)
            k_steps
            repeat (any_goals (first
              | ((with_reducible refine goN 2 ?_); k_dflt (first | (refine' item_K ?q9N ?q9hm ?q9h0 ?q9hf ?q9hx ?_ ?q9hs; (case q9N => k_asm); (case q9hm => k_mem); (case q9h0 => exact Mine.q_162); (case q9hf => exact Mine.q_163 hst7); (case q9hx => with_reducible assumption); (case q9hs => with_unfolding_all rfl); k_whole) | (refine' item_K ?q9N ?q9hm ?q9h0 ?q9hf ?q9hx ?_ ?q9hs; (case q9N => k_asm); (case q9hm => k_mem); (case q9h0 => omega); (case q9hf => omega); (case q9hx => first | with_reducible assumption | assumption | (rename (∀ j, j < 9 → _[j]? = some _) => hps9; exact hps9 _ (by omega))); (case q9hs => with_unfolding_all rfl); k_whole) | ((with_reducible show wpAny _ _ (subscriptTail _ _ (Value.ref _) (Value.int 1 _)) _ _ _); refine' tupI_1 ?q9t ?_ ?q9hs; (case q9t => exact Fr.keep (by k_asm) _ _ (by assumption)); (case q9hs => with_unfolding_all rfl); k_whole) | (refine' item_G ?q9hl ?q9h0 ?q9hf ?q9hx ?_ ?q9hs; (case q9hl => exact Fr.keep (by k_asm) _ _ (by assumption)); (case q9h0 => omega); (case q9hf => omega); (case q9hx => first | with_reducible assumption | rfl | assumption); (case q9hs => with_unfolding_all rfl); k_whole)); k_steps)
              | ((with_reducible refine goN 5 ?_); k_dflt (first | ((with_reducible show wpAny _ _ (subscriptTail _ _ (Value.ref _) (Value.int 1 _)) _ _ _); refine' tup_1 (PieceAt.use ?q9pa ?q9F ?q9N ?q9k) ?_ ?q9hs; (case q9pa => with_reducible assumption); (case q9F => k_asm); (case q9N => k_asm); (case q9k => (intro q hq; repeat (first | exact hq | exact List.mem_append_right _ hq | exact List.mem_append_left _ hq | refine List.Mem.tail _ ?_))); (case q9hs => with_unfolding_all rfl); k_whole) | ((with_reducible show wpAny _ _ (subscriptTail _ _ (Value.ref _) (Value.int 0 _)) _ _ _); refine' tup_0 (PieceAt.use ?q9pa ?q9F ?q9N ?q9k) ?_ ?q9hs; (case q9pa => with_reducible assumption); (case q9F => k_asm); (case q9N => k_asm); (case q9k => (intro q hq; repeat (first | exact hq | exact List.mem_append_right _ hq | exact List.mem_append_left _ hq | refine List.Mem.tail _ ?_))); (case q9hs => with_unfolding_all rfl); k_whole) | (refine' item_K ?q9N ?q9hm ?q9h0 ?q9hf ?q9hx ?_ ?q9hs; (case q9N => k_asm); (case q9hm => k_mem); (case q9h0 => omega); (case q9hf => omega); (case q9hx => first | with_reducible assumption | assumption | (rename (∀ j, j < 9 → _[j]? = some _) => hps9; exact hps9 _ (by omega))); (case q9hs => with_unfolding_all rfl); k_whole) | ((with_reducible show wpAny _ _ (subscriptTail _ _ (Value.ref _) (Value.int 1 _)) _ _ _); refine' tupI_1 ?q9t ?_ ?q9hs; (case q9t => exact Fr.keep (by k_asm) _ _ (by assumption)); (case q9hs => with_unfolding_all rfl); k_whole) | (refine' item_G ?q9hl ?q9h0 ?q9hf ?q9hx ?_ ?q9hs; (case q9hl => exact Fr.keep (by k_asm) _ _ (by assumption)); (case q9h0 => omega); (case q9hf => omega); (case q9hx => first | with_reducible assumption | rfl | assumption); (case q9hs => with_unfolding_all rfl); k_whole)); k_steps)
              | ((with_reducible refine goN 13 ?_); k_dflt (refine' acc_method ?q9X ?q9hp ?q9hd ?q9hf ?q9ht ?q9hs ?_; (case q9X => k_in); (case q9hp => exact News.get (by k_asm) (by k_mem)); (case q9hd => exact News.get (by k_asm) (by k_mem)); (case q9hf => k_is); (case q9ht => k_is); (case q9hs => rfl); k_whole); k_steps)))
            unfold Halt
            rename Fr _ _ _ _ => F16
            rename News _ _ _ _ => N16
            have hl8 : (z7.pc (st + 1)).length ≤ 100 := by
              rw [hpc7, if_neg (by exact Mine.q_164)]
              exact Nat.le_trans (hl7 _ (by exact Mine.q_158 hst7) (by exact Mine.q_165)) (by decide)
            refine push_step (st := st + 1) (z := z7) (front := [(r10, PySem.W.listOf (strValues ls10).toArray ep10), (I, rIter (0 + ((i + 1 : Nat) : Int)) (((14 : Nat) : Int) - ((i + 1 : Nat) : Int))), (s.heap.objs.size + 1, o2), (D, PySem.W.listOf pa 9)] ++ Tp) G1 F16 (news_weak N16 (fun q hq => .tail _ (.tail _ hq))) PO7 inj (by exact Mine.q_158 hst7) hfr hl8 (by simp only [depth_deeper]; exact Mine.o_d2 hdp) (by simp only [units_deeper]; exact Mine.o_d2 hun) ?_
            intro h17 tk17 z8 F17 N17 PO8 hpc8
            clear F16 N16
            (try dsimp only at F17 ⊢)
            k_steps
            obtain ⟨ex9, F18⟩ : ∃ ex9 : Str → Option Value, Fr g s.heap.objs.size h17 (fun y => if y = Str.ofString "rows" then some (Value.ref r10) else if y = Str.ofString "wishes" then some (Value.ref wa) else if y = Str.ofString "chips" then some (Value.ref ca) else ex9 y) :=
              ⟨_, fr_map F17 (mp_self (a := some (Value.ref r10)) (b := some (Value.ref wa)) (c := some (Value.ref ca)) rfl rfl rfl)⟩
            have hne9 : lo ≠ hi9 := fun e => by rw [e] at hlt9; exact Nat.lt_irrefl _ hlt9
            refine ⟨.inl rfl, _, _, _, ⟨z8, r10, ls10, ep10, upd (upd z.pos lo (z.pos lo - 1)) hi9 (z.pos hi9 + 1), ex9⟩, rfl, F18, (fun y hy => rfl), ?_, ?_, PO8, ?_, ?_, ?_⟩
            · refine news_weak N17 (fun q hq => ?_)
              revert q
              refine all_cons ?_ ?_
              · exact .tail _ (.head _)
              refine all_cons ?_ ?_
              · exact .tail _ (.tail _ (.head _))
              refine all_cons ?_ ?_
              · exact .tail _ (.tail _ (.tail _ (.head _)))
              refine all_cons ?_ ?_
              · exact .head _
              intro q hq
              · exact .tail _ (.tail _ (.tail _ (.tail _ (List.mem_append_right _ hq))))
            · refine all_cons ?_ ?_
              · exact hI1 _ (.head _)
              refine all_cons ?_ ?_
              · exact hI1 _ (.tail _ (.head _))
              intro q hq
              rcases List.mem_cons.mp hq with rfl | hq
              · exact news_apart N17 (.head _) (q := (I, _)) (.tail _ (.head _)) (by show Value.type "list" ≠ Value.type "range_iterator"; decide)
              · exact news_apart N17 (.tail _ (.tail _ (.tail _ (.tail _ (List.mem_append_right _ hq))))) (q := (I, _)) (.tail _ (.head _)) (PO8.cls _ hq).1
            · exact heard_rows hlo6 hhi6 (fun k hk => at_range O (by exact Mine.o_lel hi (by decide)) hat hk) hne9 hls10
            · exact at_step O hat hlo6 hhi6 hlt9 (hplo.trans hphi.symm)
            · refine chips_step (pc := z6.pc) hlo6 hhi6 hne9 hplo hphi hst1 hst7 hch9 (fun j hj hn => by rw [hpcj j hn]; exact hperm j hj) hrest (fun j => ?_)
              rw [hpc8]
              by_cases q1 : j = st + 1
              · rw [if_pos q1, if_pos q1, hpc7, if_neg (by exact Mine.q_164), q1]
              · rw [if_neg q1, if_neg q1, hpc7]
                by_cases q2 : j = st - 1
                · rw [if_pos q2, if_pos q2, q2]
                · rw [if_neg q2, if_neg q2]
      case done =>
        rintro z h tk ok9 ⟨PO9, hrows9, hat9, hperm9⟩ F' N'
        clear F9 N9 PO1 hpc hr9
        (try dsimp only at F' N' ⊢)
        k_steps
        rename Fr _ _ _ _ => Fz
        rename News _ _ _ _ => Nz
        have none0 : ∀ a, g.get? a = none → s.heap.get? a = none := fun a e => by
          cases e1 : s.heap.get? a with
          | none => rfl
          | some o9 => rw [up _ _ e1] at e; cases e
        have NT : News g s.heap.objs.size _ z.z.T := news_weak Nz (fun q hq => .tail _ (.tail _ (.tail _ (.tail _ hq))))
        have fr9 := PO9.fresh (s := { s with heap := _ }) NT
        exact hres _ _ _ z.ra D z.rls z.re pa p dx tt z.z.its z.z.ep z.z.pc z.pos (at_last hat9) hrows9 (Nz _ (.head _)).1 (Nz _ (.tail _ (.tail _ (.tail _ (.head _))))).1 (Nz _ (.tail _ (.tail _ (.head _)))).1 hpz hps inj (PO9.heap Fz NT) hperm9
          (fun j hj => ⟨none0 _ (fr9 j hj).2.2.1, none0 _ (fr9 j hj).2.2.2⟩) (none0 _ (Nz _ (.head _)).2.2) (none0 _ (Nz _ (.tail _ (.tail _ (.tail _ (.head _))))).2.2) (none0 _ (Nz _ (.tail _ (.tail _ (.head _)))).2.2) (fun b o e => Fz.keep _ _ (up _ _ e))
end Mine
end

section
open PySem PySem.W PySem.Calls PySem.Spec PyProof.Rows
set_option Elab.async false
set_option maxRecDepth 100000
set_option maxHeartbeats 8000000
set_option linter.unusedVariables false
namespace Mine
theorem fill16 : PySem.Challenge.rw_sn0012_01 = PySem.Challenge.rw_sn0012_01 ∧ hd.heap_39 = hd.heap_39 := by
  k_fill
  exact ⟨rfl, rfl⟩
/-- the tables that the law's run lets grow -/
abbrev tabs3 : List Addr := [111, 118, 179]
theorem no_tab {w : World} : ∀ a ∈ tabs3, (hd.heap_39 w.params).lookup a = none := by
  intro a ha
  simp only [tabs3, List.mem_cons, List.not_mem_nil, or_false] at ha
  rcases ha with rfl | rfl | rfl <;> rfl
theorem ns_hide {h : Heap} {hs : List Addr} {a : Addr} {m : Str → Option Value} (G : h.Ns a m) (n : a ∉ hs) : (hideAll h hs).Ns a m := by
  obtain ⟨o, es, ep, ho, r⟩ := G
  exact ⟨o, es, ep, hideAll_get _ ho n, r⟩
/-- Gd stands although the tables are hidden -/
theorem gd_hide {w : World} {mean : ExcName → Option Value} {mg mb : Str → Option Value} {h : Heap} (X : (hd.heap_39 w.params).In h) (T : Top hd.view_39 LO mean mg mb h) (ht : ∀ a ∈ tabs3, ∃ n, h.get? a = some { cls := .none, data := .fields n }) : Gd w mean mg mb (hideAll h tabs3) := by
  have n1 : mainGlobals ∉ tabs3 := by decide
  have n2 : builtinsNs ∉ tabs3 := by decide
  have n3 : cStatics ∉ tabs3 := by decide
  have nl : (hideAll h tabs3).NoLimit := by
    obtain ⟨mc, h1, h2⟩ := T.nolimit
    exact ⟨mc, ns_hide h1 n3, h2⟩
  refine ⟨(fun a o e => hideAll_get _ (X a o e) fun q => by (rw [no_tab a q] at e; cases e)), ⟨ns_hide T.g n1, ns_hide T.b n2, nl, T.builtins, T.free⟩, ?_⟩
  have T' := top0 T
  exact { g := ns_hide T.g n1, b := ns_hide T.b n2, nolimit := nl, nodigits := (by obtain ⟨mc, h1, h2⟩ := T.nodigits; exact ⟨mc, ns_hide h1 n3, h2⟩), fn := (fun d q => nomatch (show d ∈ ([] : List DefRec) from q)), own := (fun o q => nomatch (show o ∈ ([] : List OwnSpec) from q)), const := T'.const, free := T'.free, builtins := T'.builtins, tab := (fun d q => nomatch (show d ∈ ([] : List DefRec) from q)),
          bmain := (by
            obtain ⟨bm, ob, a, b, c, d, e⟩ := T.bmain
            refine ⟨bm, ob, a, b, hideAll_get _ c fun q => ?_, d, e⟩
            obtain ⟨n, hn⟩ := ht bm q
            rw [hn] at c
            cases c
            cases d), seer := (fun q => by cases q) }
end Mine
end

section
open PySem PySem.W PySem.Calls PySem.Spec PyProof.Rows
set_option Elab.async false
set_option maxRecDepth 100000
set_option maxHeartbeats 8000000
set_option linter.unusedVariables false
namespace Mine
theorem fill20 : PySem.Challenge.rw_sn0012_01 = PySem.Challenge.rw_sn0012_01 ∧ hd.heap_39 = hd.heap_39 := by
  k_fill
  exact ⟨rfl, rfl⟩

section
variable {w : World} {A : Around} {E : Value → Shared → Prop} {s : Shared}
/-- a heap place with a sequence, of whatever class -/
def SeqAt (h : Heap) (l : Addr) (items : Array Value) : Prop := ∃ o, h.get? l = some o ∧ ∃ n, o.data = .seq items n
theorem SeqAt.at {h h' : Heap} {l : Addr} {items : Array Value} (x : SeqAt h l items) (k : ∀ o, h.get? l = some o → h'.get? l = some o) : SeqAt h' l items := let ⟨o, e, r⟩ := x; ⟨o, k o e, r⟩

theorem seq_next {it l : Addr} {i : Nat} {items} {x : Value} {Q : Option Value → Shared → Prop} (hit : s.heap.IsListIter it l i)
    (hl : SeqAt s.heap l items) (hx : items[i]? = some x)
    (hQ : ∀ h', h'.IsListIter it l (i + 1) → Heap.SameBut it s.heap h' → Q (some x) { s with heap := h' }) :
    wpAny (model PP w) A (pyNext (.ref it)) Q E s := by
  obtain ⟨o, ho, hc, hd⟩ := id hit
  obtain ⟨ol, hol, nl, hdl⟩ := hl
  unfold pyNext
  refine wpAny_bind (wpAny_attempt (wpAny_callSpecial?_slot (name := Str.ofString "__next__") hit.typeIs slot_listiter_next
    (wpAny_call_entry slot_listiter_next hit.typeIs entry_listiter_next ?_ (args_listiter_next _))))
  show wpAny _ _ (field (.ref it) 0 >>= _) _ _ s
  refine wpAny_bind (wpAny_field ho hd (x := .ref l) rfl ?_)
  show wpAny _ _ (if (Value.ref l == Value.none) = true then _ else _) _ _ s
  rw [if_neg (show ¬ ((Value.ref l == Value.none) = true) from Bool.false_ne_true)]
  show wpAny _ _ (field (.ref it) 1 >>= _) _ _ s
  refine wpAny_bind (wpAny_field ho hd (x := .int i 0) rfl ?_)
  show wpAny _ _ (seqItems? (.ref l) >>= _) _ _ s
  refine wpAny_bind (wpAny_seqItems hol hdl ?_)
  simp only [Int.toNat_natCast, hx]
  refine wpAny_bind (wpAny_setField ho hd (by simp) (wpAny_pure ⟨x, rfl, wpAny_pure (hQ _ ?_ (Heap.SameBut.update ..))⟩))
  exact ⟨_, Heap.get?_update_self _ ho (Obj.isFreed_of_fields (Obj.data_mapFields hd _)), (Obj.cls_mapFields ..).trans hc, by
    rw [Obj.data_mapFields hd]; simp [rawInt]⟩

theorem seq_end {it l : Addr} {i : Nat} {items} {Q : Option Value → Shared → Prop} (hh : A.handled = none)
    (hit : s.heap.IsListIter it l i) (hl : SeqAt s.heap l items) (hx : items[i]? = none)
    (hQ : ∀ h', Heap.ExtBut it s.heap h' → Q none { s with heap := h' }) : wpAny (model PP w) A (pyNext (.ref it)) Q E s := by
  obtain ⟨o, ho, hc, hd⟩ := id hit
  obtain ⟨ol, hol, nl, hdl⟩ := hl
  unfold pyNext
  refine wpAny_bind (wpAny_attempt (wpAny_callSpecial?_slot (name := Str.ofString "__next__") hit.typeIs slot_listiter_next
    (wpAny_call_entry slot_listiter_next hit.typeIs entry_listiter_next ?_ (args_listiter_next _))))
  show wpAny _ _ (field (.ref it) 0 >>= _) _ _ s
  refine wpAny_bind (wpAny_field ho hd (x := .ref l) rfl ?_)
  show wpAny _ _ (if (Value.ref l == Value.none) = true then _ else _) _ _ s
  rw [if_neg (show ¬ ((Value.ref l == Value.none) = true) from Bool.false_ne_true)]
  show wpAny _ _ (field (.ref it) 1 >>= _) _ _ s
  refine wpAny_bind (wpAny_field ho hd (x := .int i 0) rfl ?_)
  show wpAny _ _ (seqItems? (.ref l) >>= _) _ _ s
  refine wpAny_bind (wpAny_seqItems hol hdl ?_)
  simp only [Int.toNat_natCast, hx]
  refine wpAny_bind (wpAny_rule (wpAny_bind (wpAny_setField ho hd (by simp) ?_)))
  show wpAny _ _ (newExc (.type "StopIteration") [] >>= _) _ _ _
  refine wpAny_bind ?_
  simp only [newExc, newTuple]
  refine wpAny_bind (wpAny_newObj_type ?_ (by size_fits))
  refine wpAny_bind (m := firstArgMember _ _) (wpAny_of_eq (a := Value.none) (by first | rfl | (simp only [firstArgMember]; rfl)) ?_)
  refine wpAny_newObj_type ?_ (by size_fits)
  simp only [raiseNew]
  refine wpAny_bind (wpAny_handled ?_)
  rw [show A.in1.handled = none from hh]
  refine wpAny_bind (wpAny_pure (wpAny_throw ?_))
  refine wpAny_bind (wpAny_isInstance (T := "StopIteration") (b := true) ⟨_, Heap.get?_push_size _ rfl, rfl⟩ isSubtype_stop ?_)
  exact wpAny_pure (hQ _ (((Heap.SameBut.update ..).extBut.push _).push _))

theorem seq_walks (hh : A.handled = none) (I ax : Addr) (hne : ax ≠ I) (items : Array Value) (Ts : Nat → Addr) (vals : Nat → Array Value)
    (hit : ∀ j, j < items.size → items[j]? = some (.ref (Ts j))) (hTI : ∀ j, j < items.size → Ts j ≠ I) :
    WalksU PP w A I (I :: ax :: (List.range items.size).map Ts) [I] items.size (fun j v => v = vals j)
      (fun j h => h.IsListIter I ax j ∧ SeqAt h ax items ∧ ∀ k, k < items.size → h.IsTuple (Ts k) (vals k))
      (fun j T h => (j < items.size ∧ T = Ts j) ∧ h.IsListIter I ax (j + 1) ∧ SeqAt h ax items ∧ ∀ k, k < items.size → h.IsTuple (Ts k) (vals k)) where
  sub := fun b hb => by simp at hb; simp [hb]
  frame := fun _ _ _ st hk => ⟨st.1.at fun o e => hk I (by simp) o e, st.2.1.at fun o e => hk ax (by simp) o e,
    fun k hk' => (st.2.2 k hk').at fun o e => hk (Ts k) (List.mem_cons_of_mem _ (List.mem_cons_of_mem _ (List.mem_map.mpr ⟨k, List.mem_range.mpr hk', rfl⟩))) o e⟩
  item := fun i s Q E hi st hQ => by
    refine seq_next st.1 st.2.1 (x := .ref (Ts i)) (hit i hi) fun h' hit' hs' => ?_
    have tup : ∀ k, k < items.size → h'.IsTuple (Ts k) (vals k) := fun k hk' => (st.2.2 k hk').extBut hs'.extBut (hTI k hk')
    exact hQ (Ts i) (vals i) h' s.toks rfl (tup i hi) ⟨⟨hi, rfl⟩, hit', st.2.1.at fun o e => hs'.extBut ax o hne e, tup⟩ fun b o hb e => hs'.extBut b o (fun h => hb (by simp [h])) e
  go := fun _ _ _ _ _ s Q _ hm hQ => wpAny_letOwnedTupleGo_listiter hm.2.1 (hQ s.heap hm.2 fun _ _ _ e => e)
  apart := fun j T _ hm hmem => by
    rcases List.mem_cons.mp hmem with e | e
    · exact hTI j hm.1.1 (hm.1.2 ▸ e)
    · cases e
  done := fun s Q E st hQ => seq_end hh st.1 st.2.1 (by simp) fun h' he' => hQ h' s.toks fun b o hb e => he' b o (fun h => hb (by simp [h])) e
  self := fun _ _ _ _ st hQ => wpAny_pyIter_listiter st.1 hQ

theorem acc_pyIter {p dx : Addr} {items : Array Value} {ep : Nat} {Q : Value → Shared → Prop} (X : (hd.heap_39 w.params).In s.heap) (hp : s.heap.get? p = some (accObj dx items ep))
    (hQ : Q (.ref s.heap.objs.size) { s with heap := s.heap.push { cls := .type "list_iterator", data := .fields #[.ref p, .int 0 0] } }) : wpAny (model PP w) A (pyIter (.ref p)) Q E s := by
  have hf : findIn (hd.heap_39 w.params) (.ref 149) "__iter__" = some (some (.builtin "list.__iter__")) := by k_is
  have hc : wpAny (model PP w) A (call (.builtin "list.__iter__") [.ref p]) (fun v s' => wpAny (model PP w) A (specialOf v "__next__" >>= fun x => match x with
      | none => (do rule "iter.non-iterator"; raiseError "TypeError" s!"iter() returned non-iterator of type '{← typeNameOf v}'")
      | some _ => pure v) Q E s') E s := by
    refine acc_call (n := "__iter__") X hp (by decide +kernel) entry_list_iter (by decide +kernel) (.inl (by decide +kernel)) (args_list_iter _) ?_
    show wpAny _ _ (do ret (← newFields "list_iterator" [.ref p, rawInt 0])) _ _ s
    refine wpAny_bind (wpAny_newObj_type (wpAny_pure ⟨_, rfl, ?_⟩))
    exact wpAny_bind (wpAny_specialOf ⟨_, Heap.get?_push_size _ rfl, rfl⟩ slot_listiter_next.lookup (wpAny_pure hQ))
  unfold pyIter
  refine wpAny_bind ((acc_special X hp hf).here ?_)
  show wpAny _ A (callSpecialIfBoundUnlessNone? (.ref p) "__iter__" _ >>= _) Q E s
  refine wpAny_bind ?_
  simp only [callSpecialIfBoundUnlessNone?, bindSpecialIfBound?]
  refine wpAny_holding (wpAny_bind (wpAny_bind ((acc_special X hp hf).here ?_)))
  simp only [slot_list_iter.bind]
  refine wpAny_bind (wpAny_askSetting (wpAny_ite ?_))
  have fin : ∀ {Q' : Option Value → Shared → Prop}, wpAny (model PP w) A (call (.builtin "list.__iter__") [.ref p]) (fun v s' => Q' (some v) s') E s → ∀ (refuse : Sem Value), wpAny (model PP w) A (if (Value.builtin "list.__iter__" == Value.none) = true then (refuse >>= fun v => pure (some v)) else (call (.builtin "list.__iter__") [.ref p] >>= fun v => pure (some v))) Q' E s := by
    intro Q' hc refuse
    simp only [builtin_beq_none, Bool.false_eq_true, if_false]
    exact wpAny_bind (wpAny_mono hc (fun v s' h' => wpAny_pure h') fun _ _ h' => h')
  split
  · exact wpAny_bind (wpAny_pure (wpAny_pure (fin hc _)))
  · exact wpAny_tryCatch (wpAny_bind (wpAny_pure (wpAny_pure (fin hc _))))

/-! ## the table of a code -/
def TabOk (h : Heap) (P : Addr) : Prop := ∃ ps, h.get? P = some (tabObj ps) ∧ TriplesOk ps.toList
theorem tab_nil {h : Heap} {P : Addr} (e : h.get? P = some (tabObj #[])) : TabOk h P := ⟨_, e, trivial⟩
theorem TabOk.at {h h' : Heap} {P : Addr} (x : TabOk h P) (k : ∀ o, h.get? P = some o → h'.get? P = some o) : TabOk h' P := let ⟨ps, e, t⟩ := x; ⟨ps, k _ e, t⟩

theorem code_any {env : Env} {c P : Addr} {pos : Pos} {qual : Str} {scope : Scope} {Q : Value → Shared → Prop} (hc : env.code = .ref c) (C : CodeHd s.heap c P) (T : TabOk s.heap P)
    (hQ : ∀ v h' tk, Heap.ExtBut P s.heap h' → s.heap.objs.size ≤ h'.objs.size → TabOk h' P → Q v { s with heap := h', toks := tk }) :
    wpAny (model PP w) A (genexprCode env pos qual scope) Q E s := by
  obtain ⟨ps, hP, ht⟩ := T
  cases q : codeAmong pos ps.toList with
  | some c' => exact wpAny_genexprCode_hit hc (C.code hP ht) q (hQ c' s.heap s.toks (fun _ _ _ e => e) (Nat.le_refl _) ⟨ps, hP, ht⟩)
  | none =>
    refine wpAny_genexprCodeX hc (C.code hP ht) (C.tab hP) q fun c' h' tk hx hge hlt hic _ htb _ => ?_
    refine hQ _ h' tk hx (Nat.le_trans hge (Nat.le_of_lt hlt)) ⟨_, htb.2, ?_⟩
    simp only [Array.toList_append]
    exact TriplesOk_snoc _ _ _ _ ht
end
end Mine
end

section
open PySem PySem.W PySem.Calls PySem.Spec PyProof.Rows
set_option Elab.async false
set_option maxRecDepth 100000
set_option maxHeartbeats 8000000
set_option linter.unusedVariables false
namespace Mine
section
variable {w : World} {A : Around} {E : Value → Shared → Prop} {s : Shared}
theorem passing_all (n : Nat) : passing (fun _ => true) n 0 = List.range n := by simp [passing]
/-- an entry of a pile: its tuple, and the two texts -/
abbrev PE : Type := Addr × Str × Tok × Str × Tok
abbrev peVals (e : PE) : Array Value := #[.str e.2.1 e.2.2.1, .str e.2.2.2.1 e.2.2.2.2]
theorem acc_genexp {g : Heap} {mean : ExcName → Option Value} {mg mb : Str → Option Value} {scope sc : Scope} {pos pself pa pb pt : Pos} {kt : Nat} {elt : Expr} {xa xb qual : Str} {f c P L p dx : Addr} {ep : Nat} {ts : List PE} {m : Str → Option Value} {FF : PE → Value → Prop} {Q : Value → Shared → Prop}
    (G : Gd w mean mg mb g) (C : CodeHd g c P) (hP : g.get? P = none) (F : Fr g L s.heap m) (T : TabOk s.heap P) (hb : AllBare s.gens)
    (hm : m "self" = some (.ref p)) (hps : s.heap.get? p = some (accObj dx (ts.map fun t => Value.ref t.1).toArray ep)) (hts : ∀ t ∈ ts, s.heap.IsTuple t.1 (peVals t))
    (hA : A.handled = none) (hroom : A.depth < recursionLimit) (hk : sc.kind = .function) (hl : (envX qual sc L f (.ref c) []).kindOf "self" = some .local)
    (hco : scope.isCoroutine = false) (hclos : closureFor scope (envX qual sc L f (.ref c) []) = pure []) (hcell : ∀ y ∈ scope.names, y.2 ≠ .cell) (h0 : scope.names.lookup (".0" : Str) = some NameKind.local)
    (hxa : scope.names.lookup xa = some .local) (hxb : scope.names.lookup xb = some .local) (hab : xa ≠ xb) (hkind : scope.kind = .function)
    (hE : ∀ (A' : Around) E' code Cl t m₂ e, A'.handled = none → A'.depth ≤ A.depth + 1 → A'.units ≤ A.units + 8 → e ∈ ts → Fr g Cl t.heap m₂ → m₂ xa = some (.str e.2.1 e.2.2.1) → m₂ xb = some (.str e.2.2.2.1 e.2.2.2.2) →
      wpAny (model PP w) A' (eval elt (genEnv scope [] Cl code builtinsNs (envX qual sc L f (.ref c) []))) (fun y s₃ => FF e y ∧ Keeps t s₃) E' t)
    (hQ : ∀ a (s₅ : Shared), s₅.os = s.os → AllBare s₅.gens → (∀ b o, b ≠ P → s.heap.get? b = some o → s₅.heap.get? b = some o) → TabOk s₅.heap P → s.heap.objs.size ≤ s₅.heap.objs.size →
      Gen PP w A (s.heap.objs.size - 1) a ts.length (fun j y => ∃ e, ts[j]? = some e ∧ FF e y) s₅ → Q (.ref a) s₅)
    (hs : ∀ x, genFold (.Name "self" pself) (envX qual sc L f (.ref c) []) x = pure x) :
    wpAny (model PP w) A (eval (.GeneratorExp elt [⟨.Tuple [.Name xa pa, .Name xb pb] kt pt, .Name "self" pself, [], 0⟩] scope pos) (envX qual sc L f (.ref c) [])) Q E s := by
  obtain ⟨bm, ob, M⟩ := bmod_of_top G.T0
  have hpos : 0 < s.heap.objs.size := Nat.lt_of_le_of_lt (Nat.zero_le _) F.ns.lt
  have tabNe : ∀ b o, s.heap.get? b = some o → o.cls ≠ .none → b ≠ P := fun b o e n q => by
    obtain ⟨ps, h1, _⟩ := T
    rw [q, h1] at e; cases e; exact n rfl
  have hpP : p ≠ P := tabNe _ _ hps (by show Value.ref 149 ≠ Value.none; exact fun h => nomatch h)
  have hplt : p < s.heap.objs.size := Heap.lt_size hps
  let Ts : Nat → Addr := fun j => (ts[j]?.map fun t => t.1).getD 0
  let vals : Nat → Array Value := fun j => (ts[j]?.map peVals).getD #[.none, .none]
  have hsz : (ts.map fun t => Value.ref t.1).toArray.size = ts.length := by simp
  have at' : ∀ j, j < ts.length → ∃ t, ts[j]? = some t ∧ t ∈ ts := fun j hj => ⟨ts[j], by simp [hj], List.getElem_mem hj⟩
  have hTs : ∀ j, j < (ts.map fun t => Value.ref t.1).toArray.size → s.heap.IsTuple (Ts j) (vals j) := fun j hj => by
    obtain ⟨t, e, hm⟩ := at' j (hsz ▸ hj)
    simp only [Ts, vals, e, Option.map_some, Option.getD_some]; exact hts t hm
  have hTlt : ∀ j, j < (ts.map fun t => Value.ref t.1).toArray.size → Ts j < s.heap.objs.size := fun j hj => by obtain ⟨_, e, _⟩ := hTs j hj; exact Heap.lt_size e
  have hTP : ∀ j, j < (ts.map fun t => Value.ref t.1).toArray.size → Ts j ≠ P := fun j hj => by obtain ⟨o, e, hc, _⟩ := hTs j hj; exact tabNe _ _ e (by rw [hc]; exact fun h => nomatch h)
  have hit : ∀ j, j < (ts.map fun t => Value.ref t.1).toArray.size → (ts.map fun t => Value.ref t.1).toArray[j]? = some (.ref (Ts j)) := fun j hj => by
    obtain ⟨t, e, _⟩ := at' j (hsz ▸ hj)
    simp [Ts, e]
  have W := fun (A' : Around) (hA : A'.handled = none) => (seq_walks (w := w) hA s.heap.objs.size p (Nat.ne_of_lt hplt) (ts.map fun t => Value.ref t.1).toArray Ts vals hit fun j hj => Nat.ne_of_lt (hTlt j hj)).bound
  refine wpAny_GeneratorExp_walksQTD hA hco hclos hcell h0 hxa hxb hab hkind hroom ?_ hs
  refine wpAny_Name (wpAny_loadName_local hk hl F.ns hm ?_) rfl
  refine acc_pyIter (G.keeps F.keep).X hps ?_
  have F2 : Fr g L (s.heap.push { cls := .type "list_iterator", data := .fields #[.ref p, .int 0 0] }) m := F.keeps fun _ _ e => Heap.get?_push_of_some _ e
  refine ⟨((G.T0.nolimit).keeps F2.keep), ?_⟩
  refine code_any rfl (C.keeps F2.keep) (T.at fun o e => Heap.get?_push_of_some _ e) fun code h₃ tk₃ hx₃ hz₃ T₃ => ?_
  have hsz1 : s.heap.objs.size < h₃.objs.size := Nat.lt_of_lt_of_le (by rw [Heap.size_push]; exact Nat.lt_succ_self _) hz₃
  have up : ∀ b o, b ≠ P → s.heap.get? b = some o → h₃.get? b = some o := fun b o n e => hx₃ b o n (Heap.get?_push_of_some _ e)
  have k₃ : Sub g h₃ := fun b o e => up b o (fun q => by rw [q, hP] at e; cases e) (F.keep b o e)
  have M₃ := M.keeps k₃
  refine wpAny_builtinsFor (M₃.ns) M₃.name M₃.ne M₃.obj M₃.cls M₃.dict M₃.data ?_
  have hcl : cStatics < s.heap.objs.size := by
    have z := (G.T0.nolimit).keeps F.keep
    obtain ⟨_, hn, _⟩ := z
    exact hn.lt
  have IP : s.heap.objs.size ≠ P := fun q => by obtain ⟨ps, h1, _⟩ := T; exact Nat.lt_irrefl _ (q ▸ Heap.lt_size h1)
  refine ⟨s.heap.objs.size, _, [s.heap.objs.size], _, _, _, _, (fun _ => true), (fun i y => ∃ e, ts[i]? = some e ∧ FF e y), rfl, W, (fun i vs hv => ?_), ⟨⟨_, hx₃ _ _ IP (Heap.get?_push_size _ rfl), rfl, rfl⟩, ⟨_, up _ _ hpP hps, _, rfl⟩, fun k hk => (hTs k hk).at fun o e => up _ _ (hTP k hk) e⟩, (fun b hb => ?_), (G.T0.nolimit).keeps k₃, (fun h => ?_), (fun href hhref => ?_), fun a h₅ tk gs hgb hag hsz₅ hk₅ WS hat => ?_⟩
  · rcases hv with ⟨hi, rfl⟩
    obtain ⟨t, et, _⟩ := at' i (hsz ▸ hi)
    exact ⟨.str t.2.1 t.2.2.1, .str t.2.2.2.1 t.2.2.2.2, by simp [vals, et]⟩
  · rcases List.mem_cons.mp hb with rfl | hb
    · exact hsz1
    rcases List.mem_cons.mp hb with rfl | hb
    · exact Nat.lt_trans hplt hsz1
    · obtain ⟨k, hk, rfl⟩ := List.mem_map.mp hb
      exact Nat.lt_trans (hTlt k (List.mem_range.mp hk)) hsz1
  · rcases List.mem_cons.mp h with e | hb
    · exact Nat.lt_irrefl _ (e ▸ hcl)
    · cases hb
  · refine ⟨fun A' E' i va vb t m₂ hA' hD hU hPt hn hma hmb hkp => ?_, fun A' E' i va vb t m₂ hA' hD hU hPt hpz hn hma hmb hkp => ?_⟩
    · exact wpAny_pure ⟨rfl, _, _, rfl, fun _ _ e => e⟩
    · obtain ⟨hi, ev⟩ := hPt
      obtain ⟨t, et, hmem⟩ := at' i (hsz ▸ hi)
      simp only [vals, et, Option.map_some, Option.getD_some] at ev
      obtain ⟨e1, e2⟩ : va = .str t.2.1 t.2.2.1 ∧ vb = .str t.2.2.2.1 t.2.2.2.2 := by simpa using congrArg Array.toList ev
      subst e1 e2
      refine wpAny_mono (hE A' E' code _ _ m₂ t hA' hD hU hmem ⟨hn, fun b o e => ?_, ?_⟩ hma hmb) (fun y s₃ r => ⟨⟨t, et, r.1⟩, r.2⟩) fun _ _ e => e
      · have e3 := k₃ b o e
        refine hkp b (List.mem_range.mpr (Heap.lt_size e3)) (fun h => ?_) o (hhref b o e3)
        rcases List.mem_cons.mp h with q | hb
        · exact Nat.lt_irrefl _ (Nat.lt_of_lt_of_le (q ▸ Heap.lt_size e) (Nat.le_trans F.above (Nat.le_of_lt F.ns.lt)))
        · cases hb
      · exact Nat.le_trans F.above (Nat.le_of_lt (Nat.lt_trans F.ns.lt hsz1))
  · refine hQ a _ rfl (hb.push hgb) (fun b o n e => hk₅ b o (up b o n e)) (T₃.at fun o e => hk₅ _ o e) (by show _ ≤ h₅.objs.size; rw [hsz₅]; exact Nat.le_of_lt (Nat.lt_succ_of_lt (Nat.lt_trans hsz1 hag))) ?_
    have n1 : (passing (fun _ => true) (ts.map fun t => Value.ref t.1).toArray.size 0).length = ts.length := by rw [passing_all, List.length_range, hsz]
    rw [n1] at WS
    refine Gen.imp (n := ts.length) (F := fun j y => ∃ i, (passing (fun _ => true) (ts.map fun t => Value.ref t.1).toArray.size 0)[j]? = some i ∧ ∃ e, ts[i]? = some e ∧ FF e y) ⟨_, _, _, _, WS, hat, (fun i s' st => st.1.typeIs), List.mem_cons_self, ?_, ?_⟩ fun j y hy => ?_
    · intro b hb
      show b < h₅.objs.size
      rw [hsz₅]
      rcases List.mem_cons.mp hb with rfl | hb
      · exact Nat.lt_succ_self _
      · rcases List.mem_cons.mp hb with rfl | hb
        · exact Nat.lt_succ_of_lt hag
        · exact Nat.lt_succ_of_lt (Nat.lt_trans (List.mem_range.mp hb) hag)
    · intro b hb
      rcases List.mem_cons.mp hb with rfl | hb
      · show s.heap.objs.size - 1 < h₃.objs.size
        exact Nat.lt_of_le_of_lt (Nat.sub_le _ _) hsz1
      · rcases List.mem_cons.mp hb with rfl | hb
        · exact Nat.sub_lt hpos Nat.one_pos
        · cases hb
    · obtain ⟨i, hi, e, he, hf⟩ := hy
      rw [passing_all] at hi
      have : i = j := by
        rw [List.getElem?_eq_some_iff] at hi
        obtain ⟨_, q⟩ := hi
        rw [List.getElem_range] at q
        exact q.symm
      subst this
      exact ⟨e, he, hf⟩
end
end Mine
end

section
open PySem PySem.W PySem.Calls PySem.Spec PyProof.Rows
set_option Elab.async false
set_option maxRecDepth 100000
set_option maxHeartbeats 8000000
set_option linter.unusedVariables false
namespace Mine
theorem fill22 : PySem.Challenge.rw_sn0012_01 = PySem.Challenge.rw_sn0012_01 ∧ hd.heap_39 = hd.heap_39 := by
  k_fill
  exact ⟨rfl, rfl⟩
section
variable {w : World} {A : Around} {E : Value → Shared → Prop} {s : Shared}
theorem args_list_ga (a b : Value) : argsOk "list.__getattribute__" ⟨[a, b], []⟩ := by unfold argsOk; kernel_rfl
theorem size_find {t1 t2 : Tok} : findObj (hd.heap_39 w.params) 149 (some (accDict w t1 t2)) "_initial_size" = some (.value (.int 0 t2)) := by
  have h1 : clsIn (hd.heap_39 w.params) 149 = some accCls := by k_is
  have h2 : findIn (hd.heap_39 w.params) (.ref 149) "_initial_size" = some none := by k_is
  unfold findObj
  rw [h1, h2]
  rfl
theorem acc_getattr {p dx : Addr} {items : Array Value} {ep : Nat} {t1 t2 : Tok} {expr : Bool} {Q : Value → Shared → Prop} (X : (hd.heap_39 w.params).In s.heap)
    (hp : s.heap.get? p = some (accObj dx items ep)) (hd0 : s.heap.get? dx = some (accDict w t1 t2)) (h : Q (.int 0 t2) { s with toks := s.toks + 1 }) : wpAny (model PP w) A (getAttr (.ref p) "_initial_size" expr) Q E s := by
  obtain ⟨hh, g, d, t, os⟩ := s
  have I := acc_inst hp hd0
  have hga : findIn (hd.heap_39 w.params) (.ref 149) "__getattribute__" = some (some (.builtin "list.__getattribute__")) := by k_is
  have hk : findIn (hd.heap_39 w.params) (.ref 149) "__getattr__" = some none := by k_is
  have L1 := looks_findIn (M := model PP w) X hga
  have L2 := looks_findIn (M := model PP w) X hk
  have L3 := looks_find (M := model PP w) X I size_find
  unfold getAttr getAttrBy
  refine wpAny_bind (wpAny_mkText (wpAny_holding (wpAny_bind (I.type.at (wpAny_bind (L1.at ?_))))))
  show wpAny _ _ (if (onTheHeap (.ref 149) && (Value.builtin "list.__getattribute__" == Value.builtin "object.__getattribute__")) = true then _ else _) _ _ _
  rw [if_neg (by decide)]
  unfold getAttrByItsOwn
  show wpAny _ _ (typeLookup (.ref 149) "__getattr__" >>= _) _ _ _
  refine wpAny_bind (L2.at ?_)
  refine wpAny_bind (wpAny_attempt (wpAny_holding ?_))
  show wpAny _ _ (if (expr && onTheHeap (.builtin "list.__getattribute__")) = true then _ else _) _ _ _
  rw [show (expr && onTheHeap (.builtin "list.__getattribute__")) = false from by cases expr <;> rfl, if_neg (by decide)]
  unfold boundAndCalled
  refine wpAny_bind (wpAny_of_eq (F.slot_list_getattribute.bind (.ref p)) ?_)
  refine acc_call (n := "__getattribute__") X hp (by decide +kernel) PySem.F.entry_list_ga (by decide +kernel) (.inl (by decide +kernel)) (args_list_ga _ _) ?_
  show wpAny _ _ (typeOf (.ref p) >>= _) _ _ _
  refine wpAny_bind (I.type.at (wpAny_bind (L3.at ?_)))
  refine wpAny_pure ⟨_, rfl, ?_⟩
  show wpAny _ _ (handedOut (.int 0 t2)) _ _ _
  exact wpAny_pure h
end
end Mine
end

section
open PySem PySem.W PySem.Calls PySem.Spec PyProof.Rows
set_option Elab.async false
set_option maxRecDepth 100000
set_option maxHeartbeats 8000000
set_option linter.unusedVariables false
namespace Mine
theorem fill21 : PySem.Challenge.rw_sn0012_01 = PySem.Challenge.rw_sn0012_01 ∧ hd.heap_39 = hd.heap_39 := by
  k_fill
  exact ⟨rfl, rfl⟩
section
variable {w : World} {A : Around} {E : Value → Shared → Prop} {s : Shared}
theorem args_sum2 (a b : Value) : argsOk "sum" ⟨[a, b], []⟩ := by unfold argsOk; kernel_rfl
theorem call_sum2 {x : Value} {tk0 : Tok} {Q : Value → Shared → Prop}
    (h : wpAny (model PP w) A.in1 (pyIter x) (fun it s₂ => ∃ I fp wr G n P St val, it = .ref I ∧ WalksS PP w A.in1 I fp wr G n P St ∧ St 0 s₂ ∧ (∀ b ∈ fp, b < s₂.heap.objs.size) ∧
      (∀ i v, P i v → ∃ t, v = .int (val i) t) ∧ (∀ j, j < n → InLong (val j) ∧ InLong (preSum val (j + 1))) ∧
      ∀ s' t', Moved wr G s₂ s' → Q (.int (preSum val n) t') s') E s) :
    wpAny (model PP w) A (call (.builtin "sum") [x, .int 0 tk0]) Q E s := by
  refine call_function_tree F.kind_sum F.plain_sum F.entry_sum (args_sum2 _ _) ?_
  unfold Builtin.«sum»
  simp only [List.length_cons, List.length_nil]
  rw [if_neg (by decide)]
  refine wpAny_bind (wpAny_of_eq (show Builtin.Builtins.bindParams "sum" ["start"] 0 ⟨[.int 0 tk0], []⟩ = pure [some (.int 0 tk0)] from rfl) ?_)
  refine wpAny_bind (wpAny_mono h (fun it s₂ h₂ => ?_) fun _ _ e => e)
  obtain ⟨I, fp, wr, G, n, P, St, val, rfl, W, hst, hfp, hval, hfit, hQ⟩ := h₂
  dsimp only
  rw [if_pos (by rfl)]
  refine wpAny_bind (wpAny_rule ?_)
  refine wpAny_bind (wpAny_mkInt ?_)
  refine wpAny_bind (wpAny_pure ?_)
  simp only [List.forIn_cons, List.forIn_nil]
  refine wpAny_bind (wpAny_bind (wpAny_bind (wpAny_isInstance (T := "int") (b := false) (typeIs_int _ _ _) PySem.sub_int_str ?_)))
  simp only [Bool.false_eq_true, if_false]
  refine wpAny_pure (wpAny_bind (wpAny_bind (wpAny_isInstance (T := "int") (b := false) (typeIs_int _ _ _) PySem.sub_int_bytes ?_)))
  simp only [Bool.false_eq_true, if_false]
  refine wpAny_pure (wpAny_bind (wpAny_bind (wpAny_isInstance (T := "int") (b := false) (typeIs_int _ _ _) PySem.sub_int_bytearray ?_)))
  simp only [Bool.false_eq_true, if_false]
  refine wpAny_pure (wpAny_pure ?_)
  refine wpAny_bind (wpAny_newObj_type ?_)
  have hSf : s₂.heap.objs.size ∉ fp := fun hm => Nat.lt_irrefl _ (hfp _ hm)
  refine wpAny_pure ⟨plainId_quiet F.plain_sum_loop _, codeAny_sum_loopS W val hval hfit s₂.heap.objs.size hSf n 0 _ s₂.toks 0 rfl (Nat.zero_le _)
    (W.frame 0 s₂ _ _ hst (by first | exact Nat.le_refl _ | exact Nat.le_succ _ | omega) fun b _ o e => Heap.get?_push_of_some _ e) (Heap.get?_push_size _ rfl) fun s' t' hm => ?_⟩
  exact hQ s' t' (hm.drop_new (by first | exact Nat.le_refl _ | exact Nat.le_succ _ | omega))

theorem sum2_rows {g : Heap} {K L a : Addr} {m : Str → Option Value} {n : Nat} {F : Nat → Value → Prop} {tk0 : Tok} {Q : Value → Shared → Prop} (Fh : Fr g L s.heap m) (G : AllBare s.gens) (X : Gen PP w A K a n F s) (hLK : L ≤ K) (val : Nat → Int) (hval : ∀ j v, F j v → ∃ t, v = .int (val j) t) (hfit : ∀ j, j < n → InLong (val j) ∧ InLong (preSum val (j + 1)))
    (hQ : ∀ s' t', Fr g L s'.heap m → AllBare s'.gens → s'.os = s.os → (∀ b o, b ≤ K → s.heap.get? b = some o → s'.heap.get? b = some o) → Q (.int (preSum val n) t') s') : wpAny (model PP w) A (call (.builtin "sum") [.ref a, .int 0 tk0]) Q E s := by
  obtain ⟨fp, wr, g, St, W, hst, _, _, hfp, hwr⟩ := X
  have W := W.in4_1
  exact call_sum2 (W.self 0 _ _ _ hst ⟨a, _, _, _, _, _, _, val, rfl, W, hst, hfp, hval, hfit, fun s' t' hm => hQ s' t' (Fh.moved hm fun b hb => Nat.lt_of_le_of_lt hLK (hwr b hb)) (G.movedS hm) hm.os fun b o hb e => hm.heap b o (fun hmem => Nat.lt_irrefl _ (Nat.lt_of_lt_of_le (hwr b hmem) hb)) e⟩)
end

theorem nameG_B {M : Model} {A : Around} {E : Value → Shared → Prop} {s : Shared} {K : Frag} {h₀ : Heap} {C : Addr} {m mg mb : Str → Option Value} {scope : Scope} {cl : List (Str × Addr)} {code : Value} {env : Env} {p : Program} {loose : List Str} {x : Str} {pos : Pos} {v : Value} {Q : Value → Shared → Prop}
    (F : Fr h₀ C s.heap m) (X : K.In h₀) (T : TopRead p loose mg mb h₀) (e : nsIn K mainGlobals x = some none) (hv : bootBuiltins x = some v) (hn : x ≠ "__name__") (h : Q v s) (hg : env.globals = mainGlobals)
    (hk : scope.kind = .function) (hx : (genEnv scope cl C code builtinsNs env).kindOf x = some .globalImplicit) (hd : (x == ("__debug__" : Str)) = false) :
    wpAny M A (eval (.Name x pos) (genEnv scope cl C code builtinsNs env)) Q E s :=
  Name_function_global hk hx (loadGlobal_builtin (env := genEnv scope cl C code builtinsNs env) (show s.heap.Ns env.globals mg from hg ▸ T.g.keeps F.keep) (mg_none_of X T.g e) (T.b.keeps F.keep) ((T.builtins x hn).trans hv) h) hd
theorem nameG_L {M : Model} {A : Around} {E : Value → Shared → Prop} {s : Shared} {h₀ : Heap} {C : Addr} {m : Str → Option Value} {scope : Scope} {cl : List (Str × Addr)} {code : Value} {env : Env} {x : Str} {pos : Pos} {v : Value} {Q : Value → Shared → Prop}
    (F : Fr h₀ C s.heap m) (hv : m x = some v) (h : Q v s)
    (hk : scope.kind = .function) (hx : (genEnv scope cl C code builtinsNs env).kindOf x = some .local) (hd : (x == ("__debug__" : Str)) = false) :
    wpAny M A (eval (.Name x pos) (genEnv scope cl C code builtinsNs env)) Q E s := wpAny_Name (wpAny_loadName_local hk hx F.ns hv h) hd
local macro_rules | `(tactic| walk_at "eval Name") => `(tactic| ((with_reducible show wpAny _ _ (eval (Expr.Name _ _) (genEnv _ _ _ _ _ _)) _ _ _); name_kind "globalImplicit"; refine haltN 1 ?_))
local macro_rules | `(tactic| walk_at "eval Name") => `(tactic| ((with_reducible show wpAny _ _ (eval (Expr.Name _ _) (genEnv _ _ _ _ _ _)) _ _ _); name_kind "local"; refine haltN 2 ?_))
local macro_rules | `(tactic| walk_at "eval GeneratorExp BinOp cons") => `(tactic| refine halt ?_)
local macro_rules | `(tactic| walk_at "call builtin:len") => `(tactic| (with_reducible refine hLenSN 3 ?_))
local macro_rules | `(tactic| walk_at "getAttr ref") => `(tactic| (k_here; (with_reducible show wpAny _ _ (getAttr (Value.ref _) (PySem.Str.ofString "_initial_size") _) _ _ _); refine halt ?_))
local macro_rules | `(tactic| walk_at "call builtin:sum") => `(tactic| refine halt ?_)
def peLen (e : PE) : Int := (e.2.1.length : Int) + (e.2.2.2.1.length : Int)
def lenAt (ts : List PE) (j : Nat) : Int := match ts[j]? with | some e => peLen e | none => 0
theorem preSum_eq (ts : List PE) : ∀ n, n ≤ ts.length → preSum (lenAt ts) n = ((ts.take n).map peLen).sum
  | 0, _ => by simp [preSum]
  | n + 1, h => by
    have e : ts[n]? = some ts[n] := List.getElem?_eq_getElem (by exact Mine.q_78 h)
    rw [List.take_succ, e]
    simp only [preSum, preSum_eq ts n (by exact Mine.q_52 h), lenAt, e, Option.toList_some, List.map_append, List.sum_append, List.map_cons, List.map_nil, List.sum_cons, List.sum_nil]
    exact Mine.q_79
theorem preSum_in (ts : List PE) (h : ∀ e ∈ ts, e.2.1.length < 1000 ∧ e.2.2.2.1.length < 1000) : ∀ n, 0 ≤ preSum (lenAt ts) n ∧ preSum (lenAt ts) n ≤ 2000 * n
  | 0 => ⟨Int.le_refl _, Int.le_refl _⟩
  | n + 1 => by
    have ih := preSum_in ts h n
    have b : 0 ≤ lenAt ts n ∧ lenAt ts n ≤ 2000 := by
      unfold lenAt
      cases q : ts[n]? with
      | none => exact ⟨by decide, by decide⟩
      | some e => have z := h e (List.mem_of_getElem? q); show 0 ≤ peLen e ∧ peLen e ≤ 2000; unfold peLen; exact Mine.q_80 z
    simp only [preSum]
    exact Mine.q_81 ih b
theorem len_c {w : World} {A : Around} {s : Shared} {h₀ : Heap} {R' : Result → Shared → Prop} {mean : ExcName → Option Value} {mg mb : Str → Option Value}
   {p dx : Addr} {ep : Nat} {t1 t2 : Tok} {ts : List PE}
   (G : Gd w mean mg mb h₀) (k : Sub h₀ s.heap) (hn1 : h₀.get? 111 = none) (T : TabOk s.heap 111) (hb : AllBare s.gens)
   (hps : s.heap.get? p = some (accObj dx (ts.map fun t => Value.ref t.1).toArray ep)) (hdx : s.heap.get? dx = some (accDict w t1 t2)) (hts : ∀ t ∈ ts, s.heap.IsTuple t.1 (peVals t))
   (hz : ts.length < 1000) (hzs : ∀ e ∈ ts, e.2.1.length < 1000 ∧ e.2.2.2.1.length < 1000)
   (hdp : A.depth + 200 < recursionLimit) (hun : A.units + 2000 < cLine) (hh : A.handled = none) 
   (hres : ∀ (s' : Shared) t', s'.os = s.os → AllBare s'.gens → (∀ b o, b ≠ 111 → s.heap.get? b = some o → s'.heap.get? b = some o) → TabOk s'.heap 111 → s.heap.objs.size ≤ s'.heap.objs.size → R' (.ok (.ret (.int (ts.map peLen).sum t'))) s') :
   codeAny (model PP w) A (.call (.ref 116) ⟨[.ref p], []⟩) R' s := by
  obtain ⟨hd0, dp, fr, gd, un⟩ := A
  dsimp only at hdp hun hh
  subst hh
  refine' enterP [111] [("self", .ref p)] G k (fun a ha => by rw [List.mem_singleton] at ha; subst ha; exact hn1) ?k6 ?k7 ?k8 ?k9 ?kB ?c5 ?c2 ?c3 ?c4 ?_; (case k6 => k_is); (case k7 => k_is); (case k8 => (show dp < _; exact Mine.o_d0 hdp)); (case k9 => exact BindsTo.of_eq rfl); (case kB => exact locs rfl); (case c5 => decide); (case c2 => exact rfl); (case c3 => exact rfl); (case c4 => exact rfl)
  intro h₁ g F k1 eg G1 X Tp N0
  k_steps
  unfold Halt
  rename Fr _ _ _ _ => F2
  rename News _ _ _ _ => N2
  have T2 : TabOk h₁ 111 := T.at fun o e => k1 _ o e
  have C2 : CodeHd g 115 111 := codeHd_of_K X (by kernel_rfl)
  have e111 : g.get? 111 = none := by rw [eg]; exact hideAll_none _ (.head _)
  refine' acc_genexp (FF := fun e y => ∃ t, y = .int ((e.2.1.length : Int) + (e.2.2.2.1.length : Int)) t) (p := p) (ts := ts) G1 C2 e111 F2 T2 hb ?x1 ?x2 ?x3 ?x4 ?x5 ?x6 ?x7 ?x8 ?x9 ?y1 ?y2 ?y3 ?y4 ?y5 ?y6 ?elt ?rest ?fold
  case x1 => rfl
  case x2 => exact k1 _ _ hps
  case x3 => exact fun t ht => (hts t ht).at fun o e => k1 _ o e
  case x4 => rfl
  case x5 => (show dp + 1 < _; exact Mine.o_d1 hdp)
  case x6 => rfl
  case x7 => rfl
  case x8 => rfl
  case x9 => rfl
  case y1 => decide
  case y2 => rfl
  case y3 => rfl
  case y4 => rfl
  case y5 => decide
  case y6 => rfl
  case fold => intro x; rfl
  case elt =>
    intro A' E' code Cl t m₂ e hA' hD' hU' hmem Fe ha hb
    obtain ⟨hd1, dp1, fr1, gd1, un1⟩ := A'
    dsimp only at hA'
    subst hA'
    clear F2 N2
    refine wpAny_mono (Q := fun y s₃ => Halt ((∃ t, y = .int ((e.2.1.length : Int) + (e.2.2.2.1.length : Int)) t) ∧ Keeps t s₃)) ?_ (fun _ _ h => by exact h) (fun _ _ h => h)
    have hz1 := hzs e hmem
    k_steps
    repeat (any_goals (first
      | ((with_reducible refine goN 1 ?_); k_dflt (refine' nameG_B ?q9F ?q9X ?q9T ?q9e ?q9hv ?q9hn ?_ ?q9hg ?q9hk ?q9hx ?q9hd; (case q9hx => rfl); (case q9F => k_asm); (case q9X => k_asm); (case q9T => k_asm); (case q9e => k_is); (case q9hv => boot_fast); (case q9hn => decide); (case q9hg => rfl); (case q9hk => rfl); (case q9hd => decide)); k_steps)
      | ((with_reducible refine goN 2 ?_); k_dflt (refine' nameG_L ?q9F ?q9hv ?_ ?q9hk ?q9hx ?q9hd; (case q9hx => rfl); (case q9F => k_asm); (case q9hv => first | (with_reducible assumption) | assumption); (case q9hk => rfl); (case q9hd => decide)); k_steps)
      | ((with_reducible refine goN 3 ?_); k_dflt (refine' PyProof.Rows.len_str ?q9hS ?_; (case q9hS => (first | exact Mine.q_82 hz1 | exact Mine.q_83 hz1))); k_steps)))
    unfold Halt
    exact ⟨⟨_, rfl⟩, _, _, rfl, fun _ _ e => e⟩
  case rest =>
    intro a s5 hos hgs hk5 T5 hz5 GN
    have hPL : (111 : Addr) ≠ s.heap.objs.size := fun q => by obtain ⟨ps, h1, _⟩ := T; exact Nat.lt_irrefl _ (q ▸ Heap.lt_size h1)
    have F5 : Fr g s.heap.objs.size s5.heap (fun y => List.lookup y [(Str.ofString "self", Value.ref p)].reverse) := fr_chg F2 hk5 e111 hPL
    have N5 : News g s.heap.objs.size s5.heap [] := News.nil
    have hsz1 : s.heap.objs.size < h₁.objs.size := F2.ns.lt
    have hpp : ∀ b o, s.heap.get? b = some o → b ≤ h₁.objs.size - 1 := fun b o e => Nat.le_sub_one_of_lt (Nat.lt_trans (Heap.lt_size e) hsz1)
    clear F2 N2
    k_steps
    unfold Halt
    have tabNe : ∀ b o, s.heap.get? b = some o → o.cls ≠ .none → b ≠ 111 := fun b o e n q => by
      obtain ⟨ps, h1, _⟩ := T
      rw [q, h1] at e; cases e; exact n rfl
    have up : ∀ b o, b ≠ 111 → s.heap.get? b = some o → s5.heap.get? b = some o := fun b o n e => hk5 b o n (k1 b o e)
    refine acc_getattr (G1.keeps F5.keep).X (up _ _ (tabNe _ _ hps (fun h => nomatch h)) hps) (up _ _ (tabNe _ _ hdx (fun h => nomatch h)) hdx) ?_
    k_steps
    unfold Halt
    refine sum2_rows (s := { s5 with toks := s5.toks + 1 }) F5 hgs (K := h₁.objs.size - 1) (L := s.heap.objs.size) (n := ts.length) (F := fun j y => ∃ e, ts[j]? = some e ∧ ∃ t, y = .int (peLen e) t) ?gen ?hLK (lenAt ts) ?hval ?hfit ?hQ
    case hLK => exact Nat.le_sub_one_of_lt hsz1
    case hval =>
      rintro j v ⟨e, he, t, rfl⟩
      exact ⟨t, by unfold lenAt; rw [he]⟩
    case hfit =>
      intro j hj
      have a1 := preSum_in ts hzs j
      have a2 := preSum_in ts hzs (j + 1)
      have a3 : preSum (lenAt ts) (j + 1) = preSum (lenAt ts) j + lenAt ts j := rfl
      unfold InLong
      exact Mine.q_84 a2 a1 a3 hj hz
    case gen =>
      obtain ⟨fp, wr, gg, St, W, hst, hT, ha, hfp, hwr⟩ := GN
      exact ⟨fp, wr, gg, St, W, W.frame 0 s5 _ _ hst (Nat.le_succ _) (fun _ _ _ e => e), hT, ha, hfp, hwr⟩
    case hQ =>
      intro s' t' F6 hg6 ho6 hk6
      rw [preSum_eq ts _ (Nat.le_refl _), List.take_length]
      have lt : ∀ b o, s5.heap.get? b = some o → b ≤ h₁.objs.size - 1 → s'.heap.get? b = some o := fun b o e l => hk6 b o l e
      refine hres s' t' (ho6.trans hos) hg6 (fun b o n e => lt b o (up b o n e) (hpp _ _ e)) (T5.at fun o e => lt _ _ e ?_) (Nat.le_of_lt F6.ns.lt)
      obtain ⟨ps, h1, _⟩ := T
      exact hpp _ _ h1
end Mine
end

section
open PySem PySem.W PySem.Calls PySem.Spec PyProof.Rows
set_option Elab.async false
set_option maxRecDepth 100000
set_option maxHeartbeats 8000000
set_option linter.unusedVariables false
namespace Mine
theorem fill23 : PySem.Challenge.rw_sn0012_01 = PySem.Challenge.rw_sn0012_01 ∧ hd.heap_39 = hd.heap_39 := by
  k_fill
  exact ⟨rfl, rfl⟩
theorem nameG_K {M : Model} {A : Around} {E : Value → Shared → Prop} {s : Shared} {K : Frag} {h₀ : Heap} {C : Addr} {m mg mb : Str → Option Value} {scope : Scope} {cl : List (Str × Addr)} {code : Value} {env : Env} {p : Program} {loose : List Str} {x : Str} {pos : Pos} {v : Value} {Q : Value → Shared → Prop}
    (F : Fr h₀ C s.heap m) (X : K.In h₀) (T : TopRead p loose mg mb h₀) (e : nsIn K mainGlobals x = some (some v)) (h : Q v s) (hg : env.globals = mainGlobals)
    (hk : scope.kind = .function) (hx : (genEnv scope cl C code builtinsNs env).kindOf x = some .globalImplicit) (hd : (x == ("__debug__" : Str)) = false) :
    wpAny M A (eval (.Name x pos) (genEnv scope cl C code builtinsNs env)) Q E s :=
  Name_function_global hk hx (loadGlobal_global (env := genEnv scope cl C code builtinsNs env) (show s.heap.Ns env.globals mg from hg ▸ T.g.keeps F.keep) (mg_of X T.g e) h) hd
local macro_rules | `(tactic| walk_at "no such place") => `(tactic| skip)
local macro_rules | `(tactic| walk_at "eval Name") => `(tactic| ((with_reducible show wpAny _ _ (eval (Expr.Name _ _) (genEnv _ _ _ _ _ _)) _ _ _); name_kind "globalImplicit"; refine haltN 1 ?_))
local macro_rules | `(tactic| walk_at "eval Name") => `(tactic| ((with_reducible show wpAny _ _ (eval (Expr.Name _ _) (genEnv _ _ _ _ _ _)) _ _ _); name_kind "local"; refine haltN 2 ?_))
local macro_rules | `(tactic| walk_at "eval GeneratorExp Call cons") => `(tactic| refine halt ?_)
local macro_rules | `(tactic| walk_at "call builtin:str.join") => `(tactic| refine halt ?_)
theorem Tuple_halt {M : Model} {A : Around} {E : Value → Shared → Prop} {s : Shared} {env : Env} {elts : List Expr} {k : Nat} {pos : Pos} {Q : Value → Shared → Prop}
    (h : wpAny M A (spliced (backTo pos (starEach elts env))) (fun vs s₁ => Halt (vs.length ≤ sizeLine ∧ Q (.ref s₁.heap.objs.size) { s₁ with heap := s₁.heap.push { cls := .type "tuple", data := .seq vs.toArray } })) E s) :
    wpAny M A (eval (.Tuple elts k pos) env) Q E s := wpAny_Tuple h
local macro_rules | `(tactic| walk_at "eval Tuple") => `(tactic| refine Tuple_halt ?_)
local macro_rules | `(tactic| walk_at "eval Tuple Name cons") => `(tactic| refine Tuple_halt ?_)
def peText (e : PE) : Str := e.2.1 ++ e.2.2.2.1
def textAt (ts : List PE) (j : Nat) : Str := match ts[j]? with | some e => peText e | none => ""
theorem textAt_map (ts : List PE) : (List.range ts.length).map (textAt ts) = ts.map peText := by
  refine List.ext_getElem (by simp) fun i h1 h2 => ?_
  simp only [List.getElem_map, List.getElem_range, textAt]
  rw [List.getElem?_eq_getElem (by simpa using h2)]
theorem str_assoc_nil (a b : Str) : a ++ ("" : Str) ++ b = a ++ b := by
  have h : ∀ x y : Str, x ++ y = ⟨x.cps ++ y.cps⟩ := fun _ _ => rfl
  rw [h, h, h]
  show (⟨a.cps ++ #[] ++ b.cps⟩ : Str) = _
  rw [Array.append_empty]
theorem join_two (a b : Str) : Txt.join "" [a, b] = a ++ b := by
  refine Eq.trans (eq_of_beq (PyProof.Rows.join_closes rfl)) ?_
  exact str_assoc_nil a b
theorem join_all (l : List Str) : Txt.join "" l = Str.join "" l := eq_of_beq (PyProof.Rows.join_closes rfl)
theorem peText_len (e : PE) : (peText e).length = e.2.1.length + e.2.2.2.1.length := by
  unfold peText
  show (e.2.1.cps ++ e.2.2.2.1.cps).size = _
  rw [Array.size_append]; rfl
theorem sum_small (ts : List PE) (h : ∀ e ∈ ts, e.2.1.length < 1000 ∧ e.2.2.2.1.length < 1000) : ((ts.map peText).map (·.length)).sum ≤ 2000 * ts.length := by
  induction ts with
  | nil => exact Nat.le_refl _
  | cons e r ih =>
    have a := h e (.head _)
    have b := ih fun x hx => h x (.tail _ hx)
    simp only [List.map_cons, List.sum_cons, List.length_cons, peText_len]
    exact Mine.q_293 a b
theorem str_c {w : World} {A : Around} {s : Shared} {h₀ : Heap} {R' : Result → Shared → Prop} {mean : ExcName → Option Value} {mg mb : Str → Option Value}
   {p dx : Addr} {ep : Nat} {t1 t2 : Tok} {ts : List PE}
   (G : Gd w mean mg mb h₀) (k : Sub h₀ s.heap) (hn1 : h₀.get? 118 = none) (T : TabOk s.heap 118) (hb : AllBare s.gens)
   (hps : s.heap.get? p = some (accObj dx (ts.map fun t => Value.ref t.1).toArray ep)) (hdx : s.heap.get? dx = some (accDict w t1 t2)) (hts : ∀ t ∈ ts, s.heap.IsTuple t.1 (peVals t))
   (hz : ts.length < 1000) (hzs : ∀ e ∈ ts, e.2.1.length < 1000 ∧ e.2.2.2.1.length < 1000)
   (hdp : A.depth + 200 < recursionLimit) (hun : A.units + 2000 < cLine) (hh : A.handled = none) 
   (hres : ∀ (s' : Shared) t', s'.os = s.os → AllBare s'.gens → (∀ b o, b ≠ 118 → s.heap.get? b = some o → s'.heap.get? b = some o) → TabOk s'.heap 118 → s.heap.objs.size ≤ s'.heap.objs.size → R' (.ok (.ret (.str (Txt.join "" (ts.map peText)) t'))) s') :
   codeAny (model PP w) A (.call (.ref 123) ⟨[.ref p], []⟩) R' s := by
  obtain ⟨hd0, dp, fr, gd, un⟩ := A
  dsimp only at hdp hun hh
  subst hh
  refine' enterP [118] [("self", .ref p)] G k (fun a ha => by rw [List.mem_singleton] at ha; subst ha; exact hn1) ?k6 ?k7 ?k8 ?k9 ?kB ?c5 ?c2 ?c3 ?c4 ?_; (case k6 => k_is); (case k7 => k_is); (case k8 => (show dp < _; exact Mine.o_d0 hdp)); (case k9 => exact BindsTo.of_eq rfl); (case kB => exact locs rfl); (case c5 => decide); (case c2 => exact rfl); (case c3 => exact rfl); (case c4 => exact rfl)
  intro h₁ g F k1 eg G1 X Tp N0
  k_steps
  unfold Halt
  rename Fr _ _ _ _ => F2
  rename News _ _ _ _ => N2
  have T2 : TabOk h₁ 118 := T.at fun o e => k1 _ o e
  have C2 : CodeHd g 122 118 := codeHd_of_K X (by kernel_rfl)
  have e118 : g.get? 118 = none := by rw [eg]; exact hideAll_none _ (.head _)
  refine' acc_genexp (FF := fun e y => ∃ t, y = .str (peText e) t) (p := p) (ts := ts) G1 C2 e118 F2 T2 hb ?x1 ?x2 ?x3 ?x4 ?x5 ?x6 ?x7 ?x8 ?x9 ?y1 ?y2 ?y3 ?y4 ?y5 ?y6 ?elt ?rest ?fold
  case x1 => rfl
  case x2 => exact k1 _ _ hps
  case x3 => exact fun t ht => (hts t ht).at fun o e => k1 _ o e
  case x4 => rfl
  case x5 => (show dp + 1 < _; exact Mine.o_d1 hdp)
  case x6 => rfl
  case x7 => rfl
  case x8 => rfl
  case x9 => rfl
  case y1 => decide
  case y2 => rfl
  case y3 => rfl
  case y4 => rfl
  case y5 => decide
  case y6 => rfl
  case fold => intro x; rfl
  case elt =>
    intro A' E' code Cl t m₂ e hA' hD' hU' hmem Fe ha hb
    obtain ⟨hd1, dp1, fr1, gd1, un1⟩ := A'
    dsimp only at hA'
    subst hA'
    clear F2 N2
    refine wpAny_mono (Q := fun y s₃ => Halt ((∃ t, y = .str (peText e) t) ∧ Keeps t s₃)) ?_ (fun _ _ h => by exact h) (fun _ _ h => h)
    have hz1 := hzs e hmem
    have Ne : News g Cl t.heap [] := News.nil
    k_steps
    repeat (any_goals (first
      | ((with_reducible refine goN 1 ?_); k_dflt (refine' nameG_K ?q9F ?q9X ?q9T ?q9e ?_ ?q9hg ?q9hk ?q9hx ?q9hd; (case q9hx => rfl); (case q9F => k_asm); (case q9X => k_asm); (case q9T => k_asm); (case q9e => k_is); (case q9hg => rfl); (case q9hk => rfl); (case q9hd => decide)); k_steps)
      | ((with_reducible refine goN 2 ?_); k_dflt (refine' nameG_L ?q9F ?q9hv ?_ ?q9hk ?q9hx ?q9hd; (case q9hx => rfl); (case q9F => k_asm); (case q9hv => first | (with_reducible assumption) | assumption); (case q9hk => rfl); (case q9hd => decide)); k_steps)))
    unfold Halt
    refine ⟨by rw [sizeLine_eq]; show 2 ≤ _; decide, ?_⟩
    k_steps
    unfold Halt
    refine PyProof.Rows.join_tuple (ys := [e.2.1, e.2.2.2.1]) ⟨_, Heap.get?_push_size _ rfl, rfl, _, rfl⟩ (.cons _ _ (.cons _ _ .nil)) ?_ fun t' k => ⟨⟨t', ?_⟩, _, _, rfl, fun b o e => Heap.get?_push_of_some _ e⟩
    · simp only [List.map_cons, List.map_nil, List.sum_cons, List.sum_nil, List.length_cons, List.length_nil]
      show _ + 2 * 0 ≤ _
      exact Mine.q_294 hz1
    · unfold peText; rw [← join_two]
  case rest =>
    intro a s5 hos hgs hk5 T5 hz5 GN
    have hPL : (118 : Addr) ≠ s.heap.objs.size := fun q => by obtain ⟨ps, h1, _⟩ := T; exact Nat.lt_irrefl _ (q ▸ Heap.lt_size h1)
    have F5 : Fr g s.heap.objs.size s5.heap (fun y => List.lookup y [(Str.ofString "self", Value.ref p)].reverse) := fr_chg F2 hk5 e118 hPL
    have N5 : News g s.heap.objs.size s5.heap [] := News.nil
    have hsz1 : s.heap.objs.size < h₁.objs.size := F2.ns.lt
    have hpp : ∀ b o, s.heap.get? b = some o → b ≤ h₁.objs.size - 1 := fun b o e => Nat.le_sub_one_of_lt (Nat.lt_trans (Heap.lt_size e) hsz1)
    clear F2 N2
    k_steps
    unfold Halt
    have tabNe : ∀ b o, s.heap.get? b = some o → o.cls ≠ .none → b ≠ 118 := fun b o e n q => by
      obtain ⟨ps, h1, _⟩ := T
      rw [q, h1] at e; cases e; exact n rfl
    have up : ∀ b o, b ≠ 118 → s.heap.get? b = some o → s5.heap.get? b = some o := fun b o n e => hk5 b o n (k1 b o e)
    refine join_rowsK (s := s5) F5 hgs (K := h₁.objs.size - 1) (L := s.heap.objs.size) (n := ts.length) (F := fun j y => ∃ e, ts[j]? = some e ∧ ∃ t, y = .str (peText e) t) GN ?hLK (textAt ts) ?hval ?hfit ?hQ ?hn
    case hLK => exact Nat.le_sub_one_of_lt hsz1
    case hval =>
      rintro j v ⟨e, he, t, rfl⟩
      exact ⟨t, by unfold textAt; rw [he]⟩
    case hfit =>
      rw [textAt_map]
      refine PyProof.Rows.joinOk_of ?_
      have z := sum_small ts hzs
      have z2 : (ts.map peText).length * (Str.ofString "").length = 0 := Nat.mul_zero _
      rw [z2]
      exact Mine.q_295 z hz
    case hn => rw [sizeLine_eq]; exact Mine.o_lel hz (by decide)
    case hQ =>
      intro s' t' F6 hg6 ho6 hk6
      rw [textAt_map]
      have lt : ∀ b o, s5.heap.get? b = some o → b ≤ h₁.objs.size - 1 → s'.heap.get? b = some o := fun b o e l => hk6 b o l e
      refine hres s' t' (ho6.trans hos) hg6 (fun b o n e => lt b o (up b o n e) (hpp _ _ e)) (T5.at fun o e => lt _ _ e ?_) (Nat.le_of_lt F6.ns.lt)
      obtain ⟨ps, h1, _⟩ := T
      exact hpp _ _ h1
end Mine
end

section
open PySem PySem.W PySem.Calls PySem.Spec PyProof.Rows
open PyProof.Rows.LCg (NsObj ns_obj lst lst_snoc Off3 Off1 fr_but news_but)
set_option Elab.async false
set_option maxRecDepth 100000
set_option maxHeartbeats 8000000
set_option linter.unusedVariables false
namespace Mine
section
variable {w : World} {A : Around} {E : Value → Shared → Prop} {s : Shared} {h₀ : Heap} {L : Addr} {m : Str → Option Value} {env : Env}
/-- what a turn of a comprehension leaves, the table of generators being free -/
def TurnEnd (h₀ : Heap) (L : Addr) (m : Str → Option Value) (os : OsState) (I : Addr) (oI : Obj) (C : Addr) (oC : Obj) (D : Addr) (oD : Obj) (J : Value → List (Addr × Obj) → Prop) (y : Value) (s₃ : Shared) : Prop :=
  ∃ news, s₃.os = os ∧ AllBare s₃.gens ∧ Fr h₀ L s₃.heap m ∧ News h₀ L s₃.heap ((I, oI) :: (C, oC) :: (D, oD) :: news) ∧ Off3 I C D news ∧ J y news
/-- a list comprehension over a list, whose turns may make generators -/
theorem comp_G {elt iter : Expr} {x : Str} {px : Pos} {scope : Scope} {cl : List (Str × Addr)} {pos : Pos} {Q : Value → Shared → Prop}
    (hclos : closureFor scope env = pure cl) (hcell : ∀ y ∈ scope.names, y.2 ≠ .cell) (hkind : scope.kind = .function)
    (hnames : ∀ y ∈ scope.names, y.2 = .local → scope.names.lookup y.1 = some .local) (hx : scope.names.lookup x = some .local)
    (h : wpAny (model PP w) A (eval iter env) (fun xv s₁ => Halt (∃ (ax : Addr) (its : Array Value) (J : Nat → List Value → List (Addr × Obj) → Prop) (news : List (Addr × Obj)), xv = .ref ax ∧ A.handled = none ∧ its.size ≤ sizeLine ∧ Fr h₀ L s₁.heap m ∧ News h₀ L s₁.heap news ∧ AllBare s₁.gens ∧ J 0 [] news ∧
      (∀ i ys news, J i ys news → ∃ o, (ax, o) ∈ news ∧ o.cls = .type "list" ∧ ∃ k, o.data = .seq its k) ∧
      (∀ i ys news v I oI C oC D m₂ (s₂ : Shared) E', J i ys news → its[i]? = some v → NsObj oC m₂ → m₂ x = some v → Fr h₀ L s₂.heap m → News h₀ L s₂.heap ((I, oI) :: (C, oC) :: (D, lst ys) :: news) → Off3 I C D news → ((@Ne Nat I C) ∧ (@Ne Nat I D) ∧ (@Ne Nat C D)) → AllBare s₂.gens → s₂.os = s₁.os →
        wpAny (model PP w) A (eval elt (compEnvC scope cl C env)) (TurnEnd h₀ L m s₁.os I oI C oC D (lst ys) (fun y news' => J (i + 1) (ys ++ [y]) news')) E' s₂) ∧
      (∀ D (s₂ : Shared) ys news', J its.size ys news' → ys.length = its.size → Fr h₀ L s₂.heap m → News h₀ L s₂.heap ((D, lst ys) :: news') → Off1 D news' → AllBare s₂.gens → s₂.os = s₁.os → Q (.ref D) s₂))) E s)
    (hs : ∀ x, foldedSetIterable iter env x = pure x := by intro _; rfl) :
    wpAny (model PP w) A (eval (.ListComp elt [⟨.Name x px, iter, [], 0⟩] scope pos) env) Q E s := by
  rw [eval_ListComp]
  refine wpAny_comprehension_free (use := none) rfl hs hclos hkind hnames (wpAny_mono h (fun xv s₁ h₁ => ?_) fun _ _ e => e)
  refine el_4_10 (h₁) fun ax its J news e9_4 hh hsz F N hb J0 Jl turn fin => ?_; subst e9_4
  obtain ⟨oa, hoa, hca, na, hda⟩ := Jl _ _ _ J0
  have hl : s₁.heap.IsList ax its := ⟨oa, (N _ hoa).1, hca, na, hda⟩
  have hlt : ax < s₁.heap.objs.size := Heap.lt_size (N _ hoa).1
  refine wpAny_pyIter_list hl ?_
  have up : ∀ b o, s₁.heap.get? b = some o → (s₁.heap.push { cls := .type "list_iterator", data := .fields #[.ref ax, .int 0 0] }).get? b = some o := fun b o e => Heap.get?_push_of_some _ e
  generalize hI : s₁.heap.objs.size = I
  have hIn : (s₁.heap.push { cls := .type "list_iterator", data := .fields #[.ref ax, .int 0 0] }).get? I = some { cls := .type "list_iterator", data := .fields #[.ref ax, .int 0 0] } := hI ▸ Heap.get?_push_size _ rfl
  have hz2 : (s₁.heap.push { cls := .type "list_iterator", data := .fields #[.ref ax, .int 0 0] }).objs.size = I + 1 := by rw [Heap.size_push, hI]
  generalize hH1 : s₁.heap.push { cls := .type "list_iterator", data := .fields #[.ref ax, .int 0 0] } = H1 at up hIn hz2 ⊢
  have F1 := F.keeps up
  have N1 := N.grown up
  refine wpAny_newObj_type (wpAny_newFunctionEnv hcell (by intro y hy; simp at hy) (fun h₁ hns₁ hsb₁ => ?_) hkind)
  dsimp only at hns₁ hsb₁ ⊢
  generalize hH2 : H1.push { cls := .type "list", dict := none, data := .seq ([] : List Value).toArray } = H2 at hns₁ hsb₁ ⊢
  have hC : H2.objs.size = I + 2 := by rw [← hH2, Heap.size_push, hz2]
  simp only [hC] at hns₁ hsb₁
  simp only [hC, hz2]
  have old : ∀ b o, H1.get? b = some o → h₁.get? b = some o := fun b o e => hsb₁.extBut b o (by have := Heap.lt_size e; rw [hz2] at this; exact Nat.ne_of_lt (Nat.lt_succ_of_lt this)) (Heap.get?_push_of_some _ (hH2 ▸ Heap.get?_push_of_some _ e))
  have hacc : h₁.get? (I + 1) = some (lst []) := hsb₁.extBut _ _ (Nat.ne_of_lt (Nat.lt_succ_self _)) (Heap.get?_push_of_some _ (by rw [← hH2, ← hz2]; exact Heap.get?_push_size _ rfl))
  have fresh₀ : ∀ a, I ≤ a → h₀.get? a = none := fun a ha => by
    cases e : h₀.get? a with
    | none => rfl
    | some o' =>
      have z := Heap.lt_size (F.keep a o' e)
      exact absurd z (Nat.not_lt.mpr (hI ▸ ha))
  have hL : L < I := hI ▸ F.ns.lt
  have hLI : L ≠ I := Nat.ne_of_lt hL
  have hLD : L ≠ I + 1 := Nat.ne_of_lt (Nat.lt_succ_of_lt hL)
  have hLC : L ≠ I + 2 := Nat.ne_of_lt (Nat.lt_succ_of_lt (Nat.lt_succ_of_lt hL))
  have hI0 := fresh₀ I (Nat.le_refl _)
  have hD0 := fresh₀ (I + 1) (Nat.le_succ _)
  have hC0 := fresh₀ (I + 2) (Nat.le_succ_of_le (Nat.le_succ _))
  have nIC : I ≠ I + 2 := by intro q; exact absurd q (Nat.ne_of_lt (Nat.lt_succ_of_lt (Nat.lt_succ_self _)))
  have nID : I ≠ I + 1 := Nat.ne_of_lt (Nat.lt_succ_self _)
  have nCD : I + 2 ≠ I + 1 := Nat.ne_of_gt (Nat.lt_succ_self _)
  have off0 : Off3 I (I + 2) (I + 1) news := Off3.of fun p hp => by
    have z := Heap.lt_size (N p hp).1
    rw [hI] at z
    exact ⟨Nat.ne_of_lt z, Nat.ne_of_lt (Nat.lt_succ_of_lt (Nat.lt_succ_of_lt z)), Nat.ne_of_lt (Nat.lt_succ_of_lt z)⟩
  have loop : ∀ s₃ : Shared, s₃.heap = h₁ → s₃.os = s₁.os → AllBare s₃.gens → codeAny (model PP w) A (.compLoop (.ListComp elt [⟨.Name x px, iter, [], 0⟩] scope pos) 0 (.ref I) (.ref (I + 1)) (compEnvC scope cl (I + 2) env))
        (compPost (model PP w) A E none Q (.ref (I + 1)) (I + 2)) s₃ := by
    intro s₃ e3 o3 b3
    refine codeAny_compLoop_tests
      (fun k (s' : Shared) => ∃ i ys m' news', s'.os = s₁.os ∧ AllBare s'.gens ∧ i ≤ its.size ∧ k = its.size + 1 - i ∧ ys.length = i ∧ s'.heap.IsListIter I ax i ∧ Fr h₀ L s'.heap m ∧ s'.heap.Ns (I + 2) m' ∧ News h₀ L s'.heap ((I + 1, lst ys) :: news') ∧ Off3 I (I + 2) (I + 1) news' ∧ J i ys news') ?_ (its.size + 1)
      ⟨0, [], _, news, o3, b3, Nat.zero_le _, rfl, rfl, ⟨_, e3 ▸ old _ _ hIn, rfl, rfl⟩, e3 ▸ F1.keeps old, e3 ▸ hns₁, fun p hp => ?_, off0, J0⟩
    · rintro k s' ⟨i, ys, m', news', ho', hb', hi, rfl, hyl, hit', F', hn', N', off', J'⟩
      obtain ⟨oa', hoa', hca', na', hda'⟩ := Jl _ _ _ J'
      have hl' : s'.heap.IsList ax its := ⟨oa', (N' _ (.tail _ hoa')).1, hca', na', hda'⟩
      by_cases hlt : i < its.size
      · refine wpAny_pyNext_list_item hit' hl' (Array.getElem?_eq_getElem hlt) fun h₂ hit₂ hsb₂ => ?_
        have hk₂ : ∀ b o, b ∉ [I] → s'.heap.get? b = some o → h₂.get? b = some o := fun b o n e => hsb₂.extBut b o (fun q => n (q ▸ .head _)) e
        refine wpAny_assign_Name (wpAny_storeName_local (lookup_relabel_local hx) (hn'.at' fun o e => hk₂ _ o (by simpa using Ne.symm nIC) e) (fun h₃ hn₃ hs₃ => ?_) (by simp [compEnvC, relabel, hkind]))
        refine wpAny_tests_nil ?_
        simp only [if_true]
        refine el_1_3 (hit₂) fun oI heI2 hcI hdI => ?_
        have heI : h₃.get? I = some oI := hs₃.extBut _ _ nIC heI2
        refine el_1_2 (ns_obj hn₃) fun oC heC hoC => ?_
        have F₃ : Fr h₀ L h₃ m := (fr_but F' hk₂ hLI hI0).change hs₃ (Ne.symm hLC) hC0
        have off3 := off'.mem
        have N₂ : News h₀ L h₂ ((I + 1, lst ys) :: news') := news_but N' hk₂ fun p hp => by
          rcases List.mem_cons.mp hp with rfl | hp
          · exact Ne.symm nID
          · exact (off3 p hp).1
        have N₃ : News h₀ L h₃ ((I, oI) :: (I + 2, oC) :: (I + 1, lst ys) :: news') := fun p hp => by
          rcases List.mem_cons.mp hp with rfl | hp
          · exact ⟨heI, Ne.symm hLI, hI0⟩
          · rcases List.mem_cons.mp hp with rfl | hp
            · exact ⟨heC, Ne.symm hLC, hC0⟩
            · have z := N₂ p hp
              refine ⟨hs₃.extBut _ _ ?_ z.1, z.2⟩
              rcases List.mem_cons.mp hp with rfl | hp
              · exact Ne.symm nCD
              · exact (off3 p hp).2.1
        refine wpAny_mono (turn i ys news' _ I oI (I + 2) oC (I + 1) _ _ _ J' (Array.getElem?_eq_getElem hlt) hoC (by simp) F₃ N₃ off' ⟨nIC, nID, nCD⟩ hb' ho') (fun y s₄ h₄ => ?_) fun _ _ e => e
        refine el_1_6 (h₄) fun news₄ o₄ b₄ F₄ N₄ off₄ J₄ => ?_
        have zI := (N₄ (I, oI) List.mem_cons_self).1
        have zC := (N₄ (I + 2, oC) (List.mem_cons_of_mem _ List.mem_cons_self)).1
        have zD := (N₄ (I + 1, lst ys) (List.mem_cons_of_mem _ (List.mem_cons_of_mem _ List.mem_cons_self))).1
        have N₄' : News h₀ L s₄.heap news₄ := fun p hp => N₄ p (List.mem_cons_of_mem _ (List.mem_cons_of_mem _ (List.mem_cons_of_mem _ hp)))
        refine append_at (hsz := by show ys.toArray.size ≤ sizeLine; rw [List.size_toArray, hyl]; exact Nat.le_trans hi hsz) zD fun h₅ hs₅ hD₅ => ?_
        have off4 := off₄.mem
        refine ⟨its.size + 1 - (i + 1), by exact Mine.q_25 hlt, i + 1, ys ++ [y], _, news₄, o₄, b₄, hlt, rfl, by rw [List.length_append, List.length_singleton, hyl], ⟨oI, hs₅.extBut _ _ nID zI, hcI, hdI⟩, F₄.change hs₅ (Ne.symm hLD) hD0,
          (hoC.ns zC).sameBut hs₅ nCD, fun p hp => ?_, off₄, J₄⟩
        rcases List.mem_cons.mp hp with rfl | hp
        · exact ⟨hD₅.trans (congrArg some (lst_snoc ys y)), Ne.symm hLD, hD0⟩
        · exact ⟨hs₅.extBut _ _ (off4 p hp).2.2 (N₄' p hp).1, (N₄' p hp).2⟩
      · obtain rfl : i = its.size := Nat.le_antisymm hi (Nat.not_lt.mp hlt)
        refine wpAny_pyNext_list_end hh hit' hl' (Array.getElem?_eq_none (Nat.le_refl _)) fun h₂ hx₂ => ?_
        have hk₂ : ∀ b o, b ∉ [I] → s'.heap.get? b = some o → h₂.get? b = some o := fun b o n e => hx₂ b o (fun q => n (q ▸ .head _)) e
        have off3 := off'.mem
        have F₂ := fr_but F' hk₂ hLI hI0
        have N₂ : News h₀ L h₂ ((I + 1, lst ys) :: news') := news_but N' hk₂ fun p hp => by
          rcases List.mem_cons.mp hp with rfl | hp
          · exact Ne.symm nID
          · exact (off3 p hp).1
        refine ⟨_, hn'.at' fun o e => hk₂ _ o (by simpa using Ne.symm nIC) e, fun h'' hs'' => fin (I + 1) _ ys news' J' hyl (F₂.change hs'' (Ne.symm hLC) hC0) (fun p hp => ?_) off'.one hb' ho'⟩
        refine ⟨hs''.extBut _ _ ?_ (N₂ p hp).1, (N₂ p hp).2⟩
        rcases List.mem_cons.mp hp with rfl | hp
        · exact Ne.symm nCD
        · exact (off3 p hp).2.1
    · rw [e3]
      rcases List.mem_cons.mp hp with rfl | hp
      · exact ⟨hacc, Ne.symm hLD, hD0⟩
      · exact ⟨old _ _ (N1 p hp).1, (N1 p hp).2⟩
  exact codeAny_compStart_list (loop _ rfl rfl hb) (wpAny_pyIter_listiter ⟨_, old _ _ hIn, rfl, rfl⟩ (loop _ rfl rfl hb))
end
end Mine
end

section
open PySem PySem.W PySem.Calls PySem.Spec PyProof.Rows
set_option Elab.async false
set_option maxRecDepth 100000
set_option maxHeartbeats 8000000
set_option linter.unusedVariables false
namespace Mine
section
variable {w : World} {g h : Heap} {L : Addr} {m : Str → Option Value} {p dx : Nat → Addr} {tt : Nat → Tok} {its : Nat → Array Value} {ep : Nat → Nat} {pc : Nat → List (Str × Str)}
/-- what an entry of the piles' ledger is -/
def PileEnt (w : World) (p dx : Nat → Addr) (tt : Nat → Tok) (its : Nat → Array Value) (ep : Nat → Nat) (q : Addr × Obj) : Prop :=
  (∃ j, j < 9 ∧ q = (p j, accObj (dx j) (its j) (ep j))) ∨ (∃ j, j < 9 ∧ q = (dx j, accDict w (tt j) 408)) ∨ (q.2.cls = .type "tuple" ∧ ∀ v, q.2.data ≠ .cell v)
theorem mkLed2_n (F : Fr g L h m) (H : HeapOk w p dx tt its ep pc h) (fr : ∀ j, j < 9 → p j ≠ L ∧ dx j ≠ L ∧ g.get? (p j) = none ∧ g.get? (dx j) = none) : ∀ n, n ≤ 9 → ∃ T, News g L h T ∧ (∀ j, j < n → (p j, accObj (dx j) (its j) (ep j)) ∈ T ∧ (dx j, accDict w (tt j) 408) ∈ T ∧ PcT g T (its j).toList (pc j)) ∧
     ∀ q ∈ T, PileEnt w p dx tt its ep q
  | 0, _ => ⟨[], (fun _ q => nomatch q), (fun _ q => absurd q (Nat.not_lt_zero _)), (fun _ q => nomatch q)⟩
  | n + 1, hn => by
    obtain ⟨T, N, y, hc⟩ := mkLed2_n F H fr n (by exact Mine.q_62 hn)
    obtain ⟨Tp, N2, y2, hc2⟩ := pcT_ex F _ _ (H.pcs n (by exact Mine.q_63 hn))
    obtain ⟨f1, f2, f3, f4⟩ := fr n (by exact Mine.q_63 hn)
    refine ⟨(p n, accObj (dx n) (its n) (ep n)) :: (dx n, accDict w (tt n) 408) :: (Tp ++ T), ?_, ?_, ?_⟩
    · intro r hr
      rcases List.mem_cons.mp hr with rfl | hr
      · exact ⟨H.pile n (by exact Mine.q_63 hn), f1, f3⟩
      rcases List.mem_cons.mp hr with rfl | hr
      · exact ⟨H.dict n (by exact Mine.q_63 hn), f2, f4⟩
      rcases List.mem_append.mp hr with hr | hr
      · exact N2 _ hr
      · exact N _ hr
    · intro j hj
      by_cases q : j = n
      · subst q
        exact ⟨.head _, .tail _ (.head _), y2.mono fun r hr => .tail _ (.tail _ (List.mem_append_left _ hr))⟩
      · obtain ⟨a, b, c⟩ := y j (by exact Mine.q_64 hj q)
        exact ⟨.tail _ (.tail _ (List.mem_append_right _ a)), .tail _ (.tail _ (List.mem_append_right _ b)), c.mono fun r hr => .tail _ (.tail _ (List.mem_append_right _ hr))⟩
    · intro r hr
      rcases List.mem_cons.mp hr with rfl | hr
      · exact .inl ⟨n, by exact Mine.q_63 hn, rfl⟩
      rcases List.mem_cons.mp hr with rfl | hr
      · exact .inr (.inl ⟨n, by exact Mine.q_63 hn, rfl⟩)
      rcases List.mem_append.mp hr with hr | hr
      · exact .inr (.inr (hc2 _ hr))
      · exact hc _ hr
structure PLed (w : World) (g : Heap) (p dx : Nat → Addr) (tt : Nat → Tok) (its : Nat → Array Value) (ep : Nat → Nat) (pc : Nat → List (Str × Str)) (T : List (Addr × Obj)) : Prop where
  memP : ∀ j, j < 9 → (p j, accObj (dx j) (its j) (ep j)) ∈ T
  memD : ∀ j, j < 9 → (dx j, accDict w (tt j) 408) ∈ T
  pcs : ∀ j, j < 9 → PcT g T (its j).toList (pc j)
theorem mkLed2 (F : Fr g L h m) (H : HeapOk w p dx tt its ep pc h) (fr : ∀ j, j < 9 → p j ≠ L ∧ dx j ≠ L ∧ g.get? (p j) = none ∧ g.get? (dx j) = none) : ∃ T, News g L h T ∧ PLed w g p dx tt its ep pc T ∧ ∀ q ∈ T, PileEnt w p dx tt its ep q := by
  obtain ⟨T, N, y, hc⟩ := mkLed2_n F H fr 9 (Nat.le_refl _)
  exact ⟨T, N, ⟨fun j hj => (y j hj).1, fun j hj => (y j hj).2.1, fun j hj => (y j hj).2.2⟩, hc⟩
theorem PileEnt.data {q : Addr × Obj} (x : PileEnt w p dx tt its ep q) : (∀ v, q.2.data ≠ .cell v) ∧ q.2.cls ≠ .type "list" ∧ q.2.cls ≠ .none ∧ q.2.cls ≠ .type "range" := by
  rcases x with ⟨j, _, rfl⟩ | ⟨j, _, rfl⟩ | ⟨e, n⟩
  · refine ⟨fun v e => (by cases e), ?_, ?_, ?_⟩ <;> (show Value.ref 149 ≠ _; exact fun h => nomatch h)
  · refine ⟨fun v e => (by cases e), ?_, ?_, ?_⟩ <;> (show Value.type "dict" ≠ _; first | decide | exact fun h => nomatch h)
  · refine ⟨n, ?_, ?_, ?_⟩ <;> (rw [e]; first | decide | exact fun h => nomatch h)
end

/-! ## the sort of six keys -/
def runT (lt : Nat → Nat → Bool) {α : Type} : KasT α → Option α
  | .ret a => some a
  | .ask i j k => if i < 6 ∧ j < 6 then runT lt (k (lt i j)) else none
theorem runT_wp {lt : Nat → Nat → Bool} {α : Type} {cmp : Nat → Nat → (Bool → Shared → Prop) → Shared → Prop} (hc : ∀ i j C s, i < 6 → j < 6 → C (lt i j) s → cmp i j C s) {Q : α → Shared → Prop} {a : α} : ∀ (t : KasT α) (s : Shared), runT lt t = some a → Q a s → t.kasWp cmp Q s
  | .ret b, s, e, q => by
    have e : some b = some a := e
    cases e
    exact q
  | .ask i j k, s, e, q => by
    unfold runT at e
    split at e
    · rename_i hij
      exact hc i j _ s hij.1 hij.2 (runT_wp hc (k (lt i j)) s e q)
    · cases e
def ltOf (ord : List Nat) (i j : Nat) : Bool := decide (ord.idxOf i < ord.idxOf j)
def sortChk : Bool := (List.range 6).all fun a => (List.range 6).all fun b => (b == a) || (List.range 6).all fun c => (c == a || c == b) || (List.range 6).all fun d => (d == a || (d == b || d == c)) || (List.range 6).all fun e => (e == a || (e == b || (e == c || e == d))) ||
  (List.range 6).all fun f => (f == a || (f == b || (f == c || (f == d || f == e)))) || (runT (ltOf [a, b, c, d, e, f]) (kas_sort 6) == some #[a, b, c, d, e, f])
theorem sortChk_ok : sortChk = true := by decide +kernel
theorem all6 {f : Nat → Bool} (h : (List.range 6).all f = true) {k : Nat} (hk : k < 6) : f k = true := List.all_eq_true.mp h k (List.mem_range.mpr hk)
theorem or_n {x y : Bool} (h : (x || y) = true) (n : x = false) : y = true := by subst n; exact h
theorem beq_n {a b : Nat} (h : a ≠ b) : (a == b) = false := by simpa using h
theorem or_f {x y : Bool} (h1 : x = false) (h2 : y = false) : (x || y) = false := by subst h1 h2; rfl
theorem sort_all {a b c d e f : Nat} (m1 : a < 6) (m2 : b < 6) (m3 : c < 6) (m4 : d < 6) (m5 : e < 6) (m6 : f < 6) (n1 : a ≠ b) (n2 : a ≠ c) (n3 : a ≠ d) (n4 : a ≠ e) (n5 : a ≠ f) (n6 : b ≠ c) (n7 : b ≠ d) (n8 : b ≠ e) (n9 : b ≠ f) (n10 : c ≠ d) (n11 : c ≠ e) (n12 : c ≠ f) (n13 : d ≠ e) (n14 : d ≠ f) (n15 : e ≠ f) :
    runT (ltOf [a, b, c, d, e, f]) (kas_sort 6) = some #[a, b, c, d, e, f] := by
  have h1 := all6 (all6 sortChk_ok m1) m2
  have h2 := all6 (or_n h1 (beq_n (Ne.symm n1))) m3
  have h3 := all6 (or_n h2 (or_f (beq_n (Ne.symm n2)) (beq_n (Ne.symm n6)))) m4
  have h4 := all6 (or_n h3 (or_f (beq_n (Ne.symm n3)) (or_f (beq_n (Ne.symm n7)) (beq_n (Ne.symm n10))))) m5
  have h5 := all6 (or_n h4 (or_f (beq_n (Ne.symm n4)) (or_f (beq_n (Ne.symm n8)) (or_f (beq_n (Ne.symm n11)) (beq_n (Ne.symm n13)))))) m6
  exact eq_of_beq (or_n h5 (or_f (beq_n (Ne.symm n5)) (or_f (beq_n (Ne.symm n9)) (or_f (beq_n (Ne.symm n12)) (or_f (beq_n (Ne.symm n14)) (beq_n (Ne.symm n15)))))))
theorem runT_congr {lt lt' : Nat → Nat → Bool} {α : Type} (h : ∀ i j, i < 6 → j < 6 → lt i j = lt' i j) : ∀ t : KasT α, runT lt t = runT lt' t
  | .ret b => rfl
  | .ask i j k => by
    unfold runT
    split
    · rename_i hij
      rw [h i j hij.1 hij.2, runT_congr h]
    · rfl
theorem ord_lt {ord : List Nat} {P : Nat → Nat} (O : Ord ord P) {i j : Nat} (hi : i < 6) (hj : j < 6) : decide (P i < P j) = ltOf ord i j := by
  obtain ⟨a, ha, ea⟩ := O.ix hi
  obtain ⟨b, hb, eb⟩ := O.ix hj
  have hl := O.len
  have e1 : ord[a]'(by exact Mine.q_33 ha hl) = i := by rw [List.getElem?_eq_getElem (by exact Mine.q_33 ha hl)] at ea; exact Option.some.inj ea
  have e2 : ord[b]'(by exact Mine.q_33 hb hl) = j := by rw [List.getElem?_eq_getElem (by exact Mine.q_33 hb hl)] at eb; exact Option.some.inj eb
  have pw := List.pairwise_iff_getElem.mp O.lt
  have i1 : ord.idxOf i = a := by rw [← e1]; exact O.nodup.idxOf_getElem a (by exact Mine.q_33 ha hl)
  have i2 : ord.idxOf j = b := by rw [← e2]; exact O.nodup.idxOf_getElem b (by exact Mine.q_33 hb hl)
  unfold ltOf
  rw [i1, i2]
  rcases Nat.lt_trichotomy a b with q | q | q
  · have z := pw a b (by exact Mine.q_33 ha hl) (by exact Mine.q_33 hb hl) q
    rw [e1, e2] at z
    rw [decide_eq_true z, decide_eq_true q]
  · subst q
    have z : i = j := e1.symm.trans e2
    rw [z, decide_eq_false (Nat.lt_irrefl _), decide_eq_false (Nat.lt_irrefl _)]
  · have z := pw b a (by exact Mine.q_33 hb hl) (by exact Mine.q_33 ha hl) q
    rw [e1, e2] at z
    rw [decide_eq_false (by exact Mine.q_65 z), decide_eq_false (by exact Mine.q_65 q)]
theorem ord_sort {ord : List Nat} {P : Nat → Nat} (O : Ord ord P) : runT (fun i j => decide (P i < P j)) (kas_sort 6) = some ord.toArray := by
  rw [runT_congr (lt' := ltOf ord) fun i j hi hj => ord_lt O hi hj]
  have hl := O.len
  have hn := O.nodup
  have hm : ∀ x ∈ ord, x < 6 := fun x hx => List.mem_range.mp (O.perm.mem_iff.mp hx)
  clear O
  match ord, hl with
  | [a, b, c, d, e, f], _ =>
    simp only [List.nodup_cons, List.mem_cons, List.not_mem_nil, not_or, or_false, not_false_eq_true, List.nodup_nil, and_true] at hn
    simp only [List.mem_cons, List.not_mem_nil, or_false, forall_eq_or_imp, forall_eq] at hm
    obtain ⟨⟨n1, n2, n3, n4, n5⟩, ⟨n6, n7, n8, n9⟩, ⟨n10, n11, n12⟩, ⟨n13, n14⟩, n15⟩ := hn
    obtain ⟨m1, m2, m3, m4, m5, m6⟩ := hm
    exact sort_all m1 m2 m3 m4 m5 m6 n1 n2 n3 n4 n5 n6 n7 n8 n9 n10 n11 n12 n13 n14 n15
end Mine
end

section
open PySem PySem.W PySem.Calls PySem.Spec PyProof.Rows
set_option Elab.async false
set_option maxRecDepth 100000
set_option maxHeartbeats 8000000
set_option linter.unusedVariables false
namespace Mine
section
variable {w : World} {A : Around} {E : Value → Shared → Prop} {s : Shared} {h₀ : Heap} {L : Addr} {m : Str → Option Value} {news : List (Addr × Obj)}
theorem collect_range {r : Addr} {t u v : Tok} {R : List Value → Shared → Prop} (hh : A.handled = none) (hr : IsRange s.heap r 0 6 1 t u v)
    (h : ∀ (h' : Heap) (tk : Nat) (acc : Array Value), Sub s.heap h' → ItemsOf (fun i v => ∃ t, v = .int (0 + (i : Int) * 1) t) acc 6 → R acc.toList { s with heap := h', toks := tk }) :
    wpAny (model PP w) A (collect (.ref r)) R E s := by
  have hlt : r < s.heap.objs.size := Heap.lt_size hr
  unfold collect
  refine wpAny_bind (wpAny_runValue (codeAny_builtin entry_proto_collect' ?_))
  rw [Around.under_plainId PySem.F.plain_proto_collect _]
  show wpAny _ A.in1 (newList [] >>= fun l => again (.builtin "list.__iadd__" ⟨[l, .ref r], []⟩)) _ _ s
  refine wpAny_bind (wpAny_newObj_type ?_)
  refine wpAny_pure ⟨plainId_quiet PySem.F.plain_list_iadd _, codeAny_builtin entry_list_iadd' ?_⟩
  rw [Around.under_plainId PySem.F.plain_list_iadd _]
  have hS₁ : (s.heap.push { cls := .type "list", data := .seq ([] : List Value).toArray }).get? s.heap.objs.size = some { cls := .type "list", data := .seq #[] } := Heap.get?_push_size _ rfl
  show wpAny _ A.in1 (Builtin.List.listExtendWith (.ref s.heap.objs.size) (.ref r) (.ref s.heap.objs.size)) _ _ _
  have key := wpAny_extend_range (prog := PP) (w := w) (A := A) (s := { s with heap := s.heap.push { cls := .type "list", data := .seq ([] : List Value).toArray } })
    (R := fun (q : Result) (s' : Shared) => ∃ (h' : Heap) (tk : Nat) (acc' : Array Value) (c' : Nat), q = .ok (.ret (.ref s.heap.objs.size)) ∧ s' = { s with heap := h', toks := tk } ∧
      (∀ b o, s.heap.get? b = some o → h'.get? b = some o) ∧ h'.get? s.heap.objs.size = some { cls := .type "list", dict := none, data := .seq acc' c', slots := #[] } ∧ ItemsOf (fun i v => ∃ t, v = .int (0 + (i : Int) * 1) t) acc' 6)
    (r := r) (a := 0) (b := 6) (c := 1) (t := t) (u := u) (v := v) (n := 6) hh (Heap.get?_push_of_some _ hr) (by decide) (by decide) (by decide) s.heap.objs.size (.ref s.heap.objs.size) 0 hS₁
    (fun h' tk acc' c' hk hS' hacc => ⟨h', tk, acc', c', rfl, rfl, fun b o e => hk b o (Nat.ne_of_lt (Heap.lt_size e)) (Heap.get?_push_of_some _ e), hS', hacc⟩)
  refine wpAny_mono key (fun fin s' x => ?_) fun e s' x => ?_
  · cases fin with
    | done f =>
      obtain ⟨h', tk, acc', c', e, rfl, hk, hS', hacc⟩ := x
      cases e
      show wpAny _ A (load s.heap.objs.size >>= _) _ _ _
      refine wpAny_bind (wpAny_load hS' ?_)
      exact wpAny_pure (h h' tk acc' hk hacc)
    | again c₁ =>
      refine ⟨x.1, codeAny_mono x.2 fun q s₂ y => ?_⟩
      obtain ⟨h', tk, acc', c', rfl, rfl, hk, hS', hacc⟩ := y
      show wpAny _ A (load s.heap.objs.size >>= _) _ _ _
      refine wpAny_bind (wpAny_load hS' ?_)
      exact wpAny_pure (h h' tk acc' hk hacc)
  · obtain ⟨_, _, _, _, e', _⟩ := x
    cases e'
/-- the list's values are the numbers given -/
def NumsAre (vs : List Value) (ns : List Nat) : Prop := vs.length = ns.length ∧ ∀ (i k : Nat), ns[i]? = some k → ∃ t, vs[i]? = some (.int (k : Int) t)
theorem NumsAre.ints {vs : List Value} {ns : List Nat} (x : NumsAre vs ns) : IntsAre vs (ns.map (fun (k : Nat) => (k : Int))) := by
  induction vs generalizing ns with
  | nil => cases ns with
    | nil => exact .nil
    | cons k r => cases x.1
  | cons v vs ih =>
    cases ns with
    | nil => cases x.1
    | cons k r =>
      obtain ⟨t, e⟩ := x.2 0 k rfl
      cases e
      exact .cons _ _ (ih ⟨by have := x.1; simpa using this, fun i k e => x.2 (i + 1) k e⟩)
theorem keys_run {kS D f : Addr} {e1 : Nat} {P : Nat → Nat} {Fin : List Value → Nat → Shared → Prop}
    (hlam : ∀ (j : Nat) (tj : Tok) (s' : Shared), j < 6 → Fr h₀ L s'.heap m → News h₀ L s'.heap news → wpAny (model PP w) A (call (.ref f) [.int (j : Int) tj]) (fun v s'' => ∃ tk' h' tk, v = .int (P j : Nat) tk' ∧ s'' = { s' with heap := h', toks := tk } ∧ Sub s'.heap h') (fun _ _ => False) s')
    (hk1 : kS ≠ D) (hk2 : ∀ q ∈ news, q.1 ≠ kS)
    (hF : ∀ ks e h' tk, NumsAre ks ((List.range 6).map P) → Fr h₀ L h' m → News h₀ L h' ((kS, seqObj "list" ks.toArray e) :: (D, seqObj "list" #[] e1) :: news) → Fin ks e { s with heap := h', toks := tk }) :
    ∀ (n i : Nat) (r ks : List Value) (e : Nat) (h' : Heap) (tk : Nat), n + i = 6 → r.length = n → (∀ (j : Nat) (v : Value), r[j]? = some v → ∃ t, v = .int ((i + j : Nat) : Int) t) → NumsAre ks ((List.range i).map P) → Fr h₀ L h' m → News h₀ L h' ((kS, seqObj "list" ks.toArray e) :: (D, seqObj "list" #[] e1) :: news) →
      KatKeys PP w A h₀ L m kS (.ref f) Fin r ks e { s with heap := h', toks := tk }
  | 0, i, [], ks, e, h', tk, hi, hr, hv, hks, F, N => by
    have : i = 6 := by exact Mine.q_71 hi
    subst this
    exact KatKeys.nil (hF ks e h' tk hks F N)
  | n + 1, i, v :: r, ks, e, h', tk, hi, hr, hv, hks, F, N => by
    obtain ⟨t, rfl⟩ := hv 0 v rfl
    refine KatKeys.cons (wpAny_mono (hlam i t { s with heap := h', toks := tk } (by exact Mine.q_72 hi) F (news_weak N fun q hq => .tail _ (.tail _ hq))) (fun y s'' hy => ?_) fun _ _ x => x)
    obtain ⟨tk', h2, tk2, rfl, rfl, hs⟩ := hy
    refine KatBack.intro (fr_sub F hs) (news_sub N hs) (UpdF.head fun q hq => ?_) fun h3 c F3 N3 => ?_
    · rcases List.mem_cons.mp hq with rfl | hq
      · exact Ne.symm hk1
      · exact hk2 q hq
    · refine keys_run hlam hk1 hk2 hF n (i + 1) r _ c h3 tk2 (by exact Mine.q_73 hi) (by simpa using hr) (fun j v e => ?_) ⟨?_, fun a k ea => ?_⟩ F3 N3
      · obtain ⟨t, q⟩ := hv (j + 1) v e
        exact ⟨t, by rw [q, show i + (j + 1) = i + 1 + j by exact Mine.q_74]⟩
      · rw [List.length_append, List.length_singleton, hks.1]; simp
      · have hkl := hks.1
        rw [List.length_map, List.length_range] at hkl
        by_cases q : a < i
        · have ea2 : ((List.range i).map P)[a]? = some k := by
            rw [List.getElem?_map, List.getElem?_range q]
            rw [List.getElem?_map, List.getElem?_range (by exact Mine.q_67 q)] at ea
            exact ea
          obtain ⟨t, z⟩ := hks.2 a k ea2
          exact ⟨t, by rw [List.getElem?_append_left (by exact Mine.q_54 q hkl)]; exact z⟩
        · have ha : a < i + 1 := by
            have := (List.getElem?_eq_some_iff.mp ea).1
            simpa using this
          have : a = i := by exact Mine.q_55 ha q
          subst this
          rw [List.getElem?_map, List.getElem?_range (by omega)] at ea
          cases ea
          exact ⟨tk', by rw [List.getElem?_append_right (by exact Mine.q_56 hkl), hkl, Nat.sub_self]; rfl⟩
  | 0, i, _ :: _, ks, e, h', tk, hi, hr, hv, hks, F, N => by cases hr
  | n + 1, i, [], ks, e, h', tk, hi, hr, hv, hks, F, N => by cases hr
theorem sorted_rangeK {r f : Addr} {t u v : Tok} {Q : Value → Shared → Prop} {P : Nat → Nat} {ord : List Nat} (F : Fr h₀ L s.heap m) (N : News h₀ L s.heap news) (hh : A.handled = none) (hr : IsRange s.heap r 0 6 1 t u v) (O : Ord ord P)
    (hlam : ∀ (j : Nat) (tj : Tok) (s' : Shared), j < 6 → Fr h₀ L s'.heap m → News h₀ L s'.heap news → wpAny (model PP w) A.in1.in1 (call (.ref f) [.int (j : Int) tj]) (fun v s'' => ∃ tk' h' tk, v = .int (P j : Nat) tk' ∧ s'' = { s' with heap := h', toks := tk } ∧ Sub s'.heap h') (fun _ _ => False) s')
    (hQ : ∀ (D : Addr) (e : Nat) (h' : Heap) (tk : Nat) (vals : List Value), NumsAre vals ord → Fr h₀ L h' m → News h₀ L h' ((D, listOf vals.toArray e) :: news) → Q (.ref D) { s with heap := h', toks := tk }) :
    wpAny (model PP w) A (call (.builtin "sorted") [.ref r] [(Str.ofString "key", .ref f)]) Q E s := by
  refine call_function_entry_kw kind_sorted plain_sorted entry_sorted (ksk_s1 _ _) ?_
  unfold Builtin.«sorted»
  refine wpAny_bind (m := checkCount "sorted" 1 1 _) (wpAny_pure ?_)
  refine wpAny_bind (collect_range (A := A.in1) hh hr fun h1 tk acc hk hacc => ?_)
  have hl : acc.toList.length = 6 := by rw [Array.length_toList]; exact hacc.1
  have hvs : ∀ (j : Nat) (v : Value), acc.toList[j]? = some v → ∃ t, v = .int ((0 + j : Nat) : Int) t := fun j v e => by
    obtain ⟨t, z⟩ := hacc.2 j v (by rw [← Array.getElem?_toList]; exact e)
    exact ⟨t, by rw [z]; congr 1; exact Mine.q_75⟩
  generalize acc.toList = vs at hl hvs
  refine wpAny_bind (wpAny_newList ?_ (by rw [hl, sizeLine_eq]; decide))
  have F1 := F.keeps hk
  have N1 := news_sub N hk
  have hoL : (h1.push (seqObj "list" vs.toArray 0)).get? h1.objs.size = some (seqObj "list" vs.toArray 0) := Heap.get?_push_size _ rfl
  have keep : ∀ b o, h1.get? b = some o → (h1.push (seqObj "list" vs.toArray 0)).get? b = some o := fun b o e => Heap.get?_push_of_some _ e
  have hL : L < h1.objs.size := F1.ns.lt
  refine wpAny_bind (wpAny_holding (wpAny_call_entry_kw slot_list_sort ⟨_, hoL, rfl⟩ entry_list_sort ?body (ksk_l1 _ _)))
  show wpAny (model PP w) A.in1.in1 (Builtin.«list.sort» ⟨[.ref h1.objs.size], [(Str.ofString "key", .ref f)]⟩) _ _ _
  rw [ksk_t1]
  refine kat_keyed (s := { s with heap := h1.push (seqObj "list" vs.toArray 0), toks := tk }) (F1.kept keep) (N1.grown keep) hoL (Nat.ne_of_gt hL) (Heap.get?_none_of_le (Nat.le_trans F1.above (Nat.le_of_lt hL)))
    (fun p hp => Nat.ne_of_lt (Heap.lt_size (N1 p hp).1)) (by rw [hl]; decide) (by rw [hl]; decide) fun kS e1 h' F' N' l0 l1 => ?_
  have hD : ∀ q ∈ news, q.1 ≠ h1.objs.size := fun q hq => Nat.ne_of_lt (Heap.lt_size (N1 q hq).1)
  refine keys_run (s := s) (P := P) hlam (Nat.ne_of_gt l0) (fun q hq => Nat.ne_of_lt (l1 q hq)) ?fin 6 0 vs [] 0 h' tk rfl hl hvs ⟨rfl, fun i k e => by cases e⟩ F' N'
  case fin =>
    intro ks e h2 tk2 hks F2 N2
    have hkl : ks.length = 6 := by rw [hks.1]; rfl
    rw [ksk_kind (keys := List.toArray ks) hks.ints (by rw [List.size_toArray, hkl]; decide), hl]
    refine wpAny_pure ?_
    refine runT_wp (lt := fun i j => decide (P i < P j)) (a := ord.toArray) (fun i j C s' hi hj hC => ?_) _ _ (ord_sort O) ?_
    · have gi : ∀ i, i < 6 → ∃ t, ks.getD i Value.none = .int (P i : Nat) t := fun i hi => by
        obtain ⟨t, z⟩ := hks.2 i (P i) (by rw [List.getElem?_map, List.getElem?_range hi]; rfl)
        exact ⟨t, by rw [List.getD_eq_getElem?_getD, z]; rfl⟩
      obtain ⟨t1, z1⟩ := gi i hi
      obtain ⟨t2, z2⟩ := gi j hj
      show wpAny _ _ (keyLt' oneType' ((katRev false ks).getD i Value.none) ((katRev false ks).getD j Value.none)) _ _ _
      rw [show katRev false ks = ks from rfl, z1, z2]
      refine kat_lt_int ?_
      have ed : decide (((P i : Nat) : Int) < ((P j : Nat) : Int)) = decide (P i < P j) := by
        by_cases q : P i < P j
        · rw [decide_eq_true q, decide_eq_true (by exact Mine.q_76 q)]
        · rw [decide_eq_false q, decide_eq_false (by exact Mine.q_77 q)]
      rw [ed]
      exact hC
    · refine KatFin.intro F2 N2 (UpdF.head fun q hq => ?_) fun h3 c3 F3 N3 => ?_
      · rcases List.mem_cons.mp hq with rfl | hq
        · exact Nat.ne_of_lt l0
        · exact Nat.ne_of_lt (l1 q hq)
      · have N4 := news_tail N3
        refine KasFin.intro F3 N4 (UpdF.head hD) fun h4 c4 F4 N4 => ?_
        refine ⟨_, rfl, wpAny_pure ⟨_, rfl, ?_⟩⟩
        refine hQ h1.objs.size c4 h4 tk2 _ ⟨?_, fun i k ei => ?_⟩ F4 N4
        · show ((katRev false (List.map _ ord.toArray.toList)).length = ord.length)
          rw [kat_len, List.length_map]
        · have hk6 : k < 6 := List.mem_range.mp (O.perm.mem_iff.mp (List.mem_of_getElem? ei))
          have ev : vs[k]? = some (vs[k]'(by exact Mine.q_33 hk6 hl)) := List.getElem?_eq_getElem (by exact Mine.q_33 hk6 hl)
          obtain ⟨t, z⟩ := hvs k _ ev
          refine ⟨t, ?_⟩
          show (List.map (fun i => vs.getD i Value.none) ord)[i]? = _
          rw [List.getElem?_map, ei]
          show some (vs.getD k Value.none) = _
          rw [List.getD_eq_getElem?_getD, ev, Option.getD_some, z, Nat.zero_add]
end
end Mine
end

section
open PySem PySem.W PySem.Calls PySem.Spec PyProof.Rows
set_option Elab.async false
set_option maxRecDepth 100000
set_option maxHeartbeats 8000000
set_option linter.unusedVariables false
namespace Mine
theorem fill24 : PySem.Challenge.rw_sn0012_01 = PySem.Challenge.rw_sn0012_01 ∧ hd.heap_39 = hd.heap_39 := by
  k_fill
  exact ⟨rfl, rfl⟩
abbrev keyScope : Scope := { kind := .function, names := [(Str.ofString "k", .local), (Str.ofString "chips", .free)], isGenerator := false, isCoroutine := false }
abbrev keyPar (p : Pos) : Arguments := { posonlyargs := [], args := [{ arg := Str.ofString "k", annotation := none, pos := p }], vararg := none, kwonlyargs := [], kw_defaults := [], kwarg := none, defaults := [] }
abbrev keyBody (p1 p2 p3 p4 p5 : Pos) : Expr := ((((Expr.Name (Str.ofString "chips") p1).Subscript (Expr.Name (Str.ofString "k") p2) p3).Subscript (Expr.Constant (Const.int 0) 0 p4)) p5)
local macro_rules | `(tactic| walk_at "subscriptTail Name Name ref int") => `(tactic| refine halt ?_)
local macro_rules | `(tactic| walk_at "subscriptTail Subscript Constant ref int") => `(tactic| refine halt ?_)
theorem tupI_0 {w : World} {A : Around} {E : Value → Shared → Prop} {s : Shared} {Q : Value → Shared → Prop} {value slice : PySem.Expr} {b : Addr} {x y : Int} {t u tk : Tok} (hb : s.heap.get? b = some (tupI x y t u)) (h : Q (.int x t) s)
    (hs : subscripted slice false (.ref b) (.int 0 tk) = operate [.ref b, .int 0 tk] (getItem (.ref b) (.int 0 tk))) : wpAny (model PP w) A (subscriptTail value slice (.ref b) (.int 0 tk)) Q E s :=
  item_tupleT (l := [.int x t, .int y u]) (j := 0) (x := .int x t) ⟨_, hb, rfl, _, rfl⟩ (by decide) (by decide) rfl rfl h hs
theorem lam_c {w : World} {A : Around} {s : Shared} {g : Heap} {mean : ExcName → Option Value} {mg mb : Str → Option Value} {name qual : Str} {f c' cc r3 a : Addr} {j P S : Int} {tj t u : Tok} {items : Array Value} {ep : Nat} {oc : Obj} {pm ctv : Value} {p0 p1 p2 p3 p4 p5 : Pos}
   (G : Gd w mean mg mb g) (k : Sub g s.heap) (hgc : g.get? cc = none) (hf : s.heap.get? f = some (kla_obj name qual (keyPar p0) (keyBody p1 p2 p3 p4 p5) keyScope [(Str.ofString "chips", cc)] pm c' ctv)) (hcd : s.heap.CodeRec (.ref c') qual)
   (hc : s.heap.get? cc = some oc) (hcv : oc.data = .cell (some (.ref r3))) (hl : s.heap.get? r3 = some (listOf items ep)) (hj0 : 0 ≤ j) (hjz : j < 2 ^ 63) (hit : items[j.toNat]? = some (.ref a)) (ha : s.heap.get? a = some (tupI P S t u))
   (hroom : A.depth < recursionLimit) (hh : A.handled = none) :
   wpAny (model PP w) A (call (.ref f) [.int j tj]) (fun v s'' => ∃ tk' h' tk, v = .int P tk' ∧ s'' = { s with heap := h', toks := tk } ∧ Sub s.heap h') (fun _ _ => False) s := by
  refine wpAny_call (kla_callFunE hroom hf rfl rfl rfl rfl hcd ?_)
  have hb : bindArgs (kla_fn name qual (keyPar p0) (keyBody p1 p2 p3 p4 p5) keyScope [(Str.ofString "chips", cc)] pm (.ref c') ctv) ⟨[Value.int j tj], []⟩ = (pure [((Str.ofString "k"), Value.int j tj)] : Sem (List (Str × Value))) := rfl
  rw [hb]
  have Gs := G.keeps k
  refine wpAny_pure (wpAny_newFunctionEnv (show ∀ x ∈ keyScope.names, x.2 ≠ NameKind.cell by decide) (locs rfl) (fun h₁ hns hsb => ⟨(Gs.T.nolimit).fresh _ hsb, ?_⟩) rfl)
  show codeAny _ _ (.expr (keyBody p1 p2 p3 p4 p5) (envX qual keyScope s.heap.objs.size f (.ref c') [(Str.ofString "chips", cc)])) _ _
  have hk₁ : Sub s.heap h₁ := fun b o e => hsb.extBut b o (Nat.ne_of_lt (Heap.lt_size e)) (Heap.get?_push_of_some _ e)
  have G1 : Gd w mean mg mb (hideAll s.heap [cc]) := G.keeps (base_hide k fun a ha => by rw [List.mem_singleton] at ha; subst ha; exact hgc)
  have X := G1.X
  have T := G1.T
  generalize hgg : hideAll s.heap [cc] = g1 at G1 X T
  have F : Fr g1 s.heap.objs.size h₁ (fun x => List.lookup x [(Str.ofString "k", Value.int j tj)].reverse) := ⟨hns, fun b o e => hk₁ b o (of_hideAll _ (hgg ▸ e)), Nat.le_of_eq (hgg ▸ hideAll_size _ _)⟩
  have N : News g1 s.heap.objs.size h₁ [(cc, oc)] := news_cons News.nil (hk₁ _ _ hc) (Nat.ne_of_lt (Heap.lt_size hc)) (by rw [← hgg]; exact hideAll_none _ (.head _))
  refine kla_codeExpr ?_
  refine wpAny_mono (Q := fun v s'' => Halt (∃ tk' h' tk, v = .int P tk' ∧ s'' = { s with heap := h', toks := tk } ∧ Sub s.heap h')) (E := fun _ _ => False) ?_ (fun v s'' h => by obtain ⟨tk', h', tk, e1, e2, e3⟩ := h; exact ⟨tk', h', tk, e1, e2, e3⟩) (fun _ _ h => h.elim)
  walk1
  walk1
  refine nameX_F N (c := cc) rfl (.head _) hcv ?_ rfl rfl
  k_steps
  refine unhalt ?_
  refine item_G (hk₁ _ _ hl) hj0 hjz hit ?_ (by with_unfolding_all rfl)
  k_steps
  refine unhalt ?_
  refine tupI_0 (hk₁ _ _ ha) ?_ (by with_unfolding_all rfl)
  exact ⟨_, _, _, rfl, rfl, hk₁⟩
end Mine
end

section
open PySem PySem.W PySem.Calls PySem.Spec PyProof.Rows
set_option Elab.async false
set_option maxRecDepth 100000
set_option maxHeartbeats 8000000
set_option linter.unusedVariables false
namespace Mine
theorem NumsAre.tail {v : Value} {vs : List Value} {k : Nat} {ns : List Nat} (x : NumsAre (v :: vs) (k :: ns)) : NumsAre vs ns := ⟨by have := x.1; simpa using this, fun i k e => x.2 (i + 1) k e⟩
theorem nums_ints : ∀ {vs : List Value} {ns : List Nat}, NumsAre vs ns → kf_ints vs = true
  | [], _, _ => rfl
  | v :: vs, [], x => by cases x.1
  | v :: vs, k :: ns, x => by
    obtain ⟨t, e⟩ := x.2 0 k rfl
    cases e
    show kf_ints vs = true
    exact nums_ints x.tail
theorem nums_at {k : Nat} : ∀ {vs : List Value} {ns : List Nat}, NumsAre vs ns → k ∈ ns → kf_at (k : Int) vs = some (ns.idxOf k)
  | [], [], _, h => nomatch h
  | [], _ :: _, x, _ => by cases x.1
  | v :: vs, [], x, _ => by cases x.1
  | v :: vs, a :: ns, x, h => by
    obtain ⟨t, e⟩ := x.2 0 a rfl
    cases e
    unfold kf_at
    by_cases q : a = k
    · subst q
      have e1 : isInt (a : Int) (Value.int (a : Int) t) = true := by simp [isInt]
      rw [e1, List.idxOf_cons_self]; rfl
    · have e1 : isInt (k : Int) (Value.int (a : Int) t) = false := by simp [isInt]; exact Mine.q_66 q
      rcases List.mem_cons.mp h with h | h
      · exact absurd h.symm q
      · rw [e1, nums_at x.tail h, List.idxOf_cons, beq_n q]; rfl
theorem idx_K {w : World} {A : Around} {E : Value → Shared → Prop} {s : Shared} {h₀ : Heap} {L D : Addr} {news : List (Addr × Obj)} {vals : List Value} {ns : List Nat} {e k : Nat} {t : Tok} {Q : Value → Shared → Prop} (N : News h₀ L s.heap news) (hm : (D, listOf vals.toArray e) ∈ news) (hv : NumsAre vals ns) (hk : k ∈ ns) (hz : ns.length < 1000)
    (h : Q (.int (ns.idxOf k : Nat) s.toks) { s with toks := s.toks + 1 }) : wpAny (model PP w) A (call (.builtin "list.index") [.ref D, .int (k : Int) t]) Q E s :=
  kf_index N hm (nums_ints hv) (nums_at hv hk) rfl (by show vals.length ≤ _; rw [hv.1, sizeLine_eq]; exact Mine.o_lel hz (by decide)) h
theorem pos_at {ord : List Nat} {P pos : Nat → Nat} (O : Ord ord P) (hpos : ord.map pos = [1, 2, 3, 5, 6, 7]) {k : Nat} (hk : k < 6) : [1, 2, 3, 5, 6, 7][ord.idxOf k]? = some (pos k) := by
  have hm : k ∈ ord := O.perm.mem_iff.mpr (List.mem_range.mpr hk)
  rw [← hpos, List.getElem?_map, List.getElem?_eq_getElem (List.idxOf_lt_length_iff.mpr hm), List.getElem_idxOf]
  rfl
theorem six_nums {t1 t2 t3 t4 t5 t6 : Tok} : NumsAre [.int 1 t1, .int 2 t2, .int 3 t3, .int 5 t4, .int 6 t5, .int 7 t6] [1, 2, 3, 5, 6, 7] := by
  refine ⟨rfl, fun i k e => ?_⟩
  match i, e with
  | 0, e => cases e; exact ⟨_, rfl⟩
  | 1, e => cases e; exact ⟨_, rfl⟩
  | 2, e => cases e; exact ⟨_, rfl⟩
  | 3, e => cases e; exact ⟨_, rfl⟩
  | 4, e => cases e; exact ⟨_, rfl⟩
  | 5, e => cases e; exact ⟨_, rfl⟩
theorem nums_snoc {vs : List Value} {f : Nat → Nat} {i : Nat} {t : Tok} (x : NumsAre vs ((List.range i).map f)) : NumsAre (vs ++ [.int (f i : Nat) t]) ((List.range (i + 1)).map f) := by
  have hl := x.1
  rw [List.length_map, List.length_range] at hl
  refine ⟨by rw [List.length_append, List.length_map, List.length_range, hl]; rfl, fun j k e => ?_⟩
  rw [List.getElem?_map] at e
  by_cases q : j < i
  · obtain ⟨t', z⟩ := x.2 j k (by rw [List.getElem?_map, List.getElem?_range q]; rw [List.getElem?_range (by exact Mine.q_67 q)] at e; exact e)
    exact ⟨t', by rw [List.getElem?_append_left (by exact Mine.q_54 q hl)]; exact z⟩
  · have hj : j < i + 1 := by
      rcases Nat.lt_or_ge j (i + 1) with h | h
      · exact h
      · rw [List.getElem?_eq_none (by simpa using h)] at e; cases e
    have : j = i := by exact Mine.q_55 hj q
    subst this
    rw [List.getElem?_range (by omega)] at e
    cases e
    exact ⟨t, by rw [List.getElem?_append_right (by exact Mine.q_56 hl), hl, Nat.sub_self]; rfl⟩
/-- the list's values are the texts given -/
def StrsIs (vs : List Value) (xs : List Str) : Prop := vs.length = xs.length ∧ ∀ (i : Nat) (x : Str), xs[i]? = some x → ∃ t, vs[i]? = some (.str x t)
theorem strs_snoc {vs : List Value} {f : Nat → Str} {i : Nat} {t : Tok} (x : StrsIs vs ((List.range i).map f)) : StrsIs (vs ++ [.str (f i) t]) ((List.range (i + 1)).map f) := by
  have hl := x.1
  rw [List.length_map, List.length_range] at hl
  refine ⟨by rw [List.length_append, List.length_map, List.length_range, hl]; rfl, fun j k e => ?_⟩
  rw [List.getElem?_map] at e
  by_cases q : j < i
  · obtain ⟨t', z⟩ := x.2 j k (by rw [List.getElem?_map, List.getElem?_range q]; rw [List.getElem?_range (by exact Mine.q_67 q)] at e; exact e)
    exact ⟨t', by rw [List.getElem?_append_left (by exact Mine.q_54 q hl)]; exact z⟩
  · have hj : j < i + 1 := by
      rcases Nat.lt_or_ge j (i + 1) with h | h
      · exact h
      · rw [List.getElem?_eq_none (by simpa using h)] at e; cases e
    have : j = i := by exact Mine.q_55 hj q
    subst this
    rw [List.getElem?_range (by omega)] at e
    cases e
    exact ⟨t, by rw [List.getElem?_append_right (by exact Mine.q_56 hl), hl, Nat.sub_self]; rfl⟩
theorem due_all : ((List.range 8).all fun (p : Nat) => (List.range 6).all fun (k : Nat) => (Txt.mul (Str.ofString ".") (p : Int) ++ Txt.item (Str.ofString "abcdef") (0 + (k : Int))) == rowS p k) = true := by decide +kernel
theorem due_row {p k : Nat} (hp : p ≤ 7) (hk : k < 6) : Txt.mul (Str.ofString ".") (p : Int) ++ Txt.item (Str.ofString "abcdef") (0 + (k : Int)) = rowS p k :=
  eq_of_beq (List.all_eq_true.mp (List.all_eq_true.mp due_all p (List.mem_range.mpr (by exact Nat.lt_of_le_of_lt hp (by decide)))) k (List.mem_range.mpr hk))
theorem pos_le {ord : List Nat} {P pos : Nat → Nat} (O : Ord ord P) (hpos : ord.map pos = [1, 2, 3, 5, 6, 7]) {k : Nat} (hk : k < 6) : pos k ≤ 7 := by
  have h := pos_at O hpos hk
  have hm := List.mem_of_getElem? h
  simp only [List.mem_cons, List.not_mem_nil, or_false] at hm
  exact Mine.q_68 hm
theorem pick_toN (items : Array Value) (n : Nat) (h : n ≤ items.size) : slicePick items none (some (n : Int)) none = (items.toList.take n).toArray := by
  rw [kms_pick_eq]
  unfold kms_pick
  show ((items.toList.drop 0).take (min (n : Int).toNat items.size - 0)).toArray = _
  rw [List.drop_zero, Nat.sub_zero]
  congr 2
  show min ((n : Int).toNat) items.size = n
  exact Mine.q_69 h
theorem StrsIs.app {a b : List Value} {x y : List Str} (h1 : StrsIs a x) (h2 : StrsIs b y) : StrsIs (a ++ b) (x ++ y) := by
  refine ⟨by rw [List.length_append, List.length_append, h1.1, h2.1], fun i z e => ?_⟩
  by_cases q : i < x.length
  · rw [List.getElem?_append_left q] at e
    obtain ⟨t, w⟩ := h1.2 i z e
    exact ⟨t, by rw [List.getElem?_append_left (by rw [h1.1]; exact q)]; exact w⟩
  · rw [List.getElem?_append_right (by exact Mine.q_70 q)] at e
    obtain ⟨t, w⟩ := h2.2 _ z e
    exact ⟨t, by rw [List.getElem?_append_right (by rw [h1.1]; exact Mine.q_70 q), h1.1]; exact w⟩
theorem StrsIs.take {a : List Value} {x : List Str} (h : StrsIs a x) (n : Nat) : StrsIs (a.take n) (x.take n) := by
  refine ⟨by rw [List.length_take, List.length_take, h.1], fun i z e => ?_⟩
  rw [List.getElem?_take] at e
  by_cases q : i < n
  · rw [if_pos q] at e
    obtain ⟨t, w⟩ := h.2 i z e
    exact ⟨t, by rw [List.getElem?_take, if_pos q]; exact w⟩
  · rw [if_neg q] at e; cases e
theorem StrsIs.drop {a : List Value} {x : List Str} (h : StrsIs a x) (n : Nat) : StrsIs (a.drop n) (x.drop n) := by
  refine ⟨by rw [List.length_drop, List.length_drop, h.1], fun i z e => ?_⟩
  rw [List.getElem?_drop] at e
  obtain ⟨t, w⟩ := h.2 _ z e
  exact ⟨t, by rw [List.getElem?_drop]; exact w⟩
theorem StrsIs.tail {v : Value} {vs : List Value} {x : Str} {xs : List Str} (h : StrsIs (v :: vs) (x :: xs)) : StrsIs vs xs := ⟨by have := h.1; simpa using this, fun i k e => h.2 (i + 1) k e⟩
theorem dat_is {news : List (Addr × Obj)} : ∀ {vs : List Value} {xs : List Str}, StrsIs vs xs → DatAll news vs (xs.map Dat.str)
  | [], [], _ => .nil
  | [], _ :: _, h => by cases h.1
  | _ :: _, [], h => by cases h.1
  | v :: vs, x :: xs, h => by
    obtain ⟨t, e⟩ := h.2 0 x rfl
    cases e
    exact .cons (.str _ _) (dat_is h.tail)
theorem due_rows (pos : Nat → Nat) : ((List.range 6).map fun k => rowS (pos k) k).take 3 ++ [Str.ofString "-\x0b.", Str.ofString "", Str.ofString "."] ++ ((List.range 6).map fun k => rowS (pos k) k).drop 3 = (List.range 9).map (rowsAt pos) := rfl
theorem dat_snoc {news : List (Addr × Obj)} {v : Value} {d : Dat} (x : DatIn news v d) : ∀ {vs : List Value} {ds : List Dat}, DatAll news vs ds → DatAll news (vs ++ [v]) (ds ++ [d])
  | _, _, .nil => .cons x .nil
  | _, _, .cons h r => .cons h (dat_snoc x r)
theorem filt_yes {α : Type} {f : Nat → α} {p : Nat → Bool} {j : Nat} (h : p j = true) : ((List.range (j + 1)).filter p).map f = ((List.range j).filter p).map f ++ [f j] := by
  rw [List.range_succ, List.filter_append, List.map_append, List.filter_cons_of_pos h]; rfl
theorem filt_no {α : Type} {f : Nat → α} {p : Nat → Bool} {j : Nat} (h : p j = false) : ((List.range (j + 1)).filter p).map f = ((List.range j).filter p).map f := by
  rw [List.range_succ, List.filter_append, List.map_append, List.filter_cons_of_neg (by rw [h]; decide)]
  exact List.append_nil _
theorem mem_mid {α : Type} {x q : α} (P R : List α) (h : q ∈ P ++ x :: R) : q ∈ x :: (P ++ R) := List.perm_middle.mem_iff.mp h
end Mine
end

section
open PySem PySem.W PySem.Calls PySem.Spec PyProof.Rows
open PyProof.Rows.LCg (NsObj ns_obj lst lst_snoc Off3 Off1 fr_but news_but)
set_option Elab.async false
set_option maxRecDepth 100000
set_option maxHeartbeats 8000000
set_option linter.unusedVariables false
namespace Mine
section
variable {w : World} {A : Around} {E : Value → Shared → Prop} {s : Shared} {h₀ : Heap} {L : Addr} {m : Str → Option Value} {env : Env}
abbrev cellObj (v : Option Value) : Obj := { cls := .type "cell", data := .cell v }
theorem wpAny_compEnv_cell {scope : Scope} {globals : Addr} {x : Str} {cl : List (Str × Addr)} {qual : Str} {Q : Env → Shared → Prop}
    (hcf : ∀ n, cellsFrom n scope.names cl = (x, n) :: cl) (hpc : ∀ h : Heap, pushCells h scope.names = h.push (cellObj none))
    (hQ : Q { scope, locals := s.heap.objs.size, globals, cells := (x, s.heap.objs.size + 1) :: cl, qual, func := none, code := env.code, frame := env.frame, builtins := env.builtins }
      { s with heap := (s.heap.push { cls := .type "dict", data := .dict #[] }).push (cellObj none) }) :
    wpAny (model PP w) A (newFunctionEnv scope globals cl [] qual none .none (some env)) Q E s := by
  simp only [newFunctionEnv, Option.isSome_some, if_true]
  refine wpAny_bind (wpAny_alloc ?_)
  refine wpAny_bind (wpAny_layCells _ (fun name kind cells => by cases hkc : kind == NameKind.cell <;> simp [hkc]) _ _ _ _ ?_)
  rw [hcf, hpc]
  rw [show ({ s with heap := s.heap.push { cls := .type "dict", data := .dict #[] } } : Shared).heap.objs.size = s.heap.objs.size + 1 from Heap.size_push ..]
  simp only [List.forIn_nil]
  exact wpAny_bind (wpAny_pure (wpAny_pure hQ))
def Off4 (I C D Z : Addr) (l : List (Addr × Obj)) : Prop := ∀ p ∈ l, p.1 ≠ I ∧ p.1 ≠ C ∧ p.1 ≠ D ∧ p.1 ≠ Z
theorem lookup_relabel_cell {env : Env} : ∀ {names : List (Str × NameKind)} {x : Str}, names.lookup x = some .cell →
    (names.map fun (n, k) => if (k == NameKind.free && env.scope.kind == .function && env.kindOf n == some .cell) then (n, NameKind.cell) else (n, k)).lookup x = some .cell
  | [], x, h => by simp at h
  | (n, k) :: r, x, h => by
    simp only [List.map_cons]
    cases hx : (x == n) with
    | true =>
      simp only [List.lookup_cons, hx] at h
      cases h
      simp [List.lookup_cons, hx]
    | false =>
      simp only [List.lookup_cons, hx] at h
      have ih := lookup_relabel_cell (env := env) h
      by_cases hc : (k == NameKind.free && env.scope.kind == .function && env.kindOf n == some .cell) = true
      · rw [if_pos hc]; simp only [List.lookup_cons, hx]; exact ih
      · rw [if_neg hc]; simp only [List.lookup_cons, hx]; exact ih
/-- an assignment of a list comprehension over a range, whose target is a cell -/
theorem assign_comp_C {elt iter : Expr} {x y : Str} {px py : Pos} {scope : Scope} {cl : List (Str × Addr)} {pos spos : Pos} {Q : Flow → Shared → Prop} (hLe : env.locals = L)
    (hsw : swapsWith (.ListComp elt [⟨.Name x px, iter, [], 0⟩] scope pos) (some (.Name y py)) spos.line env = pure true)
    (hclos : closureFor scope env = pure cl) (hcf : ∀ n, cellsFrom n scope.names cl = (x, n) :: cl) (hpc : ∀ h : Heap, pushCells h scope.names = h.push (cellObj none)) (hkind : scope.kind = .function)
    (hnames : ∀ z ∈ scope.names, z.2 = .local → scope.names.lookup z.1 = some .local) (hx : scope.names.lookup x = some .cell)
    (hy : env.kindOf y = some .local) (hp : (env.scope.kind == .class || (env.scope.kind == .module && env.locals != env.globals)) = false)
    (h : wpAny (model PP w) A (eval iter env) (fun xv s₁ => Halt (∃ (r : Addr) (t u v : Tok) (n : Nat) (J : Nat → List Value → List (Addr × Obj) → Prop) (news : List (Addr × Obj)), xv = .ref r ∧ A.handled = none ∧ n ≤ sizeLine ∧ Fr h₀ L s₁.heap m ∧ News h₀ L s₁.heap news ∧ AllBare s₁.gens ∧
      IsRange s₁.heap r 0 (n : Int) 1 t u v ∧ Builtin.Range.small 0 (n : Int) 1 = true ∧ Builtin.Range.rangeSize 0 (n : Int) 1 = ((n : Nat) : Int) ∧ J 0 [] news ∧
      (∀ i ys news tv I oI C oC D Z oZ m₂ (s₂ : Shared) E', i < n → J i ys news → oZ.data = .cell (some (.int (0 + (i : Int)) tv)) → NsObj oC m₂ → Fr h₀ L s₂.heap m → News h₀ L s₂.heap ((I, oI) :: (C, oC) :: (D, lst ys) :: (Z, oZ) :: news) → Off4 I C D Z news → AllBare s₂.gens → s₂.os = s₁.os →
        wpAny (model PP w) A (eval elt (compEnvC scope ((x, Z) :: cl) C env)) (fun y s₃ => ∃ news', s₃.os = s₁.os ∧ AllBare s₃.gens ∧ Fr h₀ L s₃.heap m ∧ News h₀ L s₃.heap ((I, oI) :: (C, oC) :: (D, lst ys) :: (Z, oZ) :: news') ∧ Off4 I C D Z news' ∧ J (i + 1) (ys ++ [y]) news') E' s₂) ∧
      (∀ D (s₂ : Shared) ys news', J n ys news' → ys.length = n → Fr h₀ L s₂.heap (fun z => if z = y then some (.ref D) else m z) → News h₀ L s₂.heap ((D, lst ys) :: news') → (∀ p ∈ news', p.1 ≠ D) → AllBare s₂.gens → s₂.os = s₁.os → Q .next s₂))) E s)
    (hs : ∀ x, foldedSetIterable iter env x = pure x := by intro _; rfl) :
    wpAny (model PP w) A (exec (.Assign [.Name y py] (.ListComp elt [⟨.Name x px, iter, [], 0⟩] scope pos) spos) env) Q E s := by
  rw [exec_Assign_Name_used _ _ _ _ hsw]
  refine wpAny_bind (wpAny_standAt (wpAny_bind ?_))
  show wpAny _ A (do let _ ← comprehension (.ListComp elt [⟨.Name x px, iter, [], 0⟩] scope pos) scope env _ (newList []) false (eval iter env) (some (assign (.Name y py) env))) _ _ s
  refine wpAny_bind (wpAny_mono (wpAny_comprehension_free (use := some (assign (.Name y py) env)) (Q := fun _ s' => Q .next s') rfl hs hclos hkind hnames
    (wpAny_mono h (fun xv s₁ h₁ => ?_) fun _ _ e => e)) (fun _ s' hq => wpAny_pure (wpAny_pure hq)) fun _ _ e => e)
  obtain ⟨r, t, u, v, n, J, news, rfl, hh, hsz, F, N, hb, hr, hsm, hn, J0, turn, fin⟩ := h₁
  refine wpAny_pyIter_range hr hsm ?_
  have up : ∀ b o, s₁.heap.get? b = some o → (s₁.heap.push { cls := .type "range_iterator", data := .fields #[rawInt 0, rawInt (Builtin.Range.rangeSize 0 (n : Int) 1), rawInt 1] }).get? b = some o := fun b o e => Heap.get?_push_of_some _ e
  have hst0 : IsRangeIter (s₁.heap.push { cls := .type "range_iterator", data := .fields #[rawInt 0, rawInt (Builtin.Range.rangeSize 0 (n : Int) 1), rawInt 1] }) s₁.heap.objs.size (0 + ((0 : Nat) : Int) * 1) ((n : Int) - ((0 : Nat) : Int)) 1 := by
    show IsRangeIter _ _ _ _ _; rw [hn]; simpa using Heap.get?_push_size _ rfl
  generalize hI : s₁.heap.objs.size = I at hst0 ⊢
  have hz2 : (s₁.heap.push { cls := .type "range_iterator", data := .fields #[rawInt 0, rawInt (Builtin.Range.rangeSize 0 (n : Int) 1), rawInt 1] }).objs.size = I + 1 := by rw [Heap.size_push, hI]
  generalize hH1 : s₁.heap.push { cls := .type "range_iterator", data := .fields #[rawInt 0, rawInt (Builtin.Range.rangeSize 0 (n : Int) 1), rawInt 1] } = H1 at up hst0 hz2 ⊢
  have F1 := F.keeps up
  have N1 := N.grown up
  refine wpAny_newObj_type (wpAny_compEnv_cell hcf hpc ?_)
  dsimp only
  generalize hH2 : H1.push { cls := .type "list", dict := none, data := .seq ([] : List Value).toArray } = H2
  have hC : H2.objs.size = I + 2 := by rw [← hH2, Heap.size_push, hz2]
  have hz3 : (H2.push { cls := .type "dict", data := .dict #[] }).objs.size = I + 3 := by rw [Heap.size_push, hC]
  generalize hH3 : (H2.push { cls := .type "dict", data := .dict #[] }).push (cellObj none) = H3
  simp only [hC, hz2]
  have up2 : ∀ b o, H1.get? b = some o → H2.get? b = some o := fun b o e => hH2 ▸ Heap.get?_push_of_some _ e
  have up3 : ∀ b o, H2.get? b = some o → H3.get? b = some o := fun b o e => hH3 ▸ Heap.get?_push_of_some _ (Heap.get?_push_of_some _ e)
  have old : ∀ b o, H1.get? b = some o → H3.get? b = some o := fun b o e => up3 _ _ (up2 _ _ e)
  have hacc : H3.get? (I + 1) = some (lst []) := up3 _ _ (by rw [← hH2, ← hz2]; exact Heap.get?_push_size _ rfl)
  have hns : H3.Ns (I + 2) (fun _ => none) := by
    have z := Heap.Ns.new H2 (.type "dict")
    rw [hC] at z
    rw [← hH3]
    exact z.push _
  have hcz : H3.get? (I + 3) = some (cellObj none) := by rw [← hH3, ← hz3]; exact Heap.get?_push_size _ rfl
  have fresh₀ : ∀ a, I ≤ a → h₀.get? a = none := fun a ha => by
    cases e : h₀.get? a with
    | none => rfl
    | some o' =>
      have z := Heap.lt_size (F.keep a o' e)
      exact absurd z (Nat.not_lt.mpr (hI ▸ ha))
  have hL : @LT.lt Nat _ L I := hI ▸ F.ns.lt
  have hLI : L ≠ I := Nat.ne_of_lt hL
  have hLD : L ≠ I + 1 := Nat.ne_of_lt (Nat.lt_succ_of_lt hL)
  have hLC : L ≠ I + 2 := Nat.ne_of_lt (Nat.lt_succ_of_lt (Nat.lt_succ_of_lt hL))
  have hLZ : L ≠ I + 3 := Nat.ne_of_lt (Nat.lt_succ_of_lt (Nat.lt_succ_of_lt (Nat.lt_succ_of_lt hL)))
  have hI0 := fresh₀ I (Nat.le_refl _)
  have hD0 := fresh₀ (I + 1) (Nat.le_add_right _ _)
  have hC0 := fresh₀ (I + 2) (Nat.le_add_right _ _)
  have hZ0 := fresh₀ (I + 3) (Nat.le_add_right _ _)
  have ne : ∀ a b : Nat, a ≠ b → I + a ≠ I + b := fun a b q e => q (Nat.add_left_cancel e)
  have nI : ∀ a : Nat, 0 < a → I ≠ I + a := fun a q => Nat.ne_of_lt (Nat.lt_add_of_pos_right q)
  have off0 : Off4 I (I + 2) (I + 1) (I + 3) news := fun p hp => by
    have z := Heap.lt_size (N p hp).1
    rw [hI] at z
    exact ⟨Nat.ne_of_lt z, Nat.ne_of_lt (Nat.lt_of_lt_of_le z (Nat.le_add_right _ _)), Nat.ne_of_lt (Nat.lt_of_lt_of_le z (Nat.le_add_right _ _)), Nat.ne_of_lt (Nat.lt_of_lt_of_le z (Nat.le_add_right _ _))⟩
  have loop : ∀ s₃ : Shared, s₃.heap = H3 → s₃.os = s₁.os → AllBare s₃.gens → codeAny (model PP w) A (.compLoop (.ListComp elt [⟨.Name x px, iter, [], 0⟩] scope pos) 0 (.ref I) (.ref (I + 1)) (compEnvC scope ((x, I + 3) :: cl) (I + 2) env))
        (compPost (model PP w) A E (some (assign (.Name y py) env)) (fun _ s' => Q .next s') (.ref (I + 1)) (I + 2)) s₃ := by
    intro s₃ e3 o3 b3
    refine codeAny_compLoop_tests
      (fun k (s' : Shared) => ∃ i ys news' cv, s'.os = s₁.os ∧ AllBare s'.gens ∧ i ≤ n ∧ k = n + 1 - i ∧ ys.length = i ∧ IsRangeIter s'.heap I (0 + (i : Nat) * 1) ((n : Int) - (i : Nat)) 1 ∧ Fr h₀ L s'.heap m ∧ s'.heap.Ns (I + 2) (fun _ => none) ∧ s'.heap.IsCell (I + 3) cv ∧ News h₀ L s'.heap ((I + 1, lst ys) :: news') ∧ Off4 I (I + 2) (I + 1) (I + 3) news' ∧ J i ys news') ?_ (n + 1)
      ⟨0, [], news, none, o3, b3, Nat.zero_le _, rfl, rfl, e3 ▸ old _ _ hst0, e3 ▸ F1.keeps old, e3 ▸ hns, ⟨_, e3 ▸ hcz, rfl⟩, fun p hp => ?_, off0, J0⟩
    · rintro k s' ⟨i, ys, news', cv, ho', hb', hi, rfl, hyl, hit', F', hn', hc', N', off', J'⟩
      by_cases hlt : i < n
      · refine (LCg.range_walks (prog := PP) (w := w) hh 0 n).item i s' _ _ hlt hit' fun v h₂ tk₂ hPv hit₂ hk₂ => ?_
        obtain ⟨tv, rfl⟩ := hPv
        have hk₂' : ∀ b o, b ≠ I → s'.heap.get? b = some o → h₂.get? b = some o := fun b o n e => hk₂ b o (by simpa using n) e
        refine wpAny_assign_Name (wpAny_storeName_cell (show (relabel scope env).kind = _ by unfold relabel; exact hkind) (lookup_relabel_cell hx) (show List.lookup x ((x, I + 3) :: cl) = some (I + 3) by rw [List.lookup_cons, beq_self_eq_true]) (v₀ := cv) (by obtain ⟨oz, e, r⟩ := hc'; exact ⟨oz, hk₂' _ _ (Ne.symm (nI 3 (by decide))) e, r⟩) (fun h₃ hc₃ hs₃ => ?_))
        refine wpAny_tests_nil ?_
        simp only [if_true]
        replace hs₃ : Heap.SameBut (I + 3) h₂ h₃ := hs₃
        refine el_1_2 (hc₃) fun oZ heZ hoZ => ?_
        have heI : h₃.get? I = some _ := hs₃.extBut _ _ (nI 3 (by decide)) hit₂
        have hn₃ : h₃.Ns (I + 2) (fun _ => none) := hn'.at' fun o e => hs₃.extBut _ _ (ne 2 3 (by decide)) (hk₂' _ _ (Ne.symm (nI 2 (by decide))) e)
        refine el_1_2 (ns_obj hn₃) fun oC heC hoC => ?_
        have kk : ∀ b o, b ≠ I → b ≠ I + 3 → s'.heap.get? b = some o → h₃.get? b = some o := fun b o n1 n2 e => hs₃.extBut _ _ n2 (hk₂' _ _ n1 e)
        have F₃ : Fr h₀ L h₃ m := by
          obtain ⟨⟨oL, es, ep, g1, g2⟩, ky, ab⟩ := F'
          exact ⟨⟨oL, es, ep, kk _ _ hLI hLZ g1, g2⟩, fun b o e => kk _ _ (fun q => by rw [q, hI0] at e; cases e) (fun q => by rw [q, hZ0] at e; cases e) (ky b o e), ab⟩
        have N₃ : News h₀ L h₃ ((I, _) :: (I + 2, oC) :: (I + 1, lst ys) :: (I + 3, oZ) :: news') := fun p hp => by
          rcases List.mem_cons.mp hp with rfl | hp
          · exact ⟨heI, Ne.symm hLI, hI0⟩
          rcases List.mem_cons.mp hp with rfl | hp
          · exact ⟨heC, Ne.symm hLC, hC0⟩
          rcases List.mem_cons.mp hp with rfl | hp
          · exact ⟨kk _ _ (Ne.symm (nI 1 (by decide))) (ne 1 3 (by decide)) (N' _ (.head _)).1, Ne.symm hLD, hD0⟩
          rcases List.mem_cons.mp hp with rfl | hp
          · exact ⟨heZ, Ne.symm hLZ, hZ0⟩
          have z := N' p (.tail _ hp)
          exact ⟨kk _ _ (off' p hp).1 (off' p hp).2.2.2 z.1, z.2⟩
        refine wpAny_mono (turn i ys news' tv I _ (I + 2) oC (I + 1) (I + 3) oZ _ _ _ hlt J' hoZ hoC F₃ N₃ off' hb' ho') (fun y s₄ h₄ => ?_) fun _ _ e => e
        refine el_1_6 (h₄) fun news₄ o₄ b₄ F₄ N₄ off₄ J₄ => ?_
        have zI := (N₄ _ (List.mem_of_getElem? (i := 0) rfl)).1
        have zC := (N₄ _ (List.mem_of_getElem? (i := 1) rfl)).1
        have zD := (N₄ _ (List.mem_of_getElem? (i := 2) rfl)).1
        have zZ := (N₄ _ (List.mem_of_getElem? (i := 3) rfl)).1
        have N₄' : News h₀ L s₄.heap news₄ := fun p hp => N₄ p (.tail _ (.tail _ (.tail _ (.tail _ hp))))
        refine append_at (hsz := by show ys.toArray.size ≤ sizeLine; rw [List.size_toArray, hyl]; exact Nat.le_trans hi hsz) zD fun h₅ hs₅ hD₅ => ?_
        refine ⟨n + 1 - (i + 1), by exact Mine.q_25 hlt, i + 1, ys ++ [y], news₄, _, o₄, b₄, hlt, rfl, by rw [List.length_append, List.length_singleton, hyl], hs₅.extBut _ _ (nI 1 (by decide)) zI, F₄.change hs₅ (Ne.symm hLD) hD0,
          (hoC.ns zC).sameBut hs₅ (ne 2 1 (by decide)), ⟨oZ, hs₅.extBut _ _ (ne 3 1 (by decide)) zZ, hoZ⟩, fun p hp => ?_, off₄, J₄⟩
        rcases List.mem_cons.mp hp with rfl | hp
        · exact ⟨hD₅.trans (congrArg some (lst_snoc ys y)), Ne.symm hLD, hD0⟩
        · exact ⟨hs₅.extBut _ _ (off₄ p hp).2.2.1 (N₄' p hp).1, (N₄' p hp).2⟩
      · obtain rfl : i = n := Nat.le_antisymm hi (Nat.not_lt.mp hlt)
        refine (LCg.range_walks (prog := PP) (w := w) hh 0 i).done s' _ _ hit' fun h₂ tk₂ hk₂ => ?_
        have hk₂' : ∀ b o, b ≠ I → s'.heap.get? b = some o → h₂.get? b = some o := fun b o n e => hk₂ b o (by simpa using n) e
        have F₂ : Fr h₀ L h₂ m := by
          obtain ⟨⟨oL, es, ep, g1, g2⟩, ky, ab⟩ := F'
          exact ⟨⟨oL, es, ep, hk₂' _ _ hLI g1, g2⟩, fun b o e => hk₂' _ _ (fun q => by rw [q, hI0] at e; cases e) (ky b o e), ab⟩
        have N₂ : News h₀ L h₂ ((I + 1, lst ys) :: news') := fun p hp => by
          have z := N' p hp
          refine ⟨hk₂' _ _ ?_ z.1, z.2⟩
          rcases List.mem_cons.mp hp with rfl | hp
          · exact Ne.symm (nI 1 (by decide))
          · exact (off' p hp).1
        subst hLe
        show wpAny _ A (assign (.Name y py) env (.ref (I + 1))) _ _ _
        refine wpAny_assign_Name (wpAny_storeName_local hy F₂.ns (fun h₃ hn₃ hs₃ => ?_) hp)
        have hL₀ : h₀.get? env.locals = none := Heap.get?_none_of_le F₂.above
        have F₃ : Fr h₀ env.locals h₃ (fun z => if z = y then some (.ref (I + 1)) else m z) := ⟨hn₃, fun b o e => hs₃.extBut b o (fun q => by rw [q, hL₀] at e; cases e) (F₂.keep b o e), F₂.above⟩
        refine ⟨_, (hn'.at' fun o e => hk₂' _ _ (Ne.symm (nI 2 (by decide))) e).sameBut hs₃ (Ne.symm hLC), fun h'' hs'' => fin (I + 1) _ ys news' J' hyl (F₃.change hs'' (Ne.symm hLC) hC0) (fun p hp => ?_) (fun p hp => (off' p hp).2.2.1) hb' ho'⟩
        have z : h₃.get? p.1 = some p.2 := hs₃.extBut _ _ (N₂ p hp).2.1 (N₂ p hp).1
        refine ⟨hs''.extBut _ _ ?_ z, (N₂ p hp).2⟩
        rcases List.mem_cons.mp hp with rfl | hp
        · exact ne 1 2 (by decide)
        · exact (off' p hp).2.1
    · rw [e3]
      rcases List.mem_cons.mp hp with rfl | hp
      · exact ⟨hacc, Ne.symm hLD, hD0⟩
      · exact ⟨old _ _ (N1 p hp).1, (N1 p hp).2⟩
  exact codeAny_compStart_list (loop _ rfl rfl hb) ((LCg.range_walks (prog := PP) (w := w) hh 0 n).self 0 _ _ _ (old _ _ hst0) (loop _ rfl rfl hb))
end
end Mine
end

section
open PySem PySem.W PySem.Calls PySem.Spec PyProof.Rows
open PyProof.Rows.LCg (NsObj ns_obj lst lst_snoc Off3 Off1 fr_but news_but CompEnd)
open PyProof.Rows.LCp (CompRestP)
set_option Elab.async false
set_option maxRecDepth 100000
set_option maxHeartbeats 8000000
set_option linter.unusedVariables false
namespace Mine
section
variable {prog : Program} {w : World} {A : Around} {E : Value → Shared → Prop} {s : Shared} {h₀ : Heap} {L : Addr} {m : Str → Option Value} {env : Env}
theorem rest_invP {elt : Expr} {x x₂ : Str} {scope : Scope} {cl : List (Str × Addr)} {S : List (Addr × Obj) → Prop} {P : Nat → Value → Prop} {Fin : List Value → List (Addr × Obj) → Prop} {n : Nat} (J : Nat → List Value → List (Addr × Obj) → Prop)
    (turn : ∀ i ys news, i < n → J i ys news → ∀ v, P i v → ∃ (t : Addr) (ot : Obj) (v₁ v₂ : Value) (nt : Nat), v = .ref t ∧ (t, ot) ∈ news ∧ ot.cls = .type "tuple" ∧ ot.data = .seq #[v₁, v₂] nt ∧
      ∀ I oI C oC D m₂ h tk (E' : Value → Shared → Prop), NsObj oC m₂ → m₂ x = some v₁ → m₂ x₂ = some v₂ → Fr h₀ L h m → News h₀ L h ((I, oI) :: (C, oC) :: (D, lst ys) :: news) → Off3 I C D news → ((@Ne Nat I C) ∧ (@Ne Nat I D) ∧ (@Ne Nat C D)) →
      wpAny (model prog w) A (eval elt (compEnvC scope cl C env)) (CompEnd h₀ L m { s with heap := h, toks := tk } I oI C oC D (lst ys) S (fun y news' => J (i + 1) (ys ++ [y]) news')) E' { s with heap := h, toks := tk })
    (fin : ∀ ys news, J n ys news → Fin ys news) : ∀ (k i : Nat) (ys : List Value) (news : List (Addr × Obj)), i + k = n → J i ys news → CompRestP prog w A h₀ L m env elt x x₂ scope cl s S P Fin k i ys news := by
  intro k
  induction k with
  | zero => intro i ys news e j; rw [Nat.add_zero] at e; subst e; exact LCp.CompRestP.zero (fin _ _ j)
  | succ k ih =>
    intro i ys news e j
    refine LCp.CompRestP.succ fun v hv => ?_
    obtain ⟨t, ot, v₁, v₂, nt, a1, a2, a3, a4, z⟩ := turn i ys news (by exact Mine.q_21 e) j v hv
    refine ⟨t, ot, v₁, v₂, nt, a1, a2, a3, a4, fun I oI C oC D m₂ h tk E' b1 b2 b3 b4 b5 b6 b7 => ?_⟩
    refine wpAny_mono (z I oI C oC D m₂ h tk E' b1 b2 b3 b4 b5 b6 b7) (fun y s₂ hy => ?_) fun _ _ e => e
    obtain ⟨h', tk', news', e1, e2, e3, e4, e5, e6⟩ := hy
    exact ⟨h', tk', news', e1, e2, e3, e4, e5, ih (i + 1) _ _ (by exact Mine.q_22 e) e6⟩
end
theorem dat_get {news : List (Addr × Obj)} : ∀ {vs : List Value} {ds : List Dat}, DatAll news vs ds → ∀ {i : Nat} {v : Value}, vs[i]? = some v → ∃ d, ds[i]? = some d ∧ DatIn news v d
  | _, _, .nil, i, v, h => by cases h
  | _, _, .cons a r, 0, v, h => by cases h; exact ⟨_, rfl, a⟩
  | _, _, .cons a r, i + 1, v, h => dat_get r (i := i) h
theorem DatAll.len {news : List (Addr × Obj)} : ∀ {vs : List Value} {ds : List Dat}, DatAll news vs ds → vs.length = ds.length
  | _, _, .nil => rfl
  | _, _, .cons a r => by rw [List.length_cons, List.length_cons, DatAll.len r]
theorem dat_pair {news : List (Addr × Obj)} {v : Value} {a b : Str} (h : DatIn news v (.tuple [.str a, .str b])) : ∃ t n t1 t2, v = .ref t ∧ (t, ({ cls := .type "tuple", data := .seq #[.str a t1, .str b t2] n } : Obj)) ∈ news := by
  cases h with
  | tuple hm r =>
    cases r with
    | cons h1 r =>
      cases r with
      | cons h2 r =>
        cases r
        cases h1
        cases h2
        exact ⟨_, _, _, _, rfl, hm⟩
theorem dat_list {news : List (Addr × Obj)} {v : Value} {ds : List Dat} (h : DatIn news v (.list ds)) : ∃ a n vs, v = .ref a ∧ (a, listOf (List.toArray vs) n) ∈ news ∧ DatAll news vs ds := by
  cases h with
  | list hm r => exact ⟨_, _, _, rfl, hm, r⟩
theorem strs_take {us : List Value} {xs : List Str} {k : Nat} {x : Str} {t : Tok} (h : StrsIs us (xs.take k)) (e : xs[k]? = some x) : StrsIs (us ++ [.str x t]) (xs.take (k + 1)) := by
  rw [List.take_succ, e]
  exact h.app ⟨rfl, fun i y q => by
    match i, q with
    | 0, q => cases q; exact ⟨_, rfl⟩⟩
def catOf (S : Nat → Nat) (c : Nat) : Str := (piece S c).1 ++ (piece S c).2
def textOf (S pos : Nat → Nat) (j : Nat) : Str := Txt.join "" ((chipsAt pos j).map (catOf S))
theorem piece_len {S : Nat → Nat} {c : Nat} (h : S c ≤ 4) : (piece S c).1.length ≤ 4 ∧ (piece S c).2.length ≤ 1 := by
  have e : (piece S c).1.length = S c := eq_of_beq (List.all_eq_true.mp blank_all (S c) (List.mem_range.mpr (by exact Nat.lt_of_le_of_lt h (by decide))))
  exact ⟨by exact Mine.q_26 e h, Nat.le_refl 1⟩
theorem cat_len {S : Nat → Nat} {c : Nat} (h : S c ≤ 4) : (catOf S c).length ≤ 5 := by
  have a := piece_len h
  unfold catOf
  rw [Str.length_append]
  exact Mine.q_27 a
theorem chips_len (pos : Nat → Nat) (j : Nat) : (chipsAt pos j).length ≤ 6 := by
  unfold chipsAt
  exact Nat.le_trans (List.length_filter_le ..) (by rw [List.length_range]; exact Nat.le_refl _)
theorem chips_lt {pos : Nat → Nat} {j c : Nat} (h : c ∈ chipsAt pos j) : c < 6 := List.mem_range.mp (List.mem_filter.mp h).1
theorem sum_cat {S : Nat → Nat} (hS : ∀ c, S c ≤ 4) : ∀ l : List Nat, ((l.map (catOf S)).map (·.length)).sum ≤ 5 * l.length
  | [] => Nat.le_refl _
  | c :: l => by
    have a := cat_len (hS c)
    have b := sum_cat hS l
    simp only [List.map_cons, List.sum_cons, List.length_cons]
    exact Mine.q_28 a b
theorem strs_are : ∀ {vs : List Value} {xs : List Str}, StrsIs vs xs → StrsAre vs xs
  | [], [], _ => .nil
  | [], _ :: _, h => by cases h.1
  | _ :: _, [], h => by cases h.1
  | v :: vs, x :: xs, h => by
    obtain ⟨t, e⟩ := h.2 0 x rfl
    cases e
    exact .cons _ _ (strs_are h.tail)
end Mine
end

section
open PySem PySem.W PySem.Calls PySem.Spec PyProof.Rows
set_option Elab.async false
set_option maxRecDepth 100000
set_option maxHeartbeats 8000000
set_option linter.unusedVariables false
namespace Mine
theorem perm_one {α : Type} {l r : List α} (h : l.Perm r) (hr : r.length ≤ 1) : l = r := by
  match r, hr with
  | [], _ => exact List.Perm.eq_nil h
  | [a], _ => exact List.perm_singleton.mp h
theorem chips_one {ord : List Nat} {P pos : Nat → Nat} (O : Ord ord P) (hpos : ord.map pos = [1, 2, 3, 5, 6, 7]) (j : Nat) : (chipsAt pos j).length ≤ 1 := by
  rcases Nat.lt_or_ge 1 (chipsAt pos j).length with h | h
  · exfalso
    have h0 : (chipsAt pos j)[0]'(by exact Mine.q_57 h) ∈ chipsAt pos j := List.getElem_mem _
    have h1 : (chipsAt pos j)[1]'(by omega) ∈ chipsAt pos j := List.getElem_mem _
    have nd : (chipsAt pos j).Nodup := List.nodup_range.filter _
    have ne : (chipsAt pos j)[0]'(by exact Mine.q_57 h) ≠ (chipsAt pos j)[1]'(by omega) := fun e => by
      have := (List.getElem_inj nd).mp e
      exact Mine.q_58 this
    generalize (chipsAt pos j)[0]'(by exact Mine.q_57 h) = a at h0 ne
    generalize (chipsAt pos j)[1]'(by omega) = b at h1 ne
    have ha : pos a = j := by have := (List.mem_filter.mp h0).2; simpa using this
    have hb : pos b = j := by have := (List.mem_filter.mp h1).2; simpa using this
    have pa := pos_at O hpos (chips_lt h0)
    have pb := pos_at O hpos (chips_lt h1)
    have hma : a ∈ ord := O.perm.mem_iff.mpr (List.mem_range.mpr (chips_lt h0))
    have hmb : b ∈ ord := O.perm.mem_iff.mpr (List.mem_range.mpr (chips_lt h1))
    have ia := List.idxOf_lt_length_iff.mpr hma
    have ib := List.idxOf_lt_length_iff.mpr hmb
    have e : ord.idxOf a = ord.idxOf b := by
      have nd6 : ([1, 2, 3, 5, 6, 7] : List Nat).Nodup := by decide
      rw [O.len] at ia ib
      rw [List.getElem?_eq_getElem (show ord.idxOf a < ([1, 2, 3, 5, 6, 7] : List Nat).length from ia)] at pa
      rw [List.getElem?_eq_getElem (show ord.idxOf b < ([1, 2, 3, 5, 6, 7] : List Nat).length from ib)] at pb
      exact (List.getElem_inj nd6).mp ((Option.some.inj pa).trans (ha.trans (hb.symm.trans (Option.some.inj pb).symm)))
    have ea := List.getElem_idxOf (List.idxOf_lt_length_iff.mpr hma)
    have eb := List.getElem_idxOf (List.idxOf_lt_length_iff.mpr hmb)
    apply ne
    rw [← ea, ← eb]
    simp only [e]
  · exact h
theorem pe_of {h : Heap} : ∀ {items : List Value} {c : List (Str × Str)}, Pieces h items c → ∃ ts : List PE, items = ts.map (fun t => Value.ref t.1) ∧ (∀ t ∈ ts, h.IsTuple t.1 (peVals t)) ∧ ts.map (fun t => (t.2.1, t.2.2.2.1)) = c
  | [], [], _ => ⟨[], rfl, (fun _ h => nomatch h), rfl⟩
  | [], _ :: _, x => by cases x.1
  | _ :: _, [], x => by cases x.1
  | v :: items, d :: c, x => by
    have xt : Pieces h items c := ⟨by have := x.1; simpa using this, fun i v' d' e1 e2 => x.2 (i + 1) v' d' e1 e2⟩
    obtain ⟨ts, rfl, h1, h2⟩ := pe_of xt
    obtain ⟨a, t, u, rfl, ha⟩ := x.2 0 v d rfl rfl
    refine ⟨(a, d.1, t, d.2, u) :: ts, rfl, fun q hq => ?_, by rw [List.map_cons, h2]⟩
    rcases List.mem_cons.mp hq with rfl | hq
    · exact ⟨_, ha, rfl, _, rfl⟩
    · exact h1 q hq
theorem pe_text {S pos : Nat → Nat} {j : Nat} {ts : List PE} (h : ts.map (fun t => (t.2.1, t.2.2.2.1)) = (chipsAt pos j).map (piece S)) : Txt.join "" (ts.map peText) = textOf S pos j := by
  unfold textOf
  congr 1
  have e : ts.map peText = (ts.map (fun t => (t.2.1, t.2.2.2.1))).map (fun d => d.1 ++ d.2) := by rw [List.map_map]; rfl
  rw [e, h, List.map_map]
  rfl
theorem pe_len {S pos : Nat → Nat} {j : Nat} {ts : List PE} (h : ts.map (fun t => (t.2.1, t.2.2.2.1)) = (chipsAt pos j).map (piece S)) (h1 : (chipsAt pos j).length ≤ 1) : (ts.map peLen).sum = ((textOf S pos j).length : Int) := by
  have hl : ts.length = (chipsAt pos j).length := by have := congrArg List.length h; simpa using this
  rw [← pe_text h]
  rw [join_all]
  match ts, (show ts.length ≤ 1 by exact Mine.q_47 hl h1) with
  | [], _ => rfl
  | [e], _ =>
    show peLen e + 0 = ((peText e).length : Int)
    rw [peText_len]
    unfold peLen
    exact Mine.q_59
/-! the entries that bear data -/
def keepE (q : Addr × Obj) : Bool := (q.2.cls == Value.type "tuple") || (q.2.cls == Value.type "list")
mutual
theorem datIn_keep {n : List (Addr × Obj)} : ∀ {v : Value} {d : Dat}, DatIn n v d → DatIn (n.filter keepE) v d
  | _, _, .none => .none
  | _, _, .bool b => .bool b
  | _, _, .int i t => .int i t
  | _, _, .str x t => .str x t
  | _, _, .bytes b t => .bytes b t
  | _, _, .tuple hm r => .tuple (List.mem_filter.mpr ⟨hm, rfl⟩) (datAll_keep r)
  | _, _, .list hm r => .list (List.mem_filter.mpr ⟨hm, rfl⟩) (datAll_keep r)
theorem datAll_keep {n : List (Addr × Obj)} : ∀ {vs : List Value} {ds : List Dat}, DatAll n vs ds → DatAll (n.filter keepE) vs ds
  | _, _, .nil => .nil
  | _, _, .cons h r => .cons (datIn_keep h) (datAll_keep r)
end
theorem keep_cls {n : List (Addr × Obj)} {q : Addr × Obj} (h : q ∈ n.filter keepE) : q.2.cls ≠ .none := by
  have z := (List.mem_filter.mp h).2
  intro e
  unfold keepE at z
  rw [e] at z
  exact absurd z (by decide)
theorem news_at {g h h' : Heap} {L P : Addr} {ps ps' : Array Value} {A B : List (Addr × Obj)} (N : News g L h (A ++ (P, tabObj ps) :: B)) (hA : ∀ q ∈ A, q.1 ≠ P) (hB : ∀ q ∈ B, q.1 ≠ P)
    (hk : ∀ b o, b ≠ P → h.get? b = some o → h'.get? b = some o) (hP : h'.get? P = some (tabObj ps')) : News g L h' (A ++ (P, tabObj ps') :: B) := fun q hq => by
  rcases List.mem_append.mp hq with hq | hq
  · have z := N q (List.mem_append_left _ hq)
    exact ⟨hk _ _ (hA q hq) z.1, z.2⟩
  rcases List.mem_cons.mp hq with rfl | hq
  · have z := N (P, tabObj ps) (List.mem_append_right _ (.head _))
    exact ⟨hP, z.2⟩
  · have z := N q (List.mem_append_right _ (.tail _ hq))
    exact ⟨hk _ _ (hB q hq) z.1, z.2⟩
/-! the texts are sound -/
theorem text_all : ((List.range 5).all fun n => (List.range 6).all fun c => PyData.strOk (Txt.mul (Str.ofString " ") (n : Int) ++ rowS 0 c)) = true := by decide +kernel
theorem empty_ok : PyData.strOk (Str.ofString "") = true := by decide +kernel
theorem text_ok {S pos : Nat → Nat} {j : Nat} (hS : ∀ c, S c ≤ 4) (h1 : (chipsAt pos j).length ≤ 1) : PyData.strOk (textOf S pos j) = true := by
  unfold textOf
  rw [join_all]
  match e : chipsAt pos j, h1 with
  | [], _ => exact empty_ok
  | [c], _ =>
    have hc : c < 6 := chips_lt (pos := pos) (j := j) (by rw [e]; exact .head _)
    exact List.all_eq_true.mp (List.all_eq_true.mp text_all (S c) (List.mem_range.mpr (by have := hS c; exact Nat.lt_of_le_of_lt this (by decide)))) c (List.mem_range.mpr hc)
theorem text_len {S pos : Nat → Nat} {j : Nat} (hS : ∀ c, S c ≤ 4) (h1 : (chipsAt pos j).length ≤ 1) : (textOf S pos j).length ≤ 5 := by
  unfold textOf
  rw [join_all]
  match e : chipsAt pos j, h1 with
  | [], _ => exact Nat.zero_le _
  | [c], _ => exact cat_len (hS c)
theorem piece_all : ((List.range 5).all fun n => (List.range 6).all fun c => PyData.strOk (Txt.mul (Str.ofString " ") (n : Int)) && PyData.strOk (rowS 0 c)) = true := by decide +kernel
theorem piece_ok {S : Nat → Nat} {c : Nat} (hS : S c ≤ 4) (hc : c < 6) : PyData.strOk (piece S c).1 = true ∧ PyData.strOk (piece S c).2 = true := by
  have z := List.all_eq_true.mp (List.all_eq_true.mp piece_all (S c) (List.mem_range.mpr (by exact Nat.lt_of_le_of_lt hS (by decide)))) c (List.mem_range.mpr hc)
  rw [Bool.and_eq_true] at z
  exact z
end Mine
end

section
open PySem PySem.W PySem.Calls PySem.Spec PyProof.Rows
set_option Elab.async false
set_option maxRecDepth 100000
set_option maxHeartbeats 8000000
set_option linter.unusedVariables false
namespace Mine
abbrev pairDat (d : Str × Str) : Dat := .tuple [.str d.1, .str d.2]
theorem reads_pieces {h : Heap} : ∀ {items : List Value} {c : List (Str × Str)}, Pieces h items c → ∃ as, ReadsAll h items (kqdPs (c.map pairDat)) as
  | [], [], _ => ⟨[], ReadsAll.nil⟩
  | [], _ :: _, x => by cases x.1
  | _ :: _, [], x => by cases x.1
  | v :: items, d :: c, x => by
    have xt : Pieces h items c := ⟨by have := x.1; simpa using this, fun i v' d' e1 e2 => x.2 (i + 1) v' d' e1 e2⟩
    obtain ⟨as, r⟩ := reads_pieces xt
    obtain ⟨a, t, u, rfl, ha⟩ := x.2 0 v d rfl rfl
    rw [List.map_cons, kqdPs]
    exact ⟨_, ReadsAll.cons (reads_tuple_at ha rfl rfl (ReadsAll.cons (Reads.str _ _) (ReadsAll.cons (Reads.str _ _) ReadsAll.nil))) r⟩
theorem reads_all {h : Heap} {f : Nat → Dat} : ∀ {n : Nat} {k : Nat} {vs : List Value}, vs.length = n → (∀ j, j < n → ∃ v as, vs[j]? = some v ∧ Reads h v (kqdP (f (k + j))) as) → ∃ as, ReadsAll h vs (kqdPs ((List.range' k n).map f)) as
  | 0, k, [], _, _ => ⟨[], ReadsAll.nil⟩
  | n + 1, k, v :: vs, hl, hr => by
    obtain ⟨v', as, e, r⟩ := hr 0 (Nat.zero_lt_succ _)
    cases e
    obtain ⟨bs, rs⟩ := reads_all (n := n) (k := k + 1) (vs := vs) (by simpa using hl) fun j hj => by
      obtain ⟨v2, as2, e2, r2⟩ := hr (j + 1) (by exact Mine.q_60 hj)
      exact ⟨v2, as2, e2, by rw [show k + 1 + j = k + (j + 1) by exact Mine.q_61]; exact r2⟩
    rw [List.range'_succ, List.map_cons, kqdPs]
    exact ⟨_, ReadsAll.cons r rs⟩
theorem eq_R {prog : Program} {w : World} {A : Around} {E : Value → Shared → Prop} {s : Shared} {a b : Addr} {oa ob : Obj} {xs ys : List Value} {ka kb : Nat} {ds : List Dat} {as bs : List Addr} {Q : Value → Shared → Prop}
    (ma : s.heap.get? a = some oa) (ca : oa.cls = .type "list") (da : oa.data = .seq xs.toArray ka) (ra : ReadsAll s.heap xs (kqdPs ds) as)
    (mb : s.heap.get? b = some ob) (cb : ob.cls = .type "list") (db : ob.data = .seq ys.toArray kb) (rb : ReadsAll s.heap ys (kqdPs ds) bs)
    (ha : ∀ d ∈ ds, kqdOk 8 d = true) (hu : A.units + 64 < cLine) (h : Q (.bool true) s) : wpAny (model prog w) A (compareOp .Eq (.ref a) (.ref b)) Q E s := by
  have la := kqd_lay 9 (.list ds) (by simpa [kqdOk] using ha)
  rw [kqdP] at la
  have e : PyData.eqv (.list (kqdPs ds)) (.list (kqdPs ds)) = true := by
    have q := kqd_eqv 9 (.list ds) (.list ds) 9 (by simpa [kqdOk] using ha) (by simpa [kqdOk] using ha)
    rw [kqdP] at q
    exact q.mpr rfl
  refine eq_dataH (reads_list_at ma ca da (by simpa using ra)) (reads_list_at mb cb db (by simpa using rb)) ?_ ?_ hu (by rw [e]; exact h)
  · unfold SeqAt.shaped; rw [la.1, Bool.true_and]; exact decide_eq_true (Nat.le_trans la.2 (by decide))
  · unfold SeqAt.shaped; rw [la.1, Bool.true_and]; exact decide_eq_true (Nat.le_trans la.2 (by decide))
theorem laid_reads {h : Heap} {its : Array Value} {c : List (Str × Str)} {S pos : Nat → Nat} {j : Nat} {a e : Nat} (hp : Pieces h its.toList c) (hc : c = (chipsAt pos j).map (piece S)) (ha : h.get? a = some (listOf its.toList.toArray e)) : ∃ as, Reads h (.ref a) (kqdP (Dat.list ((chipsAt pos j).map fun k => Dat.tuple [.str (piece S k).1, .str (piece S k).2]))) as := by
  obtain ⟨as, r⟩ := reads_pieces hp
  have e2 : c.map pairDat = (chipsAt pos j).map fun k => Dat.tuple [.str (piece S k).1, .str (piece S k).2] := by rw [hc, List.map_map]; rfl
  rw [e2] at r
  rw [kqdP]
  exact ⟨_, reads_list_at ha rfl rfl (by simpa using r)⟩
theorem pct_filter {g h : Heap} {L b : Addr} {ob : Obj} {Tn news : List (Addr × Obj)} {items : List Value} {c : List (Str × Str)} (N : News g L h news) (hs : ∀ q ∈ Tn, q ∈ news) (hb : (b, ob) ∈ news) (hc : ob.cls ≠ .type "tuple") (x : PcT g Tn items c) : PcT g (Tn.filter fun q => decide (q.1 ≠ b)) items c :=
  ⟨x.1, fun i v d e1 e2 => by
    obtain ⟨a, t, u, q1, q2⟩ := x.2 i v d e1 e2
    refine ⟨a, t, u, q1, q2.imp id fun hm => List.mem_filter.mpr ⟨hm, decide_eq_true ?_⟩⟩
    exact news_apart N (hs _ hm) hb (fun e => hc e.symm)⟩
end Mine
end

section
open PySem PySem.W PySem.Calls PySem.Spec PyProof.Rows
set_option Elab.async false
set_option maxRecDepth 100000
set_option maxHeartbeats 8000000
set_option linter.unusedVariables false
namespace Mine
theorem fill17 : PySem.Challenge.rw_sn0012_01 = PySem.Challenge.rw_sn0012_01 ∧ hd.heap_39 = hd.heap_39 := by
  k_fill
  exact ⟨rfl, rfl⟩
theorem nameC_B {M : Model} {A : Around} {E : Value → Shared → Prop} {s : Shared} {K : Frag} {h₀ : Heap} {L C a : Addr} {m mg mb : Str → Option Value} {scope cs : Scope} {cl cl2 : List (Str × Addr)} {cn : Str} {ccd : Value} {p : Program} {loose : List Str} {x : Str} {pos : Pos} {v : Value} {Q : Value → Shared → Prop}
    (F : Fr h₀ L s.heap m) (X : K.In h₀) (T : TopRead p loose mg mb h₀) (e : nsIn K mainGlobals x = some none) (hv : bootBuiltins x = some v) (hn : x ≠ "__name__") (h : Q v s)
    (hk : scope.kind = .function) (hx : (compEnvC scope cl C (envX cn cs L a ccd cl2)).kindOf x = some .globalImplicit) (hd : (x == ("__debug__" : Str)) = false) :
    wpAny M A (eval (.Name x pos) (compEnvC scope cl C (envX cn cs L a ccd cl2))) Q E s :=
  Name_function_global (by show (relabel scope _).kind = _; unfold relabel; exact hk) hx (loadGlobal_builtin (env := compEnvC scope cl C (envX cn cs L a ccd cl2)) (T.g.keeps F.keep) (mg_none_of X T.g e) (T.b.keeps F.keep) ((T.builtins x hn).trans hv) h) hd
local macro_rules | `(tactic| walk_at "eval Name") => `(tactic| (k_here; (with_reducible show wpAny _ _ (eval (Expr.Name _ _) (compEnvC _ _ _ _)) _ _ _); k_dflt (refine' nameC_B ?F ?X ?T ?e ?hv ?hn ?_ ?hk ?hx ?hd; (case F => k_asm); (case X => k_asm); (case T => k_asm); (case e => k_is); (case hv => first | boot_fast | rfl | kernel_rfl); (case hn => decide); (case hk => rfl); (case hx => rfl); (case hd => decide); k_whole)))
local macro_rules | `(tactic| walk_at "CompSrc") => `(tactic| refine halt ?_)
local macro_rules | `(tactic| walk_at "CompEnd") => `(tactic| refine halt ?_)
local macro_rules | `(tactic| walk_at "CompSrcT") => `(tactic| refine halt ?_)
local macro_rules | `(tactic| walk_at "subscriptTail Name Name ref int") => `(tactic| ((fail_if_success (with_reducible rename NoGen => ng9)); refine haltN 1 ?_))
local macro_rules | `(tactic| walk_at "call ref") => `(tactic| (with_reducible refine hRef 160 ?_))
local macro_rules | `(tactic| walk_at "call ref") => `(tactic| (with_reducible refine hRef 177 ?_))
theorem pick_to6 (items : Array Value) (h : 6 ≤ items.size) : slicePick items none (some 6) none = (items.toList.take 6).toArray := by
  rw [kms_pick_eq]
  unfold kms_pick
  show ((items.toList.drop 0).take (min (6 : Int).toNat items.size - 0)).toArray = _
  rw [List.drop_zero, Nat.sub_zero]
  congr 2
  show min 6 items.size = 6
  exact Mine.q_30 h
theorem ints_at {xs : List (Int × Tok)} {k : Nat} (h : k < xs.length) : ∃ t, (xs.map fun e => Value.int e.1 e.2).toArray[k]? = some (.int ((xs[k]?.map (·.1)).getD 0) t) := by
  refine ⟨xs[k].2, ?_⟩
  rw [List.getElem?_toArray, List.getElem?_map, List.getElem?_eq_getElem h]; rfl
theorem ints_bound {xs : List (Int × Tok)} (h : ∀ e ∈ xs, 0 ≤ e.1 ∧ e.1 < 1000000) (k : Nat) : 0 ≤ (xs[k]?.map (·.1)).getD 0 ∧ (xs[k]?.map (·.1)).getD 0 < 1000000 := by
  cases q : xs[k]? with
  | none => exact ⟨by decide, by decide⟩
  | some e => exact h e (List.mem_of_getElem? q)
theorem fresh_of {g h : Heap} {L a : Addr} {m : Str → Option Value} (F : Fr g L h m) (e : h.get? a = none) : g.get? a = none := by
  cases q : g.get? a with
  | none => rfl
  | some o => have q2 := F.keep _ _ q; rw [e] at q2; cases q2
/-- places and shares of the chips -/
def plN (ch : List (Addr × Int × Int × Tok × Tok)) (k : Nat) : Nat := ((ch[k]?.map fun (e : Addr × Int × Int × Tok × Tok) => e.2.1).getD 0).toNat
def shN (ch : List (Addr × Int × Int × Tok × Tok)) (k : Nat) : Nat := ((ch[k]?.map fun (e : Addr × Int × Int × Tok × Tok) => e.2.2.1).getD 1).toNat
theorem plN_lt {ch : List (Addr × Int × Int × Tok × Tok)} (h : ∀ e ∈ ch, 0 ≤ e.2.1 ∧ e.2.1 < 64) (k : Nat) : plN ch k < 64 := by
  unfold plN
  cases q : ch[k]? with
  | none => decide
  | some e => have := h e (List.mem_of_getElem? q); show e.2.1.toNat < 64; exact Mine.q_31 this
theorem shN_in {ch : List (Addr × Int × Int × Tok × Tok)} {X : Nat → Int} (h : ∀ (j : Nat) e, ch[j]? = some e → e.2.2.1 = 1 + ((X j).fdiv 64).fmod 4) (k : Nat) : 1 ≤ shN ch k ∧ shN ch k ≤ 4 := by
  unfold shN
  cases q : ch[k]? with
  | none => decide
  | some e =>
    have := h k e q
    have b := fmod_in ((X k).fdiv 64) 4 (by decide)
    show 1 ≤ e.2.2.1.toNat ∧ e.2.2.1.toNat ≤ 4
    exact Mine.q_32 b this
theorem plN_ne {ch : List (Addr × Int × Int × Tok × Tok)} (hl : ch.length = 6) (nd : (ch.map (·.2.1)).Nodup) (h : ∀ e ∈ ch, 0 ≤ e.2.1 ∧ e.2.1 < 64) : ∀ j k, j < 6 → k < 6 → j ≠ k → plN ch j ≠ plN ch k := by
  intro j k hj hk hne e
  have ej : ch[j]? = some ch[j] := List.getElem?_eq_getElem (by exact Mine.q_33 hj hl)
  have ek : ch[k]? = some ch[k] := List.getElem?_eq_getElem (by exact Mine.q_33 hk hl)
  unfold plN at e
  rw [ej, ek] at e
  have e2 : (ch[j]).2.1.toNat = (ch[k]).2.1.toNat := e
  have a := h _ (List.getElem_mem (show j < ch.length by exact Mine.q_33 hj hl))
  have b := h _ (List.getElem_mem (show k < ch.length by exact Mine.q_33 hk hl))
  have e3 : (ch.map (·.2.1))[j]'(by rw [List.length_map]; exact Mine.q_33 hj hl) = (ch.map (·.2.1))[k]'(by rw [List.length_map]; exact Mine.q_33 hk hl) := by
    rw [List.getElem_map, List.getElem_map]; exact Mine.q_34 a b e2
  exact hne ((List.getElem_inj nd).mp e3)
theorem chips_get {ch : List (Addr × Int × Int × Tok × Tok)} {X : Nat → Int} {g h : Heap} {L : Addr} {news : List (Addr × Obj)} (N : News g L h news) (hl : ch.length = 6) (hb : ∀ e ∈ ch, 0 ≤ e.2.1 ∧ e.2.1 < 64) (hs : ∀ (j : Nat) e, ch[j]? = some e → e.2.2.1 = 1 + ((X j).fdiv 64).fmod 4)
   (hm : ∀ q ∈ (ch.map fun e => (e.1, tupI e.2.1 e.2.2.1 e.2.2.2.1 e.2.2.2.2)), q ∈ news) : ∀ k, k < 6 → ∃ a t u, (ch.map fun e => Value.ref e.1).toArray[k]? = some (.ref a) ∧ h.get? a = some (tupI (plN ch k) (shN ch k) t u) := by
  intro k hk
  have ek : ch[k]? = some ch[k] := List.getElem?_eq_getElem (by exact Mine.q_33 hk hl)
  have hin : ch[k] ∈ ch := List.getElem_mem (by exact Mine.q_33 hk hl)
  have a := hb _ hin
  have b := hs k _ ek
  have c := fmod_in ((X k).fdiv 64) 4 (by decide)
  refine ⟨ch[k].1, ch[k].2.2.2.1, ch[k].2.2.2.2, by rw [List.getElem?_toArray, List.getElem?_map, ek]; rfl, ?_⟩
  have z := (N _ (hm _ (List.mem_map.mpr ⟨_, hin, rfl⟩))).1
  have e1 : (plN ch k : Int) = ch[k].2.1 := by
    unfold plN; rw [ek]
    show ((ch[k].2.1.toNat : Nat) : Int) = _
    exact Mine.q_35 a
  have e2 : (shN ch k : Int) = ch[k].2.2.1 := by
    unfold shN; rw [ek]
    show ((ch[k].2.2.1.toNat : Nat) : Int) = _
    exact Mine.q_36 c b
  rw [e1, e2]
  exact z
theorem ints_snoc (xs : List (Int × Tok)) (v : Int) (t : Tok) : xs.map (fun e => Value.int e.1 e.2) ++ [Value.int v t] = (xs ++ [(v, t)]).map (fun e => Value.int e.1 e.2) := by simp
theorem tupI_data {p s : Int} {t u : Tok} : (∀ v, (tupI p s t u).data ≠ .cell v) ∧ (tupI p s t u).cls ≠ .type "list" ∧ (tupI p s t u).cls ≠ .none ∧ (tupI p s t u).cls ≠ .type "range" := by
  refine ⟨fun v e => (by cases e), ?_, ?_, ?_⟩ <;> (show Value.type "tuple" ≠ _; first | decide | exact fun h => nomatch h)
theorem off_tab {g h : Heap} {L P : Addr} {ps : Array Value} {news : List (Addr × Obj)} (N : News g L h news) (hm : (P, tabObj ps) ∈ news) {q : Addr × Obj} (hq : q ∈ news) (hc : q.2.cls ≠ .none ∨ ∃ v, q.2.data = .cell v) : q.1 ≠ P := fun e => by
  have a := (N _ hq).1
  have b := (N _ hm).1
  dsimp only at b
  rw [e, b] at a
  have c := Option.some.inj a
  rcases hc with hc | ⟨v, hc⟩
  · exact hc (by rw [← c])
  · rw [← c] at hc; cases hc
theorem off_cell {g h : Heap} {L c : Addr} {o : Obj} {x : Option Value} {news : List (Addr × Obj)} (N : News g L h news) (hm : (c, o) ∈ news) (hd : o.data = .cell x) {q : Addr × Obj} (hq : q ∈ news) (hc : ∀ v, q.2.data ≠ .cell v) : q.1 ≠ c := fun e => by
  have a := (N _ hq).1
  have b := (N _ hm).1
  dsimp only at b
  rw [e, b] at a
  have z := Option.some.inj a
  exact hc x (by rw [← z]; exact hd)
theorem chips_mem {ch : List (Addr × Int × Int × Tok × Tok)} {X : Nat → Int} {TT : List (Addr × Obj)} (hl : ch.length = 6) (hb : ∀ e ∈ ch, 0 ≤ e.2.1 ∧ e.2.1 < 64) (hs : ∀ (j : Nat) e, ch[j]? = some e → e.2.2.1 = 1 + ((X j).fdiv 64).fmod 4)
   (hm : ∀ q ∈ (ch.map fun e => (e.1, tupI e.2.1 e.2.2.1 e.2.2.2.1 e.2.2.2.2)), q ∈ TT) : ∀ k : Nat, k < 6 → ∃ a t u, (ch.map fun e => Value.ref e.1).toArray[(0 + (k : Int)).toNat]? = some (.ref a) ∧ (a, tupI (plN ch k) (shN ch k) t u) ∈ TT := by
  intro k hk
  have ek : ch[k]? = some ch[k] := List.getElem?_eq_getElem (by exact Mine.q_33 hk hl)
  have hin : ch[k] ∈ ch := List.getElem_mem (by exact Mine.q_33 hk hl)
  have a := hb _ hin
  have b := hs k _ ek
  have c := fmod_in ((X k).fdiv 64) 4 (by decide)
  refine ⟨ch[k].1, ch[k].2.2.2.1, ch[k].2.2.2.2, by rw [Int.zero_add, Int.toNat_natCast, List.getElem?_toArray, List.getElem?_map, ek]; rfl, ?_⟩
  have z := hm _ (List.mem_map.mpr ⟨_, hin, rfl⟩)
  have e1 : (plN ch k : Int) = ch[k].2.1 := by
    unfold plN; rw [ek]
    show ((ch[k].2.1.toNat : Nat) : Int) = _
    exact Mine.q_35 a
  have e2 : (shN ch k : Int) = ch[k].2.2.1 := by
    unfold shN; rw [ek]
    show ((ch[k].2.2.1.toNat : Nat) : Int) = _
    exact Mine.q_36 c b
  rw [e1, e2]
  exact z
/-- no entry lies at c -/
structure OffC (T : List (Addr × Obj)) (c : Addr) : Prop where
  h : ∀ q ∈ T, q.1 ≠ c
local macro_rules | `(tactic| walk_at "assign Tuple cons ref") => `(tactic| refine haltN 2 ?_)
local macro_rules | `(tactic| walk_at "call builtin:list.index") => `(tactic| refine halt ?_)
local macro_rules | `(tactic| walk_at "subscriptTail") => `(tactic| ((with_reducible show wpAny _ _ (subscriptTail (Expr.List _ _) _ (Value.ref _) (Value.int _ _)) _ _ _); refine halt ?_))
local macro_rules | `(tactic| walk_at "binaryOp Add ref ref") => `(tactic| refine halt ?_)
local macro_rules | `(tactic| walk_at "compareOp NotEq ref ref") => `(tactic| refine halt ?_)
local macro_rules | `(tactic| walk_at "call builtin:sorted") => `(tactic| refine halt ?_)
local macro_rules | `(tactic| walk_at "eval Lambda Subscript") => `(tactic| refine halt ?_)
theorem ne_same {α : Type} {a b : α} {inst : Decidable (a = b)} (e : a = b) : (!@decide (a = b) inst) = false := by rw [decide_eq_true e]; rfl
theorem eq_same {α : Type} {a b : α} {inst : Decidable (a = b)} (e : a = b) : @decide (a = b) inst = true := decide_eq_true e
def laidD (S pos : Nat → Nat) (j : Nat) : Dat := .list ((chipsAt pos j).map fun k => Dat.tuple [.str (piece S k).1, .str (piece S k).2])
local macro_rules | `(tactic| walk_at "exec Assign cons ListComp") => `(tactic| ((with_reducible show wpAny _ _ (exec (Stmt.Assign _ (Expr.ListComp (Expr.ListComp _ _ _ _) _ _ _) _) _) _ _ _); refine halt ?_))
local macro_rules | `(tactic| walk_at "subscriptTail Name Constant ref int") => `(tactic| refine halt ?_)
local macro_rules | `(tactic| walk_at "SrcLP") => `(tactic| refine halt ?_)
local macro_rules | `(tactic| walk_at "call builtin:str.join") => `(tactic| refine halt ?_)
local macro_rules | `(tactic| walk_at "eval ListComp") => `(tactic| ((with_reducible show wpAny _ _ (eval (Expr.ListComp (Expr.BinOp _ _ _ _) _ _ _) _) _ _ _); refine halt ?_))
local macro_rules | `(tactic| walk_at "binaryOp Add str str") => `(tactic| ((with_reducible show wpAny _ _ (binaryOp Operator.Add (Value.str (piece _ _).1 _) (Value.str (piece _ _).2 _)) _ _ _); refine halt ?_))
local macro_rules | `(tactic| walk_at "eval ListComp") => `(tactic| ((with_reducible show wpAny _ _ (eval (Expr.ListComp (Expr.Tuple _ _ _) _ _ _) _) _ _ _); refine halt ?_))
local macro_rules | `(tactic| walk_at "CompEndT") => `(tactic| refine halt ?_)
local macro_rules | `(tactic| walk_at "call builtin:len") => `(tactic| ((with_reducible show wpAny _ _ (call (Value.builtin "len") [Value.str (textOf _ _ _) _]) _ _ _); refine haltN 3 ?_))
/-- while this stands, len of an object halts the walk -/
structure LenHalt : Prop where
local macro_rules | `(tactic| walk_at "call builtin:len") => `(tactic| ((with_reducible rename LenHalt => lh9); with_reducible refine hLenR ?_))
local macro_rules | `(tactic| walk_at "call type:str") => `(tactic| refine halt ?_)
theorem keep_cls2 {n : List (Addr × Obj)} {q : Addr × Obj} (h : q ∈ n.filter keepE) : q.2.cls ≠ .ref 149 := by
  have z := (List.mem_filter.mp h).2
  intro e
  unfold keepE at z
  rw [e] at z
  exact absurd z (by decide)
local macro_rules | `(tactic| walk_at "getMethod ref") => `(tactic| ((with_reducible show wpAny _ _ (getMethod (Value.ref _) (PySem.Str.ofString "pop_from") _) _ _ _); refine halt ?_))
local macro_rules | `(tactic| walk_at "call ref") => `(tactic| (with_reducible refine hRef 101 ?_))
local macro_rules | `(tactic| walk_at "compareOp Eq ref ref") => `(tactic| refine halt ?_)
def pairD (S pos : Nat → Nat) (j : Nat) : Dat := .tuple [.int ((textOf S pos j).length : Int), .str (textOf S pos j)]
theorem law_c {w : World} {A : Around} {s : Shared} {h₀ : Heap} {R' : Result → Shared → Prop} {mean : ExcName → Option Value} {mg mb : Str → Option Value}
   {sa : Addr} {vs : List Value} {ns : List Int}
   (G : Gd w mean mg mb h₀) (k : Sub h₀ s.heap) (hn3 : ∀ a ∈ tabs3, h₀.get? a = none)
   (hsl : s.heap.IsList sa vs.toArray) (hI : IntsAre vs ns) (hz : ns.length ≤ 63) (hsa : sa ∉ tabs3) (htab : ∀ a ∈ tabs3, s.heap.get? a = some (tabObj #[])) (hbare : AllBare s.gens)
   (hdp : A.depth + 300 < recursionLimit) (hun : A.units + 3000 < cLine) (hh : A.handled = none)
   (hres : ∀ (s' : Shared), s'.os = s.os → AllBare s'.gens → (∀ b o, b ∉ tabs3 → s.heap.get? b = some o → s'.heap.get? b = some o) → (∀ b ∈ tabs3, ∃ ps, s'.heap.get? b = some (tabObj ps)) → R' (.ok (.ret (.bool true))) s') :
   codeAny (model PP w) A (.call (.ref 182) ⟨[.ref sa], []⟩) R' s := by
  obtain ⟨hd0, dp, fr, gd, un⟩ := A
  dsimp only at hdp hun hh
  subst hh
  refine' enterC tabs3 [("script", .ref sa)] G k hn3 (f := 182) ?k6 ?k7 ?k8 ?k9 ?kB ?kN ?c2 ?c3 ?c4 ?_; (case k6 => k_is); (case k7 => k_is); (case k8 => (show dp < _; exact Mine.o_d0 hdp)); (case k9 => exact BindsTo.of_eq rfl)
  case kB =>
    intro n x hx
    simp only [List.mem_cons, List.not_mem_nil, or_false] at hx
    rcases hx with rfl
    exact .inr ⟨rfl, rfl⟩
  case kN => decide
  case c2 => exact rfl
  case c3 => exact rfl
  case c4 => exact rfl
  intro h₁ g tk cells F k1 eg G1 X T N0 Y
  have hY := kc_five Y
  obtain ⟨o1, o2, o3, o4, o5, hE', d1', d2', d3', d4', d5'⟩ := hY
  subst hE'
  clear Y
  have tb : ∀ a ∈ tabs3, h₁.get? a = some (tabObj #[]) ∧ a ≠ s.heap.objs.size ∧ g.get? a = none := fun a ha => ⟨k1 _ _ (htab a ha), Nat.ne_of_lt (Heap.lt_size (htab a ha)), by rw [eg]; exact hideAll_none _ ha⟩
  have t1' := tb 111 (by decide)
  have t2' := tb 118 (by decide)
  have t3' := tb 179 (by decide)
  have Nt := news_cons (news_cons (news_cons N0 t3'.1 t3'.2.1 t3'.2.2) t2'.1 t2'.2.1 t2'.2.2) t1'.1 t1'.2.1 t1'.2.2
  clear tb t1' t2' t3'
  have lt1 : @LT.lt Nat _ 111 s.heap.objs.size := Heap.lt_size (htab 111 (by decide))
  have lt2 : @LT.lt Nat _ 118 s.heap.objs.size := Heap.lt_size (htab 118 (by decide))
  have lt3 : @LT.lt Nat _ 179 s.heap.objs.size := Heap.lt_size (htab 179 (by decide))
  clear N0
  have up : ∀ b o, b ∉ tabs3 → s.heap.get? b = some o → g.get? b = some o := fun b o n e => by rw [eg]; exact hideAll_get _ e n
  have F0 : Fr g s.heap.objs.size h₁ (fun y => none) := F
  clear F
  have hgs : g.IsList sa vs.toArray := by
    obtain ⟨o, ho, r⟩ := hsl
    exact ⟨o, up _ _ hsa ho, r⟩
  have c1 : o1.data = .cell none := d1'
  have c2 : o2.data = .cell none := d2'
  have c3 : o3.data = .cell none := d3'
  have c4 : o4.data = .cell none := d4'
  have c5 : o5.data = .cell (some (.ref sa)) := d5'
  clear d1' d2' d3' d4' d5'
  k_steps
  unfold Halt
  rename Fr _ _ _ _ => Fq
  rename News _ _ _ _ => Nq
  rename IsRange _ _ _ _ _ _ _ _ => hr9
  rename_i spl h91 l91 h92 o9 F91 N91 c91 h93 tk93 t1 u1 v1 aq
  obtain ⟨spa, hspa, Nq2⟩ : ∃ spa : Array Value, (∀ k, k < 20 → ∃ v t, spa[k]? = some (.int v t) ∧ 0 ≤ v ∧ v < 1000000) ∧ News g s.heap.objs.size h93 [(spl, listOf spa 0), (111, tabObj #[]), (118, tabObj #[]), (179, tabObj #[]), (s.heap.objs.size + 1 + 1 + 1 + 1 + 1, o1), (s.heap.objs.size + 1 + 1 + 1 + 1, o2), (s.heap.objs.size + 1 + 1 + 1, o3), (s.heap.objs.size + 1 + 1, o9), (s.heap.objs.size + 1, o5)] := by
    refine ⟨_, ?_, Nq⟩
    intro k hk
    match k, hk with
    | 0, _ => exact ⟨40, _, rfl, by decide, by decide⟩
    | 1, _ => exact ⟨69, _, rfl, by decide, by decide⟩
    | 2, _ => exact ⟨200, _, rfl, by decide, by decide⟩
    | 3, _ => exact ⟨175, _, rfl, by decide, by decide⟩
    | 4, _ => exact ⟨88, _, rfl, by decide, by decide⟩
    | 5, _ => exact ⟨164, _, rfl, by decide, by decide⟩
    | 6, _ => exact ⟨0, _, rfl, by decide, by decide⟩
    | 7, _ => exact ⟨31, _, rfl, by decide, by decide⟩
    | 8, _ => exact ⟨7, _, rfl, by decide, by decide⟩
    | 9, _ => exact ⟨58, _, rfl, by decide, by decide⟩
    | 10, _ => exact ⟨12, _, rfl, by decide, by decide⟩
    | 11, _ => exact ⟨93, _, rfl, by decide, by decide⟩
    | 12, _ => exact ⟨4, _, rfl, by decide, by decide⟩
    | 13, _ => exact ⟨26, _, rfl, by decide, by decide⟩
    | 14, _ => exact ⟨81, _, rfl, by decide, by decide⟩
    | 15, _ => exact ⟨45, _, rfl, by decide, by decide⟩
    | 16, _ => exact ⟨3, _, rfl, by decide, by decide⟩
    | 17, _ => exact ⟨64, _, rfl, by decide, by decide⟩
    | 18, _ => exact ⟨17, _, rfl, by decide, by decide⟩
    | 19, _ => exact ⟨50, _, rfl, by decide, by decide⟩
    | k + 20, h => exact absurd h (by exact Mine.q_37)
  clear Nq N91 F91 aq
  refine LCg.CompSrc.range rfl Fq Nq2 hr9 (by decide) (n := 20) (by decide) (by rw [sizeLine_eq]; decide) fun g' => ?_
  refine rest_inv (n := 20) (J := fun i ys news => news = [(spl, listOf spa 0), (111, tabObj #[]), (118, tabObj #[]), (179, tabObj #[]), (s.heap.objs.size + 1 + 1 + 1 + 1 + 1, o1), (s.heap.objs.size + 1 + 1 + 1 + 1, o2), (s.heap.objs.size + 1 + 1 + 1, o3), (s.heap.objs.size + 1 + 1, o9), (s.heap.objs.size + 1, o5)] ∧ ∃ xs : List (Int × Tok), xs.length = i ∧ ys = xs.map (fun e => Value.int e.1 e.2) ∧ ∀ e ∈ xs, 0 ≤ e.1 ∧ e.1 < 1000000) ?turn ?fin _ 0 [] _ (Nat.zero_add _) ⟨rfl, [], rfl, rfl, (fun e q => nomatch q)⟩
  case turn =>
    rintro i ys news hi ⟨rfl, xs, hxl, rfl, hxs⟩ v I oI C oC D m₂ h tk E' hv hC hx F' N' off ne
    obtain ⟨tv, rfl⟩ := hv
    clear Fq Nq2 hr9
    obtain ⟨sv, st, hsv, hs0, hs1⟩ := hspa i hi
    have hsv2 : spa[(0 + (i : Int)).toNat]? = some (Value.int sv st) := by rw [show (0 + (i : Int)).toNat = i by exact Mine.q_38]; exact hsv
    have ng9 : NoGen := ⟨⟩
    skip; k_steps
    all_goals clear ng9
    k_steps
    repeat (any_goals (first
      | ((with_reducible refine goN 1 ?_); k_dflt (first | (refine' item_K ?q9N ?q9hm ?q9h0 ?q9hf ?q9hx ?_ ?q9hs; (case q9N => k_asm); (case q9hm => k_mem); (case q9h0 => exact Mine.q_39); (case q9hf => exact Mine.q_40 hi); (case q9hx => with_reducible assumption); (case q9hs => with_unfolding_all rfl); k_whole) | (refine' item_G ?q9hl ?q9h0 ?q9hf ?q9hx ?_ ?q9hs; (case q9hl => exact Fr.keep (by k_asm) _ _ (by assumption)); (case q9h0 => omega); (case q9hf => omega); (case q9hx => first | with_reducible assumption | rfl | assumption); (case q9hs => with_unfolding_all rfl); k_whole)); k_steps)))
    all_goals (
      unfold Halt
      rename Fr _ _ _ _ => Fx
      rename News _ _ _ _ => Nx
      refine LCg.CompEnd.intro Fx Nx _ (fun q hq => hq) off trivial ⟨rfl, xs ++ [(_, _)], by rw [List.length_append, hxl]; rfl, ints_snoc xs _ _, fun e he => ?_⟩
      rcases List.mem_append.mp he with he | he
      · exact hxs e he
      · rw [List.mem_singleton] at he
        subst he
        first
        | exact ⟨hs0, hs1⟩
        | exact fmod_in _ _ (by decide))
  case fin =>
    rintro ys news ⟨rfl, xs, hxl, rfl, hxs⟩
    show LCg.FinA _ _ _ _ _ _ _ _
    unfold LCg.FinA
    intro D h tk F' N' o1'
    clear Fq Nq2 hr9
    (try dsimp only at F' N' ⊢)
    k_steps
    unfold Halt
    rename Fr _ _ _ _ => F2
    rename News _ _ _ _ => N2
    have hxz : 6 ≤ (xs.map fun e => Value.int e.1 e.2).toArray.size := by rw [List.size_toArray, List.length_map, hxl]; decide
    have e6 : slicePick (xs.map fun e => Value.int e.1 e.2).toArray none (some 6) none = ((xs.take 6).map fun e => Value.int e.1 e.2).toArray := by
      rw [pick_to6 _ hxz, List.map_take]
    have z1 := (N2 _ (.head _)).1
    rw [e6] at z1
    have hx6 : (xs.take 6).length = 6 := by rw [List.length_take, hxl]; rfl
    have hxb : ∀ e ∈ xs.take 6, 0 ≤ e.1 ∧ e.1 < 1000000 := fun e he => hxs e (List.mem_of_mem_take he)
    refine wpAny_call ?_
    refine chips_c (X := fun k => ((xs.take 6)[k]?.map (·.1)).getD 0) G1 F2.keep z1 (by rw [List.size_toArray, List.length_map, hx6]) (fun k hk => ints_at (by exact Mine.q_33 hk hx6)) (fun k => ints_bound hxb k) ?dp9 ?un9 rfl ?_
    case dp9 => (simp only [depth_deeper]; exact Mine.o_d2 hdp)
    case un9 => (simp only [units_deeper]; exact Mine.o_d2 hun)
    intro h3 tk3 r3 ep3 ch hcl hr3 hche hnd hpb hshe k3 hr0 hch0
    have F3 := fr_sub F2 k3
    have r3L := ne_local F3 hr3 (fun es ep q => by cases q)
    have NC : News g s.heap.objs.size h3 (ch.map fun e => (e.1, tupI e.2.1 e.2.2.1 e.2.2.2.1 e.2.2.2.2)) := by
      intro q hq
      obtain ⟨e, he, rfl⟩ := List.mem_map.mp hq
      exact ⟨hche e he, ne_local F3 (hche e he) (fun es ep q => by cases q), fresh_of F2 (hch0 e he)⟩
    have N2b := news_sub N2 k3
    have N3 : News g s.heap.objs.size h3 ((s.heap.objs.size + 1 + 1 + 1 + 1 + 1, o1) :: (r3, listOf (ch.map fun e => Value.ref e.1).toArray ep3) :: (D, LCg.lst (xs.map fun e => Value.int e.1 e.2)) :: (s.heap.objs.size + 1 + 1 + 1 + 1, o2) :: (s.heap.objs.size + 1 + 1 + 1, o3) :: (111, tabObj #[]) :: (118, tabObj #[]) :: (179, tabObj #[]) :: (ch.map fun e => (e.1, tupI e.2.1 e.2.2.1 e.2.2.2.1 e.2.2.2.2))) := by
      refine all_cons ?_ ?_
      · exact N2b _ (List.mem_of_getElem? (i := 6) rfl)
      refine all_cons ?_ ?_
      · exact ⟨hr3, r3L, fresh_of F2 hr0⟩
      refine all_cons ?_ ?_
      · exact N2b _ (List.mem_of_getElem? (i := 1) rfl)
      refine all_cons ?_ ?_
      · exact N2b _ (List.mem_of_getElem? (i := 7) rfl)
      refine all_cons ?_ ?_
      · exact N2b _ (List.mem_of_getElem? (i := 8) rfl)
      refine all_cons ?_ ?_
      · exact N2b _ (List.mem_of_getElem? (i := 3) rfl)
      refine all_cons ?_ ?_
      · exact N2b _ (List.mem_of_getElem? (i := 4) rfl)
      refine all_cons ?_ ?_
      · exact N2b _ (List.mem_of_getElem? (i := 5) rfl)
      intro q hq
      exact NC _ hq
    (try dsimp only at F3 ⊢)
    refine storeX_C (c := s.heap.objs.size + 1 + 1 + 1 + 1 + 1) (o := o1) F3 N3 rfl (UpdF.head fun q hq => ?_) c1 (fun h4 o4' F4 N4 d4 => ?_) rfl rfl
    · rcases List.mem_cons.mp hq with rfl | hq
      · exact news_off N3 (List.mem_of_getElem? (i := 1) rfl) (q := (_, o1)) (.head _) (fun e => by dsimp only at e; rw [← e] at c1; cases c1)
      rcases List.mem_cons.mp hq with rfl | hq
      · exact news_off N3 (List.mem_of_getElem? (i := 2) rfl) (q := (_, o1)) (.head _) (fun e => by dsimp only at e; rw [← e] at c1; cases c1)
      rcases List.mem_cons.mp hq with rfl | hq
      · exact Nat.ne_of_lt (Nat.lt_succ_self _)
      rcases List.mem_cons.mp hq with rfl | hq
      · exact Nat.ne_of_lt (Nat.lt_succ_of_lt (Nat.lt_succ_self _))
      rcases List.mem_cons.mp hq with rfl | hq
      · exact news_off N3 (List.mem_of_getElem? (i := 5) rfl) (q := (_, o1)) (.head _) (fun e => by dsimp only at e; rw [← e] at c1; cases c1)
      rcases List.mem_cons.mp hq with rfl | hq
      · exact news_off N3 (List.mem_of_getElem? (i := 6) rfl) (q := (_, o1)) (.head _) (fun e => by dsimp only at e; rw [← e] at c1; cases c1)
      rcases List.mem_cons.mp hq with rfl | hq
      · exact news_off N3 (List.mem_of_getElem? (i := 7) rfl) (q := (_, o1)) (.head _) (fun e => by dsimp only at e; rw [← e] at c1; cases c1)
      obtain ⟨e, he, rfl⟩ := List.mem_map.mp hq
      exact news_off N3 (.tail _ (.tail _ (.tail _ (.tail _ (.tail _ (.tail _ (.tail _ (.tail _ hq)))))))) (q := (_, o1)) (.head _) (fun e => by dsimp only at e; rw [← e] at c1; cases c1)
    clear N3 N2b NC F3 N2 F2
    (try dsimp only at F4 N4 ⊢)
    k_steps
    unfold Halt
    rename Fr _ _ _ _ => F5
    rename News _ _ _ _ => N5
    have e7 : slicePick (xs.map fun e => Value.int e.1 e.2).toArray (some 6) none none = ((xs.drop 6).map fun e => Value.int e.1 e.2).toArray := by
      rw [pick_from _ (by decide), List.map_drop]; rfl
    have z5 := (N5 _ (.head _)).1
    rw [e7] at z5
    have hx14 : (xs.drop 6).length = 14 := by rw [List.length_drop, hxl]
    have hxb2 : ∀ e ∈ xs.drop 6, 0 ≤ e.1 ∧ e.1 < 1000000 := fun e he => hxs e (List.mem_of_mem_drop he)
    have hcg := chips_get N5 hcl hpb hshe (fun q hq => .tail _ (.tail _ (.tail _ (.tail _ (.tail _ (.tail _ (.tail _ (.tail _ (.tail _ hq)))))))))
    obtain ⟨ord, O⟩ := ord_ex (plN_ne hcl hnd hpb)
    have hPl := plN_lt hpb
    have hSl := shN_in hshe
    refine wpAny_call ?_
    refine run_c (P := plN ch) (S := shN ch) (W := fun k => ((xs.drop 6)[k]?.map (·.1)).getD 0) (ord := ord) G1 F5.keep (N5 _ (.tail _ (.tail _ (.head _)))).1 (by rw [List.size_toArray, List.length_map, hcl]) hcg z5 (by rw [List.size_toArray, List.length_map, hx14]) (fun k hk => ints_at (by exact Mine.q_41 hk hx14)) (fun k => ints_bound hxb2 k) hPl hSl O ?dp8 ?un8 rfl ?_
    case dp8 => (simp only [depth_deeper]; exact Mine.o_d2 hdp)
    case un8 => (simp only [units_deeper]; exact Mine.o_d2 hun)
    intro h6 tk6 r6 ra pla ls er pa p dx tt its ep pc pos hpos hls hr6 hra hpla hpz hps inj HO hpm hfr hn1 hn2 hn9 k6
    have F6 := fr_sub F5 k6
    have N5b := news_sub N5 k6
    have frp : ∀ j, j < 9 → p j ≠ s.heap.objs.size ∧ dx j ≠ s.heap.objs.size ∧ g.get? (p j) = none ∧ g.get? (dx j) = none := by
      intro j hj
      refine ⟨ne_local F6 (HO.pile j hj) (fun es ep q => by cases q), fun q => ?_, fresh_of F5 (hfr j hj).1, fresh_of F5 (hfr j hj).2⟩
      obtain ⟨oL, es, epL, e1, _⟩ := F5.ns
      have z := (hfr j hj).2
      rw [q] at z
      have z2 := z.symm.trans e1
      cases z2
    obtain ⟨T, NT, PO, hTe⟩ := mkLed2 F6 HO frp
    obtain ⟨TT, hTT⟩ : ∃ TT, TT = T ++ (ch.map fun e => (e.1, tupI e.2.1 e.2.2.1 e.2.2.2.1 e.2.2.2.2)) := ⟨_, rfl⟩
    have NTT : News g s.heap.objs.size h6 TT := by
      rw [hTT]
      exact news_app NT fun q hq => N5b q (.tail _ (.tail _ (.tail _ (.tail _ (.tail _ (.tail _ (.tail _ (.tail _ (.tail _ hq)))))))))
    have hTm : ∀ q ∈ T, q ∈ TT := fun q hq => hTT ▸ List.mem_append_left _ hq
    have hCm : ∀ q ∈ (ch.map fun e => (e.1, tupI e.2.1 e.2.2.1 e.2.2.2.1 e.2.2.2.2)), q ∈ TT := fun q hq => hTT ▸ List.mem_append_right _ hq
    have hTd : ∀ q ∈ TT, (∀ v, q.2.data ≠ .cell v) ∧ q.2.cls ≠ .type "list" ∧ q.2.cls ≠ .none ∧ q.2.cls ≠ .type "range" := fun q hq => by
      rw [hTT] at hq
      rcases List.mem_append.mp hq with hq | hq
      · exact (hTe q hq).data
      · obtain ⟨e, he, rfl⟩ := List.mem_map.mp hq
        exact tupI_data
    have N6 := news_cons (news_cons (news_cons (news_cons (news_cons (news_cons (news_cons (news_cons (news_cons (news_cons NTT
      (N5b _ (List.mem_of_getElem? (i := 8) rfl)).1 (N5b _ (List.mem_of_getElem? (i := 8) rfl)).2.1 (N5b _ (List.mem_of_getElem? (i := 8) rfl)).2.2)
      (N5b _ (List.mem_of_getElem? (i := 7) rfl)).1 (N5b _ (List.mem_of_getElem? (i := 7) rfl)).2.1 (N5b _ (List.mem_of_getElem? (i := 7) rfl)).2.2)
      (N5b _ (List.mem_of_getElem? (i := 6) rfl)).1 (N5b _ (List.mem_of_getElem? (i := 6) rfl)).2.1 (N5b _ (List.mem_of_getElem? (i := 6) rfl)).2.2)
      (N5b _ (List.mem_of_getElem? (i := 5) rfl)).1 (N5b _ (List.mem_of_getElem? (i := 5) rfl)).2.1 (N5b _ (List.mem_of_getElem? (i := 5) rfl)).2.2)
      (N5b _ (List.mem_of_getElem? (i := 4) rfl)).1 (N5b _ (List.mem_of_getElem? (i := 4) rfl)).2.1 (N5b _ (List.mem_of_getElem? (i := 4) rfl)).2.2)
      (N5b _ (List.mem_of_getElem? (i := 2) rfl)).1 (N5b _ (List.mem_of_getElem? (i := 2) rfl)).2.1 (N5b _ (List.mem_of_getElem? (i := 2) rfl)).2.2)
      (N5b _ (List.mem_of_getElem? (i := 1) rfl)).1 (N5b _ (List.mem_of_getElem? (i := 1) rfl)).2.1 (N5b _ (List.mem_of_getElem? (i := 1) rfl)).2.2)
      hpla (ne_local F6 hpla (fun es ep q => by cases q)) (fresh_of F5 hn9))
      hra (ne_local F6 hra (fun es ep q => by cases q)) (fresh_of F5 hn2))
      hr6 (ne_local F6 hr6 (fun es ep q => by cases q)) (fresh_of F5 hn1)
    dsimp only at N6
    clear N5b NT NTT N5 F5
    k_steps
    repeat (any_goals (first
      | ((with_reducible refine goN 2 ?_); k_dflt (refine' unpackN_ ?q9F ?q9N ?q9T ?q9k1 ?q9k2 ?q9k3 ?_; (case q9F => k_asm); (case q9N => k_asm); (case q9T => first | exact Fr.tup (by k_asm) (by assumption) | exact News.isTup (by k_asm) (by k_mem)); (case q9k1 => exact rfl); (case q9k2 => exact rfl); (case q9k3 => exact rfl); k_whole); intro _ _ _; k_steps)))
    unfold Halt
    rename Fr _ _ _ _ => F7
    rename_i h6r F6r N6r h7 tk7 t7 u7 v7 hr7 N7 keep7
    obtain ⟨rr, hrr⟩ : ∃ rr, rr = h6r.objs.size := ⟨_, rfl⟩
    have hr8 : IsRange h7 rr 0 6 1 t7 u7 v7 := hrr ▸ hr7
    have rrL : rr ≠ s.heap.objs.size := ne_local F7 hr8 (fun es ep q => by cases q)
    have rr0 : g.get? rr = none := by
      refine fresh_of F6r ?_
      rw [hrr]
      exact Heap.get?_none_of_le (Nat.le_refl _)
    have C179 : CodeHd g 181 179 := codeHd_of_K X (by kernel_rfl)
    have N8 := news_weak (news_cons N7 hr8 rrL rr0) (news' := (179, tabObj #[]) :: (rr, _) :: (ra, listOf (strValues ls).toArray er) :: (pla, listOf pa 9) :: (s.heap.objs.size + 1 + 1 + 1 + 1 + 1, o4') :: (r3, listOf (ch.map fun e => Value.ref e.1).toArray ep3) :: (s.heap.objs.size + 1 + 1 + 1 + 1, o2) :: (s.heap.objs.size + 1 + 1 + 1, o3) :: (111, tabObj #[]) :: (118, tabObj #[]) :: TT) (fun q hq => by
      revert q
      refine all_cons ?_ ?_
      · exact List.mem_of_getElem? (i := 10) rfl
      refine all_cons ?_ ?_
      · exact List.mem_of_getElem? (i := 0) rfl
      refine all_cons ?_ ?_
      · exact List.mem_of_getElem? (i := 2) rfl
      refine all_cons ?_ ?_
      · exact List.mem_of_getElem? (i := 3) rfl
      refine all_cons ?_ ?_
      · exact List.mem_of_getElem? (i := 4) rfl
      refine all_cons ?_ ?_
      · exact List.mem_of_getElem? (i := 5) rfl
      refine all_cons ?_ ?_
      · exact List.mem_of_getElem? (i := 6) rfl
      refine all_cons ?_ ?_
      · exact List.mem_of_getElem? (i := 7) rfl
      refine all_cons ?_ ?_
      · exact List.mem_of_getElem? (i := 8) rfl
      refine all_cons ?_ ?_
      · exact List.mem_of_getElem? (i := 9) rfl
      intro q hq
      exact .tail _ (.tail _ (.tail _ (.tail _ (.tail _ (.tail _ (.tail _ (.tail _ (.tail _ (.tail _ (.tail _ hq)))))))))))
    refine kla_eval rfl ?_
    refine kla_nest F7 N8 G1.T0 C179 rfl (UpdF.head ?off) True.intro rfl rfl fun lf lc loc lvs lt lct h9 tk9 F9 N9 ld1 ld2 ll1 ll2 => ?_
    case off =>
      intro q hq
      have hq' := hq
      rcases List.mem_cons.mp hq with rfl | hq
      · exact off_tab N8 (.head _) (.tail _ hq') (.inl (fun h => nomatch h))
      rcases List.mem_cons.mp hq with rfl | hq
      · exact off_tab N8 (.head _) (.tail _ hq') (.inl (fun h => nomatch h))
      rcases List.mem_cons.mp hq with rfl | hq
      · exact off_tab N8 (.head _) (.tail _ hq') (.inl (fun h => nomatch h))
      rcases List.mem_cons.mp hq with rfl | hq
      · exact off_tab N8 (.head _) (.tail _ hq') (.inr ⟨_, d4⟩)
      rcases List.mem_cons.mp hq with rfl | hq
      · exact off_tab N8 (.head _) (.tail _ hq') (.inl (fun h => nomatch h))
      rcases List.mem_cons.mp hq with rfl | hq
      · exact off_tab N8 (.head _) (.tail _ hq') (.inr ⟨_, c2⟩)
      rcases List.mem_cons.mp hq with rfl | hq
      · exact off_tab N8 (.head _) (.tail _ hq') (.inr ⟨_, c3⟩)
      rcases List.mem_cons.mp hq with rfl | hq
      · decide
      rcases List.mem_cons.mp hq with rfl | hq
      · decide
      exact off_tab N8 (.head _) (.tail _ hq') (.inl (hTd q hq).2.2.1)
    (try dsimp only at N9)
    clear N8 N7 F7 hr8 hr7 C179
    k_steps
    unfold Halt
    have cc0 : g.get? (s.heap.objs.size + 1 + 1 + 1 + 1 + 1) = none := (N9 _ (List.mem_of_getElem? (i := 6) rfl)).2.2
    have hrN := (N9 _ (List.mem_of_getElem? (i := 3) rfl)).1
    dsimp only at hrN
    rw [hrr] at hrN
    refine sorted_rangeK (P := plN ch) (ord := ord) F9 N9 rfl hrN O ?lam ?srt
    case lam =>
      intro j tj s' hj F' N'
      obtain ⟨a, t, u, hit, ha⟩ := chips_get N' hcl hpb hshe (fun q hq => .tail _ (.tail _ (.tail _ (.tail _ (.tail _ (.tail _ (.tail _ (.tail _ (.tail _ (.tail _ (.tail _ (.tail _ (hCm q hq))))))))))))) j hj
      exact lam_c (mean := mean) G1 F'.keep cc0 (N' _ (List.mem_of_getElem? (i := 0) rfl)).1 (codeRec_news N' (List.mem_of_getElem? (i := 1) rfl) ld1 ld2) (N' _ (List.mem_of_getElem? (i := 6) rfl)).1 d4 (N' _ (List.mem_of_getElem? (i := 7) rfl)).1 (Int.natCast_nonneg _) (by exact Mine.q_42 hj) (by rw [Int.toNat_natCast]; exact hit) ha (by simp only [depth_deeper]; show dp + 1 < _; exact Mine.o_d1 hdp) rfl
    case srt =>
      intro oD oe h10 tk10 vals hvals F10 N10
      (try dsimp only at F10 N10 ⊢)
      obtain ⟨ps9, z179⟩ : ∃ ps, h10.get? 179 = some (tabObj ps) := ⟨_, (N10 _ (List.mem_of_getElem? (i := 3) rfl)).1⟩
      have z179b := (N10 _ (List.mem_of_getElem? (i := 3) rfl)).2
      obtain ⟨TT, h179m, hTm, hCm, hTd, NTT⟩ : ∃ T2 : List (Addr × Obj), (179, tabObj ps9) ∈ T2 ∧ (∀ q ∈ T, q ∈ T2) ∧ (∀ q ∈ (ch.map fun e => (e.1, tupI e.2.1 e.2.2.1 e.2.2.2.1 e.2.2.2.2)), q ∈ T2) ∧ (∀ q ∈ T2, (∀ v, q.2.data ≠ .cell v) ∧ q.2.cls ≠ .type "list" ∧ (q.2.cls ≠ .none ∨ q.1 = 179) ∧ q.2.cls ≠ .type "range") ∧ News g s.heap.objs.size h10 T2 := by
        refine ⟨(179, tabObj ps9) :: TT, .head _, fun q hq => .tail _ (hTm q hq), fun q hq => .tail _ (hCm q hq), fun q hq => ?_, news_cons (news_weak N10 fun q hq => .tail _ (.tail _ (.tail _ (.tail _ (.tail _ (.tail _ (.tail _ (.tail _ (.tail _ (.tail _ (.tail _ (.tail _ (.tail _ hq))))))))))))) z179 z179b.1 z179b.2⟩
        revert q
        refine all_cons ?_ ?_
        · exact ⟨(fun v e => by cases e), (fun h => nomatch h), .inr rfl, (fun h => nomatch h)⟩
        intro q hq
        · exact ⟨(hTd q hq).1, (hTd q hq).2.1, .inl (hTd q hq).2.2.1, (hTd q hq).2.2.2⟩
      have N11 : News g s.heap.objs.size h10 ((s.heap.objs.size + 1 + 1 + 1, o3) :: (oD, listOf vals.toArray oe) :: (ra, listOf (strValues ls).toArray er) :: (pla, listOf pa 9) :: (s.heap.objs.size + 1 + 1 + 1 + 1 + 1, o4') :: (r3, listOf (ch.map fun e => Value.ref e.1).toArray ep3) :: (s.heap.objs.size + 1 + 1 + 1 + 1, o2) :: (111, tabObj #[]) :: (118, tabObj #[]) :: TT) := fun q hq => by
        revert q
        refine all_cons ?_ ?_
        · exact N10 _ (List.mem_of_getElem? (i := 10) rfl)
        refine all_cons ?_ ?_
        · exact N10 _ (List.mem_of_getElem? (i := 0) rfl)
        refine all_cons ?_ ?_
        · exact N10 _ (List.mem_of_getElem? (i := 5) rfl)
        refine all_cons ?_ ?_
        · exact N10 _ (List.mem_of_getElem? (i := 6) rfl)
        refine all_cons ?_ ?_
        · exact N10 _ (List.mem_of_getElem? (i := 7) rfl)
        refine all_cons ?_ ?_
        · exact N10 _ (List.mem_of_getElem? (i := 8) rfl)
        refine all_cons ?_ ?_
        · exact N10 _ (List.mem_of_getElem? (i := 9) rfl)
        refine all_cons ?_ ?_
        · exact N10 _ (List.mem_of_getElem? (i := 11) rfl)
        refine all_cons ?_ ?_
        · exact N10 _ (List.mem_of_getElem? (i := 12) rfl)
        intro q hq
        exact NTT q hq
      refine storeX_C (c := s.heap.objs.size + 1 + 1 + 1) (o := o3) F10 N11 rfl (UpdF.head ?off2) c3 (fun h11 oO F11 N12 dO => ?_) rfl rfl
      case off2 =>
        intro q hq
        have hq' := hq
        rcases List.mem_cons.mp hq with rfl | hq
        · exact off_cell N11 (.head _) c3 (.tail _ hq') (fun v e => (by cases e))
        rcases List.mem_cons.mp hq with rfl | hq
        · exact off_cell N11 (.head _) c3 (.tail _ hq') (fun v e => (by cases e))
        rcases List.mem_cons.mp hq with rfl | hq
        · exact off_cell N11 (.head _) c3 (.tail _ hq') (fun v e => (by cases e))
        rcases List.mem_cons.mp hq with rfl | hq
        · exact Nat.ne_of_gt (Nat.lt_succ_of_lt (Nat.lt_succ_self _))
        rcases List.mem_cons.mp hq with rfl | hq
        · exact off_cell N11 (.head _) c3 (.tail _ hq') (fun v e => (by cases e))
        rcases List.mem_cons.mp hq with rfl | hq
        · exact Nat.ne_of_gt (Nat.lt_succ_self _)
        rcases List.mem_cons.mp hq with rfl | hq
        · exact off_cell N11 (.head _) c3 (.tail _ hq') (fun v e => (by cases e))
        rcases List.mem_cons.mp hq with rfl | hq
        · exact off_cell N11 (.head _) c3 (.tail _ hq') (fun v e => (by cases e))
        exact off_cell N11 (.head _) c3 (.tail _ hq') (hTd q hq).1
      clear N10 F10 N11 hrN N9 F9
      (try dsimp only at F11 N12 ⊢)
      k_steps
      unfold Halt
      rename Fr _ _ _ _ => F12
      rename News _ _ _ _ => N13
      rename IsRange _ _ _ _ _ _ _ _ => hr12
      refine LCg.CompSrc.range rfl F12 N13 hr12 (by decide) (n := 6) (by decide) (by rw [sizeLine_eq]; decide) fun g' => ?_
      refine rest_inv (n := 6) (J := fun i ys news => news = _ ∧ NumsAre ys ((List.range i).map pos)) ?tS ?fS 6 0 [] _ rfl ⟨rfl, rfl, fun i k e => (by cases e)⟩
      case tS =>
        rintro i ys news hi ⟨rfl, hys⟩ v I oI C oC Dc m₂ h tk E' hv hC hx F' N' off ne
        obtain ⟨tv, rfl⟩ := hv
        rw [Int.zero_add] at hx
        clear F12 N13 hr12
        k_steps
        unfold Halt
        rename Fr _ _ _ _ => Fx
        rename News _ _ _ _ => Nx
        have hio : i ∈ ord := O.perm.mem_iff.mpr (List.mem_range.mpr hi)
        refine idx_K Nx (List.mem_of_getElem? (i := 5) rfl) hvals hio (by rw [O.len]; decide) ?_
        have hpz := pos_at O hpos hi
        have hix : ord.idxOf i < 6 := by rw [← O.len]; exact List.idxOf_lt_length_iff.mpr hio
        k_steps
        unfold Halt
        obtain ⟨tp, hit⟩ := six_nums.2 _ _ hpz
        refine item_K Nx (List.mem_of_getElem? (i := 0) rfl) (Int.natCast_nonneg _) (by exact Mine.q_42 hix) (by rw [Int.toNat_natCast, List.getElem?_toArray]; exact hit) ?_ (by with_unfolding_all rfl)
        refine LCg.CompEnd.intro Fx Nx _ (fun q hq => .tail _ hq) off trivial ⟨rfl, nums_snoc hys⟩
      case fS =>
        rintro ys news ⟨rfl, hys⟩
        show LCg.FinE _ _ _ _ _ _ _
        unfold LCg.FinE
        intro sD hS tkS FS NS oS
        clear F12 N13 hr12
        (try dsimp only at FS NS ⊢)
        have N14 := news_weak NS (news' := (s.heap.objs.size + 1 + 1 + 1 + 1, o2) :: (sD, LCg.lst ys) :: (ra, listOf (strValues ls).toArray er) :: (pla, listOf pa 9) :: (s.heap.objs.size + 1 + 1 + 1 + 1 + 1, o4') :: (r3, listOf (ch.map fun e => Value.ref e.1).toArray ep3) :: (111, tabObj #[]) :: (118, tabObj #[]) :: TT) (fun q hq => by
          revert q
          refine all_cons ?_ ?_
          · exact List.mem_of_getElem? (i := 7) rfl
          refine all_cons ?_ ?_
          · exact List.mem_of_getElem? (i := 0) rfl
          refine all_cons ?_ ?_
          · exact List.mem_of_getElem? (i := 3) rfl
          refine all_cons ?_ ?_
          · exact List.mem_of_getElem? (i := 4) rfl
          refine all_cons ?_ ?_
          · exact List.mem_of_getElem? (i := 5) rfl
          refine all_cons ?_ ?_
          · exact List.mem_of_getElem? (i := 6) rfl
          refine all_cons ?_ ?_
          · exact List.mem_of_getElem? (i := 8) rfl
          refine all_cons ?_ ?_
          · exact List.mem_of_getElem? (i := 9) rfl
          intro q hq
          exact .tail _ (.tail _ (.tail _ (.tail _ (.tail _ (.tail _ (.tail _ (.tail _ (.tail _ (.tail _ hq))))))))))
        refine storeX_C (c := s.heap.objs.size + 1 + 1 + 1 + 1) (o := o2) FS N14 rfl (UpdF.head ?off3) c2 (fun h15 oT F15 N15 dT => ?_) rfl rfl
        case off3 =>
          intro q hq
          have hq' := hq
          rcases List.mem_cons.mp hq with rfl | hq
          · exact off_cell N14 (.head _) c2 (.tail _ hq') (fun v e => (by cases e))
          rcases List.mem_cons.mp hq with rfl | hq
          · exact off_cell N14 (.head _) c2 (.tail _ hq') (fun v e => (by cases e))
          rcases List.mem_cons.mp hq with rfl | hq
          · exact off_cell N14 (.head _) c2 (.tail _ hq') (fun v e => (by cases e))
          rcases List.mem_cons.mp hq with rfl | hq
          · exact Nat.ne_of_gt (Nat.lt_succ_self _)
          rcases List.mem_cons.mp hq with rfl | hq
          · exact off_cell N14 (.head _) c2 (.tail _ hq') (fun v e => (by cases e))
          rcases List.mem_cons.mp hq with rfl | hq
          · exact off_cell N14 (.head _) c2 (.tail _ hq') (fun v e => (by cases e))
          rcases List.mem_cons.mp hq with rfl | hq
          · exact off_cell N14 (.head _) c2 (.tail _ hq') (fun v e => (by cases e))
          exact off_cell N14 (.head _) c2 (.tail _ hq') (hTd q hq).1
        clear NS FS N14 oS
        (try dsimp only at F15 N15 ⊢)
        k_steps
        unfold Halt
        rename Fr _ _ _ _ => F16
        rename News _ _ _ _ => N16
        rename IsRange _ _ _ _ _ _ _ _ => hr16
        refine LCg.CompSrc.range rfl F16 N16 hr16 (by decide) (n := 6) (by decide) (by rw [sizeLine_eq]; decide) fun g' => ?_
        refine rest_inv (n := 6) (J := fun i ys news => news = _ ∧ StrsIs ys ((List.range i).map fun k => rowS (pos k) k)) ?tD ?fD 6 0 [] _ rfl ⟨rfl, rfl, fun i k e => (by cases e)⟩
        case tD =>
          rintro i zs news hi ⟨rfl, hzs⟩ v I oI C oC Dc m₂ h tk E' hv hC hx F' N' off ne
          obtain ⟨tv, rfl⟩ := hv
          clear F16 N16 hr16
          have hpi : pos i ≤ 7 := pos_le O hpos hi
          obtain ⟨tst, hst⟩ : ∃ t, ys.toArray[(0 + (i : Int)).toNat]? = some (.int (pos i : Nat) t) := by
            rw [Int.zero_add, Int.toNat_natCast, List.getElem?_toArray]
            exact hys.2 i (pos i) (by rw [List.getElem?_map, List.getElem?_range hi]; rfl)
          k_steps
          repeat (any_goals (first
            | ((with_reducible refine goN 1 ?_); k_dflt (first | (refine' item_K ?q9N ?q9hm ?q9h0 ?q9hf ?q9hx ?_ ?q9hs; (case q9N => k_asm); (case q9hm => k_mem); (case q9h0 => exact Mine.q_39); (case q9hf => exact Mine.q_43 hi); (case q9hx => with_reducible assumption); (case q9hs => with_unfolding_all rfl); k_whole) | (refine' item_G ?q9hl ?q9h0 ?q9hf ?q9hx ?_ ?q9hs; (case q9hl => exact Fr.keep (by k_asm) _ _ (by assumption)); (case q9h0 => omega); (case q9hf => omega); (case q9hx => first | with_reducible assumption | rfl | assumption); (case q9hs => with_unfolding_all rfl); k_whole)); k_steps)))
          unfold Halt
          rename Fr _ _ _ _ => Fx
          rename News _ _ _ _ => Nx
          rw [due_row hpi hi]
          exact LCg.CompEnd.intro Fx Nx _ (fun q hq => hq) off trivial ⟨rfl, strs_snoc (f := fun k => rowS (pos k) k) hzs⟩
        case fD =>
          rintro zs news ⟨rfl, hzs⟩
          show LCg.FinA _ _ _ _ _ _ _ _
          unfold LCg.FinA
          intro uD hU tkU FU NU oU
          clear F16 N16 hr16 oU
          have hzl : zs.length = 6 := by rw [hzs.1]; rfl
          (try dsimp only at FU NU ⊢)
          k_steps
          unfold Halt
          rename Fr _ _ _ _ => F17
          rename News _ _ _ _ => N17
          have e3 : slicePick zs.toArray none (some 3) none = (zs.take 3).toArray := pick_toN zs.toArray 3 (by rw [List.size_toArray, hzl]; decide)
          have hz3 : (zs.take 3).length = 3 := by rw [List.length_take, hzl]; rfl
          refine kmk_add_lit F17 N17 ⟨_, (N17 _ (List.mem_of_getElem? (i := 1) rfl)).1, rfl, _, rfl⟩ ⟨_, (N17 _ (List.mem_of_getElem? (i := 0) rfl)).1, rfl, _, rfl⟩ rfl (fun aD hA FA NA lA => ?_) (by rw [e3, sizeLine_eq]; show (zs.take 3).length + 3 ≤ _; rw [hz3]; decide)
          rw [e3] at NA
          clear lA F17 N17
          (try dsimp only at FA NA ⊢)
          k_steps
          unfold Halt
          rename Fr _ _ _ _ => F18
          rename News _ _ _ _ => N18
          have e4 : slicePick zs.toArray (some 3) none none = (zs.drop 3).toArray := by rw [pick_from _ (by decide)]; rfl
          have hz4 : (zs.drop 3).length = 3 := by rw [List.length_drop, hzl]
          refine kmk_add_lit F18 N18 ⟨_, (N18 _ (List.mem_of_getElem? (i := 1) rfl)).1, rfl, _, rfl⟩ ⟨_, (N18 _ (List.mem_of_getElem? (i := 0) rfl)).1, rfl, _, rfl⟩ rfl (fun bD hB FB NB lB => ?_) (by rw [e4, sizeLine_eq]; show (zs.take 3 ++ _).length + (zs.drop 3).length ≤ _; rw [List.length_append, hz3, hz4]; show 3 + 3 + 3 ≤ _; decide)
          rw [e4] at NB
          clear lB F18 N18
          (try dsimp only at FB NB ⊢)
          k_steps
          unfold Halt
          have hrw := ((hzs.take 3).app (b := [Value.str (Str.ofString "-\x0b.") (tkU + 1), Value.str (Str.ofString "") (tkU + 1 + 1), Value.str (Str.ofString ".") (tkU + 1 + 1 + 1)]) (y := [Str.ofString "-\x0b.", Str.ofString "", Str.ofString "."]) ⟨rfl, fun i x e => by
            match i, e with
            | 0, e => cases e; exact ⟨_, rfl⟩
            | 1, e => cases e; exact ⟨_, rfl⟩
            | 2, e => cases e; exact ⟨_, rfl⟩⟩).app (hzs.drop 3)
          rw [due_rows] at hrw
          have hpos8 : ∀ k, k < 6 → pos k ≤ 8 := fun k hk => Nat.le_succ_of_le (pos_le O hpos hk)
          have hok := rows_ok hpos8 rfl
          refine kqd_ne (xs := strValues ls) (ds := ls.map fun x => Dat.str x.1) (es := ((List.range 9).map (rowsAt pos)).map Dat.str) NB (List.mem_of_getElem? (i := 8) rfl) rfl rfl (dat_strs ls) (fun _ q => q) (List.mem_of_getElem? (i := 0) rfl) rfl rfl (dat_is hrw) (fun _ q => q) ?ok1 ?ok2 (by simp only [units_deeper]; exact Mine.o_d2 hun) ?cmp
          case ok1 =>
            intro d hd'
            obtain ⟨x, hx, rfl⟩ := List.mem_map.mp hd'
            exact hok x.1 (by rw [← hls]; exact List.mem_map.mpr ⟨x, hx, rfl⟩)
          case ok2 =>
            intro d hd'
            obtain ⟨x, hx, rfl⟩ := List.mem_map.mp hd'
            exact hok x hx
          case cmp =>
            have eqq : (ls.map fun x => Dat.str x.1) = ((List.range 9).map (rowsAt pos)).map Dat.str := by
              rw [← hls, List.map_map]; rfl
            rw [ne_same eqq]
            have NC2 := news_weak NB (news' := (s.heap.objs.size + 1 + 1 + 1 + 1, oT) :: (sD, LCg.lst ys) :: (pla, listOf pa 9) :: (s.heap.objs.size + 1 + 1 + 1 + 1 + 1, o4') :: (r3, listOf (ch.map fun e => Value.ref e.1).toArray ep3) :: (111, tabObj #[]) :: (118, tabObj #[]) :: TT) (fun q hq => by
            revert q
            refine all_cons ?_ ?_
            · exact List.mem_of_getElem? (i := 6) rfl
            refine all_cons ?_ ?_
            · exact List.mem_of_getElem? (i := 7) rfl
            refine all_cons ?_ ?_
            · exact List.mem_of_getElem? (i := 9) rfl
            refine all_cons ?_ ?_
            · exact List.mem_of_getElem? (i := 10) rfl
            refine all_cons ?_ ?_
            · exact List.mem_of_getElem? (i := 11) rfl
            refine all_cons ?_ ?_
            · exact List.mem_of_getElem? (i := 12) rfl
            refine all_cons ?_ ?_
            · exact List.mem_of_getElem? (i := 13) rfl
            intro q hq
            exact .tail _ (.tail _ (.tail _ (.tail _ (.tail _ (.tail _ (.tail _ (.tail _ (.tail _ (.tail _ (.tail _ (.tail _ (.tail _ (.tail _ hq))))))))))))))
            clear NB NA
            k_steps
            unfold Halt
            rename Fr _ _ _ _ => FL
            rename News _ _ _ _ => NL
            refine assign_comp_C (h₀ := g) (L := s.heap.objs.size) (m := fun y => if y = Str.ofString "due" then some (.ref uD) else if y = Str.ofString "piles" then some (Value.ref pla) else if y = Str.ofString "rows" then some (Value.ref ra) else if y = Str.ofString "numbers" then some (Value.ref D) else none) rfl (by with_unfolding_all rfl) (by with_unfolding_all rfl) (fun _ => rfl) (fun _ => rfl) rfl (by decide) rfl rfl rfl ?_
            k_steps
            unfold Halt
            rename Fr _ _ _ _ => FL2
            rename News _ _ _ _ => NL2
            rename IsRange _ _ _ _ _ _ _ _ => hrL
            refine ⟨_, _, _, _, 9, (fun i ws news => ∃ Y, news = (s.heap.objs.size + 1 + 1 + 1 + 1, oT) :: (sD, LCg.lst ys) :: (pla, listOf pa 9) :: (s.heap.objs.size + 1 + 1 + 1 + 1 + 1, o4') :: (r3, listOf (ch.map fun e => Value.ref e.1).toArray ep3) :: (111, tabObj #[]) :: (118, tabObj #[]) :: (Y ++ TT) ∧ DatAll Y ws ((List.range i).map (laidD (shN ch) pos))), _, rfl, rfl, by rw [sizeLine_eq]; decide, FL2, NL2, hbare, hrL, by decide, by decide, ⟨[], rfl, .nil⟩, ?tL, ?fL⟩
            case tL =>
              rintro i ws news tv I oI C oC Dc Z oZ m₂ s₂ E' hi ⟨Y, rfl, hY⟩ hoZ hC F' N' off hb' ho'
              (try clear FL)
              (try clear NL)
              clear FL2 NL2 hrL
              refine LCt.ListComp_T (F₀ := F') (by with_unfolding_all rfl) (by decide) rfl (by decide) rfl ?_
              k_steps
              unfold Halt
              rename Fr _ _ _ _ => FI
              rename News _ _ _ _ => NI
              rename IsRange _ _ _ _ _ _ _ _ => hrI
              refine LCt.CompSrcT.range rfl FI NI hrI (by decide) (n := 6) (by decide) (by rw [sizeLine_eq]; decide) fun g2 => ?_
              refine rest_invT (n := 6) (J := fun j us news => ∃ U, news = _ :: _ :: _ :: _ :: (s.heap.objs.size + 1 + 1 + 1 + 1, oT) :: (sD, LCg.lst ys) :: (pla, listOf pa 9) :: (s.heap.objs.size + 1 + 1 + 1 + 1 + 1, o4') :: (r3, listOf (ch.map fun e => Value.ref e.1).toArray ep3) :: (111, tabObj #[]) :: (118, tabObj #[]) :: (U ++ (Y ++ TT)) ∧
                DatAll U us (((List.range j).filter fun k => pos k == i).map fun k => Dat.tuple [.str (piece (shN ch) k).1, .str (piece (shN ch) k).2]) ∧ (∀ q ∈ U, q.1 ≠ I ∧ q.1 ≠ C ∧ q.1 ≠ Dc ∧ q.1 ≠ Z)) ?tI ?fI 6 0 [] _ rfl ⟨[], rfl, .nil, (fun _ h => nomatch h)⟩
              case tI =>
                rintro j us news hj ⟨U, rfl, hU, hUo⟩ v I2 oI2 C2 oC2 D2 m₃ h2 tk2 E2 hv hC2 hx2 F2 N2 off2 ne2
                obtain ⟨tj, rfl⟩ := hv
                clear FI NI hrI
                (try clear F')
                (try clear N')
                obtain ⟨tst, hst⟩ : ∃ t, ys.toArray[(0 + (j : Int)).toNat]? = some (.int (pos j : Nat) t) := by
                  rw [Int.zero_add, Int.toNat_natCast, List.getElem?_toArray]
                  exact hys.2 j (pos j) (by rw [List.getElem?_map, List.getElem?_range hj]; rfl)
                obtain ⟨ca, ct, cu, hca, hcm⟩ := chips_mem hcl hpb hshe hCm j hj
                have hS4 := hSl j
                k_steps
                repeat (any_goals (first
                  | ((with_reducible refine goN 1 ?_); k_dflt (first | (refine' item_K ?q9N ?q9hm ?q9h0 ?q9hf ?q9hx ?_ ?q9hs; (case q9N => k_asm); (case q9hm => k_mem); (case q9h0 => exact Mine.q_39); (case q9hf => exact Mine.q_43 hj); (case q9hx => with_reducible assumption); (case q9hs => with_unfolding_all rfl); k_whole) | (refine' item_G ?q9hl ?q9h0 ?q9hf ?q9hx ?_ ?q9hs; (case q9hl => exact Fr.keep (by k_asm) _ _ (by assumption)); (case q9h0 => omega); (case q9hf => omega); (case q9hx => first | with_reducible assumption | rfl | assumption); (case q9hs => with_unfolding_all rfl); k_whole)); k_steps)))
                · unfold Halt
                  rename_i hpe
                  refine tupI_1 (N2 _ (.tail _ (.tail _ (.tail _ (.tail _ (.tail _ (.tail _ (.tail _ (.tail _ (.tail _ (.tail _ (.tail _ (.tail _ (.tail _ (.tail _ (List.mem_append_right _ (List.mem_append_right _ hcm))))))))))))))))).1 ?_ (by with_unfolding_all rfl)
                  k_steps
                  unfold Halt
                  rename_i tq kq z1 z2 z3 Dt hT Fx Nx lT
                  rw [letter hj] at Nx
                  refine LCg.CompEnd.intro Fx Nx ((I, oI) :: (C, oC) :: (Dc, LCg.lst ws) :: (Z, oZ) :: (s.heap.objs.size + 1 + 1 + 1 + 1, oT) :: (sD, LCg.lst ys) :: (pla, listOf pa 9) :: (s.heap.objs.size + 1 + 1 + 1 + 1 + 1, o4') :: (r3, listOf (ch.map fun e => Value.ref e.1).toArray ep3) :: (111, tabObj #[]) :: (118, tabObj #[]) :: (((Dt, _) :: U) ++ (Y ++ TT)))
                    (fun q hq => mem_mid [_, _, _, _, _, _, _, _, _, _, _, _, _, _] _ hq) (LCg.Off3.of fun p hp => ?_) trivial ⟨(Dt, _) :: U, rfl, ?_, ?_⟩
                  · rcases List.mem_cons.mp (mem_mid [_, _, _, _, _, _, _, _, _, _, _] _ hp) with rfl | hp
                    · exact ⟨Nat.ne_of_gt lT.1, Nat.ne_of_gt lT.2.1, Nat.ne_of_gt lT.2.2.1⟩
                    · exact off2.mem p hp
                  · rw [filt_yes (by rw [beq_iff_eq]; exact Mine.q_44 hpe)]
                    exact dat_snoc (.tuple (vs := [.str (piece (shN ch) j).1 tq, .str (piece (shN ch) j).2 (kq + 1)]) (.head _) (.cons (.str _ _) (.cons (.str _ _) .nil))) (hU.mono fun _ h => .tail _ h)
                  · refine all_cons ?_ ?_
                    · exact ⟨Nat.ne_of_gt lT.2.2.2.1, Nat.ne_of_gt lT.2.2.2.2.1, Nat.ne_of_gt lT.2.2.2.2.2.1, Nat.ne_of_gt lT.2.2.2.2.2.2.1⟩
                    intro q hq
                    · exact hUo q hq
                · unfold Halt
                  rename_i hpe
                  exact LCg.CompEnd.intro F2 N2 _ (fun q hq => hq) off2 trivial ⟨U, rfl, by rw [filt_no (by rw [beq_n (fun e => hpe (by rw [e, Int.zero_add]))])]; exact hU, hUo⟩
              case fI =>
                rintro us news ⟨U, rfl, hU, hUo⟩
                show LCg.FinE _ _ _ _ _ _ _
                unfold LCg.FinE
                intro D3 h3 tk3 F3 N3 o3
                clear FI NI hrI
                (try dsimp only at F3 N3 ⊢)
                refine ⟨(s.heap.objs.size + 1 + 1 + 1 + 1, oT) :: (sD, LCg.lst ys) :: (pla, listOf pa 9) :: (s.heap.objs.size + 1 + 1 + 1 + 1 + 1, o4') :: (r3, listOf (ch.map fun e => Value.ref e.1).toArray ep3) :: (111, tabObj #[]) :: (118, tabObj #[]) :: (((D3, LCg.lst us) :: (U ++ Y)) ++ TT), ho', hb', F3, news_weak N3 (fun q hq => ?_), fun p hp => ?_, ⟨(D3, LCg.lst us) :: (U ++ Y), rfl, ?_⟩⟩
                · rw [← List.append_assoc]
                  exact mem_mid [_, _, _, _, _, _, _, _, _, _, _] _ hq
                · rcases List.mem_cons.mp (mem_mid [_, _, _, _, _, _, _] _ hp) with rfl | hp
                  · exact ⟨Ne.symm o3.1, Ne.symm o3.2.1, Ne.symm o3.2.2.1, Ne.symm o3.2.2.2.1⟩
                  rcases List.mem_append.mp (show p ∈ [_, _, _, _, _, _, _] ++ ((U ++ Y) ++ TT) from hp) with hp | hp
                  · exact off p (List.mem_append_left (bs := Y ++ TT) hp)
                  rw [List.append_assoc] at hp
                  rcases List.mem_append.mp hp with hp | hp
                  · exact hUo p hp
                  · exact off p (.tail _ (.tail _ (.tail _ (.tail _ (.tail _ (.tail _ (.tail _ hp)))))))
                · rw [List.range_succ, List.map_append]
                  exact dat_snoc (.list (n := us.length) (vs := us) (.head _) (hU.mono fun _ h => .tail _ (List.mem_append_left _ h))) (hY.mono fun _ h => .tail _ (List.mem_append_right _ h))
            case fL =>
              rintro lD s₂ ws news' ⟨Y, rfl, hY⟩ hwl F' N' off hb' ho'
              obtain ⟨hp2, gs2, dr2, tk2, os2⟩ := s₂
              dsimp only at F' N' hb' ho'
              clear FL2 NL2 hrL
              k_steps
              unfold Halt
              rename Fr _ _ _ _ => FT
              rename News _ _ _ _ => NT
              refine LCg.CompSrc.ledger rfl FT NT (List.mem_of_getElem? (i := 0) rfl) (by rw [List.size_toArray, hwl, sizeLine_eq]; decide) fun g' => ?_
              refine rest_inv (n := ws.toArray.size) (J := fun i ts news => news = _ ∧ StrsIs ts ((List.range i).map (textOf (shN ch) pos))) ?tT ?fT ws.toArray.size 0 [] _ (Nat.zero_add _) ⟨rfl, rfl, fun i k e => (by cases e)⟩
              case tT =>
                rintro i ts news hi ⟨rfl, hts⟩ v I oI C oC Dc m₂ h tk E' hv hC hx F2 N2 off2 ne2
                clear FT NT
                (try clear F')
                (try clear N')
                rw [List.size_toArray, hwl] at hi
                obtain ⟨d, hd1, hd2⟩ := dat_get hY (i := i) (v := v) (by rw [← List.getElem?_toArray]; exact hv)
                rw [List.getElem?_map, List.getElem?_range hi] at hd1
                cases hd1
                obtain ⟨pl2, pn, pvs, rfl, hpm, hpd⟩ := dat_list hd2
                have hpl : pvs.length ≤ 6 := by rw [DatAll.len hpd, List.length_map]; exact chips_len pos i
                k_steps
                unfold Halt
                refine LCp.ListComp_P (F₀ := F2) (by with_unfolding_all rfl) (by decide) rfl (by decide) rfl rfl (by decide) ?_
                k_steps
                unfold Halt
                have hin : ∀ q ∈ Y, q ∈ (I, oI) :: (C, oC) :: (Dc, LCg.lst ts) :: (lD, LCg.lst ws) :: (s.heap.objs.size + 1 + 1 + 1 + 1, oT) :: (sD, LCg.lst ys) :: (pla, listOf pa 9) :: (s.heap.objs.size + 1 + 1 + 1 + 1 + 1, o4') :: (r3, listOf (ch.map fun e => Value.ref e.1).toArray ep3) :: (111, tabObj #[]) :: (118, tabObj #[]) :: (Y ++ TT) := fun q hq => .tail _ (.tail _ (.tail _ (.tail _ (.tail _ (.tail _ (.tail _ (.tail _ (.tail _ (.tail _ (.tail _ (List.mem_append_left _ hq)))))))))))
                refine LCp.SrcLP.ledger rfl F2 N2 (hin _ hpm) (by rw [List.size_toArray, sizeLine_eq]; exact Nat.le_trans hpl (by decide)) fun g2 => ?_
                refine rest_invP (n := pvs.toArray.size) (J := fun k us news => news = _ ∧ StrsIs us (((chipsAt pos i).map (catOf (shN ch))).take k)) ?tP ?fP pvs.toArray.size 0 [] _ (Nat.zero_add _) ⟨rfl, rfl, fun i k e => (by cases e)⟩
                case tP =>
                  rintro k us news hk ⟨rfl, hus⟩ v hv
                  obtain ⟨d, e1, e2⟩ := dat_get hpd (i := k) (v := v) (by rw [← List.getElem?_toArray]; exact hv)
                  rw [List.getElem?_map] at e1
                  obtain ⟨c, hc1, rfl⟩ := Option.map_eq_some_iff.mp e1
                  obtain ⟨tp, tn, tk1, tk2, rfl, htm⟩ := dat_pair e2
                  refine ⟨tp, _, _, _, tn, rfl, hin _ htm, rfl, rfl, fun I2 oI2 C2 oC2 D2 m₃ h2 tk2' E2 hC2 hx2 hy2 F3 N3 off3 ne3 => ?_⟩
                  have hpc := piece_len (hSl c).2
                  k_steps
                  unfold Halt
                  rename Fr _ _ _ _ => F4
                  rename News _ _ _ _ => N4
                  refine PySem.W.KXadd.add hpc.1 hpc.2 (by decide) fun t' kk _ => ?_
                  exact LCg.CompEnd.intro F4 N4 _ (fun q hq => hq) off3 (.inr ⟨_, hin _ hpm, rfl, _, rfl⟩) ⟨rfl, strs_take hus (by rw [List.getElem?_map, hc1]; rfl)⟩
                case fP =>
                  rintro us news ⟨rfl, hus⟩
                  show LCg.FinE _ _ _ _ _ _ _
                  unfold LCg.FinE
                  intro D3 h3 tk3 F5 N5 o5
                  (try dsimp only at F5 N5 ⊢)
                  rw [List.take_of_length_le (by rw [List.size_toArray, DatAll.len hpd, List.length_map, List.length_map]; exact Nat.le_refl _)] at hus
                  k_steps
                  unfold Halt
                  refine PyProof.Rows.join_list ⟨_, (N5 _ (.head _)).1, rfl, _, rfl⟩ (strs_are hus) ?jsz fun t' kk => ?_
                  case jsz =>
                    have z1 := sum_cat (S := shN ch) (fun c => (hSl c).2) (chipsAt pos i)
                    have z2 := chips_len pos i
                    have z3 : ((chipsAt pos i).map (catOf (shN ch))).length * (Str.ofString "").length = 0 := Nat.mul_zero _
                    rw [z3]
                    exact Mine.q_45 z1 z2
                  exact LCg.CompEnd.intro F5 N5 _ (fun q hq => .tail _ hq) off2 (.inr ⟨_, .head _, rfl, _, rfl⟩) ⟨rfl, strs_snoc (f := textOf (shN ch) pos) hts⟩
              case fT =>
                rintro ts news ⟨rfl, hts⟩
                show LCg.FinA _ _ _ _ _ _ _ _
                unfold LCg.FinA
                intro eD hE tkE FE NE oE
                clear FT NT oE
                (try clear F')
                (try clear N')
                rw [List.size_toArray, hwl] at hts
                (try dsimp only at FE NE ⊢)
                k_steps
                unfold Halt
                have hone := chips_one O hpos
                have hpce : ∀ j, j < 9 → pc j = (chipsAt pos j).map (piece (shN ch)) := fun j hj => perm_one (hpm j hj) (by rw [List.length_map]; exact hone j)
                have hYc : ∀ q ∈ Y.filter keepE, q.2.cls ≠ .none := fun q hq => keep_cls hq
                have hYc2 : ∀ q ∈ Y.filter keepE, q.2.cls ≠ .ref 149 := fun q hq => keep_cls2 hq
                have hY1 := datAll_keep hY
                have N111 : ∀ q ∈ (eD, LCg.lst ts) :: (lD, LCg.lst ws) :: (pla, listOf pa 9) :: (Y.filter keepE ++ TT), q.1 ≠ 111 ∧ q.1 ≠ 118 := by
                  intro q hq
                  have hm1 := List.mem_of_getElem? (i := 7) (l := (eD, LCg.lst ts) :: (lD, LCg.lst ws) :: (s.heap.objs.size + 1 + 1 + 1 + 1, oT) :: (sD, LCg.lst ys) :: (pla, listOf pa 9) :: (s.heap.objs.size + 1 + 1 + 1 + 1 + 1, o4') :: (r3, listOf (ch.map fun e => Value.ref e.1).toArray ep3) :: (111, tabObj #[]) :: (118, tabObj #[]) :: (Y ++ TT)) rfl
                  have hm2 := List.mem_of_getElem? (i := 8) (l := (eD, LCg.lst ts) :: (lD, LCg.lst ws) :: (s.heap.objs.size + 1 + 1 + 1 + 1, oT) :: (sD, LCg.lst ys) :: (pla, listOf pa 9) :: (s.heap.objs.size + 1 + 1 + 1 + 1 + 1, o4') :: (r3, listOf (ch.map fun e => Value.ref e.1).toArray ep3) :: (111, tabObj #[]) :: (118, tabObj #[]) :: (Y ++ TT)) rfl
                  revert q
                  refine all_cons ?_ ?_
                  · exact ⟨off_tab NE hm1 (List.mem_of_getElem? (i := 0) rfl) (.inl (fun h => nomatch h)), off_tab NE hm2 (List.mem_of_getElem? (i := 0) rfl) (.inl (fun h => nomatch h))⟩
                  refine all_cons ?_ ?_
                  · exact ⟨off_tab NE hm1 (List.mem_of_getElem? (i := 1) rfl) (.inl (fun h => nomatch h)), off_tab NE hm2 (List.mem_of_getElem? (i := 1) rfl) (.inl (fun h => nomatch h))⟩
                  refine all_cons ?_ ?_
                  · exact ⟨off_tab NE hm1 (List.mem_of_getElem? (i := 4) rfl) (.inl (fun h => nomatch h)), off_tab NE hm2 (List.mem_of_getElem? (i := 4) rfl) (.inl (fun h => nomatch h))⟩
                  intro q hq
                  have hq2 : q ∈ Y ++ TT := by
                    rcases List.mem_append.mp hq with hq | hq
                    · exact List.mem_append_left _ (List.mem_filter.mp hq).1
                    · exact List.mem_append_right _ hq
                  have hcc : q.2.cls ≠ .none ∨ q.1 = 179 := by
                    rcases List.mem_append.mp hq with hq | hq
                    · exact .inl (hYc q hq)
                    · exact (hTd q hq).2.2.1
                  rcases hcc with hc | hc
                  rotate_left
                  · rw [hc]; exact ⟨by decide, by decide⟩
                  have hq3 := List.mem_append_right [(eD, LCg.lst ts), (lD, LCg.lst ws), (s.heap.objs.size + 1 + 1 + 1 + 1, oT), (sD, LCg.lst ys), (pla, listOf pa 9), (s.heap.objs.size + 1 + 1 + 1 + 1 + 1, o4'), (r3, listOf (ch.map fun e => Value.ref e.1).toArray ep3), (111, tabObj #[]), (118, tabObj #[])] hq2
                  exact ⟨off_tab NE hm1 hq3 (.inl hc), off_tab NE hm2 hq3 (.inl hc)⟩
                have NG0 := news_weak NE (news' := (111, tabObj #[]) :: (118, tabObj #[]) :: (eD, LCg.lst ts) :: (lD, LCg.lst ws) :: (pla, listOf pa 9) :: ([] ++ (Y.filter keepE ++ TT))) (fun q hq => by
                  revert q
                  refine all_cons ?_ ?_
                  · exact List.mem_of_getElem? (i := 7) rfl
                  refine all_cons ?_ ?_
                  · exact List.mem_of_getElem? (i := 8) rfl
                  refine all_cons ?_ ?_
                  · exact List.mem_of_getElem? (i := 0) rfl
                  refine all_cons ?_ ?_
                  · exact List.mem_of_getElem? (i := 1) rfl
                  refine all_cons ?_ ?_
                  · exact List.mem_of_getElem? (i := 4) rfl
                  intro q hq
                  refine .tail _ (.tail _ (.tail _ (.tail _ (.tail _ (.tail _ (.tail _ (.tail _ (.tail _ ?_))))))))
                  rcases List.mem_append.mp hq with hq | hq
                  · cases hq
                  rcases List.mem_append.mp hq with hq | hq
                  · exact List.mem_append_left _ (List.mem_filter.mp hq).1
                  · exact List.mem_append_right _ hq)
                generalize hYk : Y.filter keepE = Yk at hYc hYc2 hY1 N111 NG0
                clear hY hYk
                have e111 : g.get? 111 = none := by rw [eg]; exact hideAll_none _ (by decide)
                have e118 : g.get? 118 = none := by rw [eg]; exact hideAll_none _ (by decide)
                refine comp_G (x := "pile") (h₀ := g) (L := s.heap.objs.size) (m := fun y => if y = Str.ofString "texts" then some (Value.ref eD) else if y = Str.ofString "laid" then some (Value.ref lD) else if y = Str.ofString "due" then some (.ref uD) else if y = Str.ofString "piles" then some (Value.ref pla) else if y = Str.ofString "rows" then some (Value.ref ra) else if y = Str.ofString "numbers" then some (Value.ref D) else none) (by with_unfolding_all rfl) (by decide) rfl (by decide) rfl ?_
                clear NE
                k_steps
                unfold Halt
                refine ⟨pla, pa, (fun i gs news => ∃ ps1 ps2 V, news = (111, tabObj ps1) :: (118, tabObj ps2) :: (eD, LCg.lst ts) :: (lD, LCg.lst ws) :: (pla, listOf pa 9) :: (V ++ (Yk ++ TT)) ∧ TriplesOk ps1.toList ∧ TriplesOk ps2.toList ∧ DatAll V gs ((List.range i).map (pairD (shN ch) pos)) ∧ (∀ q ∈ V, q.2.cls ≠ .none)), _, rfl, rfl, by rw [hpz, sizeLine_eq]; decide, FE, NG0, hb', ⟨#[], #[], [], rfl, trivial, trivial, .nil, (fun _ h => nomatch h)⟩, ?JlG, ?tG, ?fG⟩
                case JlG =>
                  rintro i gs news ⟨ps1, ps2, V, rfl, _, _, _, _⟩
                  exact ⟨_, List.mem_of_getElem? (i := 4) rfl, rfl, _, rfl⟩
                case tG =>
                  rintro i gs news v I oI C oC Dg m₂ s₂ E' ⟨ps1, ps2, V, rfl, hq1, hq2, hV, hVc⟩ hv hC hx F2 N2 off2 ne2 hb2 ho2
                  have hi : i < 9 := by
                    rcases Nat.lt_or_ge i pa.size with h | h
                    · exact Mine.q_46 h hpz
                    · rw [Array.getElem?_eq_none h] at hv; cases hv
                  rw [hps i hi] at hv
                  cases hv
                  clear FE NG0
                  obtain ⟨hp3, gs3, dr3, tk3, os3⟩ := s₂
                  dsimp only at F2 N2 hb2 ho2 ⊢
                  have lenH := LenHalt.mk
                  k_steps
                  unfold Halt
                  have hmP := hTm _ (PO.memP i hi)
                  have hmD := hTm _ (PO.memD i hi)
                  have pre : ∀ {q : Addr × Obj}, q ∈ TT → q ∈ (I, oI) :: (C, oC) :: (Dg, LCg.lst gs) :: (111, tabObj ps1) :: (118, tabObj ps2) :: (eD, LCg.lst ts) :: (lD, LCg.lst ws) :: (pla, listOf pa 9) :: (V ++ (Yk ++ TT)) := fun hq => .tail _ (.tail _ (.tail _ (.tail _ (.tail _ (.tail _ (.tail _ (.tail _ (List.mem_append_right _ (List.mem_append_right _ hq)))))))))
                  obtain ⟨es, hes1, hes2, hes3⟩ := pe_of ((PO.pcs i hi).mono (T' := TT) hTm |>.at' F2 (news_weak N2 fun q hq => pre hq))
                  rw [hpce i hi] at hes3
                  have hit : its i = (es.map fun t => Value.ref t.1).toArray := by rw [← hes1]
                  have hP3 := (N2 _ (pre hmP)).1
                  have hD3 := (N2 _ (pre hmD)).1
                  dsimp only at hP3 hD3
                  rw [hit] at hP3
                  have hel : es.length ≤ 1 := by
                    have := congrArg List.length hes3
                    simp only [List.length_map] at this
                    have z := hone i
                    exact Mine.q_47 this z
                  have hez : ∀ e ∈ es, e.2.1.length < 1000 ∧ e.2.2.2.1.length < 1000 := by
                    intro e he
                    have z : (e.2.1, e.2.2.2.1) ∈ (chipsAt pos i).map (piece (shN ch)) := hes3 ▸ List.mem_map.mpr ⟨e, he, rfl⟩
                    obtain ⟨c, _, hc⟩ := List.mem_map.mp z
                    have y := piece_len (S := shN ch) (hSl c).2
                    rw [hc] at y
                    dsimp only at y
                    exact Mine.q_48 y
                  have off1 := off2.mem
                  have nA : ∀ q ∈ [(I, oI), (C, oC), (Dg, LCg.lst gs)], q.1 ≠ 111 ∧ q.1 ≠ 118 := by
                    have o1 := off1 _ (List.mem_of_getElem? (i := 0) rfl)
                    have o2 := off1 _ (List.mem_of_getElem? (i := 1) rfl)
                    refine all_cons ?_ ?_
                    · exact ⟨Ne.symm o1.1, Ne.symm o2.1⟩
                    refine all_cons ?_ ?_
                    · exact ⟨Ne.symm o1.2.1, Ne.symm o2.2.1⟩
                    refine all_cons ?_ ?_
                    · exact ⟨Ne.symm o1.2.2, Ne.symm o2.2.2⟩
                    intro q hq
                    cases hq
                  have nB : ∀ q ∈ (eD, LCg.lst ts) :: (lD, LCg.lst ws) :: (pla, listOf pa 9) :: (V ++ (Yk ++ TT)), q.1 ≠ 111 ∧ q.1 ≠ 118 := by
                    intro q hq
                    rcases List.mem_append.mp (show q ∈ [(eD, LCg.lst ts), (lD, LCg.lst ws), (pla, listOf pa 9)] ++ (V ++ (Yk ++ TT)) from hq) with hq | hq
                    · exact N111 q (List.mem_append_left (bs := Yk ++ TT) hq)
                    rcases List.mem_append.mp hq with hq | hq
                    · have hqq := List.mem_append_right [(I, oI), (C, oC), (Dg, LCg.lst gs), (111, tabObj ps1), (118, tabObj ps2), (eD, LCg.lst ts), (lD, LCg.lst ws), (pla, listOf pa 9)] (List.mem_append_left (Yk ++ TT) hq)
                      exact ⟨off_tab N2 (List.mem_of_getElem? (i := 3) rfl) hqq (.inl (hVc q hq)), off_tab N2 (List.mem_of_getElem? (i := 4) rfl) hqq (.inl (hVc q hq))⟩
                    · exact N111 q (.tail _ (.tail _ (.tail _ hq)))
                  have hL1 : (111 : Addr) ≠ s.heap.objs.size := (N2 _ (List.mem_of_getElem? (i := 3) rfl)).2.1
                  have hL2 : (118 : Addr) ≠ s.heap.objs.size := (N2 _ (List.mem_of_getElem? (i := 4) rfl)).2.1
                  refine PySem.W.len_K (C := 149) (f := 116) F2 X (acc_inst hP3 hD3) (by k_is) (by k_is) (wpAny_call ?_)
                  refine len_c (ts := es) G1 F2.keep e111 ⟨ps1, (N2 _ (List.mem_of_getElem? (i := 3) rfl)).1, hq1⟩ hb2 hP3 hD3 hes2 (by exact Nat.lt_of_le_of_lt hel (by decide)) hez (by simp only [depth_deeper]; show dp + 1 + 200 < _; exact Mine.o_d2 hdp) (by simp only [units_deeper]; show un + 3 + 1 + 2000 < _; exact Mine.o_d3 hun) rfl ?_
                  rintro ⟨h4, gs4, dr4, tk4, os4⟩ t4 ho4 hb4 hk4 ⟨ps1', hP4, hq1'⟩ hz4
                  dsimp only at ho4 hb4 hk4 hP4 hz4
                  have F3 := fr_chg F2 hk4 e111 hL1
                  have N3 : News g s.heap.objs.size h4 ((I, oI) :: (C, oC) :: (Dg, LCg.lst gs) :: (111, tabObj ps1') :: (118, tabObj ps2) :: (eD, LCg.lst ts) :: (lD, LCg.lst ws) :: (pla, listOf pa 9) :: (V ++ (Yk ++ TT))) :=
                    news_at (A := [(I, oI), (C, oC), (Dg, LCg.lst gs)]) (P := 111) N2 (fun q hq => (nA q hq).1) (fun q hq => by
                      rcases List.mem_cons.mp hq with rfl | hq
                      · show (118 : Addr) ≠ 111; decide
                      · exact (nB q hq).1) hk4 hP4
                  have hln := pe_len hes3 (hone i)
                  rw [hln]
                  have N2x := N2
                  clear F2 N2
                  refine ⟨⟨Int.natCast_nonneg _, by have z := text_len (S := shN ch) (pos := pos) (j := i) (fun c => (hSl c).2) (hone i); exact Mine.q_49 z⟩, ?_⟩
                  (try dsimp only)
                  k_steps
                  unfold Halt
                  have pre2 : ∀ {q : Addr × Obj}, q ∈ TT → q ∈ (I, oI) :: (C, oC) :: (Dg, LCg.lst gs) :: (111, tabObj ps1') :: (118, tabObj ps2) :: (eD, LCg.lst ts) :: (lD, LCg.lst ws) :: (pla, listOf pa 9) :: (V ++ (Yk ++ TT)) := fun hq => .tail _ (.tail _ (.tail _ (.tail _ (.tail _ (.tail _ (.tail _ (.tail _ (List.mem_append_right _ (List.mem_append_right _ hq)))))))))
                  have hP5 := (N3 _ (pre2 hmP)).1
                  have hD5 := (N3 _ (pre2 hmD)).1
                  dsimp only at hP5 hD5
                  rw [hit] at hP5
                  have hes5 : ∀ t ∈ es, h4.IsTuple t.1 (peVals t) := fun t ht => (hes2 t ht).at fun o e => by
                    obtain ⟨o2, e2, c2', _⟩ := hes2 t ht
                    have : o = o2 := Option.some.inj (e.symm.trans e2)
                    subst this
                    exact hk4 _ _ (fun q => by
                      have z := (N2x _ (List.mem_of_getElem? (i := 3) rfl)).1
                      dsimp only at z
                      rw [q, z] at e
                      cases e
                      exact nomatch c2') e
                  refine PySem.W.kso_call (C := 149) (f := 123) ?hu (G1.keeps F3.keep).X (acc_inst hP5 hD5) (by k_is) (by k_is) (wpAny_call ?_)
                  case hu => (simp only [units_deeper]; show un + 3 + 1 + 1 < _; exact Mine.o_d3 hun)
                  refine str_c (ts := es) G1 F3.keep e118 ⟨ps2, (N3 _ (List.mem_of_getElem? (i := 4) rfl)).1, hq2⟩ hb4 hP5 hD5 hes5 (by exact Nat.lt_of_le_of_lt hel (by decide)) hez (by simp only [depth_deeper]; show dp + 1 + 200 < _; exact Mine.o_d2 hdp) (by simp only [units_deeper]; show un + 3 + 1 + 1 + 2000 < _; exact Mine.o_d4 hun) rfl ?_
                  rintro ⟨h5, gs5, dr5, tk5, os5⟩ t5 ho5 hb5 hk5 ⟨ps2', hP6, hq2'⟩ hz5
                  dsimp only at ho5 hb5 hk5 hP6 hz5
                  have F4 := fr_chg F3 hk5 e118 hL2
                  have N4 : News g s.heap.objs.size h5 ((I, oI) :: (C, oC) :: (Dg, LCg.lst gs) :: (111, tabObj ps1') :: (118, tabObj ps2') :: (eD, LCg.lst ts) :: (lD, LCg.lst ws) :: (pla, listOf pa 9) :: (V ++ (Yk ++ TT))) :=
                    news_at (A := [(I, oI), (C, oC), (Dg, LCg.lst gs), (111, tabObj ps1')]) (P := 118) N3 (fun q hq => by
                      rcases List.mem_append.mp (show q ∈ [(I, oI), (C, oC), (Dg, LCg.lst gs)] ++ [(111, tabObj ps1')] from hq) with hq | hq
                      · exact (nA q hq).2
                      · rw [List.mem_singleton] at hq; subst hq; show (111 : Addr) ≠ 118; decide) (fun q hq => (nB q hq).2) hk5 hP6
                  rw [pe_text hes3]
                  show wpAny _ _ _ _ _ _
                  clear F3 N3 N2x
                  (try dsimp only)
                  k_steps
                  rename Fr _ _ _ _ => Fx
                  rename News _ _ _ _ => Nx
                  rename_i Dt hT lT
                  refine ⟨(111, tabObj ps1') :: (118, tabObj ps2') :: (eD, LCg.lst ts) :: (lD, LCg.lst ws) :: (pla, listOf pa 9) :: (((Dt, _) :: V) ++ (Yk ++ TT)), ho5.trans (ho4.trans ho2), hb5, Fx, news_weak Nx (fun q hq => mem_mid [_, _, _, _, _, _, _, _] _ hq), LCg.Off3.of fun p hp => ?_, ⟨ps1', ps2', (Dt, _) :: V, rfl, hq1', hq2', ?_, fun q hq => ?_⟩⟩
                  · rcases List.mem_cons.mp hp with rfl | hp
                    · exact off1 (111, tabObj ps1) (List.mem_of_getElem? (i := 0) rfl)
                    rcases List.mem_cons.mp hp with rfl | hp
                    · exact off1 (118, tabObj ps2) (List.mem_of_getElem? (i := 1) rfl)
                    rcases List.mem_cons.mp (mem_mid [_, _, _] _ hp) with rfl | hp
                    · exact ⟨Nat.ne_of_gt lT.1, Nat.ne_of_gt lT.2.1, Nat.ne_of_gt lT.2.2.1⟩
                    · exact off1 p (.tail _ (.tail _ hp))
                  · rw [List.range_succ, List.map_append]
                    exact dat_snoc (.tuple (vs := [.int ((textOf (shN ch) pos i).length : Int) _, .str (textOf (shN ch) pos i) _]) (.head _) (.cons (.int _ _) (.cons (.str _ _) .nil))) (hV.mono fun _ h => .tail _ h)
                  · revert q
                    refine all_cons ?_ ?_
                    · exact fun h => nomatch h
                    intro q hq
                    · exact hVc q hq
                case fG =>
                  rintro Dg s₂ gs news ⟨ps1, ps2, V, rfl, hq1, hq2, hV, hVc⟩ hgl F2 N2 off2 hb2 ho2
                  obtain ⟨hp3, gs3, dr3, tk3, os3⟩ := s₂
                  dsimp only at F2 N2 hb2 ho2 ⊢
                  rw [hpz] at hV
                  clear FE NG0
                  k_steps
                  unfold Halt
                  refine LCg.ListComp_U (F₀ := F2) (by with_unfolding_all rfl) (by decide) rfl (by decide) rfl ?_
                  k_steps
                  unfold Halt
                  have htl : ts.length = 9 := by rw [hts.1]; rfl
                  refine LCg.CompSrc.ledger rfl F2 N2 (List.mem_of_getElem? (i := 3) rfl) (by rw [List.size_toArray, htl, sizeLine_eq]; decide) fun g' => ?_
                  refine rest_inv (n := ts.toArray.size) (J := fun i rs news => ∃ W2, news = (Dg, LCg.lst gs) :: (111, tabObj ps1) :: (118, tabObj ps2) :: (eD, LCg.lst ts) :: (lD, LCg.lst ws) :: (pla, listOf pa 9) :: (W2 ++ (V ++ (Yk ++ TT))) ∧ DatAll W2 rs ((List.range i).map (pairD (shN ch) pos))) ?tR ?fR ts.toArray.size 0 [] _ (Nat.zero_add _) ⟨[], rfl, .nil⟩
                  case tR =>
                    rintro i rs news hi ⟨W2, rfl, hW⟩ v I oI C oC Dc m₂ h tk E' hv hC hx F3 N3 off3 ne3
                    rw [List.size_toArray, htl] at hi
                    obtain ⟨tt9, ev⟩ := hts.2 i (textOf (shN ch) pos i) (by rw [List.getElem?_map, List.getElem?_range hi]; rfl)
                    rw [List.getElem?_toArray, ev] at hv
                    cases hv
                    have htx := text_len (S := shN ch) (pos := pos) (j := i) (fun c => (hSl c).2) (hone i)
                    clear F2 N2
                    k_steps
                    repeat (any_goals (first
                      | ((with_reducible refine goN 3 ?_); k_dflt (refine' PyProof.Rows.len_str ?q9hS ?_; (case q9hS => exact Mine.q_50 htx)); k_steps)))
                    unfold Halt
                    rename Fr _ _ _ _ => Fx
                    rename News _ _ _ _ => Nx
                    rename_i Dt hT lT
                    refine LCg.CompEnd.intro Fx Nx ((Dg, LCg.lst gs) :: (111, tabObj ps1) :: (118, tabObj ps2) :: (eD, LCg.lst ts) :: (lD, LCg.lst ws) :: (pla, listOf pa 9) :: (((Dt, _) :: W2) ++ (V ++ (Yk ++ TT)))) (fun q hq => mem_mid [_, _, _, _, _, _, _, _, _] _ hq) (LCg.Off3.of fun p hp => ?_) (.inr ⟨_, List.mem_of_getElem? (i := 3) rfl, rfl, _, rfl⟩) ⟨(Dt, _) :: W2, rfl, ?_⟩
                    · rcases List.mem_cons.mp (mem_mid [_, _, _, _, _, _] _ hp) with rfl | hp
                      · exact ⟨Nat.ne_of_gt lT.1, Nat.ne_of_gt lT.2.1, Nat.ne_of_gt lT.2.2.1⟩
                      · exact off3.mem p hp
                    · rw [List.range_succ, List.map_append]
                      exact dat_snoc (.tuple (vs := [.int ((textOf (shN ch) pos i).length : Int) _, .str (textOf (shN ch) pos i) _]) (.head _) (.cons (.int _ _) (.cons (.str _ _) .nil))) (hW.mono fun _ h => .tail _ h)
                  case fR =>
                    rintro rs news ⟨W2, rfl, hW⟩
                    show LCg.FinE _ _ _ _ _ _ _
                    unfold LCg.FinE
                    intro D5 h5 tk5 F5 N5 o5'
                    clear F2 N2
                    rw [List.size_toArray, htl] at hW
                    (try dsimp only at F5 N5 ⊢)
                    k_steps
                    unfold Halt
                    have okp : ∀ d ∈ (List.range 9).map (pairD (shN ch) pos), kqdOk 8 d = true := by
                      intro d hd'
                      obtain ⟨j, _, rfl⟩ := List.mem_map.mp hd'
                      have z := text_ok (S := shN ch) (pos := pos) (j := j) (fun c => (hSl c).2) (hone j)
                      show ([Dat.int _, Dat.str _].all (kqdOk 7)) = true
                      simp only [List.all_cons, List.all_nil, Bool.and_true, kqdOk, Bool.true_and]
                      exact z
                    refine kqd_ne (n₁ := V) (n₂ := W2) (xs := gs) (ys := rs) (ds := (List.range 9).map (pairD (shN ch) pos)) (es := (List.range 9).map (pairD (shN ch) pos)) N5 (List.mem_of_getElem? (i := 1) rfl) rfl rfl hV (fun q hq => .tail _ (.tail _ (.tail _ (.tail _ (.tail _ (.tail _ (.tail _ (List.mem_append_right _ (List.mem_append_left _ hq))))))))) (List.mem_of_getElem? (i := 0) rfl) rfl rfl hW (fun q hq => .tail _ (.tail _ (.tail _ (.tail _ (.tail _ (.tail _ (.tail _ (List.mem_append_left _ hq)))))))) okp okp (by simp only [units_deeper]; exact Mine.o_d2 hun) ?_
                    rw [ne_same rfl]
                    k_steps
                    unfold Halt
                    have N6 := news_weak N5 (news' := (lD, LCg.lst ws) :: (pla, listOf pa 9) :: ([] ++ (Yk ++ ((111, tabObj ps1) :: (118, tabObj ps2) :: TT)))) (fun q hq => by
                      revert q
                      refine all_cons ?_ ?_
                      · exact List.mem_of_getElem? (i := 5) rfl
                      refine all_cons ?_ ?_
                      · exact List.mem_of_getElem? (i := 6) rfl
                      intro q hq
                      rcases List.mem_append.mp (show q ∈ Yk ++ ((111, tabObj ps1) :: (118, tabObj ps2) :: TT) from hq) with hq | hq
                      · exact .tail _ (.tail _ (.tail _ (.tail _ (.tail _ (.tail _ (.tail _ (List.mem_append_right _ (List.mem_append_right _ (List.mem_append_left _ hq)))))))))
                      rcases List.mem_cons.mp hq with rfl | hq
                      · exact List.mem_of_getElem? (i := 2) rfl
                      rcases List.mem_cons.mp hq with rfl | hq
                      · exact List.mem_of_getElem? (i := 3) rfl
                      exact .tail _ (.tail _ (.tail _ (.tail _ (.tail _ (.tail _ (.tail _ (List.mem_append_right _ (List.mem_append_right _ (List.mem_append_right _ hq))))))))))
                    refine LCg.CompSrc.ledger rfl F5 N6 (List.mem_of_getElem? (i := 1) rfl) (by rw [hpz, sizeLine_eq]; decide) fun g3 => ?_
                    refine rest_inv (n := pa.size) (J := fun i rs news => ∃ R Tn, news = (lD, LCg.lst ws) :: (pla, listOf pa 9) :: (R ++ (Yk ++ Tn)) ∧ (∀ j, i ≤ j → j < 9 → (p j, accObj (dx j) (its j) (ep j)) ∈ Tn ∧ (dx j, accDict w (tt j) 408) ∈ Tn) ∧ (∀ j, j < 9 → PcT g Tn (its j).toList (pc j)) ∧ rs.length = i ∧ (∀ j, j < i → ∃ a e, rs[j]? = some (.ref a) ∧ (a, listOf (its j).toList.toArray e) ∈ R) ∧ (∀ q ∈ R, q.2.cls = .type "list") ∧ (∀ b ∈ tabs3, ∃ ps, (b, tabObj ps) ∈ Tn)) ?tQ ?fQ pa.size 0 [] _ (Nat.zero_add _) ⟨[], (111, tabObj ps1) :: (118, tabObj ps2) :: TT, rfl, fun j _ hj => ⟨.tail _ (.tail _ (hTm _ (PO.memP j hj))), .tail _ (.tail _ (hTm _ (PO.memD j hj)))⟩, fun j hj => (PO.pcs j hj).mono fun q hq => .tail _ (.tail _ (hTm q hq)), rfl, (fun j h => absurd h (Nat.not_lt_zero _)), (fun _ h => nomatch h), (fun b hb => by
                      rcases List.mem_cons.mp hb with rfl | hb
                      · exact ⟨_, .head _⟩
                      rcases List.mem_cons.mp hb with rfl | hb
                      · exact ⟨_, .tail _ (.head _)⟩
                      rcases List.mem_cons.mp hb with rfl | hb
                      · exact ⟨_, .tail _ (.tail _ h179m)⟩
                      cases hb)⟩
                    case tQ =>
                      rintro i rs2 news hi ⟨R, Tn, rfl, hPl, hPc, hrl, hR, hRc, hTab⟩ v I oI C oC Dc m₂ h tk E' hv hC hx F3 N3 off3 ne3
                      rw [hpz] at hi
                      rw [hps i hi] at hv
                      cases hv
                      clear F5 N5 N6
                      obtain ⟨hmP, hmD⟩ := hPl i (Nat.le_refl _) hi
                      have pre : ∀ {q : Addr × Obj}, q ∈ Tn → q ∈ (I, oI) :: (C, oC) :: (Dc, LCg.lst rs2) :: (lD, LCg.lst ws) :: (pla, listOf pa 9) :: (R ++ (Yk ++ Tn)) := fun hq => .tail _ (.tail _ (.tail _ (.tail _ (.tail _ (List.mem_append_right _ (List.mem_append_right _ hq))))))
                      have hP3 := N3 _ (pre hmP)
                      have hD3 := N3 _ (pre hmD)
                      k_steps
                      unfold Halt
                      refine acc_method (f := 101) (G1.keeps F3.keep).X hP3.1 hD3.1 (by k_is) (by k_is) rfl ?_
                      k_steps
                      unfold Halt
                      refine wpAny_call ?_
                      have hiz : (its i).size ≤ sizeLine := by
                        have z := (hPc i hi).1
                        rw [hpce i hi, List.length_map, Array.length_toList] at z
                        have y := hone i
                        rw [sizeLine_eq]
                        exact Mine.q_51 z y
                      refine pop0_c G1 F3.keep hP3.1 hP3.2.2 hD3.1 hiz (by simp only [depth_deeper]; show dp + 1 + 10 < _; exact Mine.o_d2 hdp) (by simp only [units_deeper]; exact Mine.o_d2 hun) fun h4 tk4 a ep4 hc4 hpe hae ha0 => ?_
                      rw [show ((its i).toList.drop (0 : Int).toNat) = (its i).toList from rfl] at hae
                      have F4 := fr_chg F3 hc4 hP3.2.2 hP3.2.1
                      have offI := off3.mem _ (List.mem_append_right [(lD, LCg.lst ws), (pla, listOf pa 9)] (List.mem_append_right R (List.mem_append_right Yk hmP)))
                      have kp : ∀ {q : Addr × Obj}, q ∈ (I, oI) :: (C, oC) :: (Dc, LCg.lst rs2) :: (lD, LCg.lst ws) :: (pla, listOf pa 9) :: (R ++ (Yk ++ Tn)) → q.1 ≠ p i → h4.get? q.1 = some q.2 ∧ q.1 ≠ s.heap.objs.size ∧ g.get? q.1 = none := fun hq n => ⟨hc4 _ _ n (N3 _ hq).1, (N3 _ hq).2⟩
                      have aneI : ∀ {q : Addr × Obj}, q ∈ (I, oI) :: (C, oC) :: (Dc, LCg.lst rs2) :: (lD, LCg.lst ws) :: (pla, listOf pa 9) :: (R ++ (Yk ++ Tn)) → a ≠ q.1 := fun hq e => by
                        have z := (N3 _ hq).1
                        have y : h.get? a = none := ha0
                        rw [e, z] at y; cases y
                      have N4 : News g s.heap.objs.size h4 ((I, oI) :: (C, oC) :: (Dc, LCg.lst rs2) :: (lD, LCg.lst ws) :: (pla, listOf pa 9) :: (((a, listOf (its i).toList.toArray 0) :: R) ++ (Yk ++ (Tn.filter fun q => decide (q.1 ≠ p i))))) := by
                        refine all_cons ?_ ?_
                        · exact kp (List.mem_of_getElem? (i := 0) rfl) (Ne.symm offI.1)
                        refine all_cons ?_ ?_
                        · exact kp (List.mem_of_getElem? (i := 1) rfl) (Ne.symm offI.2.1)
                        refine all_cons ?_ ?_
                        · exact kp (List.mem_of_getElem? (i := 2) rfl) (Ne.symm offI.2.2)
                        refine all_cons ?_ ?_
                        · exact kp (List.mem_of_getElem? (i := 3) rfl) (news_apart N3 (List.mem_of_getElem? (i := 3) rfl) (pre hmP) (fun h => nomatch h))
                        refine all_cons ?_ ?_
                        · exact kp (List.mem_of_getElem? (i := 4) rfl) (news_apart N3 (List.mem_of_getElem? (i := 4) rfl) (pre hmP) (fun h => nomatch h))
                        intro q hq
                        rcases List.mem_append.mp hq with hq | hq
                        · rcases List.mem_cons.mp hq with rfl | hq
                          · exact ⟨hae, ne_local F4 hae (fun es ep q => by cases q), fresh_of F3 ha0⟩
                          · have hq2 : q ∈ (I, oI) :: (C, oC) :: (Dc, LCg.lst rs2) :: (lD, LCg.lst ws) :: (pla, listOf pa 9) :: (R ++ (Yk ++ Tn)) := .tail _ (.tail _ (.tail _ (.tail _ (.tail _ (List.mem_append_left _ hq)))))
                            exact kp hq2 (news_apart N3 hq2 (pre hmP) (by rw [hRc q hq]; exact fun h => nomatch h))
                        rcases List.mem_append.mp hq with hq | hq
                        · have hq2 : q ∈ (I, oI) :: (C, oC) :: (Dc, LCg.lst rs2) :: (lD, LCg.lst ws) :: (pla, listOf pa 9) :: (R ++ (Yk ++ Tn)) := .tail _ (.tail _ (.tail _ (.tail _ (.tail _ (List.mem_append_right _ (List.mem_append_left _ hq))))))
                          exact kp hq2 (news_apart N3 hq2 (pre hmP) (hYc2 q hq))
                        · obtain ⟨hq1, hq2⟩ := List.mem_filter.mp hq
                          exact kp (pre hq1) (of_decide_eq_true hq2)
                      refine LCg.CompEnd.intro F4 N4 _ (fun q hq => hq) (LCg.Off3.of fun q hq => ?_) (.inr ⟨_, List.mem_of_getElem? (i := 1) rfl, rfl, _, rfl⟩) ⟨(a, listOf (its i).toList.toArray 0) :: R, Tn.filter fun q => decide (q.1 ≠ p i), rfl, fun j hj hj9 => ?_, fun j hj => pct_filter N3 (fun q hq => pre hq) (pre hmP) (fun h => nomatch h) (hPc j hj), by rw [List.length_append, List.length_singleton, hrl], fun j hj => ?_, fun q hq => ?_, fun b hb => ?_⟩
                      · have old : ∀ q, q ∈ (lD, LCg.lst ws) :: (pla, listOf pa 9) :: (R ++ (Yk ++ Tn)) → q.1 ≠ I ∧ q.1 ≠ C ∧ q.1 ≠ Dc := fun q hq => off3.mem q hq
                        rcases List.mem_cons.mp (mem_mid [_, _] _ hq) with rfl | hq
                        · exact ⟨aneI (List.mem_of_getElem? (i := 0) rfl), aneI (List.mem_of_getElem? (i := 1) rfl), aneI (List.mem_of_getElem? (i := 2) rfl)⟩
                        · refine old q ?_
                          rcases List.mem_append.mp (show q ∈ [(lD, LCg.lst ws), (pla, listOf pa 9)] ++ (R ++ (Yk ++ (Tn.filter fun q => decide (q.1 ≠ p i)))) from hq) with hq | hq
                          · exact List.mem_append_left (bs := R ++ (Yk ++ Tn)) hq
                          refine .tail _ (.tail _ ?_)
                          rcases List.mem_append.mp hq with hq | hq
                          · exact List.mem_append_left _ hq
                          rcases List.mem_append.mp hq with hq | hq
                          · exact List.mem_append_right _ (List.mem_append_left _ hq)
                          · exact List.mem_append_right _ (List.mem_append_right _ (List.mem_filter.mp hq).1)
                      · obtain ⟨z1, z2⟩ := hPl j (by exact Mine.q_52 hj) hj9
                        refine ⟨List.mem_filter.mpr ⟨z1, decide_eq_true fun e => ?_⟩, List.mem_filter.mpr ⟨z2, decide_eq_true (news_apart N3 (pre z2) (pre hmP) (fun h => nomatch h))⟩⟩
                        have := inj j i hj9 hi e
                        exact Mine.q_53 hj this
                      · by_cases hji : j < i
                        · obtain ⟨a2, e2, y1, y2⟩ := hR j hji
                          exact ⟨a2, e2, by rw [List.getElem?_append_left (by exact Mine.q_54 hji hrl)]; exact y1, .tail _ y2⟩
                        · have : j = i := by exact Mine.q_55 hj hji
                          subst this
                          exact ⟨a, 0, by rw [List.getElem?_append_right (by exact Mine.q_56 hrl), hrl, Nat.sub_self]; rfl, .head _⟩
                      · rcases List.mem_cons.mp hq with rfl | hq
                        · rfl
                        · exact hRc q hq
                      · obtain ⟨ps, hm⟩ := hTab b hb
                        exact ⟨ps, List.mem_filter.mpr ⟨hm, decide_eq_true (news_apart N3 (pre hm) (pre hmP) (fun h => nomatch h))⟩⟩
                    case fQ =>
                      rintro rs2 news ⟨R, Tn, rfl, hPl, hPc, hrl, hR, hRc, hTab⟩
                      show LCg.FinE _ _ _ _ _ _ _
                      unfold LCg.FinE
                      intro D6 h6' tk6' F7 N7 o7
                      clear F5 N5 N6 o7
                      rw [hpz] at hrl hR
                      (try dsimp only at F7 N7 ⊢)
                      k_steps
                      unfold Halt
                      have okl : ∀ d ∈ (List.range 9).map (laidD (shN ch) pos), kqdOk 8 d = true := by
                        intro d hd'
                        obtain ⟨j, _, rfl⟩ := List.mem_map.mp hd'
                        show (((chipsAt pos j).map fun k => Dat.tuple [.str (piece (shN ch) k).1, .str (piece (shN ch) k).2]).all (kqdOk 7)) = true
                        rw [List.all_eq_true]
                        intro d2 hd2
                        obtain ⟨k2, hk2, rfl⟩ := List.mem_map.mp hd2
                        have z := piece_ok (S := shN ch) (c := k2) (hSl k2).2 (chips_lt hk2)
                        show ([Dat.str _, Dat.str _].all (kqdOk 6)) = true
                        simp only [List.all_cons, List.all_nil, Bool.and_true, kqdOk, z.1, z.2]
                      obtain ⟨rb, hrb⟩ := kqd_all N7 8 (hY1.mono fun q hq => .tail _ (.tail _ (.tail _ (List.mem_append_right _ (List.mem_append_left _ hq))))) okl
                      obtain ⟨ra9, hra9⟩ := reads_all (h := h6') (f := laidD (shN ch) pos) (n := 9) (k := 0) (vs := rs2) hrl fun j hj => by
                        obtain ⟨a, e, y1, y2⟩ := hR j hj
                        obtain ⟨as, r⟩ := laid_reads (S := shN ch) (pos := pos) (j := j) ((hPc j hj).at' F7 (news_weak N7 fun q hq => .tail _ (.tail _ (.tail _ (List.mem_append_right _ (List.mem_append_right _ hq)))))) (hpce j hj) (N7 _ (.tail _ (.tail _ (.tail _ (List.mem_append_left _ y2))))).1
                        exact ⟨_, as, y1, by rw [Nat.zero_add]; exact r⟩
                      rw [← List.range_eq_range'] at hra9
                      refine eq_R (N7 _ (.head _)).1 rfl rfl hra9 (N7 _ (.tail _ (.head _))).1 rfl rfl hrb okl (by simp only [units_deeper]; exact Mine.o_d2 hun) ?_
                      refine hres _ ?_ ?_ (fun b o n e => F7.keep b o (up b o n e)) fun b hb => (hTab b hb).imp fun ps hm => (N7 _ (.tail _ (.tail _ (.tail _ (List.mem_append_right _ (List.mem_append_right _ hm)))))).1
                      · exact ho2.trans ho'
                      · exact hb2
end Mine
end

section
open PySem PySem.W PySem.Calls PySem.Spec PyProof.Rows
set_option Elab.async false
set_option maxRecDepth 100000
set_option maxHeartbeats 8000000
set_option linter.unusedVariables false
namespace Mine
theorem fill30 : PySem.Challenge.rw_sn0012_01 = PySem.Challenge.rw_sn0012_01 ∧ hd.heap_39 = hd.heap_39 := by
  k_fill
  exact ⟨rfl, rfl⟩
theorem top : PySem.Challenge.rw_sn0012_01.Holds := hd (by
  intro w s₀ s₁ mg mb G Y fa o pm cd doc dV kV ho hd' hcd hD hmg hg args vals as hpre hlay hrd hwl hlo
  have X := (Ground.X G).1
  have V := (Ground.X G).2
  have KX := km_in_of Y
  have KT := km_tabs_of Y
  refine Ground.open G ?_
  intro T B D TE TW
  have efa : fa = 182 := by
    have z := mg_of KX T.g (n := Str.ofString "law") (v := .ref 182) (by k_is)
    have y := hmg.symm.trans z
    cases y
    rfl
  subst efa
  have hgb : AllBare s₁.gens := by rw [hg]; intro y hy; simp at hy
  have G0 := gd_hide KX T (fun a ha => ⟨#[], KT a ha⟩)
  clear B D TE TW X V Y hD hcd hd' ho hmg T
  wrow_args hpre hlay hrd hwl hlo
  rename_i ns hs lay0 hL1 hr1 hl2 w4 w3 sa vs wA hIsL raA w1 r0 hI hr hnc hct
  dsimp only
  refine enter_call ?_
  refine law_c (sa := sa) (vs := vs) (ns := ns) G0 (fun b o e => of_hideAll _ e) (fun a ha => hideAll_none _ ha) hIsL hI (by omega) ?hsa KT hgb (by decide) (by decide) rfl ?hres
  case hsa =>
    intro hm
    obtain ⟨o', e, hc, _⟩ := hIsL
    rw [KT sa hm] at e
    cases e
    cases hc
  case hres =>
    intro s' ho hb hk htab
    have C1 : CodeHd s₁.heap 115 111 := codeHd_of_K KX (by kernel_rfl)
    have C2 : CodeHd s₁.heap 122 118 := codeHd_of_K KX (by kernel_rfl)
    have C3 : CodeHd s₁.heap 181 179 := codeHd_of_K KX (by kernel_rfl)
    have hct : ∀ b ∈ tabs3, isCodeTable s₁.heap b := by
      intro b hb
      rcases List.mem_cons.mp hb with rfl | hb
      · exact (C1.tab (KT 111 (by decide))).isCodeTable
      rcases List.mem_cons.mp hb with rfl | hb
      · exact (C2.tab (KT 118 (by decide))).isCodeTable
      rcases List.mem_cons.mp hb with rfl | hb
      · exact (C3.tab (KT 179 (by decide))).isCodeTable
      cases hb
    refine ⟨.inl ⟨.bool true, ofPy (.bool true), [], rfl, raisesW_false (fun ct hct => nomatch hct), readsW_of_reads (.bool true), ?post, fun _ => ⟨List.nodup_nil, fun a ha => nomatch ha⟩⟩, ⟨fun b o e => ?old, fun b o e => ?there⟩, ho, hb⟩
    case post => exact postW_of (by wrow_shape) (by wtm_val) (by str_meet; first | done | w_fin)
    case old =>
      by_cases hm : b ∈ tabs3
      · obtain ⟨ps, e2⟩ := htab b hm
        rw [KT b hm] at e
        cases e
        exact .inr (.inl ⟨hct b hm, rfl, #[], ps, rfl, by rw [e2]; simp⟩)
      · exact .inl (hk b o hm e)
    case there =>
      by_cases hm : b ∈ tabs3
      · obtain ⟨ps, e2⟩ := htab b hm
        exact ⟨_, e2⟩
      · exact ⟨o, hk b o hm e⟩)
end Mine
end
theorem PySem.Challenge.cw_sn0012_01_holds : PySem.Challenge.rw_sn0012_01.Holds :=
  Mine.top
