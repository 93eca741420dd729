import PyProof.Rows.All
import Wide.All
import OpenK.AllK
import Wide.FinOn
import PySem.Challenge.RW_mr0110_01
open PySem PySem.W PyProof.Rows PySem.Calls
set_option Elab.async false
namespace Mine
set_option maxRecDepth 100000
set_option maxHeartbeats 8000000

set_option maxRecDepth 100000 in
set_option maxHeartbeats 8000000 in
open_top hd for PySem.Challenge.rw_mr0110_01

set_option linter.unusedVariables false
theorem hz63 {n : Nat} (h : n ≤ 1000) : (n : Int) < (2 : Int) ^ (63 : Nat) := Int.lt_of_le_of_lt (Int.ofNat_le.mpr h) (by decide)
theorem hz60 {n : Nat} (h : n ≤ 1000) : (n : Int) < (2 : Int) ^ (60 : Nat) := Int.lt_of_le_of_lt (Int.ofNat_le.mpr h) (by decide)
theorem om0 {b0 : Nat} {b1 : Nat} {b2 : Nat} (h0 : ((b0 + b1) < b2)) : (b0 < b2) := by (exact Nat.lt_of_le_of_lt (Nat.le_add_right _ _) ‹_›)
theorem om1 {b0 : Nat} {b1 : Nat} {b2 : Nat} (h0 : ((b0 + (b1 + (1 : Nat))) < b2)) : (((b0 + (1 : Nat)) + b1) < b2) := by (rw [Nat.add_right_comm]; exact h0)
theorem om2 {b0 : Nat} {b1 : Nat} {b2 : Nat} (h0 : ((b0 + (b1 + (3 : Nat))) < b2)) : (((b0 + (3 : Nat)) + b1) < b2) := by (rw [Nat.add_right_comm]; exact h0)
theorem om3 {b0 : Nat} {b1 : Nat} {b2 : Nat} {b3 : Nat} (h0 : (b0 ≤ b1)) (h1 : ((b2 + b1) < b3)) : ((b2 + b0) < b3) := by (exact Nat.lt_of_le_of_lt (Nat.add_le_add_left h0 _) h1)
theorem om4 {b0 : Nat} {b1 : Nat} (h0 : (b0 < b1)) : ((0 : Int) < (((b1 : Nat) : Int) - ((b0 : Nat) : Int))) := by (simp_all; done)
theorem om5 {b0 : Int} {b1 : Nat}  : ((b0 + (((b1 + (1 : Nat)) : Nat) : Int)) = ((b0 + ((b1 : Nat) : Int)) + (1 : Int))) := by (subst_vars; simp; lia)
theorem om6 {b0 : Nat} {b1 : Nat}  : ((((b0 : Nat) : Int) - (((b1 + (1 : Nat)) : Nat) : Int)) = ((((b0 : Nat) : Int) - ((b1 : Nat) : Int)) - (1 : Int))) := by (subst_vars; simp; lia)
theorem om7 {b0 : Nat}  : ((((b0 : Nat) : Int) - ((b0 : Nat) : Int)) ≤ (0 : Int)) := by (simp_all; done)
theorem om8 {b0 : Nat} {b1 : Nat} {b2 : Nat} (h0 : ((b0 + b1) = b2)) (h1 : (b1 < b2)) : ((b0 - (1 : Nat)) < b0) := by (exact Nat.sub_lt (Nat.pos_of_ne_zero fun e => Nat.ne_of_lt h1 (by rw [← h0, e, Nat.zero_add])) (by decide))
theorem om9 {b0 : Nat} {b1 : Nat} {b2 : Nat} (h0 : ((b0 + b1) = b2)) (h1 : (b1 < b2)) : (((b0 - (1 : Nat)) + (b1 + (1 : Nat))) = b2) := by cases b0 with | zero => exact absurd (Nat.zero_add b1 ▸ h0) (Nat.ne_of_lt h1) | succ n => exact (Nat.add_right_comm n 1 b1).symm.trans h0
theorem om10 {b0 : Nat} {b1 : Nat} {b2 : Nat} (h0 : ((b0 + b1) = b2)) (h1 : (¬ (b1 < b2))) : (b1 = b2) := by (exact Nat.le_antisymm (h0 ▸ Nat.le_add_left _ _) (Nat.le_of_not_lt h1))
theorem om11 {b0 : Nat} (h0 : (b0 ≤ (0 : Nat))) : (b0 = (0 : Nat)) := by (simp_all; done)
theorem om12 {b0 : Nat}  : ((0 : Nat) < (b0 + (1 : Nat))) := by (exact Nat.succ_pos _)
theorem om13 {b0 : Nat} {b1 : Nat} {b2 : Nat} (h0 : ((b0 + (1 : Nat)) ≤ (b1 + (1 : Nat)))) (h1 : (b2 < (b0 + (1 : Nat)))) : (b2 ≤ b1) := by (exact Nat.le_trans (Nat.le_of_lt_succ h1) (Nat.le_of_succ_le_succ h0))
theorem om14 {b0 : Nat} {b1 : Nat} (h0 : (b0 < (b1 + (1 : Nat)))) : (b0 ≤ b1) := by (subst_vars; exact Nat.le_of_lt_succ ‹_›)
theorem om15 {b0 : Nat} (h0 : ((0 : Nat) < b0)) : (b0 = ((b0 - (1 : Nat)) + (1 : Nat))) := by (exact (Nat.sub_add_cancel ‹_›).symm)
theorem om16 {b0 : Nat}  : (¬ ((b0 + (1 : Nat)) = (0 : Nat))) := by (simp_all; done)
theorem om17 {b0 : Nat} {b1 : Nat} (h0 : (b0 ≤ (b1 + (1 : Nat)))) : ((b0 + (1 : Nat)) ≤ ((b1 + (1 : Nat)) + (1 : Nat))) := by (subst_vars; exact Nat.lt_succ_of_le ‹_›)
theorem om18 {b0 : Nat} {b1 : Nat} {b2 : Nat} {b3 : Nat} {b4 : Nat} (h0 : (b0 < b1)) (h1 : (b1 ≤ (8 : Nat))) (h2 : ((b2 + b3) = b4)) (h3 : (b4 ≤ (b0 + (1 : Nat)))) : (b2 ≤ (8 : Nat)) := by (exact Nat.le_trans (Nat.le_trans (h2 ▸ Nat.le_add_right b2 b3) h3) (Nat.le_trans h0 h1))
theorem om19 {b0 : Nat} {b1 : Nat} (h0 : (b0 = (b1 + (1 : Nat)))) : ((-((b0 : Nat) : Int)) ≤ (-(1 : Int))) := by (subst_vars; simp; lia)
theorem om20 {b0 : Nat} {b1 : Nat} (h0 : (b0 = (b1 + (1 : Nat)))) : ((Int.toNat ((-(1 : Int)) + ((b0 : Nat) : Int))) = b1) := by (subst_vars; simp; lia)
theorem om21 {b0 : Nat} (h0 : (((b0 : Nat) : Int) ≠ (0 : Int))) : ((0 : Nat) < b0) := by (exact Nat.pos_of_ne_zero fun e => h0 (by rw [e]; rfl))
theorem om22 {b0 : Nat}  : ((0 : Int) ≤ ((b0 : Nat) : Int)) := by (exact Int.natCast_nonneg _)
theorem om23 {b0 : Nat} {b1 : Nat} (h0 : (b0 ≤ (8 : Nat))) (h1 : (b1 < b0)) : (((b1 : Nat) : Int) < ((2 : Int) ^ (63 : Nat))) := by (subst_vars; exact Int.lt_of_le_of_lt (Int.ofNat_le.mpr (Nat.le_trans (Nat.le_of_lt ‹_›) ‹_›)) (by decide))
theorem om24 {b0 : Nat} {b1 : Nat} {b2 : Nat} (h0 : (b0 < b1)) (h1 : (b2 < b0)) : (b2 < b1) := by (exact Nat.lt_trans ‹_› ‹_›)
theorem om25 {b0 : Nat} {b1 : Nat} {b2 : Nat} (h0 : (b0 ≤ b1)) (h1 : (b2 < b0)) : (b2 ≤ b1) := by (exact Nat.le_of_lt (Nat.lt_of_lt_of_le h1 h0))
theorem om26 {b0 : Nat} (h0 : (((b0 : Nat) : Int) = (0 : Int))) : (b0 = (0 : Nat)) := by (simp_all; done)
theorem om27 {b0 : Nat} {b1 : Nat} (h0 : (b0 = b1)) : (b1 ≤ b0) := by (subst_vars; exact Nat.le_refl _)
theorem om28 {b0 : Nat} {b1 : Nat} {b2 : Nat} {b3 : Nat} {b4 : Nat} (h0 : ((b0 + b1) ≤ (1000 : Nat))) (h1 : (b2 = b0)) (h2 : (b3 = (16777216 : Nat))) : ((min b4 b2) ≤ b3) := by (rw [h2, h1]; exact Nat.le_trans (Nat.min_le_right _ _) (Nat.le_trans (Nat.le_trans (Nat.le_add_right _ _) h0) (by decide)))
theorem om29 {b0 : Nat} {b1 : Nat} (h0 : (b0 = b1)) : (b0 ≤ (b1 + (0 : Nat))) := by (subst_vars; exact Nat.le_refl _)
theorem om30 {b0 : Nat} {b1 : Nat} {b2 : Nat} (h0 : (b0 ≤ (b1 + b2))) : (b0 ≤ (b1 + (b2 + (1 : Nat)))) := by (exact Nat.le_succ_of_le ‹_›)
theorem om31 {b0 : Nat} {b1 : Nat} {b2 : Nat} (h0 : (b0 ≤ (b1 + b2))) : ((b0 + ((0 : Nat) + (1 : Nat))) ≤ (b1 + (b2 + (1 : Nat)))) := by (subst_vars; exact Nat.lt_succ_of_le ‹_›)
theorem om32 {b0 : Nat} {b1 : Nat} {b2 : Nat} {b3 : Nat} {b4 : Nat} {b5 : Nat} (h0 : ((b0 + b1) ≤ (1000 : Nat))) (h1 : (b2 = b1)) (h2 : (b3 ≤ (b0 + b4))) (h3 : (b4 < b2)) (h4 : (b5 = (16777216 : Nat))) : (b3 ≤ b5) := by (rw [h4]; exact Nat.le_trans h2 (Nat.le_trans (Nat.add_le_add_left (Nat.le_of_lt (h1 ▸ h3)) _) (Nat.le_trans h0 (by decide))))
theorem om33 {b0 : Nat} {b1 : Nat} (h0 : ((b0 + (0 : Nat)) = b1)) : (b0 = b1) := by (omega)
theorem om34 {b0 : Nat} {b1 : Nat} {b2 : Nat} (h0 : ((b0 + (b1 + (1 : Nat))) = b2)) : (b0 < b2) := by (subst_vars; simp)
theorem om35 {b0 : Nat} {b1 : Nat} {b2 : Nat} (h0 : (b0 ≤ (min b1 b2))) : (b0 ≤ b1) := by (exact Nat.le_trans h0 (Nat.min_le_left _ _))
theorem om36 {b0 : Nat} {b1 : Nat} {b2 : Nat} {b3 : Nat} {b4 : Nat} (h0 : (b0 ≤ (1000 : Nat))) (h1 : ((b1 + (b2 + (1 : Nat))) = b0)) (h2 : (b3 ≤ b1)) (h3 : (b4 = (4096 : Nat))) : (b3 < b4) := by (rw [h3]; exact Nat.lt_of_le_of_lt (Nat.le_trans h2 (Nat.le_trans (h1 ▸ Nat.le_add_right _ _) h0)) (by decide))
theorem om37 {b0 : Nat} {b1 : Nat} {b2 : Nat} {b3 : Nat} {b4 : Nat} (h0 : (b0 ≤ (1000 : Nat))) (h1 : ((b1 + (b2 + (1 : Nat))) = b0)) (h2 : (b3 ≤ b1)) (h3 : (b4 = (4096 : Nat))) : ((b3 + (1 : Nat)) < b4) := by (rw [h3]; exact Nat.lt_of_le_of_lt (Nat.succ_le_succ (Nat.le_trans h2 (Nat.le_trans (h1 ▸ Nat.le_add_right _ _) h0))) (by decide))
theorem om38 {b0 : Nat} {b1 : Nat} {b2 : Nat} (h0 : ((b0 + (b1 + (1 : Nat))) = b2)) : (((b0 + (1 : Nat)) + b1) = b2) := by (subst_vars; lia)
theorem om39 {b0 : Nat}  : (((0 : Nat) + b0) = b0) := by (simp_all; done)
theorem om40 {b0 : Nat} {b1 : Nat} {b2 : Nat} (h0 : (b0 ≤ (1000 : Nat))) (h1 : (b1 ≤ b0)) (h2 : (b2 = (4096 : Nat))) : (b1 < b2) := by (rw [h2]; exact Nat.lt_of_le_of_lt (Nat.le_trans h1 h0) (by decide))
theorem om41 {b0 : Nat} {b1 : Nat} {b2 : Nat} (h0 : (b0 ≤ (b1 + (1 : Nat)))) (h1 : (b2 < b0)) : (b2 ≤ b1) := by (exact Nat.le_of_lt_succ (Nat.lt_of_lt_of_le h1 h0))
theorem om42 {b0 : Nat} {b1 : Nat} (h0 : (b0 ≤ b1)) : ((b0 + (b1 - b0)) = b1) := by (simp_all; done)
theorem om43 {b0 : Nat} {b1 : Nat} {b2 : Nat} (h0 : ((b0 + b1) = b2)) (h1 : (b0 < b2)) : ((b1 - (1 : Nat)) < b1) := by (exact Nat.sub_lt (Nat.pos_of_ne_zero fun e => Nat.ne_of_lt h1 (by rw [← h0, e]; rfl)) (by decide))
theorem om44 {b0 : Nat} {b1 : Nat} (h0 : (b0 ≤ b1)) : (b0 ≤ (b1 + (1 : Nat))) := by (exact Nat.le_succ_of_le ‹_›)
theorem om45 {b0 : Nat} {b1 : Nat} {b2 : Nat} (h0 : ((b0 + b1) = b2)) (h1 : (b0 < b2)) : (((b0 + (1 : Nat)) + (b1 - (1 : Nat))) = b2) := by cases b1 with | zero => exact absurd h0 (Nat.ne_of_lt h1) | succ n => exact (Nat.add_right_comm b0 1 n).trans h0
theorem om46 {b0 : Nat} {b1 : Nat} (h0 : (b0 < (b1 + (1 : Nat)))) (h1 : (¬ (b0 = b1))) : (b0 < b1) := by (exact Nat.lt_of_le_of_ne (Nat.le_of_lt_succ ‹_›) ‹_›)
theorem om47 {b0 : Nat} {b1 : Nat} {b2 : Nat} (h0 : ((b0 + b1) = b2)) (h1 : (¬ (b0 < b2))) : (b0 = b2) := by (exact Nat.le_antisymm (h0 ▸ Nat.le_add_right _ _) (Nat.le_of_not_lt h1))
theorem om48 {b0 : Nat} {b1 : Nat} (h0 : (b0 = b1)) : (b0 ≤ b1) := by (subst_vars; exact Nat.le_refl _)
theorem om49 {b0 : Nat} {b1 : Int} (h0 : (((b0 - (1 : Nat)) - (Int.toNat b1)) < (1000 : Nat))) : (¬ (((b0 - (1 : Nat)) - (Int.toNat b1)) ≥ (16777216 : Nat))) := by (exact Nat.not_le_of_gt (Nat.lt_trans h0 (by decide)))
theorem om50 {b0 : Nat} {b1 : Nat} (h0 : ((b0 + (6 : Nat)) < b1)) : (((b0 + (1 : Nat)) + (5 : Nat)) < b1) := by (omega)
theorem om51 {b0 : Nat} {b1 : Nat} (h0 : ((b0 + (60 : Nat)) < b1)) : (((b0 + (1 : Nat)) + (40 : Nat)) < b1) := by (exact Nat.lt_of_le_of_lt (Nat.add_le_add_left (by decide : 41 ≤ 60) b0) h0)
theorem om52 {b0 : Nat} {b1 : Nat} {b2 : Nat} {b3 : Nat} {b4 : Nat} (h0 : (b0 ≤ (1000 : Nat))) (h1 : (b1 = (16777216 : Nat))) (h2 : ((b2 + (b3 + (1 : Nat))) = b0)) (h3 : (b4 = b2)) : (b4 ≤ b1) := by (rw [h1, h3]; exact Nat.le_trans (Nat.le_trans (h2 ▸ Nat.le_add_right _ _) h0) (by decide))
theorem om53 {b0 : Nat} {b1 : Nat} (h0 : (¬ (b0 < b1))) (h1 : (¬ (b0 = b1))) : ((1 : Nat) ≤ (b0 - b1)) := by (exact Nat.sub_pos_of_lt (Nat.lt_of_le_of_ne (Nat.le_of_not_lt h0) (Ne.symm h1)))
theorem om54 {b0 : Nat} {b1 : Nat} (h0 : (b0 ≤ (b1 + (1 : Nat)))) (h1 : (¬ (b0 = (b1 + (1 : Nat))))) : (b0 ≤ b1) := by (exact Nat.le_of_lt_succ (Nat.lt_of_le_of_ne h0 h1))
theorem om55 {b0 : Nat}  : (b0 < (b0 + (1 : Nat))) := by (subst_vars; exact Nat.le_refl _)
theorem om56 {b0 : Nat} {b1 : Nat} (h0 : ((b0 + (1 : Nat)) ≤ b1)) : (b0 ≤ b1) := by (subst_vars; exact Nat.le_of_lt ‹_›)
theorem om57 {b0 : Nat} {b1 : Nat} (h0 : (b0 < b1)) : (b0 < (b1 + (1 : Nat))) := by (exact Nat.lt_succ_of_lt ‹_›)
theorem om58 {b0 : Nat} {b1 : Nat} (h0 : (b0 ≤ (1000 : Nat))) (h1 : (b1 = (16777216 : Nat))) : (b0 ≤ b1) := by (subst_vars; exact Nat.le_trans ‹_› (by decide))
theorem om59 {b0 : Nat} (h0 : (b0 ≤ (1000 : Nat))) : (¬ (((b0 : Nat) : Int) ≥ ((2 : Int) ^ (63 : Nat)))) := by (exact Int.not_le.mpr (hz63 h0))
theorem om60 {b0 : Nat} {b1 : Nat} {b2 : Nat} (h0 : ((b0 + (b1 + (1 : Nat))) = b2)) : (((b2 - (1 : Nat)) - b1) = b0) := by (subst_vars; simp)
theorem om61 {b0 : Nat} {b1 : Nat} (h0 : ((b0 + (16 : Nat)) < b1)) : ((((b0 + (1 : Nat)) + (0 : Nat)) + (12 : Nat)) < b1) := by (exact Nat.lt_of_le_of_lt (Nat.add_le_add_left (by decide : 13 ≤ 16) b0) h0)
theorem om62 {b0 : Nat} {b1 : Nat} (h0 : ((b0 + (130 : Nat)) < b1)) : ((((b0 + (2 : Nat)) + (1 : Nat)) + (120 : Nat)) < b1) := by (exact Nat.lt_of_le_of_lt (Nat.add_le_add_left (by decide : 123 ≤ 130) b0) h0)
theorem om63 {b0 : Nat} {b1 : Nat} {b2 : Nat} (h0 : ((b0 - b1) = (b2 + (1 : Nat)))) : (((b0 - (1 : Nat)) - ((b0 - b1) - (1 : Nat))) = b1) := by (lia)
theorem om64 {b0 : Nat} {b1 : Nat} {b2 : Nat} (h0 : ((b0 - b1) = (b2 + (1 : Nat)))) : (b1 < b0) := by (exact Nat.sub_pos_iff_lt.mp (h0 ▸ Nat.succ_pos b2))
theorem om65 {b0 : Nat} {b1 : Nat} {b2 : Nat} (h0 : ((b0 - b1) = (b2 + (1 : Nat)))) : ((b0 - (b1 + (1 : Nat))) = b2) := by (rw [← Nat.sub_sub, h0]; rfl)
theorem om66 {b0 : Nat} {b1 : Nat} (h0 : ((b0 + (17 : Nat)) < b1)) : ((b0 + (16 : Nat)) < b1) := by (subst_vars; exact Nat.le_of_lt ‹_›)
theorem om67 {b0 : Nat} {b1 : Nat} (h0 : ((b0 + (140 : Nat)) < b1)) : ((((b0 + (1 : Nat)) + (1 : Nat)) + (130 : Nat)) < b1) := by (exact Nat.lt_of_le_of_lt (Nat.add_le_add_left (by decide : 132 ≤ 140) b0) h0)
theorem om68 {b0 : Nat} {b1 : Nat} (h0 : ((b0 + (140 : Nat)) < b1)) : (((((b0 + (1 : Nat)) + (1 : Nat)) + (1 : Nat)) + (130 : Nat)) < b1) := by (exact Nat.lt_of_le_of_lt (Nat.add_le_add_left (by decide : 133 ≤ 140) b0) h0)
theorem om69 {b0 : Nat} {b1 : Nat}  : ((b0 + (b1 + (1 : Nat))) = ((b0 + (1 : Nat)) + b1)) := by (lia)
theorem om70 {b0 : Int} (h0 : ((0 : Int) ≤ b0)) : ((-((2 : Int) ^ (62 : Nat))) ≤ b0) := by (exact Int.le_trans (by decide) h0)
theorem om71 {b0 : Int} {b1 : Nat} (h0 : ((b0 + ((b1 : Nat) : Int)) < ((2 : Int) ^ (60 : Nat)))) : (b0 < ((2 : Int) ^ (62 : Nat))) := by (exact Int.lt_of_le_of_lt (Int.le_add_of_nonneg_right (Int.natCast_nonneg _)) (Int.lt_trans h0 (by decide)))
theorem om72 {b0 : Int} {b1 : Nat} (h0 : ((0 : Int) ≤ b0)) : ((-((2 : Int) ^ (62 : Nat))) ≤ (b0 + ((b1 : Nat) : Int))) := by (exact Int.le_trans (by decide) (Int.add_nonneg h0 (Int.natCast_nonneg _)))
theorem om73 {b0 : Int} {b1 : Nat} (h0 : ((b0 + ((b1 : Nat) : Int)) < ((2 : Int) ^ (60 : Nat)))) : ((b0 + ((b1 : Nat) : Int)) < ((2 : Int) ^ (62 : Nat))) := by (exact Int.lt_trans h0 (by decide))
theorem om74 {b0 : Nat} (h0 : (b0 ≤ (1000 : Nat))) : (((b0 : Nat) : Int) < (9223372036854775808 : Int)) := by (subst_vars; exact Int.lt_of_le_of_lt (Int.ofNat_le.mpr ‹_›) (by decide))
theorem om75 {b0 : Nat} {b1 : Nat} (h0 : ((b0 + (20 : Nat)) < b1)) : ((b0 + (5 : Nat)) < b1) := by (exact Nat.lt_of_le_of_lt (Nat.add_le_add_left (by decide : 5 ≤ 20) b0) h0)
theorem om76 {b0 : Nat} {b1 : Nat} (h0 : ((b0 + (200 : Nat)) < b1)) : ((((b0 + (1 : Nat)) + (1 : Nat)) + (40 : Nat)) < b1) := by (exact Nat.lt_of_le_of_lt (Nat.add_le_add_left (by decide : 42 ≤ 200) b0) h0)
theorem om77 {b0 : Nat} {b1 : Nat} (h0 : (b0 ≤ (1000 : Nat))) (h1 : (b0 = b1)) : (b1 ≤ (1000 : Nat)) := by (subst_vars; omega)
theorem om78 {b0 : Nat} {b1 : Nat} {b2 : Nat} (h0 : (b0 ≤ (1000 : Nat))) (h1 : (b0 = b1)) (h2 : (b2 ≤ b1)) : (b2 ≤ (1000 : Nat)) := by (subst_vars; exact Nat.le_trans ‹_› ‹_›)
theorem om79 {b0 : Nat} {b1 : Nat} (h0 : (b0 ≤ (8 : Nat))) (h1 : (b1 = b0)) : (b1 ≤ (1000 : Nat)) := by (subst_vars; exact Nat.le_trans ‹_› (by decide))
theorem om80 {b0 : Nat} (h0 : (b0 ≤ (8 : Nat))) : (((0 : Int) + ((b0 : Nat) : Int)) < ((2 : Int) ^ (60 : Nat))) := by (rw [Int.zero_add]; exact hz60 (Nat.le_trans h0 (by decide)))
theorem om81 {b0 : Nat} {b1 : Nat} (h0 : (b0 = b1)) : (((b0 : Nat) : Int) = ((0 : Int) + ((b1 : Nat) : Int))) := by (simp_all; done)
theorem om82 {b0 : Nat} {b1 : Nat} {b2 : Nat} (h0 : (b0 = b1)) (h1 : (b2 < b1)) : (b2 < b0) := by (subst_vars; omega)
theorem om83 {b0 : Nat}  : ((0 : Int) ≤ ((0 : Int) + ((b0 : Nat) : Int))) := by (exact Int.natCast_nonneg _)
theorem om84 {b0 : Nat} {b1 : Nat} (h0 : (b0 ≤ (8 : Nat))) (h1 : (b1 < b0)) : (((0 : Int) + ((b1 : Nat) : Int)) < ((2 : Int) ^ (63 : Nat))) := by (rw [Int.zero_add]; exact hz63 (Nat.le_trans (Nat.le_of_lt h1) (Nat.le_trans h0 (by decide))))
theorem om85 {b0 : Nat}  : ((Int.toNat ((0 : Int) + ((b0 : Nat) : Int))) = b0) := by (simp_all; done)
theorem om86 {b0 : Nat} {b1 : Nat} {b2 : Nat} (h0 : (b0 ≤ (8 : Nat))) (h1 : (b1 = b2)) (h2 : (b2 ≤ b0)) : (b1 ≤ (1000 : Nat)) := by (rw [h1]; exact Nat.le_trans (Nat.le_trans h2 h0) (by decide))
theorem om87 {b0 : Nat} {b1 : Nat} {b2 : Nat} {b3 : Nat} (h0 : (b0 ≤ (1000 : Nat))) (h1 : (b1 = (16777216 : Nat))) (h2 : (b2 ≤ b3)) (h3 : (b3 < b0)) : (b2 ≤ b1) := by (rw [h1]; exact Nat.le_trans (Nat.le_trans h2 (Nat.le_of_lt h3)) (Nat.le_trans h0 (by decide)))
theorem om88 {b0 : Nat} {b1 : Nat} (h0 : (b0 ≤ b1)) : (b0 ≤ b1) := by (omega)
theorem om89 {b0 : Int} (h0 : ((0 : Int) ≤ b0)) (h1 : (b0 < (2 : Int))) : ((b0 = (0 : Int)) ∨ (b0 = (1 : Int))) := by (lia)
theorem om90 {b0 : Nat} {b1 : Nat} (h0 : (b0 ≤ b1)) : (b0 ≤ (b1 + (3 : Nat))) := by (exact Nat.le_trans h0 (Nat.le_add_right _ _))
theorem om91 {b0 : Int} {b1 : Nat} (h0 : (¬ ((Int.toNat b0) < b1))) : (b1 ≤ (Int.toNat b0)) := by (exact Nat.le_of_not_lt ‹_›)
theorem om92 {b0 : Nat} {b1 : Nat} {b2 : Nat} {b3 : Nat} (h0 : (b0 ≤ b1)) (h1 : (b2 ≤ (2 : Nat))) (h2 : (b3 = (1 : Nat))) : (((b0 + b2) + b3) ≤ (b1 + (3 : Nat))) := by (rw [h2]; exact Nat.succ_le_succ (Nat.add_le_add h0 h1))
theorem om93 {b0 : Nat} {b1 : Nat} {b2 : Nat} (h0 : (b0 ≤ ((b1 + (3 : Nat)) + ((3 : Nat) * b2)))) : (b0 ≤ (b1 + ((3 : Nat) * (b2 + (1 : Nat))))) := by (rw [Nat.mul_succ, Nat.add_comm (3 * b2), ← Nat.add_assoc]; exact h0)
theorem om94 {b0 : Nat} {b1 : Nat} {b2 : Nat} {b3 : Nat} (h0 : (b0 ≤ (7 : Nat))) (h1 : (b1 = b0)) (h2 : (b2 < b1)) (h3 : (b3 = (b2 + (1 : Nat)))) : (b3 ≤ (1000 : Nat)) := by (rw [h3]; exact Nat.le_trans (Nat.le_trans h2 (Nat.le_of_eq h1)) (Nat.le_trans h0 (by decide)))
theorem om95 {b0 : Nat} {b1 : Nat} {b2 : Nat} {b3 : Nat} {b4 : Nat} (h0 : (b0 ≤ (7 : Nat))) (h1 : (b1 = b0)) (h2 : (b2 = (16777216 : Nat))) (h3 : (b3 < b1)) (h4 : (b4 = (b3 + (1 : Nat)))) : (b4 ≤ b2) := by (rw [h2, h4]; exact Nat.le_trans (Nat.le_trans h3 (Nat.le_of_eq h1)) (Nat.le_trans h0 (by decide)))
theorem om96 {b0 : Nat} {b1 : Nat} (h0 : (b0 = (b1 + (1 : Nat)))) : ((0 : Int) < ((b0 : Nat) : Int)) := by (subst_vars; simp)
theorem om97 {b0 : Nat}  : ((1 : Int) ≤ (((b0 : Nat) : Int) + (1 : Int))) := by (lia)
theorem om98 {b0 : Nat}  : ((Int.toNat ((-(1 : Int)) + (((b0 : Nat) : Int) + (1 : Int)))) = b0) := by (lia)
theorem om99 {b0 : Int} {b1 : Nat} {b2 : Nat} (h0 : ((0 : Int) ≤ b0)) (h1 : (b0 < ((b1 : Nat) : Int))) (h2 : (b1 = b2)) : ((Int.toNat b0) < b2) := by (simp_all; done)
theorem om100 {b0 : Nat} {b1 : Nat} (h0 : (b0 ≤ (7 : Nat))) : ((min b1 b0) ≤ (7 : Nat)) := by (exact Nat.le_trans (Nat.min_le_right _ _) h0)
theorem om101 {b0 : Int} (h0 : ((0 : Int) ≤ b0)) : ((0 : Int) ≤ b0) := by (omega)
theorem om102 {b0 : Nat} {b1 : Nat} {b2 : Nat} {b3 : Nat} {b4 : Int} (h0 : (b0 ≤ (7 : Nat))) (h1 : (b1 = b0)) (h2 : (b2 < b1)) (h3 : (b3 = (b2 + (1 : Nat)))) (h4 : (b4 < ((b3 : Nat) : Int))) : (b4 < ((2 : Int) ^ (63 : Nat))) := by (rw [h3] at h4; exact Int.lt_trans h4 (hz63 (Nat.le_trans (Nat.le_trans h2 (Nat.le_of_eq h1)) (Nat.le_trans h0 (by decide)))))
theorem om103 {b0 : Nat} {b1 : Nat} {b2 : Nat} {b3 : Nat} (h0 : (b0 ≤ (7 : Nat))) (h1 : (b1 = b0)) (h2 : (b2 < b1)) (h3 : (b3 = (b2 + (1 : Nat)))) : (((b3 : Nat) : Int) < (8 : Int)) := by (rw [h3]; exact Int.ofNat_lt.mpr (Nat.lt_of_le_of_lt (Nat.le_trans h2 (Nat.le_trans (Nat.le_of_eq h1) h0)) (by decide)))
theorem om104 {b0 : Nat}  : ((-(8 : Int)) ≤ ((b0 : Nat) : Int)) := by (exact Int.natCast_nonneg _)
theorem om105 {b0 : Nat} (h0 : (((b0 : Nat) : Int) < (8 : Int))) : (((b0 : Nat) : Int) < (8 : Int)) := by (omega)
theorem om106 {b0 : Nat} {b1 : Nat} (h0 : (b0 = (16777216 : Nat))) (h1 : (((b1 : Nat) : Int) < (8 : Int))) : (b1 ≤ b0) := by (rw [h0]; exact Nat.le_trans (Nat.le_of_lt (Int.ofNat_lt.mp h1)) (by decide))
theorem om107 {b0 : Nat}  : ((1 : Nat) ≤ (b0 + (1 : Nat))) := by (exact Nat.succ_pos _)
theorem om108 {b0 : Int} (h0 : ((0 : Int) ≤ b0)) : ((-((2 : Int) ^ (63 : Nat))) ≤ b0) := by (exact Int.le_trans (by decide) h0)
theorem om109 {b0 : Int}  : (((0 : Nat) = (1 : Nat)) → (b0 = (0 : Int))) := by (simp_all; done)
theorem om110 {b0 : Nat} {b1 : Nat} {b2 : Nat} {b3 : Nat} (h0 : (b0 ≤ (8 : Nat))) (h1 : (b1 < b0)) (h2 : (b2 ≤ b1)) (h3 : (b3 = (16777216 : Nat))) : (b2 ≤ b3) := by (rw [h3]; exact Nat.le_trans (Nat.le_trans h2 (Nat.le_of_lt h1)) (Nat.le_trans h0 (by decide)))
theorem om111 {b0 : Nat} {b1 : Nat} {b2 : Nat} (h0 : (b0 ≤ (1000 : Nat))) (h1 : (b1 ≤ b2)) (h2 : (b2 < b0)) : (b1 ≤ (1000 : Nat)) := by (exact Nat.le_trans h1 (Nat.le_trans (Nat.le_of_lt h2) h0))
theorem om112 {b0 : Nat} {b1 : Nat} (h0 : (b0 ≤ b1)) : ((b0 + ((0 : Nat) + (1 : Nat))) ≤ (b1 + (1 : Nat))) := by (subst_vars; exact Nat.lt_succ_of_le ‹_›)
theorem om113 {b0 : Int} {b1 : Int} {b2 : Int}  : (((b0 + b1) + (b2 + (0 : Int))) = ((b0 + b2) + b1)) := by (lia)
theorem om114 {b0 : Int} {b1 : Int} {b2 : Int}  : ((b0 + (b1 + b2)) = ((b0 + b1) + b2)) := by (lia)
theorem om115 {b0 : Int} {b1 : Int} {b2 : Int}  : (((b0 + b1) + b2) = (b0 + (b1 + b2))) := by (lia)
theorem om116 {b0 : Nat} {b1 : Nat} {b2 : Nat} {b3 : Nat} (h0 : (b0 ≤ (b1 + b2))) (h1 : (b1 ≤ (b3 + (1 : Nat)))) : (b0 ≤ (b3 + (b2 + (1 : Nat)))) := by (exact Nat.le_trans h0 (Nat.le_trans (Nat.add_le_add_right h1 _) (Nat.le_of_eq (Nat.add_right_comm b3 1 b2))))
theorem om117 {b0 : Int} (h0 : ((0 : Int) ≤ b0)) : ((-(2 : Int)) ≤ b0) := by (lia)
theorem om118 {b0 : Int} (h0 : (b0 < (2 : Int))) : (b0 < (2 : Int)) := by (omega)
theorem om119 {b0 : Nat}  : (((16 : Nat) * b0) ≤ (((16 : Nat) * b0) + ((2 : Nat) * (0 : Nat)))) := by (subst_vars; exact Nat.le_refl _)
theorem om120 {b0 : Nat} {b1 : Nat} {b2 : Nat} {b3 : Nat} {b4 : Nat} {b5 : Nat} (h0 : (b0 ≤ (8 : Nat))) (h1 : (b1 < b0)) (h2 : (b2 ≤ (8 : Nat))) (h3 : (b3 < b4)) (h4 : (b5 ≤ (((16 : Nat) * b1) + ((2 : Nat) * b3)))) (h5 : (b4 = b2)) : ((b5 + (((0 : Nat) + (1 : Nat)) + (1 : Nat))) ≤ (1000 : Nat)) := by (subst_vars; lia)
theorem om121 {b0 : Nat} {b1 : Nat} {b2 : Nat} (h0 : (b0 ≤ (8 : Nat))) (h1 : (b1 = (16777216 : Nat))) (h2 : (b2 = b0)) : (b2 ≤ b1) := by (subst_vars; exact Nat.le_trans ‹_› (by decide))
theorem om122 {b0 : Nat} {b1 : Nat} {b2 : Nat} {b3 : Nat} (h0 : (b0 ≤ (((16 : Nat) * b1) + ((2 : Nat) * b2)))) (h1 : (b3 ≤ (b0 + (((0 : Nat) + (1 : Nat)) + (1 : Nat))))) : (b3 ≤ (((16 : Nat) * b1) + ((2 : Nat) * (b2 + (1 : Nat))))) := by (exact Nat.le_trans h1 (Nat.add_le_add_right h0 2))
theorem om123 {b0 : Nat} {b1 : Nat}  : ((((16 : Nat) * b0) + ((2 : Nat) * b1)) ≤ (((16 : Nat) * b0) + ((2 : Nat) * (b1 + (1 : Nat))))) := by (lia)
theorem om124 {b0 : Nat} {b1 : Nat} {b2 : Nat} (h0 : (b0 ≤ (8 : Nat))) (h1 : (b1 = b0)) : ((((16 : Nat) * b2) + ((2 : Nat) * b1)) ≤ ((16 : Nat) * (b2 + (1 : Nat)))) := by (rw [h1]; exact Nat.add_le_add_left (Nat.mul_le_mul_left 2 h0) _)
theorem om125 {b0 : Nat} {b1 : Nat} (h0 : ((0 : Nat) < b0)) (h1 : (b1 ≤ (b0 - (1 : Nat)))) : (b1 < b0) := by (exact Nat.lt_of_le_of_lt h1 (Nat.sub_lt h0 (by decide)))
theorem om126 {b0 : Nat} {b1 : Nat} (h0 : (b0 < b1)) : (b0 ≤ (b1 - (1 : Nat))) := by (exact Nat.le_sub_one_of_lt h0)
theorem om127 {b0 : Nat} {b1 : Nat} {b2 : Nat} (h0 : ((b0 + b1) ≤ (1000 : Nat))) (h1 : (b2 = (16777216 : Nat))) : ((b0 + b1) ≤ b2) := by (subst_vars; exact Nat.le_trans ‹_› (by decide))
theorem om128 {b0 : Nat} {b1 : Nat} {b2 : Nat} (h0 : (b0 = b1)) (h1 : (b2 = b1)) : (b0 = b2) := by (subst_vars; simp)
theorem om129 {b0 : Nat} (h0 : (b0 = (0 : Nat))) : (b0 ≤ (0 : Nat)) := by (subst_vars; exact Nat.le_refl _)
theorem om130 {b0 : Nat} {b1 : Nat} (h0 : (b0 = (b1 + (1 : Nat)))) : (b0 ≤ (b1 + (1 : Nat))) := by (subst_vars; exact Nat.le_refl _)
theorem om131 {b0 : Nat} {b1 : Nat} (h0 : ((b0 + (10 : Nat)) < b1)) : (b0 < b1) := by (exact Nat.lt_of_le_of_lt (Nat.le_add_right _ _) ‹_›)
theorem om132 {b0 : Nat} {b1 : Nat} (h0 : ((b0 + (10 : Nat)) < b1)) : ((b0 + (1 : Nat)) < b1) := by (exact Nat.lt_of_le_of_lt (Nat.add_le_add_left (by decide : 1 ≤ 10) b0) h0)
theorem om133 {b0 : Nat} {b1 : Nat} (h0 : (b0 ≤ (63 : Nat))) (h1 : (b1 = b0)) : (b1 ≤ (1000 : Nat)) := by (subst_vars; exact Nat.le_trans ‹_› (by decide))
theorem om134 {b0 : Nat}  : ((min (4 : Nat) b0) ≤ (4 : Nat)) := by (exact Nat.min_le_left _ _)
theorem om135 {b0 : Nat} (h0 : (b0 ≤ (4 : Nat))) : (b0 ≤ (1000 : Nat)) := by (subst_vars; exact Nat.le_trans ‹_› (by decide))
theorem om136 {b0 : Nat} {b1 : Nat} {b2 : Nat} (h0 : (b0 = b1)) (h1 : (b0 ≤ (4 : Nat))) (h2 : (b2 = b1)) : ((((((0 : Nat) + (1 : Nat)) + (1 : Nat)) + (1 : Nat)) + b2) ≤ (1000 : Nat)) := by (rw [h2, ← h0]; exact Nat.le_trans (Nat.add_le_add_left h1 3) (by decide))
theorem om137 {b0 : Nat} {b1 : Nat} {b2 : Nat} (h0 : (b0 = b1)) (h1 : (b1 = (b2 + (1 : Nat)))) (h2 : (b2 ≤ (7 : Nat))) : (b0 ≤ (1000 : Nat)) := by (subst_vars; exact Nat.lt_of_le_of_lt ‹_› (by decide))
theorem om138 {b0 : Nat} {b1 : Nat} {b2 : Nat} {b3 : Nat} (h0 : (b0 = b1)) (h1 : (b1 = (b2 + (1 : Nat)))) (h2 : (b3 < b0)) : (b3 < (b2 + (1 : Nat))) := by (simp_all; done)
theorem om139 {b0 : Nat} (h0 : (b0 ≤ (8 : Nat))) : (b0 ≤ (1000 : Nat)) := by (subst_vars; exact Nat.le_trans ‹_› (by decide))
theorem om140 {b0 : Nat} {b1 : Nat} {b2 : Nat} (h0 : (b0 = b1)) (h1 : (b1 = (b2 + (1 : Nat)))) : ((b2 + (1 : Nat)) ≤ b0) := by (subst_vars; exact Nat.le_refl _)
theorem om141 {b0 : Nat} {b1 : Nat} {b2 : Nat} (h0 : (b0 = b1)) (h1 : (b1 = (b2 + (1 : Nat)))) (h2 : (b2 ≤ (7 : Nat))) : (((0 : Int) + ((b0 : Nat) : Int)) < ((2 : Int) ^ (60 : Nat))) := by (rw [Int.zero_add, h0, h1]; exact hz60 (Nat.le_trans (Nat.succ_le_succ h2) (by decide)))
theorem om142 {b0 : Nat} (h0 : (b0 ≤ (7 : Nat))) : ((b0 + (1 : Nat)) ≤ (8 : Nat)) := by (subst_vars; exact Nat.lt_succ_of_le ‹_›)
theorem om143 {b0 : Nat} {b1 : Nat} {b2 : Nat} {b3 : Nat} {b4 : Nat} {b5 : Nat} (h0 : (b0 = b1)) (h1 : (b1 = (b2 + (1 : Nat)))) (h2 : (b2 ≤ (7 : Nat))) (h3 : (b3 < b0)) (h4 : (b4 = b5)) (h5 : (b5 ≤ (b3 + (1 : Nat)))) : (b4 ≤ (1000 : Nat)) := by (rw [h4]; exact Nat.le_trans (Nat.le_trans h5 h3) (by rw [h0, h1]; exact Nat.le_trans (Nat.succ_le_succ h2) (by decide)))
theorem om144 {b0 : Nat} {b1 : Nat} {b2 : Nat} {b3 : Nat} (h0 : (b0 = b1)) (h1 : (b2 < b0)) (h2 : (b3 ≤ b2)) : (b3 < b1) := by (subst_vars; exact Nat.lt_of_le_of_lt ‹_› ‹_›)
theorem om145 {b0 : Nat} {b1 : Nat} {b2 : Nat} {b3 : Nat} {b4 : Nat} (h0 : (b0 = b1)) (h1 : (b1 = (b2 + (1 : Nat)))) (h2 : (b2 ≤ (7 : Nat))) (h3 : (b3 < b0)) (h4 : (b4 ≤ b3)) : (((b4 : Nat) : Int) < ((2 : Int) ^ (63 : Nat))) := by (exact hz63 (Nat.le_trans (Nat.le_trans h4 (Nat.le_of_lt h3)) (by rw [h0, h1]; exact Nat.le_trans (Nat.succ_le_succ h2) (by decide))))
theorem om146 {b0 : Nat} {b1 : Nat} {b2 : Nat} {b3 : Nat} (h0 : (b0 = b1)) (h1 : (b1 = (b2 + (1 : Nat)))) (h2 : (b3 = (b2 + (1 : Nat)))) : (b3 ≤ b0) := by (subst_vars; exact Nat.le_refl _)
theorem om147 {b0 : Nat} {b1 : Nat} (h0 : (b0 ≤ (7 : Nat))) (h1 : (b1 = b0)) : ((((0 : Nat) + (1 : Nat)) + b1) ≤ (1000 : Nat)) := by (rw [h1]; exact Nat.le_trans (Nat.add_le_add_left h0 1) (by decide))
theorem om148 {b0 : Nat} {b1 : Nat} {b2 : Nat} (h0 : (b0 ≤ (7 : Nat))) (h1 : (b1 = b2)) (h2 : (b2 = (b0 + (1 : Nat)))) : (b1 ≤ (1000 : Nat)) := by (subst_vars; exact Nat.lt_of_le_of_lt ‹_› (by decide))
theorem om149 {b0 : Nat} {b1 : Nat} {b2 : Nat} {b3 : Nat} (h0 : (b0 = (b1 + (1 : Nat)))) (h1 : (b2 ≤ b3)) (h2 : (b3 < (b1 + (1 : Nat)))) : (b2 < b0) := by (subst_vars; exact Nat.lt_of_le_of_lt ‹_› ‹_›)
theorem om150 {b0 : Nat} {b1 : Nat} {b2 : Nat} (h0 : (b0 ≤ (7 : Nat))) (h1 : (b1 < (b0 + (1 : Nat)))) (h2 : (b2 ≤ (b1 + (1 : Nat)))) : (b2 ≤ (8 : Nat)) := by (exact Nat.le_trans h2 (Nat.le_trans h1 (Nat.succ_le_succ h0)))
theorem om151 {b0 : Nat} {b1 : Nat} (h0 : (b0 = (b1 + (1 : Nat)))) (h1 : (b1 ≤ (7 : Nat))) : (b0 ≤ (8 : Nat)) := by (subst_vars; exact Nat.lt_succ_of_le ‹_›)
theorem om152 {b0 : Nat} {b1 : Nat} {b2 : Nat} (h0 : (b0 = (b1 + (1 : Nat)))) (h1 : (b2 = (b1 + (1 : Nat)))) : (b2 = b0) := by (simp_all; done)
theorem om153 {b0 : Nat} (h0 : (b0 ≤ (7 : Nat))) : (((1 : Int) + ((b0 : Nat) : Int)) < ((2 : Int) ^ (60 : Nat))) := by (exact hz60 (n := 1 + b0) (Nat.le_trans (Nat.add_le_add_left h0 1) (by decide)))
theorem om154 {b0 : Nat} {b1 : Nat} {b2 : Nat} (h0 : (b0 = b1)) (h1 : (b1 = (b2 + (1 : Nat)))) : (((b0 : Nat) : Int) = ((1 : Int) + ((b2 : Nat) : Int))) := by (subst_vars; simp; lia)
theorem om155 {b0 : Nat} {b1 : Nat} (h0 : (b0 < b1)) : ((b0 + (1 : Nat)) < (b1 + (1 : Nat))) := by (exact Nat.add_lt_add_right ‹_› _)
theorem om156 {b0 : Nat} {b1 : Nat} {b2 : Nat} {b3 : Nat} (h0 : (b0 = (b1 + (1 : Nat)))) (h1 : (b2 < (b1 + (1 : Nat)))) (h2 : (b0 = b3)) : (b2 < b3) := by (subst_vars; omega)
theorem om157 {b0 : Nat} {b1 : Nat} (h0 : (b0 = (b1 + (1 : Nat)))) : ((0 : Nat) < b0) := by (subst_vars; simp)
theorem om158 {b0 : Nat} {b1 : Nat} {b2 : Nat} (h0 : (b0 = (b1 + (1 : Nat)))) (h1 : (b2 < b1)) : ((b2 + (1 : Nat)) < b0) := by (subst_vars; exact Nat.lt_succ_of_le ‹_›)
theorem om159 {b0 : Nat}  : ((0 : Int) ≤ ((1 : Int) + ((b0 : Nat) : Int))) := by (exact Int.natCast_nonneg _)
theorem om160 {b0 : Nat} {b1 : Nat} (h0 : (b0 ≤ (7 : Nat))) (h1 : (b1 < b0)) : (((1 : Int) + ((b1 : Nat) : Int)) < ((2 : Int) ^ (63 : Nat))) := by (exact hz63 (n := 1 + b1) (Nat.le_trans (Nat.add_le_add_left (Nat.le_of_lt h1) 1) (Nat.le_trans (Nat.add_le_add_left h0 1) (by decide))))
theorem om161 {b0 : Nat}  : ((Int.toNat ((1 : Int) + ((b0 : Nat) : Int))) = (b0 + (1 : Nat))) := by (exact Nat.add_comm 1 b0)
theorem om162 {b0 : Nat} {b1 : Nat} {b2 : Nat} (h0 : (b0 ≤ (7 : Nat))) (h1 : (b1 < b0)) (h2 : (b2 < (b1 + (1 : Nat)))) : (((b2 : Nat) : Int) < ((2 : Int) ^ (63 : Nat))) := by (exact hz63 (Nat.le_trans (Nat.le_of_lt_succ h2) (Nat.le_trans (Nat.le_of_lt h1) (Nat.le_trans h0 (by decide)))))
theorem om163 {b0 : Nat} {b1 : Nat} {b2 : Nat} {b3 : Nat} (h0 : (b0 ≤ (7 : Nat))) (h1 : (b1 < b0)) (h2 : (b2 = (b1 + (1 : Nat)))) (h3 : (b3 = (16777216 : Nat))) : (b2 ≤ b3) := by (rw [h2, h3]; exact Nat.le_trans h1 (Nat.le_trans h0 (by decide)))
theorem om164 {b0 : Nat} {b1 : Nat} (h0 : (b0 ≤ (7 : Nat))) (h1 : (b1 = (b0 + (1 : Nat)))) : (b1 ≤ (8 : Nat)) := by (subst_vars; exact Nat.lt_succ_of_le ‹_›)
theorem om165 {b0 : Nat} {b1 : Nat} {b2 : Nat} {b3 : Nat} {b4 : Nat} (h0 : (b0 = b1)) (h1 : (b1 = (b2 + (1 : Nat)))) (h2 : (b3 = (b2 + (1 : Nat)))) (h3 : (b4 < b0)) : (b4 < b3) := by (subst_vars; omega)
theorem om166 {b0 : Nat} (h0 : (b0 ≤ (7 : Nat))) : (((0 : Int) + (((b0 + (1 : Nat)) : Nat) : Int)) < ((2 : Int) ^ (60 : Nat))) := by (rw [Int.zero_add]; exact hz60 (Nat.le_trans (Nat.succ_le_succ h0) (by decide)))
theorem om167 {b0 : Nat} {b1 : Nat} {b2 : Nat} (h0 : (b0 = b1)) (h1 : (b1 = (b2 + (1 : Nat)))) : (((b0 : Nat) : Int) = ((0 : Int) + (((b2 + (1 : Nat)) : Nat) : Int))) := by (subst_vars; simp)
theorem om168 {b0 : Nat} {b1 : Nat} {b2 : Nat} (h0 : (b0 = (b1 + (1 : Nat)))) (h1 : (b2 < (b1 + (1 : Nat)))) : (b2 < b0) := by (subst_vars; omega)
theorem om169 {b0 : Nat} {b1 : Nat} {b2 : Nat} (h0 : (b0 = b1)) (h1 : (b1 = (b2 + (1 : Nat)))) : (((1 : Int) + ((b2 : Nat) : Int)) = ((b0 : Nat) : Int)) := by (subst_vars; simp; lia)
theorem om170 {b0 : Nat} (h0 : (b0 ≤ (7 : Nat))) : (b0 ≤ (1000 : Nat)) := by (subst_vars; exact Nat.le_trans ‹_› (by decide))
theorem om171 {b0 : Nat} {b1 : Nat} (h0 : (b0 ≤ (7 : Nat))) (h1 : (b1 < (b0 + (1 : Nat)))) : (((b1 : Nat) : Int) < ((2 : Int) ^ (63 : Nat))) := by (exact hz63 (Nat.le_trans (Nat.le_of_lt_succ h1) (Nat.le_trans h0 (by decide))))
theorem om172 {b0 : Nat} {b1 : Nat} (h0 : (b0 ≤ (7 : Nat))) (h1 : (b1 ≤ b0)) : ((b1 + ((0 : Nat) + (1 : Nat))) ≤ (1000 : Nat)) := by (exact Nat.le_trans (Nat.succ_le_succ (Nat.le_trans h1 h0)) (by decide))
theorem om173 {b0 : Int} {b1 : Int} {b2 : Int} (h0 : (((2 : Int) * b0) ≤ b1)) (h1 : (b2 ≤ b0)) : (((2 : Int) * b2) ≤ b1) := by (lia)
theorem om174 {b0 : Nat} {b1 : Nat} {b2 : Nat} {b3 : Nat} (h0 : (b0 ≤ (7 : Nat))) (h1 : (b1 < (b0 + (1 : Nat)))) (h2 : (b2 ≤ b1)) (h3 : (b3 = (16777216 : Nat))) : (b2 ≤ b3) := by (rw [h3]; exact Nat.le_trans h2 (Nat.le_trans (Nat.le_of_lt_succ h1) (Nat.le_trans h0 (by decide))))
theorem om175 {b0 : Int} {b1 : Int} (h0 : (¬ (((2 : Int) * b0) ≤ b1))) (h1 : (((2 : Int) * b0) ≤ b1)) : False := by (simp_all; done)
theorem om176 {b0 : Int} (h0 : ((0 : Int) ≤ b0)) (h1 : (b0 < (2 : Int))) : (((-(1 : Int)) ≤ ((1 : Int) - ((2 : Int) * b0))) ∧ (((1 : Int) - ((2 : Int) * b0)) ≤ (1 : Int))) := by (lia)
theorem om177 {b0 : Int} {b1 : Int} {b2 : Int} {b3 : Int}  : (((b0 + b1) + (b2 + b3)) = ((b0 + b2) + (b1 + b3))) := by (lia)
theorem om178 {b0 : Int} {b1 : Int} {b2 : Int} {b3 : Int}  : (((b0 - ((2 : Int) * b1)) + (b2 - ((2 : Int) * b3))) = ((b0 + b2) - ((2 : Int) * (b1 + b3)))) := by (lia)
theorem om179 {b0 : Int} {b1 : Int}  : ((b0 + b1) = (b0 + ((1 : Int) * b1))) := by (simp_all; done)
theorem om180 {b0 : Nat} {b1 : Int} (h0 : (b0 < (0 : Nat))) : (b1 = (1 : Int)) := by (simp_all; done)
theorem om181 {b0 : Nat} {b1 : Nat} (h0 : (b0 < b1)) : (¬ (b0 = b1)) := by (lia)
theorem om182 {b0 : Nat} {b1 : Nat} (h0 : (b0 < (b1 + (1 : Nat)))) (h1 : (¬ (b1 = b0))) : (b0 < b1) := by (exact Nat.lt_of_le_of_ne (Nat.le_of_lt_succ h0) (Ne.symm h1))
theorem om183 {b0 : Nat}  : ((b0 + (1 : Nat)) = ((1 : Nat) + b0)) := by (lia)
theorem om184 {b0 : Nat} {b1 : Nat} (h0 : ((b0 + (0 : Nat)) = b1)) : ((b0 + (1 : Nat)) = ((1 : Nat) + b1)) := by (subst_vars; simp; lia)
theorem om185 {b0 : Nat} {b1 : Nat} (h0 : ((b0 + (1 : Nat)) = b1)) : ((((1 : Nat) + b0) + (1 : Nat)) = ((1 : Nat) + b1)) := by (subst_vars; lia)
theorem om186 {b0 : Nat} {b1 : Nat} {b2 : Nat} {b3 : Nat} (h0 : (b0 = ((0 : Nat) + b1))) (h1 : ((b2 + (1 : Nat)) = b3)) : ((((b0 : Nat) : Int) + ((b2 : Nat) : Int)) = (((((b1 : Nat) : Int) + ((b3 : Nat) : Int)) + (1 : Int)) - ((2 : Int) * (1 : Int)))) := by (subst_vars; simp; lia)
theorem om187 {b0 : Nat} {b1 : Nat} {b2 : Nat} {b3 : Nat} (h0 : (b0 = ((1 : Nat) + b1))) (h1 : ((b2 + (0 : Nat)) = b3)) : ((((b0 : Nat) : Int) + ((b2 : Nat) : Int)) = (((((b1 : Nat) : Int) + ((b3 : Nat) : Int)) + (1 : Int)) - ((2 : Int) * (0 : Int)))) := by (subst_vars; simp; lia)
theorem om188 {b0 : Int}  : (((b0 + (1 : Int)) - ((2 : Int) * (1 : Int))) = (b0 - (1 : Int))) := by (lia)
theorem om189 {b0 : Int} {b1 : Int}  : ((b0 - (b1 * (1 : Int))) = ((b0 + b1) - ((2 : Int) * b1))) := by (lia)
theorem om190 {b0 : Int}  : (((b0 + (1 : Int)) - ((2 : Int) * (0 : Int))) = (b0 + (1 : Int))) := by (simp_all; done)
theorem om191 {b0 : Int} {b1 : Int}  : ((b0 + (b1 * (1 : Int))) = ((b0 + b1) - ((2 : Int) * (0 : Int)))) := by (simp_all; done)
theorem om192 {b0 : Nat} {b1 : Nat} {b2 : Nat} (h0 : ((b0 + (1 : Nat)) < (b1 + (1 : Nat)))) (h1 : (b2 < (b0 + (1 : Nat)))) : (b2 < (b1 + (1 : Nat))) := by (exact Nat.lt_trans ‹_› ‹_›)
theorem om193 {b0 : Nat} {b1 : Nat} {b2 : Nat} {b3 : Nat} (h0 : (b0 = ((1 : Nat) + b1))) (h1 : ((b2 + (0 : Nat)) = b3)) : ((((b2 : Nat) : Int) + ((b0 : Nat) : Int)) = ((((b3 : Nat) : Int) + ((b1 : Nat) : Int)) + (1 : Int))) := by (subst_vars; simp; lia)
theorem om194 {b0 : Nat} {b1 : Nat} (h0 : ((b0 + (1 : Nat)) < (b1 + (1 : Nat)))) : (b0 < b1) := by (subst_vars; exact Nat.le_of_lt_succ ‹_›)
theorem om195 {b0 : Nat} {b1 : Nat} {b2 : Nat} {b3 : Nat} {b4 : Nat} (h0 : (b0 ≤ b1)) (h1 : (b2 ≤ b3)) (h2 : (b1 ≤ b4)) (h3 : (b3 ≤ b4)) : (((0 : Int) ≤ (((b0 : Nat) : Int) + ((b2 : Nat) : Int))) ∧ ((((b0 : Nat) : Int) + ((b2 : Nat) : Int)) ≤ ((2 : Int) * ((b4 : Nat) : Int)))) := by (lia)
theorem om196 {b0 : Int}  : ((b0 + (0 : Int)) ≤ b0) := by (simp_all; done)
theorem om197 {b0 : Int} {b1 : Int} {b2 : Int} {b3 : Int} (h0 : (b0 ≤ b1)) (h1 : (b1 = ((b0 + b2) - ((2 : Int) * b3)))) : (((2 : Int) * b3) ≤ b2) := by (subst_vars; lia)
theorem om198 {b0 : Int} (h0 : ((0 : Int) ≤ b0)) : (((2 : Int) * (b0 - b0)) ≤ b0) := by (subst_vars; simp; omega)
theorem om199 {b0 : Int} {b1 : Int} {b2 : Int} {b3 : Int} (h0 : (b0 ≤ b1)) (h1 : (b0 = ((b1 + b2) - ((2 : Int) * b3)))) : (((2 : Int) * (b2 - b3)) ≤ b2) := by (subst_vars; lia)
theorem om200 {b0 : Int} {b1 : Int} {b2 : Int} {b3 : Int} {b4 : Int} (h0 : ((b0 ≤ ((2 : Int) * b1)) ∧ (b2 ≤ b3))) (h1 : (b1 ≤ b4)) : (b0 ≤ ((2 : Int) * b4)) := by (lia)
theorem om201 {b0 : Int} {b1 : Int} {b2 : Int} {b3 : Int} {b4 : Int} (h0 : ((b0 ≤ ((2 : Int) * b1)) ∧ (b2 ≤ b3))) (h1 : (b3 = ((b4 + b0) - ((2 : Int) * b1)))) : (b2 ≤ b4) := by (subst_vars; lia)
theorem om202 {b0 : Int} {b1 : Int} (h0 : (((2 : Int) * (b0 - b1)) ≤ b0)) : (b0 ≤ ((2 : Int) * b1)) := by (lia)
theorem om203 {b0 : Nat} {b1 : Int} (h0 : ((0 : Nat) ≠ b0)) (h1 : (b0 = (0 : Nat))) : (((2 : Int) * b1) ≤ b1) := by (simp_all; done)
theorem om204 {b0 : Int} {b1 : Int} {b2 : Int} (h0 : (((2 : Int) * (b0 - b1)) ≤ b0)) (h1 : ((b2 + b1) ≤ b0)) : (((2 : Int) * b2) ≤ b0) := by (lia)
theorem om205 {b0 : Nat} (h0 : ((0 : Nat) < b0)) : ((b0 - (1 : Nat)) < b0) := by (exact Nat.sub_lt ‹_› (by decide))
theorem om206 {b0 : Nat} {b1 : Nat} (h0 : (b0 ≤ b1)) (h1 : (b0 ≥ b1)) : (b0 = b1) := by (lia)
theorem om207 {b0 : Nat} {b1 : Nat} {b2 : Nat} (h0 : ((0 : Nat) < b0)) (h1 : (b1 = (b0 + b2))) : ((b0 - (1 : Nat)) < b1) := by (rw [h1]; exact Nat.lt_of_lt_of_le (Nat.sub_lt h0 (by decide)) (Nat.le_add_right _ _))
theorem om208 {b0 : Nat} {b1 : Nat} (h0 : (b0 < b1)) : (¬ (b1 = (0 : Nat))) := by (exact fun e => absurd (e ▸ h0) (Nat.not_lt_zero _))
theorem om209 {b0 : Nat} {b1 : Nat} (h0 : (b0 < b1)) : (¬ ((b1 - (1 : Nat)) < b0)) := by (exact Nat.not_lt_of_le (Nat.le_sub_one_of_lt h0))
theorem om210 {b0 : Nat} {b1 : Nat} {b2 : Nat} {b3 : Nat} (h0 : (b0 ≤ b1)) (h1 : (b1 = (b2 + b3))) (h2 : (b2 < b0)) : (((b0 - (1 : Nat)) - b2) < b3) := by (subst_vars; omega)
theorem om211 {b0 : Nat} {b1 : Nat} (h0 : ((b0 + (1 : Nat)) ≤ b1)) : (b0 < b1) := by (subst_vars; assumption)
theorem om212 {b0 : Nat} {b1 : Nat} (h0 : (b0 < b1)) : ((b0 + (1 : Nat)) ≤ b1) := by (subst_vars; assumption)
theorem om213 {b0 : Nat} {b1 : Nat} (h0 : (b0 < b1)) : (((min (b0 + (1 : Nat)) b1) - b0) = (1 : Nat)) := by (grind)
theorem om214 {b0 : Nat} {b1 : Nat} {b2 : Nat} {b3 : Nat} {b4 : Nat} (h0 : ((0 : Nat) < b0)) (h1 : (b1 = (b2 + b3))) (h2 : (b2 = (b4 + b0))) : (((b4 + b0) - (1 : Nat)) < b1) := by (rw [h1, h2]; exact Nat.lt_of_lt_of_le (Nat.sub_lt (Nat.lt_of_lt_of_le h0 (Nat.le_add_left _ _)) (by decide)) (Nat.le_add_right _ _))
theorem om215 {b0 : Nat} {b1 : Nat} {b2 : Nat} (h0 : ((0 : Nat) < b0)) (h1 : (b1 = (b2 + b0))) : (((b2 + b0) - (1 : Nat)) < b1) := by (rw [h1]; exact Nat.sub_lt (Nat.lt_of_lt_of_le h0 (Nat.le_add_left _ _)) (by decide))
theorem om216 {b0 : Nat} {b1 : Nat} (h0 : ((0 : Nat) < b0)) : (¬ (((b1 + b0) - (1 : Nat)) < b1)) := by (exact Nat.not_lt_of_le (Nat.le_sub_one_of_lt (Nat.lt_add_of_pos_right h0)))
theorem om217 {b0 : Nat} {b1 : Nat} (h0 : ((0 : Nat) < b0)) : ((((b1 + b0) - (1 : Nat)) - b1) < b0) := by (rw [Nat.add_sub_assoc h0, Nat.add_sub_cancel_left]; exact Nat.sub_lt h0 (by decide))
theorem om218 {b0 : Nat} {b1 : Nat} {b2 : Nat} {b3 : Nat} (h0 : (b0 = (b1 + b2))) (h1 : (((b1 + b2) - (1 : Nat)) < b3)) : (¬ (b3 < b0)) := by (rw [h0]; exact Nat.not_lt_of_le (Nat.le_of_pred_lt h1))
theorem om219 {b0 : Nat} {b1 : Nat} {b2 : Nat} {b3 : Nat} {b4 : Nat} {b5 : Nat} {b6 : Nat} (h0 : (b0 = (b1 + b2))) (h1 : (b1 = (b3 + b4))) (h2 : ((b5 < b0) ∧ (b6 = (47 : Nat)))) (h3 : (((b3 + b4) - (1 : Nat)) < b5)) : ((b5 - b1) < b2) := by (subst_vars; lia)
theorem om220 {b0 : Nat} {b1 : Nat} {b2 : Nat} (h0 : (¬ (b0 < ((b1 + b2) - (1 : Nat))))) (h1 : (¬ (((b1 + b2) - (1 : Nat)) < b0))) : (b0 = ((b1 + b2) - (1 : Nat))) := by (lia)
theorem om221 {b0 : Nat} {b1 : Nat} {b2 : Nat} (h0 : (b0 = (b1 + b2))) (h1 : ((0 : Nat) < b1)) : ((((((b1 + b2) - (1 : Nat)) : Nat) : Int) + (1 : Int)) = ((b0 : Nat) : Int)) := by (lia)
theorem om222 {b0 : Nat} {b1 : Nat} {b2 : Nat} (h0 : (b0 = (b1 + b2))) : (b1 ≤ b0) := by (subst_vars; simp)
theorem om223 {b0 : Nat} {b1 : Nat} {b2 : Nat} (h0 : (b0 = (b1 + b2))) (h1 : ((0 : Nat) < b1)) : (¬ (((b0 : Nat) : Int) = (0 : Int))) := by (lia)
theorem om224 {b0 : Nat} {b1 : Nat} {b2 : Nat} (h0 : (b0 = (b1 + b2))) (h1 : ((0 : Nat) < b1)) : ((b1 - (1 : Nat)) < b0) := by (rw [h0]; exact Nat.lt_of_lt_of_le (Nat.sub_lt h1 (by decide)) (Nat.le_add_right _ _))
theorem om225 {b0 : Nat}  : ((((b0 + (1 : Nat)) : Nat) : Int) > (0 : Int)) := by (simp_all; done)
theorem om226 {b0 : Nat} {b1 : Nat} {b2 : Nat} (h0 : (b0 < b1)) (h1 : (b2 ≤ b0)) : (b2 < (b1 + (1 : Nat))) := by (exact Nat.lt_succ_of_lt (Nat.lt_of_le_of_lt h1 h0))
theorem om227 {b0 : Nat} {b1 : Nat} (h0 : (b0 < (b1 + (1 : Nat)))) (h1 : (b0 ≥ b1)) : (b0 = b1) := by (exact Nat.le_antisymm (Nat.le_of_lt_succ h0) h1)
theorem om228 {b0 : Int} {b1 : Nat} (h0 : (b0 < (((b1 + (1 : Nat)) : Nat) : Int))) : ((Int.toNat b0) ≤ b1) := by (subst_vars; simp; lia)
theorem om229 {b0 : Int} (h0 : ((0 : Int) ≤ b0)) (h1 : (b0 < (2 : Int))) : ((((1 : Int) + b0) = (1 : Int)) ∨ (((1 : Int) + b0) = (2 : Int))) := by (lia)
theorem om230 {b0 : Nat}  : ((b0 + (1 : Nat)) ≤ (b0 + (1 : Nat))) := by (subst_vars; exact Nat.le_refl _)
theorem om231 {b0 : Int} {b1 : Nat} (h0 : (b0 < (((b1 + (1 : Nat)) : Nat) : Int))) : ((Int.toNat b0) < (b1 + (1 : Nat))) := by (simp_all; done)
theorem om232 {b0 : Nat} {b1 : Nat} {b2 : Nat} (h0 : (b0 = (b1 + b2))) (h1 : (b2 = (1 : Nat))) : ((0 : Nat) < b0) := by (subst_vars; simp)
theorem om233 {b0 : Nat} {b1 : Nat} {b2 : Nat} (h0 : (b0 = (b1 + b2))) (h1 : (b2 = (1 : Nat))) : (¬ ((b0 - (1 : Nat)) < b1)) := by (subst_vars; exact Nat.lt_irrefl _)
theorem om234 {b0 : Nat} {b1 : Nat} {b2 : Nat} (h0 : (b0 = (b1 + b2))) (h1 : (b2 = (1 : Nat))) : (((b0 - (1 : Nat)) - b1) = (0 : Nat)) := by (subst_vars; simp)
theorem om235 {b0 : Nat} {b1 : Nat} (h0 : (b0 ≤ (7 : Nat))) (h1 : (b1 < (b0 + (1 : Nat)))) : (b1 < (8 : Nat)) := by (exact Nat.lt_of_lt_of_le h1 (Nat.succ_le_succ h0))
theorem om236 {b0 : Nat} {b1 : Nat} (h0 : (b0 < b1)) (h1 : (b1 = (1 : Nat))) : (b0 = (0 : Nat)) := by (simp_all; done)
theorem om237 {b0 : Nat} {b1 : Nat} (h0 : (b0 ≤ (7 : Nat))) (h1 : (b1 < b0)) : ((b1 + (1 : Nat)) < (8 : Nat)) := by (exact Nat.lt_of_le_of_lt h1 (Nat.lt_succ_of_le h0))
theorem om238 {b0 : Nat} {b1 : Nat} (h0 : ((0 : Nat) < b0)) (h1 : (b0 ≤ b1)) : ((b0 - (1 : Nat)) < b1) := by (exact Nat.lt_of_lt_of_le (Nat.sub_lt h0 (by decide)) h1)
theorem om239 {b0 : Nat} (h0 : ((0 : Nat) < b0)) : (((b0 - (1 : Nat)) + (1 : Nat)) = b0) := by (exact Nat.sub_add_cancel ‹_›)
theorem om240 {b0 : Nat} {b1 : Nat} (h0 : (¬ (b0 ≤ b1))) : ((b1 + (1 : Nat)) ≤ b0) := by (exact Nat.lt_of_not_le h0)
theorem om241 {b0 : Nat} (h0 : (b0 < (1 : Nat))) : (b0 = (0 : Nat)) := by (simp_all; done)
theorem om242 {b0 : Nat} (h0 : ((0 : Nat) < b0)) : (b0 ≠ (0 : Nat)) := by (exact Nat.ne_of_gt ‹_›)
theorem om243 {b0 : Int} {b1 : Int} (h0 : ((0 : Int) ≤ b0)) (h1 : (b0 < (5 : Int))) (h2 : ((0 : Int) ≤ b1)) (h3 : (b1 < (3 : Int))) : (((0 : Int) ≤ (b0 + b1)) ∧ ((b0 + b1) ≤ (6 : Int))) := by (lia)
theorem om244 {b0 : Nat} {b1 : Nat} {b2 : Nat} (h0 : (b0 < (b1 + (1 : Nat)))) (h1 : (b2 ≤ b0)) : (b2 < (b1 + (1 : Nat))) := by (exact Nat.lt_of_le_of_lt ‹_› ‹_›)
theorem om245 {b0 : Nat} {b1 : Nat} (h0 : (¬ (b0 < (b1 + (1 : Nat))))) : ((b1 + (1 : Nat)) ≤ b0) := by (exact Nat.le_of_not_lt ‹_›)
theorem om246 {b0 : Nat} {b1 : Nat} (h0 : (b0 < (b1 + (1 : Nat)))) : (b0 < (b1 + (1 : Nat))) := by (omega)
theorem om247 {b0 : Nat} {b1 : Nat} (h0 : ((b0 + (1 : Nat)) ≤ b1)) : ((b0 + (1 : Nat)) < (b1 + (1 : Nat))) := by (exact Nat.add_lt_add_right ‹_› _)
theorem om248 {b0 : Nat} {b1 : Nat} {b2 : Nat} {b3 : Nat} (h0 : (b0 ≤ (7 : Nat))) (h1 : (b1 < (b0 + (1 : Nat)))) (h2 : (b2 = b3)) (h3 : (b3 ≤ (b1 + (1 : Nat)))) : (b2 ≤ (8 : Nat)) := by (rw [h2]; exact Nat.le_trans h3 (Nat.le_trans h1 (Nat.succ_le_succ h0)))
theorem om249 {b0 : Int} (h0 : ((0 : Int) ≤ b0)) (h1 : (b0 < (2 : Int))) : ((((1 : Int) - ((2 : Int) * b0)) = (1 : Int)) ∨ (((1 : Int) - ((2 : Int) * b0)) = (-(1 : Int)))) := by (lia)
theorem om250 {b0 : Int} {b1 : Int} (h0 : (¬ (b0 < b1))) : (b1 ≤ b0) := by (simp_all; done)
theorem om251 {b0 : Int} {b1 : Int} (h0 : (b0 ≤ b1)) : (¬ (b1 < b0)) := by (subst_vars; simp; omega)
theorem om252 {b0 : Nat} {b1 : Nat} (h0 : ((0 : Nat) < b0)) (h1 : (b0 < (b1 + (1 : Nat)))) : ((b0 - (1 : Nat)) < b1) := by (exact Nat.lt_of_lt_of_le (Nat.sub_lt h0 (by decide)) (Nat.le_of_lt_succ h1))
theorem om253 {b0 : Int} (h0 : ((b0 = (72 : Int)) ∨ ((b0 = (273 : Int)) ∨ (b0 = (352 : Int))))) : ((0 : Int) ≤ b0) := by (lia)
theorem om254 {b0 : Nat} (h0 : (¬ ((((63 : Nat) : Nat) : Int) < ((b0 : Nat) : Int)))) : (b0 ≤ (63 : Nat)) := by (exact Nat.le_of_not_lt fun q => h0 (Int.ofNat_lt.mpr q))

noncomputable abbrev Pr : Program := PySem.Challenge.rw_mr0110_01.row.prog
noncomputable abbrev Md (w : World) : Model := model Pr w
noncomputable abbrev Ks (w : World) : Frag := hd.heap_39 w.params
noncomputable abbrev Vw := hd.view_39

structure Bs (w : World) (z : Heap) : Prop where
  k : (Ks w).In z
  t : ∃ mg mb, TopRead Vw (looseW Vw [Str.ofString "filterfalse"]) mg mb z

theorem Bs.mono {w : World} {z h : Heap} (b : Bs w z) (k : z.StaysIn h) : Bs w h :=
  ⟨b.k.keeps k, by obtain ⟨mg, mb, t⟩ := b.t; exact ⟨mg, mb, t.keeps k⟩⟩
theorem Bs.nolimit {w : World} {z : Heap} (b : Bs w z) : z.NoLimit := by obtain ⟨_, _, t⟩ := b.t; exact t.nolimit

structure Ok (A : Around) (d u : Nat) : Prop where
  hd : A.handled = none
  dep : A.depth + d < recursionLimit
  un : A.units + u < cLine

theorem Ok.room {A : Around} {d u : Nat} (o : Ok A d u) : A.depth < recursionLimit := by have := o.dep; exact om0 this
theorem Ok.units {A : Around} {d u : Nat} (o : Ok A d u) : A.units < cLine := by have := o.un; exact om0 this
theorem Ok.deeper {A : Around} {d u : Nat} (o : Ok A (d + 1) (u + 3)) (env : Env) : Ok (A.deeper env) d u :=
  ⟨o.hd, by have := o.dep; show A.depth + 1 + d < _; exact om1 this, by have := o.un; show A.units + 3 + u < _; exact om2 this⟩
theorem Ok.in1 {A : Around} {d u : Nat} (o : Ok A d (u + 1)) : Ok A.in1 d u :=
  ⟨o.hd, o.dep, by have := o.un; show A.units + 1 + u < _; exact om1 this⟩
theorem Ok.le {A : Around} {d u d' u' : Nat} (o : Ok A d u) (h1 : d' ≤ d := by decide) (h2 : u' ≤ u := by decide) : Ok A d' u' :=
  ⟨o.hd, by have := o.dep; exact om3 h1 this, by have := o.un; exact om3 h2 this⟩

/-- what a step leaves of the rest of the state -/
structure Sm (s s' : Shared) : Prop where
  heap : s.heap.StaysIn s'.heap
  os : s'.os = s.os
  gens : AllBare s.gens → AllBare s'.gens

/-- a call's fixed things -/
structure Fx where
  z0 : Heap
  hE : Heap
  L : Addr
  cs : List (Str × Addr)
  fs : List Addr

/-- all stands, but the slots of the frames' objects -/
noncomputable def Ws (F : List Addr) (h h' : Heap) : Prop := ∀ b o, h.get? b = some o → h'.get? b = some o ∨ (b ∈ F ∧ ∃ sl, h'.get? b = some { o with slots := sl })
theorem Ws.of {F : List Addr} {h h' : Heap} (k : h.StaysIn h') : Ws F h h' := fun b o e => .inl (k b o e)
theorem Ws.refl {F : List Addr} (h : Heap) : Ws F h h := fun _ _ e => .inl e
theorem Ws.trans {F : List Addr} {a b c : Heap} (x : Ws F a b) (y : Ws F b c) : Ws F a c := fun q o e => by
  rcases x q o e with e1 | ⟨m, sl, e1⟩
  · exact y q o e1
  · rcases y q _ e1 with e2 | ⟨_, sl2, e2⟩
    · exact .inr ⟨m, sl, e2⟩
    · exact .inr ⟨m, sl2, e2⟩
theorem Ws.sub {F G : List Addr} {a b : Heap} (x : Ws F a b) (h : ∀ f ∈ F, f ∈ G) : Ws G a b := fun q o e => (x q o e).imp id fun y => ⟨h _ y.1, y.2⟩
theorem Ws.there {F : List Addr} {a b : Heap} (x : Ws F a b) {q : Addr} {o : Obj} (e : a.get? q = some o) : ∃ o', b.get? q = some o' ∧ o'.data = o.data := by
  rcases x q o e with e1 | ⟨_, sl, e1⟩
  · exact ⟨o, e1, rfl⟩
  · exact ⟨_, e1, rfl⟩
theorem Ws.off {F : List Addr} {a b : Heap} (x : Ws F a b) {q : Addr} {o : Obj} (e : a.get? q = some o) (n : q ∉ F) : b.get? q = some o := (x q o e).elim id fun y => absurd y.1 n
theorem Ws.ns {F : List Addr} {a b : Heap} (x : Ws F a b) {L : Addr} {m : Str → Option Value} (n : a.Ns L m) : b.Ns L m :=
  by obtain ⟨_, es, ep, e, d, r⟩ := n; exact by obtain ⟨o', e', d'⟩ := x.there e; exact ⟨o', es, ep, e', d'.trans d, r⟩
theorem Ws.cell {F : List Addr} {a b : Heap} (x : Ws F a b) {c : Addr} {v : Option Value} (n : a.IsCell c v) : b.IsCell c v :=
  by obtain ⟨_, e, d⟩ := n; exact by obtain ⟨o', e', d'⟩ := x.there e; exact ⟨o', e', d'.trans d⟩

noncomputable abbrev Fx.pv (X : Fx) (ms : List (Addr × (Obj → Prop))) : List Addr := X.L :: (X.cs.map (·.2) ++ ms.map (·.1))

noncomputable def luk (loc loc' : List (Str × Value)) : List (Option Value) := loc'.map fun p => loc.lookup p.1
noncomputable def vls (loc' : List (Str × Value)) : List (Option Value) := loc'.map fun p => some p.2
structure St (X : Fx) (z : Heap) (loc cl : List (Str × Value)) (ms : List (Addr × (Obj → Prop))) (h : Heap) : Prop where
  old : Ws X.fs X.hE h
  fsk : ∀ f ∈ X.fs, X.hE.get? f ≠ none
  z0 : X.z0.StaysIn z
  frz : z.StaysIn h
  fresh : ∀ b o, z.get? b = some o → X.z0.get? b = some o ∨ X.hE.get? b = none
  ns : ∃ m, h.Ns X.L m ∧ ∀ x v, loc.lookup x = some v → m x = some v
  cell : ∀ p ∈ X.cs, ∃ vo, h.IsCell p.2 vo ∧ ∀ v, cl.lookup p.1 = some v → X.cs.lookup p.1 = some p.2 → vo = some v
  mu : ∀ p ∈ ms, ∃ o, h.get? p.1 = some o ∧ p.2 o
  own : ∀ a ∈ X.pv ms, z.get? a = none ∧ X.hE.get? a = none
  nodup : (X.pv ms).Nodup

section
variable {X : Fx} {z z' h h' : Heap} {loc cl : List (Str × Value)} {ms : List (Addr × (Obj → Prop))}

theorem stays_refl (h : Heap) : h.StaysIn h := fun _ _ e => e
theorem stays_trans {a b c : Heap} (x : a.StaysIn b) (y : b.StaysIn c) : a.StaysIn c := fun _ _ e => y _ _ (x _ _ e)

theorem get_size_none (h : Heap) {a : Addr} (e : h.objs.size ≤ a) : h.get? a = none := by
  cases q : h.get? a with
  | none => rfl
  | some o => exact absurd (Heap.lt_size q) (Nat.not_lt.mpr e)

theorem IsCell.stays {c : Addr} {v : Option Value} (x : h.IsCell c v) (k : h.StaysIn h') : h'.IsCell c v := x.keeps k

theorem St.bs {w : World} (S : St X z loc cl ms h) (b : Bs w X.z0) : Bs w h := b.mono (stays_trans S.z0 S.frz)
theorem St.bsz {w : World} (S : St X z loc cl ms h) (b : Bs w X.z0) : Bs w z := b.mono S.z0

/-- nothing that was is changed -/
theorem St.grow (S : St X z loc cl ms h) (k : h.StaysIn h') : St X z loc cl ms h' where
  old := S.old.trans (.of k)
  fsk := S.fsk
  z0 := S.z0
  frz := stays_trans S.frz k
  fresh := S.fresh
  ns := by obtain ⟨m, a, b⟩ := S.ns; exact ⟨m, a.keeps k, b⟩
  cell := fun p hp => by obtain ⟨vo, a, b⟩ := S.cell p hp; exact ⟨vo, a.keeps k, b⟩
  mu := fun p hp => by obtain ⟨o, a, b⟩ := S.mu p hp; exact ⟨o, k _ _ a, b⟩
  own := S.own
  nodup := S.nodup

/-- the own objects stand -/
theorem St.alive (S : St X z loc cl ms h) : ∀ a ∈ X.pv ms, ∃ o, h.get? a = some o := by
  intro a ha
  rcases List.mem_cons.mp ha with rfl | ha
  · obtain ⟨m, ⟨o, _, _, e, _⟩, _⟩ := S.ns; exact ⟨o, e⟩
  · rcases List.mem_append.mp ha with ha | ha
    · obtain ⟨p, hp, rfl⟩ := List.mem_map.mp ha
      obtain ⟨vo, ⟨o, e, _⟩, _⟩ := S.cell p hp; exact ⟨o, e⟩
    · obtain ⟨p, hp, rfl⟩ := List.mem_map.mp ha
      obtain ⟨o, e, _⟩ := S.mu p hp; exact ⟨o, e⟩

/-- the frozen part may be made greater by what is new or was the callee's own -/
theorem St.zup (S : St X z loc cl ms h) (k : z.StaysIn z') (f : z'.StaysIn h) (n : ∀ b o, z'.get? b = some o → z.get? b = some o ∨ (X.hE.get? b = none ∧ b ∉ X.pv ms)) : St X z' loc cl ms h where
  old := S.old
  fsk := S.fsk
  z0 := stays_trans S.z0 k
  frz := f
  fresh := fun b o e => (n b o e).elim (fun q => S.fresh b o q) fun q => .inr q.1
  ns := S.ns
  cell := S.cell
  mu := S.mu
  own := fun a ha => ⟨by
    cases q : z'.get? a with
    | none => rfl
    | some o => exact (n a o q).elim (fun q' => by rw [(S.own a ha).1] at q'; cases q') fun q' => absurd ha q'.2, (S.own a ha).2⟩
  nodup := S.nodup

/-- after a call: its answer's frozen part -/
theorem St.offs {ms' : List (Addr × (Obj → Prop))} {a : Addr} (S : St X z loc cl ms h) (ha : a ∈ X.pv ms) : a ∉ X.fs := fun q => S.fsk a q (S.own a ha).2

/-- all stands but slots -/
theorem St.wgrow {F : List Addr} (S : St X z loc cl ms h) (k : Ws F h h') (hF : ∀ f ∈ F, f = X.L ∨ f ∈ X.fs) (kz : z.StaysIn h') : St X z loc cl ms h' where
  old := fun b o e => by
    obtain e1 | ⟨m, sl, e1⟩ := S.old b o e
    · rcases k b o e1 with e2 | ⟨m, sl, e2⟩
      · exact .inl e2
      · rcases hF b m with rfl | m'
        · have := (S.own _ (List.mem_cons_self)).2
          rw [e] at this; cases this
        · exact .inr ⟨m', sl, e2⟩
    · rcases k b _ e1 with e2 | ⟨_, sl2, e2⟩
      · exact .inr ⟨m, sl, e2⟩
      · exact .inr ⟨m, sl2, e2⟩
  fsk := S.fsk
  z0 := S.z0
  frz := kz
  fresh := S.fresh
  ns := by obtain ⟨m, a, b⟩ := S.ns; exact ⟨m, k.ns a, b⟩
  cell := fun p hp => by obtain ⟨vo, a, b⟩ := S.cell p hp; exact ⟨vo, k.cell a, b⟩
  mu := fun p hp => by
    obtain ⟨o, a, b⟩ := S.mu p hp
    refine ⟨o, k.off a fun q => ?_, b⟩
    have hm : p.1 ∈ ms.map (·.1) := List.mem_map_of_mem hp
    rcases hF _ q with e | m
    · have nd := S.nodup
      simp only [Fx.pv, List.nodup_cons, List.mem_append, not_or] at nd
      exact nd.1.2 (e ▸ hm)
    · exact S.fsk _ m (S.own p.1 (by simp only [Fx.pv, List.mem_cons, List.mem_append]; exact .inr (.inr hm))).2
  own := S.own
  nodup := S.nodup

theorem St.after {F : List Addr} {hB : Heap} (S : St X z loc cl ms hB) (g : Ws F hB h') (hF : ∀ f ∈ F, f = X.L ∨ f ∈ X.fs) (k : z.StaysIn z') (f : z'.StaysIn h') (n : ∀ b o, z'.get? b = some o → z.get? b = some o ∨ hB.get? b = none) : St X z' loc cl ms h' :=
  (S.wgrow g hF (stays_trans k f)).zup k f fun b o e => (n b o e).imp id fun q => by
    refine ⟨?_, fun hb => ?_⟩
    · cases q' : X.hE.get? b with
      | none => rfl
      | some o' =>
        obtain ⟨o2, e2, _⟩ := S.old.there q'
        rw [e2] at q; cases q
    · obtain ⟨o', e'⟩ := S.alive b hb
      rw [e'] at q; cases q

/-- a new object, one's own -/
theorem St.push (S : St X z loc cl ms h) (o : Obj) {p : Obj → Prop} (hp : p o) (hf : o.isFreed = false := by rfl) : St X z loc cl ((h.objs.size, p) :: ms) (h.push o) := by
  have S' : St X z loc cl ms (h.push o) := S.grow fun b o' e => Heap.get?_push_of_some _ e
  have nz : z.get? h.objs.size = none := by
    cases q : z.get? h.objs.size with
    | none => rfl
    | some o' => exact absurd (Heap.lt_size (S.frz _ _ q)) (Nat.lt_irrefl _)
  have nE : X.hE.get? h.objs.size = none := by
    cases q : X.hE.get? h.objs.size with
    | none => rfl
    | some o' =>
      obtain ⟨o2, e2, _⟩ := S.old.there q
      exact absurd (Heap.lt_size e2) (Nat.lt_irrefl _)
  have npv : h.objs.size ∉ X.pv ms := fun q => by
    obtain ⟨o', e⟩ := S.alive _ q
    exact absurd (Heap.lt_size e) (Nat.lt_irrefl _)
  have mem : ∀ a, a ∈ X.pv ((h.objs.size, p) :: ms) → a = h.objs.size ∨ a ∈ X.pv ms := by
    intro a ha
    simp only [Fx.pv, List.mem_cons, List.mem_append, List.map_cons] at ha ⊢
    rcases ha with h1 | h1 | h1 | h1
    · exact .inr (.inl h1)
    · exact .inr (.inr (.inl h1))
    · exact .inl h1
    · exact .inr (.inr (.inr h1))
  refine ⟨S'.old, S'.fsk, S'.z0, S'.frz, S'.fresh, S'.ns, S'.cell, ?_, ?_, ?_⟩
  · intro q hq
    rcases List.mem_cons.mp hq with rfl | hq
    · exact ⟨o, Heap.get?_push_size _ hf, hp⟩
    · exact S'.mu q hq
  · intro a ha
    rcases mem a ha with rfl | ha
    · exact ⟨nz, nE⟩
    · exact S'.own a ha
  · have nd := S'.nodup
    simp only [Fx.pv, List.map_cons, List.nodup_cons, List.nodup_append, List.mem_append, List.mem_cons, not_or] at nd npv ⊢
    refine ⟨⟨nd.1.1, fun e => npv.1 e.symm, nd.1.2⟩, nd.2.1, ⟨npv.2.2, nd.2.2.1⟩, fun a ha b hb => ?_⟩
    rcases hb with rfl | hb
    · exact fun e => npv.2.1 (e ▸ ha)
    · exact nd.2.2.2 a ha b hb


/-- everything but the own objects is frozen -/
theorem St.refreeze (S : St X z loc cl ms h) : ∃ z', z.StaysIn z' ∧ St X z' loc cl ms h ∧ ∀ b o, h.get? b = some o → b ∉ X.pv ms → X.hE.get? b = none → z'.get? b = some o := by
  -- what is frozen: what was frozen, and what the entry's heap does not hold
  let z' : Heap := hideAll h (X.pv ms ++ (List.range h.objs.size).filter fun b => (X.hE.get? b).isSome && (z.get? b).isNone)
  have key : ∀ b o, z'.get? b = some o → h.get? b = some o ∧ b ∉ X.pv ms ∧ ((z.get? b).isSome = true ∨ X.hE.get? b = none) := by
    intro b o e
    have e1 := of_hideAll _ e
    refine ⟨e1, fun hb => ?_, ?_⟩
    · have := hideAll_none (X.pv ms ++ (List.range h.objs.size).filter fun b => (X.hE.get? b).isSome && (z.get? b).isNone) (h := h) (List.mem_append.mpr (.inl hb))
      rw [show z'.get? b = none from this] at e; cases e
    · cases q1 : X.hE.get? b with
      | none => exact .inr rfl
      | some o1 =>
        cases q2 : z.get? b with
        | some o2 => exact .inl rfl
        | none =>
          have := hideAll_none (X.pv ms ++ (List.range h.objs.size).filter fun b => (X.hE.get? b).isSome && (z.get? b).isNone) (h := h) (b := b)
            (List.mem_append.mpr (.inr (List.mem_filter.mpr ⟨List.mem_range.mpr (Heap.lt_size e1), by rw [q1, q2]; rfl⟩)))
          rw [show z'.get? b = none from this] at e; cases e
  have back : ∀ b o, h.get? b = some o → b ∉ X.pv ms → ((z.get? b).isSome = true ∨ X.hE.get? b = none) → z'.get? b = some o := by
    intro b o e hb hc
    refine hideAll_get _ e fun hm => ?_
    rcases List.mem_append.mp hm with hm | hm
    · exact hb hm
    · have := (List.mem_filter.mp hm).2
      rcases hc with hc | hc
      · cases q2 : z.get? b with
        | none => rw [q2] at hc; cases hc
        | some o2 => rw [q2] at this; simp at this
      · rw [hc] at this; simp at this
  refine ⟨z', fun b o e => back b o (S.frz _ _ e) (fun hb => by rw [(S.own b hb).1] at e; cases e) (.inl (by rw [e]; rfl)), S.zup ?_ ?_ ?_, fun b o e hb hE => back b o e hb (.inr hE)⟩
  · exact fun b o e => back b o (S.frz _ _ e) (fun hb => by rw [(S.own b hb).1] at e; cases e) (.inl (by rw [e]; rfl))
  · exact fun b o e => (key b o e).1
  · intro b o e
    obtain ⟨e1, hb, hc⟩ := key b o e
    rcases hc with hc | hc
    · cases q2 : z.get? b with
      | none => rw [q2] at hc; cases hc
      | some o2 =>
        have := S.frz _ _ q2
        rw [e1] at this
        exact .inl (by rw [Option.some.inj this])
    · exact .inr ⟨hc, hb⟩

theorem pv_sub {ms' : List (Addr × (Obj → Prop))} (hs : ms'.Sublist ms) : (X.pv ms').Sublist (X.pv ms) :=
  List.Sublist.cons_cons _ (List.Sublist.append (List.Sublist.refl _) (hs.map _))

theorem St.sub {ms' : List (Addr × (Obj → Prop))} (S : St X z loc cl ms h) (hs : ms'.Sublist ms) : St X z loc cl ms' h where
  old := S.old
  fsk := S.fsk
  z0 := S.z0
  frz := S.frz
  fresh := S.fresh
  ns := S.ns
  cell := S.cell
  mu := fun p hp => S.mu p (hs.subset hp)
  own := fun a ha => S.own a ((pv_sub hs).subset ha)
  nodup := S.nodup.sublist (pv_sub hs)

theorem St.drop {q : Addr × (Obj → Prop)} (S : St X z loc cl (q :: ms) h) : St X z loc cl ms h := S.sub (List.sublist_cons_self _ _)

/-- the own object at the head is frozen -/
theorem St.freeze {a : Addr} {p : Obj → Prop} (S : St X z loc cl ((a, p) :: ms) h) : ∃ z', z.StaysIn z' ∧ St X z' loc cl ms h ∧ ∃ o, z'.get? a = some o ∧ p o := by
  obtain ⟨z', k, S', hz⟩ := S.drop.refreeze
  obtain ⟨o, e, hp⟩ := S.mu _ (List.mem_cons_self)
  refine ⟨z', k, S', o, hz a o e ?_ ?_, hp⟩
  · have nd := S.nodup
    simp only [Fx.pv, List.map_cons, List.nodup_cons, List.nodup_append, List.mem_append, List.mem_cons, not_or] at nd ⊢
    exact ⟨fun e => nd.1.2.1 e.symm, fun hm => nd.2.2.2 a hm a (.inl rfl) rfl, nd.2.2.1.1⟩
  · exact (S.own a (by simp [Fx.pv])).2

theorem St.perm {ms' : List (Addr × (Obj → Prop))} (S : St X z loc cl ms h) (hp : ms'.Perm ms) : St X z loc cl ms' h where
  old := S.old
  fsk := S.fsk
  z0 := S.z0
  frz := S.frz
  fresh := S.fresh
  ns := S.ns
  cell := S.cell
  mu := fun p hp' => S.mu p (hp.subset hp')
  own := fun a ha => S.own a ((List.Perm.cons _ (List.Perm.append_left _ (hp.map _))).subset ha)
  nodup := (List.Perm.nodup_iff (List.Perm.cons _ (List.Perm.append_left _ (hp.map (·.1))))).mpr S.nodup
theorem St.swap {q r : Addr × (Obj → Prop)} (S : St X z loc cl (q :: r :: ms) h) : St X z loc cl (r :: q :: ms) h := S.perm (List.Perm.swap _ _ _)

/-- one own object is changed -/
theorem St.setm {a : Addr} {p p' : Obj → Prop} {o' : Obj} (S : St X z loc cl ((a, p) :: ms) h) (hs : Heap.SameBut a h h') (ho : h'.get? a = some o') (hp : p' o') : St X z loc cl ((a, p') :: ms) h' := by
  have oa := S.own a (by simp [Fx.pv])
  have nd := S.nodup
  simp only [Fx.pv, List.map_cons, List.nodup_cons, List.nodup_append, List.mem_append, List.mem_cons, not_or] at nd
  have ne : ∀ b o, X.hE.get? b = some o → b ≠ a := fun b o e q => by rw [q, oa.2] at e; cases e
  have nz : ∀ b o, z.get? b = some o → b ≠ a := fun b o e q => by rw [q, oa.1] at e; cases e
  refine ⟨fun b o e => (S.old b o e).imp (fun q => (hs.2 b (ne b o e)).trans q) fun q => ⟨q.1, by obtain ⟨sl, q2⟩ := q.2; exact ⟨sl, (hs.2 b (ne b o e)).trans q2⟩⟩, S.fsk, S.z0, fun b o e => (hs.2 b (nz b o e)).trans (S.frz b o e), S.fresh, ?_, ?_, ?_, S.own, S.nodup⟩
  · obtain ⟨m, n, l⟩ := S.ns
    exact ⟨m, n.sameBut hs nd.1.2.1, l⟩
  · intro q hq
    obtain ⟨vo, c, l⟩ := S.cell q hq
    exact ⟨vo, c.sameBut hs (fun e => nd.2.2.2 _ (List.mem_map_of_mem hq) a (.inl rfl) e), l⟩
  · intro q hq
    rcases List.mem_cons.mp hq with rfl | hq
    · exact ⟨o', ho, hp⟩
    · obtain ⟨o, e, l⟩ := S.mu q (.tail _ hq)
      exact ⟨o, (hs.2 _ fun e' => nd.2.2.1.1 (e' ▸ List.mem_map_of_mem hq)).trans e, l⟩

/-- a local name is bound -/
theorem St.store {x : Str} {v : Value} {m : Str → Option Value} (S : St X z loc cl ms h) (hm : h.Ns X.L m) (hl : ∀ x v, loc.lookup x = some v → m x = some v) (hn : h'.Ns X.L (fun y => if y = x then some v else m y)) (hs : Heap.SameBut X.L h h') :
    St X z ((x, v) :: loc) cl ms h' := by
  have oa := S.own X.L (by simp [Fx.pv])
  have nd := S.nodup
  simp only [Fx.pv, List.nodup_cons, List.nodup_append, List.mem_append, not_or] at nd
  have ne : ∀ b o, X.hE.get? b = some o → b ≠ X.L := fun b o e q => by rw [q, oa.2] at e; cases e
  have nz : ∀ b o, z.get? b = some o → b ≠ X.L := fun b o e q => by rw [q, oa.1] at e; cases e
  refine ⟨fun b o e => (S.old b o e).imp (fun q => (hs.2 b (ne b o e)).trans q) fun q => ⟨q.1, by obtain ⟨sl, q2⟩ := q.2; exact ⟨sl, (hs.2 b (ne b o e)).trans q2⟩⟩, S.fsk, S.z0, fun b o e => (hs.2 b (nz b o e)).trans (S.frz b o e), S.fresh, ⟨_, hn, ?_⟩, ?_, ?_, S.own, S.nodup⟩
  · intro y u e
    rw [List.lookup_cons] at e
    by_cases hy : y = x
    · subst hy
      simp at e ⊢
      exact e
    · have : (y == x) = false := by simpa using hy
      rw [this] at e
      simp only [if_neg hy]
      exact hl y u e
  · intro q hq
    obtain ⟨vo, c, l⟩ := S.cell q hq
    exact ⟨vo, c.sameBut hs (fun e => nd.1.1 (e ▸ List.mem_map_of_mem hq)), l⟩
  · intro q hq
    obtain ⟨o, e, l⟩ := S.mu q hq
    exact ⟨o, (hs.2 _ fun e' => nd.1.2 (e' ▸ List.mem_map_of_mem hq)).trans e, l⟩

/-- a cell's name is bound -/
theorem St.storeC {x : Str} {c : Addr} {v : Value} (S : St X z loc cl ms h) (hc : X.cs.lookup x = some c) (hn : h'.IsCell c (some v)) (hs : Heap.SameBut c h h') : St X z loc ((x, v) :: cl) ms h' := by
  have hmem := mem_of_lookup hc
  have hcm : c ∈ X.cs.map (·.2) := List.mem_map_of_mem (f := (·.2)) hmem
  have oa := S.own c (by simp only [Fx.pv, List.mem_cons, List.mem_append]; exact .inr (.inl hcm))
  have nd := S.nodup
  simp only [Fx.pv, List.nodup_cons, List.nodup_append, List.mem_append, not_or] at nd
  have ne : ∀ b o, X.hE.get? b = some o → b ≠ c := fun b o e q => by rw [q, oa.2] at e; cases e
  have nz : ∀ b o, z.get? b = some o → b ≠ c := fun b o e q => by rw [q, oa.1] at e; cases e
  refine ⟨fun b o e => (S.old b o e).imp (fun q => (hs.2 b (ne b o e)).trans q) fun q => ⟨q.1, by obtain ⟨sl, q2⟩ := q.2; exact ⟨sl, (hs.2 b (ne b o e)).trans q2⟩⟩, S.fsk, S.z0, fun b o e => (hs.2 b (nz b o e)).trans (S.frz b o e), S.fresh, ?_, ?_, ?_, S.own, S.nodup⟩
  · obtain ⟨m, n, l⟩ := S.ns
    exact ⟨m, n.sameBut hs (fun e => nd.1.1 (e ▸ hcm)), l⟩
  · intro q hq
    by_cases hqc : q.2 = c
    · refine ⟨some v, hqc ▸ hn, fun u e1 e2 => ?_⟩
      have : q.1 = x := by
        refine name_of_addr (cs := X.cs) ?_ (n := q.1) (n' := x) (c := c) (hqc ▸ hq) hmem
        have := nd.2.1
        exact List.pairwise_map.mp this
      rw [List.lookup_cons, this] at e1
      simp at e1
      rw [e1]
    · obtain ⟨vo, k, l⟩ := S.cell q hq
      refine ⟨vo, k.sameBut hs hqc, fun u e1 e2 => l u ?_ e2⟩
      rw [List.lookup_cons] at e1
      by_cases hy : q.1 = x
      · rw [hy, hc] at e2
        exact absurd (Option.some.inj e2).symm hqc
      · have : (q.1 == x) = false := by simpa using hy
        rw [this] at e1
        exact e1
  · intro q hq
    obtain ⟨o, e, l⟩ := S.mu q hq
    exact ⟨o, (hs.2 _ fun e' => nd.2.2.2 c hcm q.1 (List.mem_map_of_mem hq) e'.symm).trans e, l⟩

/-- fewer names need be told -/
theorem St.less0 {loc' cl' : List (Str × Value)} (S : St X z loc cl ms h) (h1 : ∀ p ∈ loc', loc.lookup p.1 = some p.2) (h2 : ∀ p ∈ cl', cl.lookup p.1 = some p.2) : St X z loc' cl' ms h where
  old := S.old
  fsk := S.fsk
  z0 := S.z0
  frz := S.frz
  fresh := S.fresh
  ns := by obtain ⟨m, a, b⟩ := S.ns; exact ⟨m, a, fun x v e => b x v (h1 _ (mem_of_lookup e))⟩
  cell := fun p hp => by obtain ⟨vo, a, b⟩ := S.cell p hp; exact ⟨vo, a, fun v e => b v (h2 _ (mem_of_lookup e))⟩
  mu := S.mu
  own := S.own
  nodup := S.nodup

theorem of_luk {loc loc' : List (Str × Value)} (h : luk loc loc' = vls loc') : ∀ p ∈ loc', loc.lookup p.1 = some p.2 := List.map_inj_left.mp h
theorem St.less {loc' cl' : List (Str × Value)} (S : St X z loc cl ms h) (h1 : luk loc loc' = vls loc') (h2 : luk cl cl' = vls cl') : St X z loc' cl' ms h := S.less0 (of_luk h1) (of_luk h2)

end

section
variable {X : Fx} {z z' h h' : Heap} {loc cl : List (Str × Value)} {ms : List (Addr × (Obj → Prop))}
variable {w : World} {A : Around} {E : Value → Shared → Prop} {s : Shared} {env : Env}

/-- an own object is given up, whatever becomes of it -/
theorem St.lose {a : Addr} {p : Obj → Prop} (S : St X z loc cl ((a, p) :: ms) h) (hs : Heap.ExtBut a h h') : St X z loc cl ms h' := by
  have oa := S.own a (by simp [Fx.pv])
  have nd := S.nodup
  simp only [Fx.pv, List.map_cons, List.nodup_cons, List.nodup_append, List.mem_append, List.mem_cons, not_or] at nd
  have S1 := S.drop
  have ne : ∀ b o, X.hE.get? b = some o → b ≠ a := fun b o e q => by rw [q, oa.2] at e; cases e
  have nz : ∀ b o, z.get? b = some o → b ≠ a := fun b o e q => by rw [q, oa.1] at e; cases e
  refine ⟨fun b o e => (S.old b o e).imp (fun q => hs b o (ne b o e) q) fun q => ⟨q.1, by obtain ⟨sl, q2⟩ := q.2; exact ⟨sl, hs b _ (ne b o e) q2⟩⟩, S.fsk, S.z0, fun b o e => hs b o (nz b o e) (S.frz b o e), S.fresh, ?_, ?_, ?_, S1.own, S1.nodup⟩
  · obtain ⟨m, n, l⟩ := S.ns
    exact ⟨m, n.extBut hs nd.1.2.1, l⟩
  · intro q hq
    obtain ⟨vo, ⟨oc, c, d⟩, l⟩ := S.cell q hq
    exact ⟨vo, ⟨oc, hs _ _ (fun e => nd.2.2.2 _ (List.mem_map_of_mem hq) a (.inl rfl) e) c, d⟩, l⟩
  · intro q hq
    obtain ⟨o, e, l⟩ := S.mu q (.tail _ hq)
    exact ⟨o, hs _ _ (fun e' => nd.2.2.1.1 (e' ▸ List.mem_map_of_mem hq)) e, l⟩

/- names -/
theorem nm_local {x : Str} {pos : Pos} {v : Value} {Q : Value → Shared → Prop} (S : St X z loc cl ms s.heap) (hv : loc.lookup x = some v) (hL : env.locals = X.L) (hk : env.scope.kind = .function) (hl : env.kindOf x = some .local) (hd : (x == ("__debug__" : Str)) = false) (h : Q v s) :
    wpAny (Md w) A (eval (.Name x pos) env) Q E s :=
  let ⟨_, a, b⟩ := S.ns
  wpAny_Name (wpAny_loadName_local hk hl (hL ▸ a) (b x v hv) h) hd
theorem ln_local {x : Str} {v : Value} {Q : Value → Shared → Prop} (S : St X z loc cl ms s.heap) (hv : loc.lookup x = some v) (hL : env.locals = X.L) (hk : env.scope.kind = .function) (hl : env.kindOf x = some .local) (h : Q v s) :
    wpAny (Md w) A (loadName env x) Q E s :=
  let ⟨_, a, b⟩ := S.ns
  wpAny_loadName_local hk hl (hL ▸ a) (b x v hv) h
theorem nm_cell {x : Str} {pos : Pos} {v : Value} {c : Addr} {Q : Value → Shared → Prop} (S : St X z loc cl ms s.heap) (hv : cl.lookup x = some v) (hc : X.cs.lookup x = some c) (hL : env.cells.lookup x = X.cs.lookup x) (hk : env.scope.kind = .function) (hl : env.kindOf x = some .cell) (hd : (x == ("__debug__" : Str)) = false) (h : Q v s) :
    wpAny (Md w) A (eval (.Name x pos) env) Q E s := by
  obtain ⟨vo, a, b⟩ := S.cell (x, c) (mem_of_lookup hc)
  obtain rfl := b v hv hc
  exact wpAny_Name (wpAny_loadName_cell hk hl (hL.trans hc) a h) hd
theorem nm_free {x : Str} {pos : Pos} {v : Value} {c : Addr} {Q : Value → Shared → Prop} (hc : env.cells.lookup x = some c) (hv : s.heap.IsCell c (some v)) (hk : env.scope.kind = .function) (hl : env.kindOf x = some .cell) (hd : (x == ("__debug__" : Str)) = false) (h : Q v s) :
    wpAny (Md w) A (eval (.Name x pos) env) Q E s := wpAny_Name (wpAny_loadName_cell hk hl hc hv h) hd
theorem nm_glob {x : Str} {pos : Pos} {v : Value} {Q : Value → Shared → Prop} (b : Bs w s.heap) (e : nsIn (Ks w) mainGlobals x = some (some v)) (hG : env.globals = mainGlobals) (hk : env.scope.kind = .function) (hl : env.kindOf x = some .globalImplicit) (hd : (x == ("__debug__" : Str)) = false) (h : Q v s) :
    wpAny (Md w) A (eval (.Name x pos) env) Q E s :=
  let ⟨_, _, t⟩ := b.t
  Name_function_global hk hl (loadGlobal_global (hG ▸ t.g) (mg_of b.k t.g e) h) hd
theorem nm_built {x : Str} {pos : Pos} {v : Value} {Q : Value → Shared → Prop} (b : Bs w s.heap) (e : nsIn (Ks w) mainGlobals x = some none) (hv : bootBuiltins x = some v) (hn : x ≠ "__name__") (hG : env.globals = mainGlobals) (hB : env.builtins = builtinsNs) (hk : env.scope.kind = .function) (hl : env.kindOf x = some .globalImplicit) (hd : (x == ("__debug__" : Str)) = false) (h : Q v s) :
    wpAny (Md w) A (eval (.Name x pos) env) Q E s :=
  let ⟨_, _, t⟩ := b.t
  Name_function_global hk hl (loadGlobal_builtin (hG ▸ t.g) (mg_none_of b.k t.g e) (hB ▸ t.b) ((t.builtins x hn).trans hv) h) hd

/- stores -/
theorem st_local {x : Str} {v : Value} {Q : Unit → Shared → Prop} (S : St X z loc cl ms s.heap) (hL : env.locals = X.L) (hk : env.scope.kind = .function) (hl : env.kindOf x = some .local)
    (h : ∀ h', St X z ((x, v) :: loc) cl ms h' → Q () { s with heap := h', toks := s.toks + 1 }) : wpAny (Md w) A (storeName env x v) Q E s := by
  obtain ⟨m, a, b⟩ := S.ns
  refine wpAny_storeName_local hl (hL ▸ a) (fun h' hn hs => h h' ?_) (by rw [hk]; rfl)
  rw [hL] at hn hs
  exact S.store a b hn hs
theorem st_cell {x : Str} {v : Value} {c : Addr} {Q : Unit → Shared → Prop} (S : St X z loc cl ms s.heap) (hc : X.cs.lookup x = some c) (hL : env.cells.lookup x = X.cs.lookup x) (hk : env.scope.kind = .function) (hl : env.kindOf x = some .cell)
    (h : ∀ h', St X z loc ((x, v) :: cl) ms h' → Q () { s with heap := h' }) : wpAny (Md w) A (storeName env x v) Q E s := by
  obtain ⟨vo, a, b⟩ := S.cell (x, c) (mem_of_lookup hc)
  exact wpAny_storeName_cell hk hl (hL.trans hc) a fun h' hn hs => h h' (S.storeC hc hn hs)

/- an iterator -/
structure Itr (w : World) (A : Around) (z : Heap) (I : Addr) (n : Nat) (P : Nat → Value → Prop) (p : Nat → Obj → Prop) : Prop where
  item : ∀ (i : Nat) (s : Shared) (Q : Option Value → Shared → Prop) (E : Value → Shared → Prop) (o : Obj), i < n → z.StaysIn s.heap → s.heap.get? I = some o → p i o →
    (∀ v h' tk o', P i v → h'.get? I = some o' → p (i + 1) o' → Heap.SameBut I s.heap h' → Q (some v) { s with heap := h', toks := tk }) → wpAny (Md w) A (pyNext (.ref I)) Q E s
  done : ∀ (s : Shared) (Q : Option Value → Shared → Prop) (E : Value → Shared → Prop) (o : Obj), z.StaysIn s.heap → s.heap.get? I = some o → p n o →
    (∀ h', Heap.ExtBut I s.heap h' → Q none { s with heap := h' }) → wpAny (Md w) A (pyNext (.ref I)) Q E s
  self : ∀ (i : Nat) (s : Shared) (Q : Value → Shared → Prop) (E : Value → Shared → Prop) (o : Obj), s.heap.get? I = some o → p i o → Q (.ref I) s → wpAny (Md w) A (pyIter (.ref I)) Q E s
  own : ∀ (i : Nat) (s : Shared) (v : Value) (t : Expr) (Q : Unit → Shared → Prop) (E : Value → Shared → Prop) (o : Obj), s.heap.get? I = some o → p i o → Q () s → wpAny (Md w) A (letOwnedTupleGo t (.ref I) v) Q E s

theorem own_of {I : Addr} {v : Value} {t : Expr} {Q : Unit → Shared → Prop} {o : Obj} {c : String} {vs : Array Value} (e : s.heap.get? I = some o) (hc : o.cls = .type c) (hd : o.data = .fields vs)
    (hn : (["enumerate", "zip", "dict_itemiterator", "dict_reverseitemiterator", "odict_iterator", "itertools.zip_longest", "itertools.pairwise"].contains c) = false) (q : Q () s) : wpAny (Md w) A (letOwnedTupleGo t (.ref I) v) Q E s := by
  have key : ∀ a : Addr, wpAny (Md w) A (do
      let o ← load I
      match o.cls, o.data with
      | .type n, .fields vs =>
        if ["enumerate", "zip", "dict_itemiterator", "dict_reverseitemiterator", "odict_iterator", "itertools.zip_longest", "itertools.pairwise"].contains n && vs[0]? == some (rawInt a) then
          rule "for.unpacks-the-owned-tuple"
          updateField I 0 .none
      | _, _ => pure ()) Q E s := by
    intro a
    refine wpAny_bind (wpAny_load e ?_)
    rw [hc, hd]
    dsimp only
    rw [hn]
    exact wpAny_pure q
  cases t <;> first | exact wpAny_pure q | (cases v <;> first | exact wpAny_pure q | exact key _)

noncomputable abbrev liO (l : Addr) (i : Nat) : Obj → Prop := fun o => o.cls = .type "list_iterator" ∧ o.data = .fields #[.ref l, .int i 0]
theorem Itr.list (hA : A.handled = none) {l I : Addr} {vs : Array Value} (hl : z.IsList l vs) : Itr w A z I vs.size (fun i v => vs[i]? = some v) (liO l) where
  item := fun i s Q E o hi hz ho hp hQ => by
    have hx : vs[i]? = some vs[i] := by simp [hi]
    exact wpAny_pyNext_list_item ⟨o, ho, hp⟩ (hl.at fun o e => hz _ _ e) hx fun h' hit hs => by obtain ⟨o', a, b⟩ := hit; exact hQ _ h' s.toks o' hx a b hs
  done := fun s Q E o hz ho hp hQ => wpAny_pyNext_list_end hA ⟨o, ho, hp⟩ (hl.at fun o e => hz _ _ e) (by simp) fun h' hs => hQ h' hs
  self := fun i s Q E o ho hp hQ => wpAny_pyIter_listiter ⟨o, ho, hp⟩ hQ
  own := fun i s v t Q E o ho hp hQ => own_of ho hp.1 hp.2 (by decide) hQ

noncomputable abbrev tiO (l : Addr) (i : Nat) : Obj → Prop := fun o => o.cls = .type "tuple_iterator" ∧ o.data = .fields #[.ref l, .int i 0]
theorem Itr.tuple (hA : A.handled = none) {l I : Addr} {vs : Array Value} (hl : z.IsTuple l vs) : Itr w A z I vs.size (fun i v => vs[i]? = some v) (tiO l) where
  item := fun i s Q E o hi hz ho hp hQ => by
    have hx : vs[i]? = some vs[i] := by simp [hi]
    exact wpAny_pyNext_tuple_item ⟨o, ho, hp⟩ (hl.at fun o e => hz _ _ e) hx fun h' hit hs => by obtain ⟨o', a, b⟩ := hit; exact hQ _ h' s.toks o' hx a b hs
  done := fun s Q E o hz ho hp hQ => wpAny_pyNext_tuple_end hA ⟨o, ho, hp⟩ (hl.at fun o e => hz _ _ e) (by simp) fun h' hs => hQ h' hs
  self := fun i s Q E o ho hp hQ => wpAny_pyIter_tupleiter ⟨o, ho, hp⟩ hQ
  own := fun i s v t Q E o ho hp hQ => own_of ho hp.1 hp.2 (by decide) hQ

noncomputable abbrev riO (a : Int) (n : Nat) (i : Nat) : Obj → Prop := fun o => o = { cls := .type "range_iterator", data := .fields #[rawInt (a + i), rawInt ((n : Int) - i), rawInt 1] }
theorem Itr.range (hA : A.handled = none) {I : Addr} {a : Int} {n : Nat} : Itr w A z I n (fun i v => ∃ t, v = .int (a + i) t) (riO a n) where
  item := fun i s Q E o hi hz ho hp hQ => by
    subst hp
    refine wpAny_pyNext_range_item (it := I) (x := a + i) (left := (n : Int) - i) (step := 1) ho (by exact om4 hi) fun h' hit hs => ?_
    refine hQ _ h' _ _ ⟨_, rfl⟩ hit ?_ hs
    show _ = _
    rw [show a + ((i + 1 : Nat) : Int) = a + i + 1 by exact om5, show (n : Int) - ((i + 1 : Nat) : Int) = (n : Int) - i - 1 by exact om6]
  done := fun s Q E o hz ho hp hQ => by
    subst hp
    exact wpAny_pyNext_range_end hA (it := I) (x := a + n) (left := (n : Int) - n) (step := 1) ho (by exact om7) fun h' hs => hQ h' hs
  self := fun i s Q E o ho hp hQ => by subst hp; exact wpAny_pyIter_rangeiter (it := I) (x := a + i) (left := (n : Int) - i) (step := 1) ho hQ
  own := fun i s v t Q E o ho hp hQ => by subst hp; exact own_of ho rfl rfl (by decide) hQ

theorem Itr.mono {I : Addr} {n : Nat} {P : Nat → Value → Prop} {p : Nat → Obj → Prop} (it : Itr w A z I n P p) (k : z.StaysIn z') : Itr w A z' I n P p where
  item := fun i s Q E o hi hz => it.item i s Q E o hi (stays_trans k hz)
  done := fun s Q E o hz => it.done s Q E o (stays_trans k hz)
  self := it.self
  own := it.own

/- loops -/
noncomputable abbrev Lo := List (Str × Value)
noncomputable abbrev Ml := List (Addr × (Obj → Prop))
noncomputable abbrev Inv := Nat → Heap → List (Str × Value) → List (Str × Value) → List (Addr × (Obj → Prop)) → Prop
noncomputable abbrev Rs := OsState → Array GenState → Prop
noncomputable abbrev Rse (s : Shared) : Rs := fun os gens => os = s.os ∧ gens = s.gens
noncomputable abbrev Rsb (s : Shared) : Rs := fun os gens => os = s.os ∧ AllBare gens

noncomputable def Back (X : Fx) (z : Heap) (J : Inv) (R : Rs) (j : Nat) (qs : List (Addr × (Obj → Prop))) (s : Shared) : Prop :=
  ∃ z' loc cl ms, z.StaysIn z' ∧ J j z' loc cl ms ∧ R s.os s.gens ∧ St X z' loc cl (qs ++ ms) s.heap

theorem for_code {target : Expr} {body : List Stmt} {I : Addr} {n : Nat} {P : Nat → Value → Prop} {p : Nat → Obj → Prop} {Q : Flow → Shared → Prop} {RE : Result → Shared → Prop} (it : Itr w A z I n P p) (J : Inv) (R : Rs)
    (S : St X z loc cl ((I, p 0) :: ms) s.heap) (j0 : J 0 z loc cl ms) (r0 : R s.os s.gens) (hRE : ∀ f s', Q f s' → RE (.ok f) s')
    (turn : ∀ i v z' loc cl ms (s : Shared), i < n → P i v → z.StaysIn z' → J i z' loc cl ms → R s.os s.gens → St X z' loc cl ((I, p (i + 1)) :: ms) s.heap →
      wpAny (Md w) A (assign target env v) (fun _ s2 => wpAny (Md w) A (execs body env) (fun f s3 => match f with
        | .next | .cont => Back X z' J R (i + 1) [(I, p (i + 1))] s3
        | .brk => Q .next s3
        | .ret v => Q (.ret v) s3) (fun _ _ => False) s2) (fun _ _ => False) s)
    (done : ∀ z' loc cl ms (s : Shared), z.StaysIn z' → J n z' loc cl ms → R s.os s.gens → St X z' loc cl ms s.heap → Q .next s) :
    codeAny (Md w) A (.forLoop target (.ref I) body [] env) RE s := by
  refine codeAny_forLoop_any (fun k s' => ∃ i, k + i = n ∧ ∃ z' loc cl ms, z.StaysIn z' ∧ J i z' loc cl ms ∧ R s'.os s'.gens ∧ St X z' loc cl ((I, p i) :: ms) s'.heap) ?_ n ⟨0, rfl, z, loc, cl, ms, stays_refl z, j0, r0, S⟩
  rintro k s' ⟨i, hk, z', loc', cl', ms', hz, hj, hr, S'⟩
  obtain ⟨o, ho, hp⟩ := S'.mu (I, p i) List.mem_cons_self
  by_cases hi : i < n
  · refine it.item i s' _ _ o hi (stays_trans hz S'.frz) ho hp fun v h' tk o' hv ho' hp' hs => ?_
    have S2 : St X z' loc' cl' ((I, p (i + 1)) :: ms') h' := S'.setm hs ho' hp'
    refine it.own (i + 1) _ v target _ _ o' ho' hp' ?_
    refine wpAny_mono (turn i v z' loc' cl' ms' { s' with heap := h', toks := tk } hi hv hz hj hr S2) (fun _ s2 h2 => wpAny_mono h2 (fun f s3 h3 => ?_) fun _ _ x => x.elim) fun _ _ x => x.elim
    cases f with
    | next => obtain ⟨z2, l2, c2, m2, k2, j2, r2, S3⟩ := h3; exact ⟨k - 1, by exact om8 hk hi, i + 1, by exact om9 hk hi, z2, l2, c2, m2, stays_trans hz k2, j2, r2, S3⟩
    | cont => obtain ⟨z2, l2, c2, m2, k2, j2, r2, S3⟩ := h3; exact ⟨k - 1, by exact om8 hk hi, i + 1, by exact om9 hk hi, z2, l2, c2, m2, stays_trans hz k2, j2, r2, S3⟩
    | brk => exact hRE _ _ h3
    | ret v => exact hRE _ _ h3
  · have hin : i = n := by exact om10 hk hi
    subst hin
    refine it.done s' _ _ o (stays_trans hz S'.frz) ho hp fun h' hs => ?_
    refine wpAny_execs_nil (hRE _ _ (done z' loc' cl' ms' _ hz hj hr (S'.lose hs)))

theorem for_list {target iter : Expr} {body : List Stmt} {pos : Pos} {l : Addr} {vs : Array Value} {Q : Flow → Shared → Prop} (hA : A.handled = none) (S : St X z loc cl ms s.heap) (hl : z.IsList l vs) (J : Inv) (R : Rs)
    (j0 : J 0 z loc cl ms) (r0 : R s.os s.gens)
    (turn : ∀ I i v z' loc cl ms (s : Shared), i < vs.size → vs[i]? = some v → z.StaysIn z' → J i z' loc cl ms → R s.os s.gens → St X z' loc cl ((I, liO l (i + 1)) :: ms) s.heap →
      wpAny (Md w) A (assign target env v) (fun _ s2 => wpAny (Md w) A (execs body env) (fun f s3 => match f with
        | .next | .cont => Back X z' J R (i + 1) [(I, liO l (i + 1))] s3
        | .brk => Q .next s3
        | .ret v => Q (.ret v) s3) (fun _ _ => False) s2) (fun _ _ => False) s)
    (done : ∀ z' loc cl ms (s : Shared), z.StaysIn z' → J vs.size z' loc cl ms → R s.os s.gens → St X z' loc cl ms s.heap → Q .next s) :
    wpAny (Md w) A (pyIter (.ref l)) (fun it s₂ => codeAny (Md w) A (.forLoop target it body [] env) (fun r s' => match r with | .ok f => Q f s' | .error e => cameBackBy (Md w) A env E e s') s₂) E s := by
  refine wpAny_pyIter_list (hl.at fun o e => S.frz _ _ e) ?_
  have S1 := S.push { cls := .type "list_iterator", data := .fields #[.ref l, .int 0 0] } (p := liO l 0) ⟨rfl, rfl⟩
  exact for_code (Itr.list hA hl) J R S1 j0 r0 (fun _ _ x => x) (fun i v z' loc cl ms s hi hv => turn _ i v z' loc cl ms s hi hv) done

end

section
variable {X : Fx} {z z' h h' : Heap} {loc cl : List (Str × Value)} {ms : List (Addr × (Obj → Prop))}
variable {w : World} {A : Around} {E : Value → Shared → Prop} {s : Shared} {env : Env}

theorem lookup_of_nodup {α : Type} : ∀ {l : List (Str × α)} {n : Str} {c : α}, (n, c) ∈ l → (l.map (·.1)).Nodup → l.lookup n = some c
  | (k, v) :: r, n, c, h, nd => by
    rw [List.lookup_cons]
    simp only [List.map_cons, List.nodup_cons] at nd
    rcases List.mem_cons.mp h with e | h2
    · cases e; simp
    · have h3 : n ∈ r.map (·.1) := List.mem_map_of_mem (f := (·.1)) h2
      have : (n == k) = false := by
        simp only [beq_eq_false_iff_ne, ne_eq]
        intro e
        exact nd.1 (e ▸ h3)
      rw [this]
      exact lookup_of_nodup h2 nd.2

theorem call_fn {fs : List Addr} {d u : Nat} {name qual : Str} {params : Arguments} {body : List Stmt} {scope : Scope} {dV kV doc pm cdv ct oc : Value} {an od : Option Addr} {osl : Array (Option Value)} {f : Addr} {args : List Value} {binds : List (Str × Value)} {Q : Value → Shared → Prop}
    (b : Bs w z) (hz : z.StaysIn s.heap) (o : Ok A (d + 1) (u + 3))
    (ho : (Ks w).lookup f = some ⟨oc, od, .func (fnOf name qual params body scope dV kV doc pm an cdv ct), osl⟩) (hcd : codeIn (Ks w) cdv qual = true)
    (hbind : bindArgs (fnOf name qual params body scope dV kV doc pm an cdv ct) ⟨args, []⟩ = pure binds) (hcell : ∀ x ∈ scope.names, x.2 ≠ .cell) (hloc : ∀ x ∈ binds, scope.names.lookup x.1 = some .local)
    (hco : scope.isCoroutine = false) (hgen : scope.isGenerator = false) (hk : scope.kind = .function)
    (h : ∀ s₁ : Shared, St (Fx.mk z s.heap s.heap.objs.size [] fs) z binds.reverse [] [] s₁.heap → s₁.os = s.os → s₁.gens = s.gens → Ok (A.deeper (envX qual scope s.heap.objs.size f cdv [])) d u →
      wpAny (Md w) (A.deeper (envX qual scope s.heap.objs.size f cdv [])) (execs body (envX qual scope s.heap.objs.size f cdv [])) (fun fl s' => Q (match fl with | .ret v => v | _ => .none) s') (fun _ _ => False) s₁)
    (hfs : ∀ f ∈ fs, s.heap.get? f ≠ none := by exact fun _ h => nomatch h) :
    wpAny (Md w) A (call (.ref f) args) Q E s := by
  have bs := b.mono hz
  refine wpAny_call (codeAny_call_def (fd := fnOf name qual params body scope dV kV doc pm an cdv ct) o.room (bs.k _ _ ho) rfl bs.nolimit (codeRec_of bs.k hcd) rfl (BindsTo.of_eq hbind) hcell hloc (fun h₁ hn hkp => ?_) hco hgen hk)
  refine wpAny_mono (h { s with heap := h₁, toks := s.toks + binds.length } ?_ rfl rfl (o.deeper _)) (fun _ _ x => x) fun _ _ x => x.elim
  refine ⟨.of hkp, hfs, stays_refl z, stays_trans hz hkp, fun b o e => .inl e, ⟨_, hn, fun _ _ e => e⟩, fun _ hp => (nomatch hp), fun _ hp => (nomatch hp), ?_, by simp [Fx.pv]⟩
  intro a ha
  simp only [Fx.pv, List.map_nil, List.append_nil, List.mem_singleton] at ha
  subst ha
  refine ⟨?_, get_size_none _ (Nat.le_refl _)⟩
  cases q : z.get? s.heap.objs.size with
  | none => rfl
  | some o => exact absurd (Heap.lt_size (hz _ _ q)) (Nat.lt_irrefl _)

theorem call_fnC {fs : List Addr} {d u : Nat} {name qual : Str} {params : Arguments} {body : List Stmt} {scope : Scope} {dV kV doc pm cdv ct oc : Value} {an od : Option Addr} {osl : Array (Option Value)} {f : Addr} {args : List Value} {binds : List (Str × Value)} {Q : Value → Shared → Prop}
    (loc cl : List (Str × Value))
    (b : Bs w z) (hz : z.StaysIn s.heap) (o : Ok A (d + 1) (u + 3))
    (ho : (Ks w).lookup f = some ⟨oc, od, .func (fnOf name qual params body scope dV kV doc pm an cdv ct), osl⟩) (hcd : codeIn (Ks w) cdv qual = true)
    (hbind : bindArgs (fnOf name qual params body scope dV kV doc pm an cdv ct) ⟨args, []⟩ = pure binds)
    (hkind : (binds.all fun y => scope.names.lookup y.1 == some .local || scope.names.lookup y.1 == some .cell) = true)
    (hl : ∀ p ∈ loc, bindL (envX qual scope s.heap.objs.size f cdv (cellsFrom (s.heap.objs.size + 1) scope.names [])).kindOf binds (fun _ => none) p.1 = some p.2)
    (hc : ∀ p ∈ cl, bindC (envX qual scope s.heap.objs.size f cdv (cellsFrom (s.heap.objs.size + 1) scope.names [])).kindOf binds (fun _ => none) p.1 = some p.2)
    (hnd : ∀ L : Addr, ((cellsFrom (L + 1) scope.names []).map (·.1)).Nodup)
    (hco : scope.isCoroutine = false) (hgen : scope.isGenerator = false) (hk : scope.kind = .function)
    (h : ∀ s₁ : Shared, St (Fx.mk z s.heap s.heap.objs.size (cellsFrom (s.heap.objs.size + 1) scope.names []) fs) z loc cl [] s₁.heap → s₁.os = s.os → s₁.gens = s.gens → Ok (A.deeper (envX qual scope s.heap.objs.size f cdv (cellsFrom (s.heap.objs.size + 1) scope.names []))) d u →
      wpAny (Md w) (A.deeper (envX qual scope s.heap.objs.size f cdv (cellsFrom (s.heap.objs.size + 1) scope.names []))) (execs body (envX qual scope s.heap.objs.size f cdv (cellsFrom (s.heap.objs.size + 1) scope.names []))) (fun fl s' => Q (match fl with | .ret v => v | _ => .none) s') (fun _ _ => False) s₁)
    (hfs : ∀ f ∈ fs, s.heap.get? f ≠ none := by exact fun _ h => nomatch h) :
    wpAny (Md w) A (call (.ref f) args) Q E s := by
  have bs := b.mono hz
  refine wpAny_call (codeAny_call_cells (fd := fnOf name qual params body scope dV kV doc pm an cdv ct) o.room (bs.k _ _ ho) rfl bs.nolimit (codeRec_of bs.k hcd) rfl hbind rfl (kindsX hkind _) (fun s₁ I => ?_) hco hgen hk)
  obtain ⟨hh, tk, rfl⟩ := I.toInCall.same
  refine wpAny_mono (h _ ?_ rfl rfl (o.deeper _)) (fun _ _ x => x) fun _ _ x => x.elim
  have nz : ∀ a, s.heap.objs.size ≤ a → z.get? a = none := fun a ha => by
    cases q : z.get? a with
    | none => rfl
    | some o => exact absurd (Heap.lt_size (hz _ _ q)) (Nat.not_lt.mpr ha)
  refine ⟨.of I.toInCall.keep, hfs, stays_refl z, stays_trans hz I.toInCall.keep, fun b o e => .inl e, ⟨_, I.toInCall.ns, fun x v e => hl _ (mem_of_lookup e)⟩, ?_, fun _ hp => (nomatch hp), ?_, ?_⟩
  · intro p hp
    have hlk : (cellsFrom (s.heap.objs.size + 1) scope.names []).lookup p.1 = some p.2 := lookup_of_nodup hp (hnd _)
    exact ⟨_, I.cell p.1 p.2 hlk, fun v e _ => hc _ (mem_of_lookup e)⟩
  · intro a ha
    have : s.heap.objs.size ≤ a := by
      simp only [Fx.pv, List.map_nil, List.append_nil, List.mem_cons] at ha
      rcases ha with rfl | ha
      · exact Nat.le_refl _
      · obtain ⟨p, hp, rfl⟩ := List.mem_map.mp ha
        exact Nat.le_of_lt (I.above p.1 p.2 hp)
    exact ⟨nz a this, get_size_none _ this⟩
  · simp only [Fx.pv, List.map_nil, List.append_nil, List.nodup_cons]
    refine ⟨fun hm => ?_, List.pairwise_map.mpr I.apart⟩
    obtain ⟨p, hp, e⟩ := List.mem_map.mp hm
    exact absurd (I.above p.1 p.2 hp) (by show ¬ (s.heap.objs.size < p.2); rw [e]; exact Nat.lt_irrefl _)

end

section
variable {z : Heap} {w : World} {A : Around} {E : Value → Shared → Prop} {s : Shared}
/- the callee's frame by names: the terms are smaller -/
theorem call_fnL {fs : List Addr} {d u : Nat} {name qual : Str} {params : Arguments} {body : List Stmt} {scope : Scope} {dV kV doc pm cdv ct oc : Value} {an od : Option Addr} {osl : Array (Option Value)} {f : Addr} {args : List Value} {binds : List (Str × Value)} {Q : Value → Shared → Prop}
    (b : Bs w z) (hz : z.StaysIn s.heap) (o : Ok A (d + 1) (u + 3))
    (ho : (Ks w).lookup f = some ⟨oc, od, .func (fnOf name qual params body scope dV kV doc pm an cdv ct), osl⟩) (hcd : codeIn (Ks w) cdv qual = true)
    (hbind : bindArgs (fnOf name qual params body scope dV kV doc pm an cdv ct) ⟨args, []⟩ = pure binds) (hcell : ∀ x ∈ scope.names, x.2 ≠ .cell) (hloc : ∀ x ∈ binds, scope.names.lookup x.1 = some .local)
    (hco : scope.isCoroutine = false) (hgen : scope.isGenerator = false) (hk : scope.kind = .function)
    (h : let env := envX qual scope s.heap.objs.size f cdv []; let A1 := A.deeper env; let X := Fx.mk z s.heap s.heap.objs.size [] fs
      ∀ s₁ : Shared, St X z binds.reverse [] [] s₁.heap → s₁.os = s.os → s₁.gens = s.gens → Ok A1 d u →
      wpAny (Md w) A1 (execs body env) (fun fl s' => Q (match fl with | .ret v => v | _ => .none) s') (fun _ _ => False) s₁)
    (hfs : ∀ f ∈ fs, s.heap.get? f ≠ none := by exact fun _ h => nomatch h) :
    wpAny (Md w) A (call (.ref f) args) Q E s := call_fn b hz o ho hcd hbind hcell hloc hco hgen hk h hfs
theorem call_fnCL {fs : List Addr} {d u : Nat} {name qual : Str} {params : Arguments} {body : List Stmt} {scope : Scope} {dV kV doc pm cdv ct oc : Value} {an od : Option Addr} {osl : Array (Option Value)} {f : Addr} {args : List Value} {binds : List (Str × Value)} {Q : Value → Shared → Prop}
    (loc cl : List (Str × Value))
    (b : Bs w z) (hz : z.StaysIn s.heap) (o : Ok A (d + 1) (u + 3))
    (ho : (Ks w).lookup f = some ⟨oc, od, .func (fnOf name qual params body scope dV kV doc pm an cdv ct), osl⟩) (hcd : codeIn (Ks w) cdv qual = true)
    (hbind : bindArgs (fnOf name qual params body scope dV kV doc pm an cdv ct) ⟨args, []⟩ = pure binds)
    (hkind : (binds.all fun y => scope.names.lookup y.1 == some .local || scope.names.lookup y.1 == some .cell) = true)
    (hl : ∀ p ∈ loc, bindL (envX qual scope s.heap.objs.size f cdv (cellsFrom (s.heap.objs.size + 1) scope.names [])).kindOf binds (fun _ => none) p.1 = some p.2)
    (hc : ∀ p ∈ cl, bindC (envX qual scope s.heap.objs.size f cdv (cellsFrom (s.heap.objs.size + 1) scope.names [])).kindOf binds (fun _ => none) p.1 = some p.2)
    (hnd : ∀ L : Addr, ((cellsFrom (L + 1) scope.names []).map (·.1)).Nodup)
    (hco : scope.isCoroutine = false) (hgen : scope.isGenerator = false) (hk : scope.kind = .function)
    (h : let env := envX qual scope s.heap.objs.size f cdv (cellsFrom (s.heap.objs.size + 1) scope.names []); let A1 := A.deeper env; let X := Fx.mk z s.heap s.heap.objs.size (cellsFrom (s.heap.objs.size + 1) scope.names []) fs
      ∀ s₁ : Shared, St X z loc cl [] s₁.heap → s₁.os = s.os → s₁.gens = s.gens → Ok A1 d u →
      wpAny (Md w) A1 (execs body env) (fun fl s' => Q (match fl with | .ret v => v | _ => .none) s') (fun _ _ => False) s₁)
    (hfs : ∀ f ∈ fs, s.heap.get? f ≠ none := by exact fun _ h => nomatch h) :
    wpAny (Md w) A (call (.ref f) args) Q E s := call_fnC loc cl b hz o ho hcd hbind hkind hl hc hnd hco hgen hk h hfs
end

noncomputable abbrev lsO (vs : List Value) : Obj → Prop := fun o => ∃ n, o = { cls := .type "list", data := .seq vs.toArray n }
noncomputable abbrev tuO (vs : List Value) : Obj → Prop := fun o => ∃ n, o = { cls := .type "tuple", data := .seq vs.toArray n }

/-- the values are these -/
inductive All2 {α β : Type} (R : α → β → Prop) : List α → List β → Prop
  | nil : All2 R [] []
  | cons {a b as bs} : R a b → All2 R as bs → All2 R (a :: as) (b :: bs)
theorem All2.length {α β : Type} {R : α → β → Prop} {as : List α} {bs : List β} (h : All2 R as bs) : as.length = bs.length := by
  induction h with
  | nil => rfl
  | cons _ _ ih => simp [ih]
theorem All2.append {α β : Type} {R : α → β → Prop} {as as' : List α} {bs bs' : List β} (h : All2 R as bs) (h' : All2 R as' bs') : All2 R (as ++ as') (bs ++ bs') := by
  induction h with
  | nil => exact h'
  | cons a _ ih => exact .cons a ih
theorem All2.get {α β : Type} {R : α → β → Prop} {as : List α} {bs : List β} (h : All2 R as bs) : ∀ {i : Nat} {b : β}, bs[i]? = some b → ∃ a, as[i]? = some a ∧ R a b := by
  induction h with
  | nil => intro i b e; simp at e
  | cons a _ ih =>
    intro i b e
    cases i with
    | zero => simp at e; exact ⟨_, rfl, e ▸ a⟩
    | succ i => simp at e ⊢; exact ih e
theorem All2.get' {α β : Type} {R : α → β → Prop} {as : List α} {bs : List β} (h : All2 R as bs) : ∀ {i : Nat} {a : α}, as[i]? = some a → ∃ b, bs[i]? = some b ∧ R a b := by
  induction h with
  | nil => intro i b e; simp at e
  | cons a _ ih =>
    intro i b e
    cases i with
    | zero => simp at e; exact ⟨_, rfl, e ▸ a⟩
    | succ i => simp at e ⊢; exact ih e
theorem All2.mono {α β : Type} {R R' : α → β → Prop} {as : List α} {bs : List β} (h : All2 R as bs) (k : ∀ a b, R a b → R' a b) : All2 R' as bs := by
  induction h with
  | nil => exact .nil
  | cons a _ ih => exact .cons (k _ _ a) ih
theorem All2.one {α β : Type} {R : α → β → Prop} {a : α} {b : β} (h : R a b) : All2 R [a] [b] := .cons h .nil
theorem All2.snoc {α β : Type} {R : α → β → Prop} {as : List α} {bs : List β} {a : α} {b : β} (h : All2 R as bs) (h' : R a b) : All2 R (as ++ [a]) (bs ++ [b]) := h.append (.one h')
noncomputable abbrev IntIs (v : Value) (i : Int) : Prop := ∃ t, v = .int i t
noncomputable abbrev StrIs (v : Value) (x : Str) : Prop := ∃ t, v = .str x t

noncomputable def RetF (fs : List Addr) (z : Heap) (s : Shared) (Post : Heap → Value → Prop) (Q : Value → Shared → Prop) : Prop :=
  ∀ v z' s', z.StaysIn z' → z'.StaysIn s'.heap → (∀ b o, z'.get? b = some o → z.get? b = some o ∨ s.heap.get? b = none) → Ws fs s.heap s'.heap → s'.os = s.os → s'.gens = s.gens → Post z' v → Q v s'

noncomputable abbrev Ret := RetF []

section
variable {X : Fx} {z z' h h' : Heap} {loc cl : List (Str × Value)} {ms : List (Addr × (Obj → Prop))}
variable {w : World} {A : Around} {E : Value → Shared → Prop} {s : Shared} {env : Env}

theorem nw_list {vs : List Value} {Q : Value → Shared → Prop} (S : St X z loc cl ms s.heap) (hsz : vs.length ≤ sizeLine) (h : ∀ a h', St X z loc cl ((a, lsO vs) :: ms) h' → Q (.ref a) { s with heap := h' }) : wpAny (Md w) A (newList vs) Q E s :=
  wpAny_newList (h _ _ (S.push _ ⟨_, rfl⟩)) hsz
theorem nw_tuple {vs : List Value} {Q : Value → Shared → Prop} (S : St X z loc cl ms s.heap) (hsz : vs.length ≤ sizeLine) (h : ∀ a h', St X z loc cl ((a, tuO vs) :: ms) h' → Q (.ref a) { s with heap := h' }) : wpAny (Md w) A (newTuple vs) Q E s :=
  wpAny_newTuple (h _ _ (S.push _ ⟨_, rfl⟩)) hsz

theorem own_l {a : Addr} {vs : List Value} (S : St X z loc cl ms h) (hm : (a, lsO vs) ∈ ms) : h.PlainList a vs.toArray := by
  obtain ⟨o, e, n, rfl⟩ := S.mu _ hm; exact ⟨n, e⟩
theorem frz_l {a : Addr} {vs : Array Value} (S : St X z loc cl ms h) (hl : z.PlainList a vs) : h.PlainList a vs := hl.at fun _ e => S.frz _ _ e
theorem own_t {a : Addr} {vs : List Value} (S : St X z loc cl ms h) (hm : (a, tuO vs) ∈ ms) : h.IsTuple a vs.toArray := by
  obtain ⟨o, e, n, rfl⟩ := S.mu _ hm; exact ⟨_, e, rfl, n, rfl⟩
theorem frz_t {a : Addr} {vs : Array Value} (S : St X z loc cl ms h) (hl : z.IsTuple a vs) : h.IsTuple a vs := hl.at fun _ e => S.frz _ _ e

theorem item_pos {value slice : Expr} {l : Addr} {vs : List Value} {k : Int} {u : Tok} {v : Value} {Q : Value → Shared → Prop} (hl : s.heap.PlainList l vs.toArray) (h0 : 0 ≤ k) (hhi : k < 2 ^ 63) (hx : vs[k.toNat]? = some v)
    (hs : subscripted slice false (.ref l) (.int k u) = operate [.ref l, .int k u] (getItem (.ref l) (.int k u))) (h : Q v s) : wpAny (Md w) A (subscriptTail value slice (.ref l) (.int k u)) Q E s :=
  tail_any hl.isList.typeIs slot_list_getitem.lookup (wpAny_getItem_list hl.isList h0 hhi (by simpa using hx) h) hs
theorem item_neg {value slice : Expr} {l : Addr} {vs : List Value} {k : Int} {u : Tok} {v : Value} {Q : Value → Shared → Prop} (hl : s.heap.PlainList l vs.toArray) (h0 : k < 0) (h1 : -(vs.length : Int) ≤ k) (hfit : -(2 ^ 63) ≤ k) (hx : vs[(k + vs.length).toNat]? = some v)
    (hs : subscripted slice false (.ref l) (.int k u) = operate [.ref l, .int k u] (getItem (.ref l) (.int k u))) (h : Q v s) : wpAny (Md w) A (subscriptTail value slice (.ref l) (.int k u)) Q E s :=
  tail_any hl.isList.typeIs slot_list_getitem.lookup (wpAny_getItem_list_neg hl.isList h0 (by simpa using h1) hfit (by simpa using hx) h) hs

theorem gm_append {a : Addr} {vs : Array Value} {pl : Sem Bool} {Q : Value × List Value → Shared → Prop} (hl : s.heap.PlainList a vs) (h : Q (.builtin "list.append", [.ref a]) s) : wpAny (Md w) A (getMethod (.ref a) "append" pl) Q E s := by
  obtain ⟨n, e⟩ := hl
  exact getMethod_list_append e rfl rfl h

theorem seq_mapSeq {cls : Value} {d : Option Addr} {vs : Array Value} {n : Nat} {sl : Array (Option Value)} (f : Array Value → Array Value) : ∃ n', Obj.mapSeq f { cls := cls, dict := d, data := .seq vs n, slots := sl } = { cls := cls, dict := d, data := .seq (f vs) n', slots := sl } := ⟨_, rfl⟩

theorem app_own {a : Addr} {vs : List Value} {x : Value} {Q : Value → Shared → Prop} (S : St X z loc cl ((a, lsO vs) :: ms) s.heap) (hsz : vs.length ≤ sizeLine) (h : ∀ h', St X z loc cl ((a, lsO (vs ++ [x])) :: ms) h' → Q .none { s with heap := h' }) :
    wpAny (Md w) A (call (.builtin "list.append") [.ref a, x]) Q E s := by
  have hl := (own_l S List.mem_cons_self).isList
  obtain ⟨o, e, n, rfl⟩ := S.mu (a, lsO vs) List.mem_cons_self
  refine wpAny_call_entry slot_list_append hl.typeIs entry_list_append ?_ (args_list_append _ _)
  show wpAny _ _ (updateSeq a (·.push x) >>= fun _ => ret .none) _ _ s
  refine wpAny_bind ?_
  refine wpAny_updateSeq (n := n) e rfl (wpAny_pure ⟨.none, rfl, h _ ?_⟩) (by simpa using hsz)
  obtain ⟨n', e'⟩ := seq_mapSeq (cls := .type "list") (d := none) (vs := vs.toArray) (n := n) (sl := #[]) (·.push x)
  refine S.setm (o' := { cls := .type "list", data := .seq (vs ++ [x]).toArray n' }) (Heap.SameBut.update ..) ?_ ⟨n', rfl⟩
  have := Heap.get?_update_self (h := s.heap) (fun o => Obj.mapSeq (·.push x) o) e (by rw [e']; rfl)
  rw [e'] at this
  simpa using this

theorem cw_fn {pos : Pos} {f : Addr} {o : Obj} {fd : FuncData} {e : Expr} {rest : List Expr} {Q : Value → Shared → Prop} (ho : (Ks w).lookup f = some o) (hdat : o.data = .func fd)
    (h : wpAny (Md w) A (spliced (backTo pos (starEach (e :: rest) env))) (fun vs s₁ => Bs w s₁.heap ∧ wpAny (Md w) A (call (.ref f) vs) Q E s₁) E s)
    (he : starEach (e :: rest) env = (false, eval e env) :: starEach rest env) :
    wpAny (Md w) A (callWith pos (.ref f) [] (backTo pos (starEach (e :: rest) env)) []) Q E s :=
  callWith_def hdat (wpAny_mono h (fun _ _ x => ⟨x.1.k _ _ ho, x.2⟩) fun _ _ x => x) he
end

section
variable {X : Fx} {z z' h h' : Heap} {loc cl : List (Str × Value)} {ms : List (Addr × (Obj → Prop))}
variable {w : World} {A : Around} {E : Value → Shared → Prop} {s : Shared} {env : Env}
noncomputable def Turn (X : Fx) (z : Heap) (J : Inv) (R : Rs) (n : Nat) (s : Shared) : Prop := ∃ m, m < n ∧ Back X z J R m [] s
theorem while_st {test : Expr} {body : List Stmt} {pos : Pos} {Q : Flow → Shared → Prop} (J : Inv) (R : Rs) (n : Nat)
    (S : St X z loc cl ms s.heap) (j0 : J n z loc cl ms) (r0 : R s.os s.gens)
    (turn : ∀ n z' loc cl ms (s : Shared), z.StaysIn z' → J n z' loc cl ms → R s.os s.gens → St X z' loc cl ms s.heap →
      wpAny (Md w) A (isTrue test env (eval test env)) (fun b s2 => if b = true then wpAny (Md w) A (execs body env) (fun f s3 => match f with
        | .next | .cont => Turn X z' J R n s3
        | .brk => Q .next s3
        | .ret v => Q (.ret v) s3) (fun _ _ => False) s2 else Q .next s2) (fun _ _ => False) s) :
    wpAny (Md w) A (exec (.While test body [] pos) env) Q E s := by
  refine wpAny_While (codeAny_whileLoop (fun k s' => ∃ z' loc cl ms, z.StaysIn z' ∧ J k z' loc cl ms ∧ R s'.os s'.gens ∧ St X z' loc cl ms s'.heap) ?_ n ⟨z, loc, cl, ms, stays_refl z, j0, r0, S⟩)
  rintro k s' ⟨z', loc', cl', ms', hz, hj, hr, S'⟩
  refine wpAny_mono (turn k z' loc' cl' ms' s' hz hj hr S') (fun b s2 h2 => ?_) fun _ _ x => x.elim
  cases b with
  | true =>
    rw [if_pos rfl] at h2 ⊢
    refine wpAny_mono h2 (fun f s3 h3 => ?_) fun _ _ x => x.elim
    cases f with
    | next => obtain ⟨m, hm, z2, l2, c2, m2, k2, j2, r2, S3⟩ := h3; exact ⟨m, hm, z2, l2, c2, m2, stays_trans hz k2, j2, r2, S3⟩
    | cont => obtain ⟨m, hm, z2, l2, c2, m2, k2, j2, r2, S3⟩ := h3; exact ⟨m, hm, z2, l2, c2, m2, stays_trans hz k2, j2, r2, S3⟩
    | brk => exact h3
    | ret v => exact h3
  | false =>
    rw [if_neg Bool.false_ne_true] at h2 ⊢
    exact wpAny_execs_nil h2
end


theorem le_sz {n : Nat} (h : Nat.ble n 1000 = true) : n ≤ sizeLine := Nat.le_trans (Nat.le_of_ble_eq_true h) (by decide +kernel)
theorem le_szv {n : Nat} (h : n ≤ 16777216) : n ≤ sizeLine := h
local macro_rules | `(tactic| walk_at "eval Name") => `(tactic| k_dflt (first
  | refine' nm_local (by assumption) (by rfl) (by rfl) (by rfl) (by rfl) (by decide) ?_
  | refine' nm_glob (St.bs (by assumption) (by assumption)) (by rfl) (by rfl) (by rfl) (by rfl) (by decide) ?_
  | refine' nm_built (St.bs (by assumption) (by assumption)) (by rfl) (by boot_fast) (by decide) (by rfl) (by rfl) (by rfl) (by rfl) (by decide) ?_
  | refine' nm_cell (by assumption) (by rfl) (by rfl) (by rfl) (by rfl) (by rfl) (by decide) ?_))
local macro_rules | `(tactic| walk_at "loadName") => `(tactic| k_dflt (refine' ln_local (by assumption) (by rfl) (by rfl) (by rfl) (by rfl) ?_))
local macro_rules | `(tactic| walk_at "storeName") => `(tactic| k_dflt (first
  | (refine' st_local (by assumption) (by rfl) (by rfl) (by rfl) ?_; intro h' S')
  | (refine' st_cell (by assumption) (by rfl) (by rfl) (by rfl) (by rfl) ?_; intro h' S')))
local macro_rules | `(tactic| walk_at "newList") => `(tactic| k_dflt (refine' nw_list (by assumption) (by first | exact le_sz rfl | exact le_szv (by omega)) ?_; intro a' h' S'))
local macro_rules | `(tactic| walk_at "newTuple") => `(tactic| k_dflt (refine' nw_tuple (by assumption) (by first | exact le_sz rfl | exact le_szv (by omega)) ?_; intro a' h' S'))
local macro_rules | `(tactic| walk_at "getMethod ref") => `(tactic| k_dflt (refine' gm_append ?S ?_; (case S => (first | exact own_l (by assumption) (by (repeat' (first | exact List.Mem.head _ | refine' List.Mem.tail _ ?_))) | exact frz_l (by assumption) (by assumption)))))
local macro_rules | `(tactic| walk_at "call builtin:list.append") => `(tactic| k_dflt (refine' app_own (by assumption) (le_szv (by omega)) ?_; intro h' S'))
local macro_rules | `(tactic| walk_at "callWith ref") => `(tactic| k_dflt (refine' cw_fn (by exact rfl) (by exact rfl) ?_ (by exact rfl)))

/- walking: a step, and its names folded -/

noncomputable def wayF (up : Nat → Nat) : Nat → Nat → List Nat
  | 0, p => [p]
  | f + 1, p => if p = 0 then [p] else p :: wayF up f (up p)
noncomputable def way (up : Nat → Nat) (p : Nat) : List Nat := wayF up p p
noncomputable def Down (up : Nat → Nat) : Prop := ∀ p, 0 < p → up p < p
theorem wayF_fuel {up : Nat → Nat} (d : Down up) : ∀ f p, p ≤ f → wayF up f p = wayF up p p
  | 0, p, h => by obtain rfl : p = 0 := by exact om11 h
                  rfl
  | f + 1, p, h => by
    cases p with
    | zero => rfl
    | succ p =>
      have h1 := d (p + 1) (by exact om12)
      show (if p + 1 = 0 then [p + 1] else (p + 1) :: wayF up f (up (p + 1))) = if p + 1 = 0 then [p + 1] else (p + 1) :: wayF up p (up (p + 1))
      rw [wayF_fuel d f _ (by exact om13 h h1), wayF_fuel d p _ (by exact om14 h1)]
theorem way_zero (up : Nat → Nat) : way up 0 = [0] := rfl
theorem way_pos {up : Nat → Nat} (d : Down up) {p : Nat} (hp : 0 < p) : way up p = p :: way up (up p) := by
  obtain ⟨q, rfl⟩ : ∃ q, p = q + 1 := ⟨p - 1, by exact om15 hp⟩
  have h1 := d (q + 1) (by exact om12)
  show (if q + 1 = 0 then [q + 1] else (q + 1) :: wayF up q (up (q + 1))) = _
  rw [if_neg (by exact om16), wayF_fuel d q _ (by exact om14 h1)]
  rfl

theorem wayF_length (up : Nat → Nat) : ∀ f p, (wayF up f p).length ≤ f + 1
  | 0, _ => Nat.le_refl _
  | f + 1, p => by
    show (if p = 0 then [p] else p :: wayF up f (up p)).length ≤ _
    split
    · simp
    · have := wayF_length up f (up p); simp only [List.length_cons]; exact om17 this
theorem way_length (up : Nat → Nat) (p : Nat) : (way up p).length ≤ p + 1 := wayF_length up p p
theorem way_spec {w : World} {z : Heap} {A : Around} {s : Shared} {E Q : _} {up : Nat → Nat} {n p : Nat} {l : Addr} {vs : List Value} {tk : Tok} (b : Bs w z) (hz : z.StaysIn s.heap) (o : Ok A 5 40)
    (hl : z.PlainList l vs.toArray) (hv : All2 IntIs vs ((List.range n).map fun i => (up i : Int))) (hd : Down up) (hp : p < n) (hn : n ≤ 8)
    (hQ : Ret z s (fun z' v => ∃ a vs', v = .ref a ∧ z'.PlainList a vs'.toArray ∧ All2 IntIs vs' ((way up p).map fun (i : Nat) => (i : Int))) Q) :
    wpAny (Md w) A (call (.ref 149) [.ref l, .int p tk]) Q E s := by
  refine' call_fnL (fs := []) (d := 4) (u := 37) (binds := [("ups", .ref l), ("place", .int p tk)]) b hz o ?ho ?hcd ?hbind ?hcell ?hloc ?hco ?hgen ?hk ?_
  ((case ho => exact rfl); (case hcd => exact rfl); (case hbind => exact rfl); (case hcell => decide); (case hloc => exact locs rfl); (case hco => exact rfl); (case hgen => exact rfl); (case hk => exact rfl))
  intro env0 A0 X0 s₁ S e1 e2 o1
  (repeat' (first | walk1 | (dsimp only; walk1)))
  rename_i a h1 S1 h2 S2
  refine while_st (fun m z' loc cl ms => ∃ vs' pre, m < n ∧ m ≤ p ∧ All2 IntIs vs' ((pre ++ [m]).map fun (i : Nat) => (i : Int)) ∧ pre ++ way up m = way up p ∧ ms = ([(a, lsO vs')] : Ml) ∧ loc = ([("way", .ref a), ("ups", .ref l)] : Lo) ∧ cl = [])
    (Rse s) p (S2.less (loc' := [("way", .ref a), ("ups", .ref l)]) (cl' := []) (by exact rfl) (by exact rfl)) ⟨_, [], hp, Nat.le_refl _, .one ⟨_, rfl⟩, rfl, rfl, rfl, rfl⟩ ⟨e1, e2⟩ ?_
  · rintro m z' loc cl ms s₂ hz' ⟨vs', pre, hm, hmp, ha, hw, rfl, rfl, rfl⟩ ⟨r1, r2⟩ S3
    have hlen : vs'.length = pre.length + 1 := by simpa using ha.length
    have hpl : pre.length ≤ 8 := by
      have h1 := congrArg List.length hw
      rw [List.length_append] at h1
      have h2 := way_length up p
      exact om18 hp hn h1 h2
    obtain ⟨v, hv1, t, hv2⟩ := ha.get (i := pre.length) (b := (m : Int)) (by simp)
    subst hv2
    (repeat' (first | walk1 | (dsimp only; walk1)))
    refine item_neg (own_l S3 (by (repeat' (first | exact List.Mem.head _ | refine' List.Mem.tail _ ?_)))) (by decide) (by exact om19 hlen) (by decide) (v := .int m t) (by rw [← hv1]; congr 1; exact om20 hlen) rfl ?_
    (repeat' (first | walk1 | (dsimp only; walk1)))
    · rename_i hm0
      have hm0' : 0 < m := by exact om21 hm0
      have hdm := hd m hm0'
      refine item_neg (own_l S3 (by (repeat' (first | exact List.Mem.head _ | refine' List.Mem.tail _ ?_)))) (by decide) (by exact om19 hlen) (by decide) (v := .int m t) (by rw [← hv1]; congr 1; exact om20 hlen) rfl ?_
      (repeat' (first | walk1 | (dsimp only; walk1)))
      have hl' : z'.PlainList l vs.toArray := hl.at fun _ e => hz' _ _ e
      obtain ⟨u, hu1, tu, hu2⟩ := hv.get (i := m) (b := (up m : Int)) (by simp [hm])
      subst hu2
      refine item_pos (frz_l S3 hl') (by exact om22) (by exact om23 hn hm) (v := .int (up m) tu) (by simpa using hu1) rfl ?_
      (repeat' (first | walk1 | (dsimp only; walk1)))
      rename_i h4 S4
      refine ⟨up m, hdm, z', _, _, _, stays_refl _, ⟨vs' ++ [Value.int ((up m : Nat) : Int) tu], pre ++ [m], by exact om24 hm hdm, by exact om25 hmp hdm, ?_, ?_, rfl, rfl, rfl⟩, And.intro r1 r2, S4⟩
      · have := ha.snoc (a := .int (up m) tu) (b := (up m : Int)) ⟨tu, rfl⟩
        simpa using this
      · rw [List.append_assoc, ← hw, way_pos hd hm0']; rfl
    · rename_i hm0
      have hm0' : m = 0 := by exact om26 hm0
      subst hm0'
      obtain ⟨z2, k2, S5, o5, g5, n5, rfl⟩ := S3.freeze
      refine hQ _ z2 _ (stays_trans hz' k2) S5.frz S5.fresh S5.old r1 r2 ⟨a, vs', rfl, ⟨n5, g5⟩, ?_⟩
      rw [← hw, way_zero]
      exact ha

noncomputable abbrev sk (w : World) : KeyKind Pr w Str := strKind Pr w
noncomputable abbrev dcO (w : World) (kvs : List (Str × Value)) : Obj → Prop := fun o => o.IsDictOf (sk w) kvs

section
variable {X : Fx} {z z' h h' : Heap} {loc cl : List (Str × Value)} {ms : List (Addr × (Obj → Prop))}
variable {w : World} {A : Around} {E : Value → Shared → Prop} {s : Shared} {env : Env}

/-- one own object is changed, new ones may be made -/
theorem St.setx {a : Addr} {p p' : Obj → Prop} {o' : Obj} (S : St X z loc cl ((a, p) :: ms) h) (hs : Heap.ExtBut a h h') (ho : h'.get? a = some o') (hp : p' o') : St X z loc cl ((a, p') :: ms) h' := by
  have S1 := S.lose hs
  refine ⟨S1.old, S1.fsk, S1.z0, S1.frz, S1.fresh, S1.ns, S1.cell, fun q hq => ?_, S.own, S.nodup⟩
  rcases List.mem_cons.mp hq with rfl | hq
  · exact ⟨o', ho, hp⟩
  · exact S1.mu q hq

theorem own_d {d : Addr} {kvs : List (Str × Value)} (S : St X z loc cl ms h) (hm : (d, dcO w kvs) ∈ ms) : h.DictOf (sk w) d kvs := by
  obtain ⟨o, e, hp⟩ := S.mu _ hm; exact Heap.dictOf_iff.mpr ⟨o, e, hp⟩
theorem frz_d {d : Addr} {kvs : List (Str × Value)} (S : St X z loc cl ms h) (hd : z.DictOf (sk w) d kvs) : h.DictOf (sk w) d kvs := hd.keep S.frz

theorem nw_dict {pos : Pos} {Q : Value → Shared → Prop} (b : Bs w X.z0) (S : St X z loc cl ms s.heap) (h : ∀ a h', (a == sysModules) = false → St X z loc cl ((a, dcO w []) :: ms) h' → Q (.ref a) { s with heap := h' }) :
    wpAny (Md w) A (eval (.Dict [] [] pos) env) Q E s := by
  refine wpAny_Dict_empty (h _ _ ?_ (S.push _ ⟨#[], 0, ⟨rfl, rfl, rfl⟩, rfl, fun _ he => by simp at he, .nil, .nil⟩))
  obtain ⟨_, _, t⟩ := (S.bs b).t
  have h3 : mainGlobals < s.heap.objs.size := t.g.lt
  have h4 : sysModules < mainGlobals := by decide
  simp only [beq_eq_false_iff_ne, ne_eq]
  intro e
  rw [e] at h3
  exact absurd (Nat.lt_trans h3 h4) (Nat.lt_irrefl _)

theorem sk_is (w : World) (k : Str) (t : Tok) : (sk w).is k (.str k t) = true := strKind_is Pr w k t

theorem in_d {d : Addr} {kvs : List (Str × Value)} {k : Str} {t : Tok} {Q : Value → Shared → Prop} (hn : (d == sysModules) = false) (hd : s.heap.DictOf (sk w) d kvs) (h : Q (.bool (valueAt kvs k).isSome) { s with toks := s.toks + 1 }) :
    wpAny (Md w) A (compareOp .In (.str k t) (.ref d)) Q E s := wpAny_in_of (sk_is w k t) hn hd.mapOf h
theorem get_d {d : Addr} {kvs : List (Str × Value)} {k : Str} {t : Tok} {v : Value} {Q : Value → Shared → Prop} (hd : s.heap.DictOf (sk w) d kvs) (hv : valueAt kvs k = some v) (h : Q v { s with toks := s.toks + 1 }) :
    wpAny (Md w) A (getItem (.ref d) (.str k t)) Q E s := wpAny_getItem_of (sk_is w k t) hd.mapOf hv h
theorem item_d {value slice : Expr} {d : Addr} {kvs : List (Str × Value)} {k : Str} {t : Tok} {v : Value} {Q : Value → Shared → Prop} (hd : s.heap.DictOf (sk w) d kvs) (hv : valueAt kvs k = some v)
    (hs : subscripted slice false (.ref d) (.str k t) = operate [.ref d, .str k t] (getItem (.ref d) (.str k t))) (h : Q v { s with toks := s.toks + 1 }) : wpAny (Md w) A (subscriptTail value slice (.ref d) (.str k t)) Q E s :=
  tail_any hd.typeIs slot_dict_getitem.lookup (get_d hd hv h) hs
theorem set_d {d : Addr} {kvs : List (Str × Value)} {k : Str} {t : Tok} {v : Value} {Q : Unit → Shared → Prop} (S : St X z loc cl ((d, dcO w kvs) :: ms) s.heap) (hsz : kvs.length ≤ sizeLine)
    (h : ∀ h', St X z loc cl ((d, dcO w (stored kvs k v)) :: ms) h' → Q () { s with heap := h', toks := s.toks + 1 }) : wpAny (Md w) A (setItem (.ref d) (.str k t) v) Q E s :=
  wpAny_setItem_pairs (sk_is w k t) (own_d S List.mem_cons_self) (fun h' hd hs => by obtain ⟨_, e, hp⟩ := Heap.dictOf_iff.mp hd; exact h h' (S.setm hs e hp)) hsz

/- values -/
noncomputable abbrev viO (d : Addr) (n ep : Nat) (i : Nat) : Obj → Prop := fun o => o.cls = .type "dict_valueiterator" ∧ o.data = .fields #[.ref d, .int i 0, .int n 0, .int ep 0]
theorem Itr.values (hA : A.handled = none) {d I : Addr} {kvs : List (Str × Value)} {ep : Nat} (hd : z.DictAt (sk w) d kvs ep) : Itr w A z I kvs.length (fun i v => ∃ k, kvs[i]? = some (k, v)) (viO d kvs.length ep) where
  item := fun i s Q E o hi hz ho hp hQ => by
    have hx : kvs[i]? = some (kvs[i].1, kvs[i].2) := by simp [hi]
    exact wpAny_pyNext_values_item (knd := sk w) ⟨o, ho, hp⟩ (hd.keep hz) hx fun h' hit hs => by obtain ⟨o', a, b⟩ := hit; exact hQ _ h' s.toks o' ⟨_, hx⟩ a b hs
  done := fun s Q E o hz ho hp hQ => wpAny_pyNext_values_end (knd := sk w) hA ⟨o, ho, hp⟩ (hd.keep hz) (by simp) fun h' hs => hQ h' hs
  self := fun i s Q E o ho hp hQ => wpAny_pyIter_valiter ⟨o, ho, hp⟩ hQ
  own := fun i s v t Q E o ho hp hQ => own_of ho hp.1 hp.2 (by decide) hQ

theorem for_values {target : Expr} {body : List Stmt} {V d : Addr} {kvs : List (Str × Value)} {Q : Flow → Shared → Prop} (hA : A.handled = none) (S : St X z loc cl ms s.heap) (hV : s.heap.IsValuesView V d) (hd : z.DictOf (sk w) d kvs) (J : Inv) (R : Rs)
    (j0 : J 0 z loc cl ms) (r0 : R s.os s.gens)
    (turn : ∀ q i v z' loc cl ms (s : Shared), i < kvs.length → (∃ k, kvs[i]? = some (k, v)) → z.StaysIn z' → J i z' loc cl ms → R s.os s.gens → St X z' loc cl (q :: ms) s.heap →
      wpAny (Md w) A (assign target env v) (fun _ s2 => wpAny (Md w) A (execs body env) (fun f s3 => match f with
        | .next | .cont => Back X z' J R (i + 1) [q] s3
        | .brk => Q .next s3
        | .ret v => Q (.ret v) s3) (fun _ _ => False) s2) (fun _ _ => False) s)
    (done : ∀ z' loc cl ms (s : Shared), z.StaysIn z' → J kvs.length z' loc cl ms → R s.os s.gens → St X z' loc cl ms s.heap → Q .next s) :
    wpAny (Md w) A (pyIter (.ref V)) (fun it s₂ => codeAny (Md w) A (.forLoop target it body [] env) (fun r s' => match r with | .ok f => Q f s' | .error e => cameBackBy (Md w) A env E e s') s₂) E s := by
  obtain ⟨ep, hdA⟩ := hd.dictAt
  refine wpAny_pyIter_values (knd := sk w) hV (hdA.keep S.frz) ?_
  have S1 := S.push { cls := .type "dict_valueiterator", data := .fields #[.ref d, .int 0 0, .int kvs.length 0, .int ep 0] } (p := viO d kvs.length ep 0) ⟨rfl, rfl⟩
  exact for_code (Itr.values hA hdA) J R S1 j0 r0 (fun _ _ x => x) (fun i v z' loc cl ms s hi hv => turn _ i v z' loc cl ms s hi hv) done

/- items -/
noncomputable abbrev iiO (d : Addr) (n ep : Nat) (i : Nat) : Obj → Prop := fun o => ∃ ok ov, o = { cls := .type "dict_itemiterator", dict := none, data := .fields #[.none, .bool false, .ref d, .int i 0, .int n 0, .int ep 0, ok, ov], slots := #[] }

theorem for_items {xk xv : Str} {pk pv pt : Pos} {x1 : Nat} {body : List Stmt} {V d : Addr} {kvs : List (Str × Value)} {Q : Flow → Shared → Prop} (hA : A.handled = none) (S : St X z loc cl ms s.heap) (hV : s.heap.IsItemsView V d) (hd : z.DictOf (sk w) d kvs) (J : Inv) (R : Rs)
    (hL : env.locals = X.L) (hk : env.scope.kind = .function) (hxk : env.kindOf xk = some .local) (hxv : env.kindOf xv = some .local)
    (j0 : J 0 z loc cl ms) (r0 : R s.os s.gens)
    (turn : ∀ q i k v t z' loc cl ms (s : Shared), kvs[i]? = some (k, v) → z.StaysIn z' → J i z' loc cl ms → R s.os s.gens → St X z' ((xv, v) :: (xk, .str k t) :: loc) cl (q :: ms) s.heap →
      wpAny (Md w) A (execs body env) (fun f s3 => match f with
        | .next | .cont => Back X z' J R (i + 1) [q] s3
        | .brk => Q .next s3
        | .ret v => Q (.ret v) s3) (fun _ _ => False) s)
    (done : ∀ z' loc cl ms (s : Shared), z.StaysIn z' → J kvs.length z' loc cl ms → R s.os s.gens → St X z' loc cl ms s.heap → Q .next s) :
    wpAny (Md w) A (pyIter (.ref V)) (fun it s₂ => codeAny (Md w) A (.forLoop (.Tuple [.Name xk pk, .Name xv pv] x1 pt) it body [] env) (fun r s' => match r with | .ok f => Q f s' | .error e => cameBackBy (Md w) A env E e s') s₂) E s := by
  obtain ⟨ep, hdA⟩ := hd.dictAt
  refine wpAny_pyIter_items (knd := sk w) hV (hdA.keep S.frz) ?_
  have S1 := S.push { cls := .type "dict_itemiterator", data := .fields #[.none, .bool false, .ref d, .int 0 0, .int kvs.length 0, .int ep 0, .none, .none] } (p := iiO d kvs.length ep 0) ⟨_, _, rfl⟩
  generalize s.heap.objs.size = I at S1 ⊢
  refine codeAny_forLoop_any (fun k s' => ∃ i, k + i = kvs.length ∧ ∃ z' loc cl ms, z.StaysIn z' ∧ J i z' loc cl ms ∧ R s'.os s'.gens ∧ St X z' loc cl ((I, iiO d kvs.length ep i) :: ms) s'.heap) ?_ kvs.length ⟨0, rfl, z, loc, cl, ms, stays_refl z, j0, r0, S1⟩
  rintro k s' ⟨i, hki, z', loc', cl', ms', hz, hj, hr, S'⟩
  obtain ⟨o, ho, ok, ov, rfl⟩ := S'.mu (I, iiO d kvs.length ep i) List.mem_cons_self
  have hdA' := hdA.keep (stays_trans hz S'.frz)
  by_cases hi : i < kvs.length
  · have hx : kvs[i]? = some (kvs[i].1, kvs[i].2) := by simp [hi]
    generalize kvs[i].1 = kk at hx
    generalize kvs[i].2 = vv at hx
    refine wpAny_pyNext_items_item (knd := sk w) (it := I) ho hdA' hx fun key h₁ hkey heo ht₁ hz₁ hk₁ => ?_
    have S2 : St X z' loc' cl' ((I, fun o => o = { cls := .type "dict_itemiterator", dict := none, data := .fields #[rawInt s'.heap.objs.size, .bool false, .ref d, .int (i + 1 : Nat) 0, .int kvs.length 0, .int ep 0, key, vv], slots := #[] }) :: ms') h₁ := S'.setx (fun b o hb e => hk₁ b o hb e) heo rfl
    refine wpAny_letOwnedTupleGo_items heo fun h₂ he₂ hs₂ => ?_
    have S3 : St X z' loc' cl' ((I, iiO d kvs.length ep (i + 1)) :: ms') h₂ := S2.setm hs₂ he₂ ⟨_, _, rfl⟩
    have hiH : I < s'.heap.objs.size := Heap.lt_size ho
    have ht₂ : h₂.IsTuple s'.heap.objs.size #[key, vv] := ⟨_, (hs₂.2 _ (Nat.ne_of_gt hiH)).trans ht₁, rfl, _, rfl⟩
    refine wpAny_assign_Tuple hA ht₂ rfl rfl fun h₃ hx₃ => ?_
    have S4 : St X z' loc' cl' ((I, iiO d kvs.length ep (i + 1)) :: ms') h₃ := S3.grow fun b o e => hx₃ b o (Nat.ne_of_lt (Heap.lt_size e)) e
    obtain ⟨t, rfl⟩ : ∃ t, key = .str kk t := Value.isStrOf_shape hkey
    show wpAny _ _ (do holding [vv] (assign (.Name xk pk) env (.str kk t)); do holding [] (assign (.Name xv pv) env vv); pure ()) _ _ _
    refine wpAny_bind (wpAny_holding (wpAny_assign_Name (st_local S4 hL hk hxk fun h₄ S5 => ?_)))
    refine wpAny_bind (wpAny_holding (wpAny_assign_Name (st_local S5 hL hk hxv fun h₅ S6 => wpAny_pure ?_)))
    refine wpAny_mono (turn _ i kk vv t z' loc' cl' ms' _ hx hz hj hr S6) (fun f s3 h3 => ?_) fun _ _ x => x.elim
    cases f with
    | next => obtain ⟨z2, l2, c2, m2, k2, j2, r2, S3⟩ := h3; exact ⟨k - 1, by exact om8 hki hi, i + 1, by exact om9 hki hi, z2, l2, c2, m2, stays_trans hz k2, j2, r2, S3⟩
    | cont => obtain ⟨z2, l2, c2, m2, k2, j2, r2, S3⟩ := h3; exact ⟨k - 1, by exact om8 hki hi, i + 1, by exact om9 hki hi, z2, l2, c2, m2, stays_trans hz k2, j2, r2, S3⟩
    | brk => exact h3
    | ret v => exact h3
  · have hin : i = kvs.length := by exact om10 hki hi
    subst hin
    refine wpAny_pyNext_items_end (knd := sk w) hA (it := I) ho hdA' (by simp) fun h' hs => ?_
    exact wpAny_execs_nil (done z' loc' cl' ms' _ hz hj hr (S'.lose hs))

end

section
variable {X : Fx} {z z' h h' : Heap} {loc cl : List (Str × Value)} {ms : List (Addr × (Obj → Prop))}
variable {w : World} {A : Around} {E : Value → Shared → Prop} {s : Shared} {env : Env}
theorem gm_dict {d : Addr} {kvs : List (Str × Value)} {name : Str} {id : String} {pl : Sem Bool} {Q : Value × List Value → Shared → Prop} (slot : Slot "dict" name id) (hty : typeOf (.builtin id) = pure (.type "method_descriptor"))
    (hd : s.heap.DictOf (sk w) d kvs) (h : Q (.builtin id, [.ref d]) s) : wpAny (Md w) A (getMethod (.ref d) name pl) Q E s :=
  getMethod_builtin hd.typeIs PySem.F.plainAttrs_dict slot hty hd.mapOf.noDict h
theorem vals_d {d : Addr} {kvs : List (Str × Value)} {Q : Value → Shared → Prop} (S : St X z loc cl ms s.heap) (hd : s.heap.DictOf (sk w) d kvs) (hn : (d == sysModules) = false)
    (h : ∀ V h', St X z loc cl ms h' → h'.IsValuesView V d → Q (.ref V) { s with heap := h' }) : wpAny (Md w) A (call (.builtin "dict.values") [.ref d]) Q E s :=
  call_meetsIn F.slot_dict_values hd.typeIs F.entry_dict_values (F.args_dict_values_1 _) (meets_dict_values (sk w) d hn) ⟨⟨_, hd⟩, h _ _ (S.grow fun _ _ e => Heap.get?_push_of_some _ e) ⟨_, Heap.get?_push_size _ rfl, rfl, rfl⟩⟩
theorem items_d {d : Addr} {kvs : List (Str × Value)} {Q : Value → Shared → Prop} (S : St X z loc cl ms s.heap) (hd : s.heap.DictOf (sk w) d kvs) (hn : (d == sysModules) = false)
    (h : ∀ V h', St X z loc cl ms h' → h'.IsItemsView V d → Q (.ref V) { s with heap := h' }) : wpAny (Md w) A (call (.builtin "dict.items") [.ref d]) Q E s :=
  call_meetsIn F.slot_dict_items hd.typeIs F.entry_dict_items (F.args_dict_items_1 _) (meets_dict_items (sk w) d hn) ⟨⟨_, hd⟩, h _ _ (S.grow fun _ _ e => Heap.get?_push_of_some _ e) ⟨_, Heap.get?_push_size _ rfl, rfl, rfl⟩⟩
end

noncomputable abbrev KvI (kv : Str × Value) (ki : Str × Int) : Prop := kv.1 = ki.1 ∧ IntIs kv.2 ki.2

theorem count_spec {w : World} {z : Heap} {A : Around} {s : Shared} {E Q : _} {d : Addr} {kvs : List (Str × Value)} {es : List (Str × Int)} (b : Bs w z) (hz : z.StaysIn s.heap) (o : Ok A 5 40)
    (hn : (d == sysModules) = false) (hd : z.DictOf (sk w) d kvs) (hv : All2 KvI kvs es)
    (hQ : Ret z s (fun _ v => IntIs v (es.map (·.2)).sum) Q) :
    wpAny (Md w) A (call (.ref 63) [.ref d]) Q E s := by
  refine' call_fnL (fs := []) (d := 4) (u := 37) (binds := [("callers", .ref d)]) b hz o ?ho ?hcd ?hbind ?hcell ?hloc ?hco ?hgen ?hk ?_
  ((case ho => exact rfl); (case hcd => exact rfl); (case hbind => exact rfl); (case hcell => decide); (case hloc => exact locs rfl); (case hco => exact rfl); (case hgen => exact rfl); (case hk => exact rfl))
  intro env0 A0 X0 s₁ S e1 e2 o1
  (repeat' (first | walk1 | (dsimp only; walk1)))
  rename_i h2 S2
  refine wpAny_For ?_
  (repeat' (first | walk1 | (dsimp only; walk1)))
  refine gm_dict F.slot_dict_values F.type_dict_values (frz_d S2 hd) ?_
  (repeat' (first | walk1 | (dsimp only; walk1)))
  refine vals_d S2 (frz_d S2 hd) hn fun V h3 S3 hV => ?_
  refine for_values o1.hd (S3.less (loc' := [("nc", .int 0 s₁.toks)]) (cl' := []) (by exact rfl) (by exact rfl)) hV hd
    (fun i _ loc cl ms => ∃ n t, n = ((es.map (·.2)).take i).sum ∧ loc = ([("nc", .int n t)] : Lo) ∧ cl = [] ∧ ms = []) (Rse s) ⟨_, _, rfl, rfl, rfl, rfl⟩ ⟨e1, e2⟩ ?_ ?_
  · rintro q i v z' _ _ _ s₂ hi ⟨k, hk⟩ hz' ⟨n, t, hn1, rfl, rfl, rfl⟩ ⟨r1, r2⟩ S4
    obtain ⟨e, he, -, u, rfl⟩ := hv.get' hk
    refine wpAny_assign_Name ?_
    (repeat' (first | walk1 | (dsimp only; walk1)))
    rename_i h5 S5 h6 S6
    refine ⟨z', _, _, _, stays_refl _, ⟨_, _, ?_, rfl, rfl, rfl⟩, And.intro r1 r2, S6.less (loc' := [("nc", _)]) (cl' := []) (by exact rfl) (by exact rfl)⟩
    rw [List.take_add_one, hn1]
    simp [he]
  · rintro z' _ _ _ s₂ hz' ⟨n, t, hn1, rfl, rfl, rfl⟩ ⟨r1, r2⟩ S4
    (repeat' (first | walk1 | (dsimp only; walk1)))
    refine hQ _ z' _ hz' S4.frz S4.fresh S4.old r1 r2 ⟨t, ?_⟩
    have := hv.length
    rw [hn1, List.take_of_length_le (by simp; exact om27 this)]

noncomputable def addOne (es : List (Str × Int)) (k : Str) (n : Int) : List (Str × Int) :=
  if es.any (fun e => e.1 = k) then es.map (fun e => if e.1 = k then (e.1, e.2 + n) else e) else es ++ [(k, n)]
noncomputable def addAll (es es2 : List (Str × Int)) : List (Str × Int) := es2.foldl (fun a e => addOne a e.1 e.2) es

theorem addOne_length (es : List (Str × Int)) (k : Str) (n : Int) : (addOne es k n).length ≤ es.length + 1 := by
  unfold addOne; split <;> simp

theorem kvi_keys {kvs : List (Str × Value)} {es : List (Str × Int)} (h : All2 KvI kvs es) : kvs.map (·.1) = es.map (·.1) := by
  induction h with
  | nil => rfl
  | cons a _ ih => simp [a.1, ih]
theorem any_keys {α β : Type} {as : List (Str × α)} {bs : List (Str × β)} (h : as.map (·.1) = bs.map (·.1)) (k : Str) : (as.any fun e => e.1 = k) = bs.any fun e => e.1 = k := by
  have e1 : (as.any fun e => e.1 = k) = (as.map (·.1)).any fun x => x = k := by simp [List.any_map]; rfl
  have e2 : (bs.any fun e => e.1 = k) = (bs.map (·.1)).any fun x => x = k := by simp [List.any_map]; rfl
  rw [e1, e2, h]

theorem valueAt_isSome {kvs : List (Str × Value)} (k : Str) : (valueAt kvs k).isSome = kvs.any fun e => e.1 = k := by
  unfold valueAt
  induction kvs with
  | nil => rfl
  | cons e r ih =>
    rw [List.find?_cons]
    by_cases h : e.1 = k
    · simp [h]
    · simp only [h, decide_false, List.any_cons, Bool.false_or]; exact ih

theorem kvi_new {kvs : List (Str × Value)} {es : List (Str × Int)} (h : All2 KvI kvs es) {k : Str} {v : Value} {n : Int} (hv : IntIs v n) (hn : valueAt kvs k = none) : All2 KvI (stored kvs k v) (addOne es k n) := by
  have h1 : (kvs.any fun e => e.1 = k) = false := by rw [← valueAt_isSome, hn]; rfl
  have h2 : (es.any fun e => e.1 = k) = false := by rw [← any_keys (kvi_keys h)]; exact h1
  unfold stored addOne
  rw [h1, h2]
  exact h.snoc ⟨rfl, hv⟩

theorem valueAt_mem {kvs : List (Str × Value)} (nd : (kvs.map (·.1)).Nodup) {k : Str} {v : Value} (hm : (k, v) ∈ kvs) : valueAt kvs k = some v := by
  unfold valueAt
  induction kvs with
  | nil => cases hm
  | cons e r ih =>
    simp only [List.map_cons, List.nodup_cons] at nd
    rw [List.find?_cons]
    rcases List.mem_cons.mp hm with rfl | h2
    · simp
    · have h3 : k ∈ r.map (·.1) := List.mem_map_of_mem (f := (·.1)) h2
      have : e.1 ≠ k := fun q => nd.1 (q ▸ h3)
      simp only [this, decide_false]
      exact ih nd.2 h2

theorem kvi_map {kvs : List (Str × Value)} {es : List (Str × Int)} (h : All2 KvI kvs es) (nd : (kvs.map (·.1)).Nodup) {k : Str} {m n : Int} {t u : Tok} (hv : valueAt kvs k = some (.int m t)) :
    All2 KvI (kvs.map fun kv => if kv.1 = k then (kv.1, Value.int (m + n) u) else kv) (es.map fun e => if e.1 = k then (e.1, e.2 + n) else e) := by
  have all : ∀ kv ∈ kvs, kv.1 = k → kv.2 = .int m t := by
    intro kv hkv hk
    have := valueAt_mem nd (k := k) (v := kv.2) (by rw [← hk]; exact hkv)
    rw [hv] at this
    exact (Option.some.inj this).symm
  clear hv nd
  induction h with
  | nil => exact .nil
  | @cons a b as bs r _ ih =>
    refine .cons ?_ (ih fun kv hkv => all kv (.tail _ hkv))
    obtain ⟨r1, i, r2⟩ := r
    by_cases hk : a.1 = k
    · have := all a (.head _) hk
      rw [r2] at this
      cases this
      show KvI (if a.1 = k then _ else _) (if b.1 = k then _ else _)
      rw [if_pos hk, if_pos (r1 ▸ hk)]
      exact ⟨r1, u, rfl⟩
    · show KvI (if a.1 = k then _ else _) (if b.1 = k then _ else _)
      rw [if_neg hk, if_neg (r1 ▸ hk)]
      exact ⟨r1, i, r2⟩
theorem kvi_old {kvs : List (Str × Value)} {es : List (Str × Int)} (h : All2 KvI kvs es) (nd : (kvs.map (·.1)).Nodup) {k : Str} {m n : Int} {t u : Tok} (hv : valueAt kvs k = some (.int m t)) :
    All2 KvI (stored kvs k (.int (m + n) u)) (addOne es k n) := by
  have h1 : (kvs.any fun e => e.1 = k) = true := by rw [← valueAt_isSome, hv]; rfl
  have h2 : (es.any fun e => e.1 = k) = true := by rw [← any_keys (kvi_keys h)]; exact h1
  unfold stored addOne
  rw [if_pos h1, if_pos h2]
  exact kvi_map h nd hv

theorem kvi_int {kvs : List (Str × Value)} {es : List (Str × Int)} (h : All2 KvI kvs es) {k : Str} {v : Value} (hv : valueAt kvs k = some v) : ∃ m t, v = .int m t := by
  unfold valueAt at hv
  obtain ⟨e, he, rfl⟩ := Option.map_eq_some_iff.mp hv
  obtain ⟨i, hi, rfl⟩ := List.getElem_of_mem (List.mem_of_find?_eq_some he)
  obtain ⟨b, _, _, t, r⟩ := h.get' (i := i) (a := kvs[i]) (by simp [hi])
  exact ⟨_, t, r⟩

noncomputable abbrev JA2 (w : World) (es es2 : List (Str × Int)) (a : Addr) : Inv := fun i _ loc cl ms => ∃ acc, All2 KvI acc (addAll es (es2.take i)) ∧ (acc.map (·.1)).Nodup ∧ acc.length ≤ es.length + i ∧ loc = ([("new_callers", .ref a)] : Lo) ∧ cl = [] ∧ ms = ([(a, dcO w acc)] : Ml)
theorem add_spec {w : World} {z : Heap} {A : Around} {s : Shared} {E Q : _} {d d2 : Addr} {kvs kvs2 : List (Str × Value)} {es es2 : List (Str × Int)} (b : Bs w z) (hz : z.StaysIn s.heap) (o : Ok A 5 40)
    (hn : (d == sysModules) = false) (hd : z.DictOf (sk w) d kvs) (hv : All2 KvI kvs es) (hn2 : (d2 == sysModules) = false) (hd2 : z.DictOf (sk w) d2 kvs2) (hv2 : All2 KvI kvs2 es2) (hlen : es.length + es2.length ≤ 1000)
    (hQ : Ret z s (fun z' v => ∃ a kvs', v = .ref a ∧ (a == sysModules) = false ∧ z'.DictOf (sk w) a kvs' ∧ All2 KvI kvs' (addAll es es2)) Q) :
    wpAny (Md w) A (call (.ref 56) [.ref d, .ref d2]) Q E s := by
  have hl1 := hv.length
  have hl2 := hv2.length
  have nd1 : (kvs.map (·.1)).Nodup := by obtain ⟨_, _, _, _, _, _, _, _, n⟩ := hd; exact n
  refine' call_fnL (fs := []) (d := 4) (u := 37) (binds := [("target", .ref d), ("source", .ref d2)]) b hz o ?ho ?hcd ?hbind ?hcell ?hloc ?hco ?hgen ?hk ?_
  ((case ho => exact rfl); (case hcd => exact rfl); (case hbind => exact rfl); (case hcell => decide); (case hloc => exact locs rfl); (case hco => exact rfl); (case hgen => exact rfl); (case hk => exact rfl))
  intro env0 A0 X0 s₁ S e1 e2 o1
  (repeat' (first | walk1 | (dsimp only; walk1)))
  refine nw_dict b S fun a h2 ha S2 => ?_
  (repeat' (first | walk1 | (dsimp only; walk1)))
  rename_i h3 S3
  refine wpAny_For ?_
  (repeat' (first | walk1 | (dsimp only; walk1)))
  refine gm_dict F.slot_dict_items F.type_dict_items (frz_d S3 hd) ?_
  (repeat' (first | walk1 | (dsimp only; walk1)))
  refine items_d S3 (frz_d S3 hd) hn fun V h4 S4 hV => ?_
  refine for_items o1.hd (S4.less (loc' := [("new_callers", .ref a), ("source", .ref d2)]) (cl' := []) (by exact rfl) (by exact rfl)) hV hd
    (fun i _ loc cl ms => ∃ acc, acc = kvs.take i ∧ loc = ([("new_callers", .ref a), ("source", .ref d2)] : Lo) ∧ cl = [] ∧ ms = ([(a, dcO w acc)] : Ml)) (Rse s)
    rfl rfl rfl rfl ⟨_, rfl, rfl, rfl, rfl⟩ ⟨e1, e2⟩ ?_ ?_
  · rintro q i k v t z' _ _ _ s₂ hi hz' ⟨acc, ha2, rfl, rfl, rfl⟩ ⟨r1, r2⟩ S5
    have hil : i < kvs.length := (List.getElem?_eq_some_iff.mp hi).1
    have htk : kvs.take (i + 1) = kvs.take i ++ [(k, v)] := by rw [List.take_add_one, hi]; rfl
    have hst : stored acc k v = kvs.take (i + 1) := by
      have h1 : (acc.any fun e => e.1 = k) = false := by
        rw [ha2, List.any_eq_false]
        intro e he hk
        have hk : e.1 = k := by simpa using hk
        have nd := nd1.sublist ((List.take_sublist (i + 1) kvs).map (·.1))
        rw [htk, List.map_append, List.nodup_append] at nd
        exact nd.2.2 e.1 (List.mem_map_of_mem he) k (by simp) hk
      unfold stored
      rw [h1, htk, ha2]; rfl
    (repeat' (first | walk1 | (dsimp only; walk1)))
    refine set_d S5.swap (by have hsz9 : sizeLine = 16777216 := rfl; rw [ha2, List.length_take]; exact om28 hlen hl1 hsz9) fun h6 S6 => ?_
    (repeat' (first | walk1 | (dsimp only; walk1)))
    exact ⟨z', _, _, _, stays_refl _, ⟨_, hst, rfl, rfl, rfl⟩, And.intro r1 r2, S6.swap.less (loc' := [("new_callers", _), ("source", _)]) (cl' := []) (by exact rfl) (by exact rfl)⟩
  · rintro z' _ _ _ s₂ hz' ⟨acc, ha2, rfl, rfl, rfl⟩ ⟨r1, r2⟩ S5
    rw [List.take_length] at ha2
    subst ha2
    have hd2' : z'.DictOf (sk w) d2 kvs2 := hd2.keep hz'
    (repeat' (first | walk1 | (dsimp only; walk1)))
    refine wpAny_For ?_
    (repeat' (first | walk1 | (dsimp only; walk1)))
    refine gm_dict F.slot_dict_items F.type_dict_items (frz_d S5 hd2') ?_
    (repeat' (first | walk1 | (dsimp only; walk1)))
    refine items_d S5 (frz_d S5 hd2') hn2 fun V2 h6 S6 hV2 => ?_
    refine for_items o1.hd (S6.less (loc' := [("new_callers", .ref a)]) (cl' := []) (by exact rfl) (by exact rfl)) hV2 hd2'
      (JA2 w es es2 a) (Rse s)
      rfl rfl rfl rfl ⟨_, hv, nd1, by exact om29 hl1, rfl, rfl, rfl⟩ ⟨r1, r2⟩ ?_ ?_
    · rintro q i k v t z2 _ _ _ s₃ hi hz2 ⟨acc, hacc, hnd, hle, rfl, rfl, rfl⟩ ⟨r1, r2⟩ S7
      obtain ⟨⟨k', n⟩, he, hk', u, hv'⟩ := hv2.get' hi
      dsimp only at hk' hv'
      subst hk' hv'
      have hil : i < kvs2.length := (List.getElem?_eq_some_iff.mp hi).1
      have hsz9 : sizeLine = 16777216 := rfl
      have htk : addAll es (es2.take (i + 1)) = addOne (addAll es (es2.take i)) k n := by
        unfold addAll
        rw [List.take_add_one, he, List.foldl_append]; rfl
      have nd' : ∀ v, ((stored acc k v).map (·.1)).Nodup := by
        intro v
        unfold stored
        split
        · rw [List.map_map]
          have : ((fun x : Str × Value => x.1) ∘ fun kv : Str × Value => if kv.1 = k then (kv.1, v) else kv) = fun x => x.1 := by
            funext x; simp only [Function.comp]; split <;> rfl
          rw [this]; exact hnd
        · rename_i hany
          rw [List.map_append, List.nodup_append]
          refine ⟨hnd, by simp, fun x hx y hy hxy => hany ?_⟩
          obtain ⟨e, he, rfl⟩ := List.mem_map.mp hx
          simp only [List.map_cons, List.map_nil, List.mem_singleton] at hy
          rw [List.any_eq_true]
          exact ⟨e, he, by simp [hxy, hy]⟩
      have len' : ∀ v, (stored acc k v).length ≤ es.length + (i + 1) := by
        intro v
        unfold stored
        split
        · rw [List.length_map]; exact om30 hle
        · rw [List.length_append]; simp only [List.length_cons, List.length_nil]; exact om31 hle
      (repeat' (first | walk1 | (dsimp only; walk1)))
      refine in_d ha (own_d S7 (by (repeat' (first | exact List.Mem.head _ | refine' List.Mem.tail _ ?_)))) ?_
      cases hva : valueAt acc k with
      | none =>
        (repeat' (first | walk1 | (dsimp only; walk1)))
        refine set_d S7.swap (by exact om32 hlen hl2 hle hil hsz9) fun h8 S8 => ?_
        (repeat' (first | walk1 | (dsimp only; walk1)))
        exact ⟨z2, _, _, _, stays_refl _, ⟨_, by rw [htk]; exact kvi_new hacc ⟨u, rfl⟩ hva, nd' _, len' _, rfl, rfl, rfl⟩, And.intro r1 r2, S8.swap.less (loc' := [("new_callers", _)]) (cl' := []) (by exact rfl) (by exact rfl)⟩
      | some v0 =>
        obtain ⟨m, t0, rfl⟩ := kvi_int hacc hva
        (repeat' (first | walk1 | (dsimp only; walk1)))
        · refine get_d (own_d S7 (by (repeat' (first | exact List.Mem.head _ | refine' List.Mem.tail _ ?_)))) hva ?_
          (repeat' (first | walk1 | (dsimp only; walk1)))
          refine set_d S7.swap (by exact om32 hlen hl2 hle hil hsz9) fun h8 S8 => ?_
          (repeat' (first | walk1 | (dsimp only; walk1)))
          exact ⟨z2, _, _, _, stays_refl _, ⟨_, by rw [htk]; exact kvi_old hacc hnd hva, nd' _, len' _, rfl, rfl, rfl⟩, And.intro r1 r2, S8.swap.less (loc' := [("new_callers", _)]) (cl' := []) (by exact rfl) (by exact rfl)⟩
        · rename_i hbad
          cases hbad
    · rintro z2 _ _ _ s₃ hz2 ⟨acc, hacc, hnd, hle, rfl, rfl, rfl⟩ ⟨r1, r2⟩ S7
      (repeat' (first | walk1 | (dsimp only; walk1)))
      obtain ⟨z3, k3, S8, o3, g3, hp3⟩ := S7.freeze
      refine hQ _ z3 _ (stays_trans (stays_trans hz' hz2) k3) S8.frz S8.fresh S8.old r1 r2 ⟨a, acc, rfl, ha, Heap.dictOf_iff.mpr ⟨o3, g3, hp3⟩, ?_⟩
      rwa [List.take_of_length_le (by exact om27 hl2)] at hacc

section
variable {w : World} {A : Around} {E : Value → Shared → Prop} {s : Shared}
open Builtin Builtin.SmallTypes

theorem nx_item {it l : Addr} {i : Nat} {items : Array Value} {x : Value} {Q : Value → Shared → Prop} (hit : s.heap.IsListIter it l i) (hl : s.heap.IsList l items) (hx : items[i]? = some x)
    (hQ : ∀ h', h'.IsListIter it l (i + 1) → Heap.SameBut it s.heap h' → Q x { s with heap := h' }) : wpAny (Md w) A (call (.builtin "next") [.ref it]) Q E s := by
  obtain ⟨o, ho, hc, hd⟩ := id hit
  obtain ⟨ol, hol, _, nl, hdl⟩ := hl
  refine call_function_entry (by decide +kernel) (by decide +kernel) kdk_entry_next (kdk_args_next _) ?_
  unfold Builtin.«next»
  refine wpAny_bind (m := someArgs "next" 1 2 _) (wpAny_of_eq (a := [Value.ref it]) (by first | rfl | kernel_rfl!) ?_)
  dsimp only
  refine wpAny_bind (wpAny_specialOf (name := Str.ofString "__next__") hit.typeIs slot_listiter_next.lookup ?_)
  refine wpAny_ite_split (fun hab => absurd hab (by decide)) (fun _ => ?_)
  refine wpAny_bind (wpAny_callSpecial?_slot (name := Str.ofString "__next__") hit.typeIs slot_listiter_next
    (wpAny_call_entry slot_listiter_next hit.typeIs entry_listiter_next ?_ (args_listiter_next _)))
  show wpAny _ _ (field (.ref it) 0 >>= _) _ _ s
  refine wpAny_bind (wpAny_field ho hd (x := .ref l) rfl ?_)
  show wpAny _ _ (if (Value.ref l == Value.none) = true then _ else _) _ _ s
  rw [if_neg (show ¬ ((Value.ref l == Value.none) = true) from Bool.false_ne_true)]
  show wpAny _ _ (field (.ref it) 1 >>= _) _ _ s
  refine wpAny_bind (wpAny_field ho hd (x := .int i 0) rfl ?_)
  show wpAny _ _ (seqItems? (.ref l) >>= _) _ _ s
  refine wpAny_bind (wpAny_seqItems hol hdl ?_)
  simp only [Int.toNat_natCast, hx]
  refine wpAny_bind (wpAny_setField ho hd (by simp) (wpAny_pure ⟨x, rfl, wpAny_pure ⟨_, rfl, hQ _ ⟨_, Heap.get?_update_self _ ho (Obj.isFreed_of_fields (Obj.data_mapFields hd _)), (Obj.cls_mapFields ..).trans hc, ?_⟩ (Heap.SameBut.update ..)⟩⟩))
  rw [Obj.data_mapFields hd]; simp [rawInt]

/-- a StopIteration, new made -/
structure Stopped (it e : Addr) (h h' : Heap) : Prop where
  keeps : ∀ b o, b ≠ it → h.get? b = some o → h'.get? b = some o
  new : h.get? e = none
  there : ∃ ob t, h'.get? e = some ob ∧ ob.cls = .type "StopIteration" ∧ ob.data = .fields #[t, .none, .none, .none, .bool false, .none]

theorem nx_stop {it l : Addr} {i : Nat} {items : Array Value} {Q : Value → Shared → Prop} (hA : A.handled = none) (hit : s.heap.IsListIter it l i) (hl : s.heap.IsList l items) (hx : items[i]? = none)
    (hE : ∀ e h', Stopped it e s.heap h' → E (.ref e) { s with heap := h' }) : wpAny (Md w) A (call (.builtin "next") [.ref it]) Q E s := by
  obtain ⟨o, ho, hc, hd⟩ := id hit
  obtain ⟨ol, hol, _, nl, hdl⟩ := hl
  refine call_function_entry (by decide +kernel) (by decide +kernel) kdk_entry_next (kdk_args_next _) ?_
  unfold Builtin.«next»
  refine wpAny_bind (m := someArgs "next" 1 2 _) (wpAny_of_eq (a := [Value.ref it]) (by first | rfl | kernel_rfl!) ?_)
  dsimp only
  refine wpAny_bind (wpAny_specialOf (name := Str.ofString "__next__") hit.typeIs slot_listiter_next.lookup ?_)
  refine wpAny_ite_split (fun hab => absurd hab (by decide)) (fun _ => ?_)
  refine wpAny_bind (wpAny_callSpecial?_slot (name := Str.ofString "__next__") hit.typeIs slot_listiter_next
    (wpAny_call_entry slot_listiter_next hit.typeIs entry_listiter_next ?_ (args_listiter_next _)))
  show wpAny _ _ (field (.ref it) 0 >>= _) _ _ s
  refine wpAny_bind (wpAny_field ho hd (x := .ref l) rfl ?_)
  show wpAny _ _ (if (Value.ref l == Value.none) = true then _ else _) _ _ s
  rw [if_neg (show ¬ ((Value.ref l == Value.none) = true) from Bool.false_ne_true)]
  show wpAny _ _ (field (.ref it) 1 >>= _) _ _ s
  refine wpAny_bind (wpAny_field ho hd (x := .int i 0) rfl ?_)
  show wpAny _ _ (seqItems? (.ref l) >>= _) _ _ s
  refine wpAny_bind (wpAny_seqItems hol hdl ?_)
  simp only [Int.toNat_natCast, hx]
  refine wpAny_bind (wpAny_rule (wpAny_bind (wpAny_setField ho hd (by simp) ?_)))
  show wpAny _ _ (newExc (.type "StopIteration") [] >>= _) _ _ _
  refine wpAny_bind ?_
  simp only [newExc, newTuple]
  refine wpAny_bind (wpAny_newObj_type ?_ (by size_fits))
  refine wpAny_bind (m := firstArgMember _ _) (wpAny_of_eq (a := Value.none) (by first | rfl | (simp only [firstArgMember]; rfl)) ?_)
  refine wpAny_newObj_type ?_ (by size_fits)
  simp only [raiseNew]
  refine wpAny_bind (wpAny_handled ?_)
  rw [show A.in1.in1.handled = none from hA]
  refine wpAny_bind (wpAny_pure (wpAny_throw ?_))
  refine hE _ _ ⟨((Heap.SameBut.update ..).extBut.push _).push _, ?_, ⟨_, _, Heap.get?_push_size _ rfl, rfl, rfl⟩⟩
  refine get_size_none _ ?_
  rw [Heap.size_push]
  have : (s.heap.update it (Obj.mapFields (·.setIfInBounds 0 .none))).objs.size = s.heap.objs.size := Heap.size_after_update ..
  simp only [Heap.size_after_update]
  exact Nat.le_succ _
end

/-- the frames above -/
structure Frm (outer : List Env) (fs : List Addr) (z h : Heap) : Prop where
  env : ∀ env ∈ outer, env.scope.kind ≠ .module ∧ ∃ L ∈ fs, env.frame = some L
  fs : ∀ f ∈ fs, z.get? f = none ∧ ∃ o, h.get? f = some o ∧ ∀ vs, o.data ≠ .fields vs

section
variable {X : Fx} {z z' h h' : Heap} {loc cl : List (Str × Value)} {ms : List (Addr × (Obj → Prop))}
variable {w : World} {A : Around} {E : Value → Shared → Prop} {s : Shared} {env : Env} {outer : List Env}

theorem St.fsz {f : Addr} (S : St X z loc cl ms h) (h1 : X.z0.get? f = none) (hf : f ∈ X.fs) : z.get? f = none := by
  cases q : z.get? f with
  | none => rfl
  | some o =>
    rcases S.fresh f o q with e | e
    · rw [h1] at e; cases e
    · exact absurd e (S.fsk f hf)

theorem St.frm (S : St X z loc cl ms h) (F : Frm outer X.fs X.z0 X.hE) (hf : env.frame = some X.L) (hk : env.scope.kind ≠ .module) : Frm (env :: outer) (X.L :: X.fs) z h where
  env := fun e he => by
    rcases List.mem_cons.mp he with rfl | he
    · exact ⟨hk, X.L, List.mem_cons_self, hf⟩
    · obtain ⟨a, L, b, c⟩ := F.env e he
      exact ⟨a, L, List.mem_cons_of_mem _ b, c⟩
  fs := fun f hf => by
    rcases List.mem_cons.mp hf with rfl | hf
    · obtain ⟨m, ⟨o, es, ep, e, d, _⟩, _⟩ := S.ns
      exact ⟨(S.own _ List.mem_cons_self).1, o, e, fun vs q => by rw [d] at q; cases q⟩
    · obtain ⟨a, o, e, d⟩ := F.fs f hf
      obtain ⟨o', e', d'⟩ := S.old.there e
      exact ⟨S.fsz a hf, o', e', fun vs q => d vs (d' ▸ q)⟩

theorem Frm.fun {fs : List Addr} {base : Heap} (F : Frm outer fs z h) (hb : ∀ f ∈ fs, base.get? f = none) : h.FunFrames base outer := by
  obtain ⟨e1, f1⟩ := F
  induction outer with
  | nil => trivial
  | cons env r ih =>
    obtain ⟨a, L, b, c⟩ := e1 env List.mem_cons_self
    obtain ⟨_, o, e, d⟩ := f1 L b
    exact ⟨a, ⟨L, o, c, hb L b, e, d⟩, ih fun env he => e1 env (List.mem_cons_of_mem _ he)⟩

/-- a StopIteration leaves the frame -/
theorem leave_stop {it e : Addr} {p : Obj → Prop} {Q : Unit → Shared → Prop} (S : St X z loc cl ((it, p) :: ms) h) (F : Frm outer X.fs X.z0 X.hE) (hA : A.frames = some (env :: outer)) (hf : env.frame = some X.L) (hk : env.scope.kind ≠ .module)
    (P : Stopped it e h s.heap)
    (hQ : ∀ h', z.StaysIn h' → Ws X.fs X.hE h' → (∃ ob, h'.get? e = some ob ∧ ob.cls = .type "StopIteration") → Q () { s with heap := h' }) :
    wpAny (Md w) A (leaving env (.ref e)) Q E s := by
  have F1 := S.frm F hf hk
  obtain ⟨ob, t, he, hc, hd⟩ := P.there
  have oa := S.own it (by simp [Fx.pv])
  have nd := S.nodup
  simp only [Fx.pv, List.map_cons, List.nodup_cons, List.nodup_append, List.mem_append, List.mem_cons, not_or] at nd
  let base : Heap := hideAll s.heap (e :: X.L :: X.fs)
  have ne : ∀ f ∈ X.L :: X.fs, f ≠ it ∧ f ≠ e := by
    intro f hf
    obtain ⟨_, o, eo, _⟩ := F1.fs f hf
    refine ⟨fun q => ?_, fun q => ?_⟩
    · rcases List.mem_cons.mp hf with rfl | hf
      · exact nd.1.2.1 q
      · exact S.fsk f hf (q ▸ oa.2)
    · rw [q, P.new] at eo; cases eo
  have F2 : Frm (env :: outer) (X.L :: X.fs) z s.heap := ⟨F1.env, fun f hf => by
    obtain ⟨a, o, eo, d⟩ := F1.fs f hf
    exact ⟨a, o, P.keeps f o (ne f hf).1 eo, d⟩⟩
  have hb : ∀ f ∈ e :: X.L :: X.fs, base.get? f = none := fun f hf => hideAll_none _ hf
  refine wpAny_leaving_firstW (base := base) hA (F2.fun fun f hf => hb f (List.mem_cons_of_mem _ hf)) hf he (fun b o q => of_hideAll _ q) (hb e List.mem_cons_self) hd rfl rfl fun h' hL => ?_
  obtain ⟨k1, _, ⟨oe, _, _, _, _, he', ⟨hcls, _⟩, _⟩, k4⟩ := hL
  have key : ∀ b o, b ≠ e → s.heap.get? b = some o → h'.get? b = some o ∨ (b ∈ X.L :: X.fs ∧ ∃ sl, h'.get? b = some { o with slots := sl }) := by
    intro b o hbe eb
    by_cases hbf : b ∈ X.L :: X.fs
    · obtain ⟨_, o2, eo2, d2⟩ := F2.fs b hbf
      rw [eb] at eo2; cases eo2
      exact .inr ⟨hbf, k4 b o eb d2⟩
    · exact .inl (k1 b o (hideAll_get _ eb fun q => (List.mem_cons.mp q).elim hbe hbf))
  refine hQ h' (fun b o eb => ?_) (fun b o eb => ?_) ⟨oe, he', hcls.trans hc⟩
  · have e0 := S.frz b o eb
    have e1 := P.keeps b o (fun q => by rw [q, oa.1] at eb; cases eb) e0
    rcases key b o (fun q => by rw [q, P.new] at e0; cases e0) e1 with q | ⟨q, _⟩
    · exact q
    · have := (F1.fs b q).1
      rw [eb] at this; cases this
  · have nit : b ≠ it := fun q => by rw [q, oa.2] at eb; cases eb
    have nL : b ≠ X.L := fun q => by rw [q, (S.own _ List.mem_cons_self).2] at eb; cases eb
    rcases S.old b o eb with e0 | ⟨m, sl, e0⟩
    · rcases key b o (fun q => by rw [q, P.new] at e0; cases e0) (P.keeps b o nit e0) with q | ⟨q, sl, q2⟩
      · exact .inl q
      · exact .inr ⟨(List.mem_cons.mp q).elim (fun x => absurd x nL) id, sl, q2⟩
    · rcases key b _ (fun q => by rw [q, P.new] at e0; cases e0) (P.keeps b _ nit e0) with q | ⟨q, sl2, q2⟩
      · exact .inr ⟨m, sl, q⟩
      · exact .inr ⟨m, sl2, q2⟩

/-- a call, objects lent, an exception handed on -/
theorem call_fnA {ad : Ml} {fs : List Addr} {d u : Nat} {name qual : Str} {params : Arguments} {body : List Stmt} {scope : Scope} {dV kV doc pm cdv ct oc : Value} {an od : Option Addr} {osl : Array (Option Value)} {f : Addr} {args : List Value} {binds : List (Str × Value)} {Q : Value → Shared → Prop}
    (b : Bs w z) (hz : z.StaysIn s.heap) (o : Ok A (d + 1) (u + 3))
    (hfs : ∀ f ∈ fs, s.heap.get? f ≠ none ∧ f ∉ ad.map (·.1)) (had : ∀ p ∈ ad, z.get? p.1 = none ∧ ∃ o, s.heap.get? p.1 = some o ∧ p.2 o) (hnd : (ad.map (·.1)).Nodup)
    (ho : (Ks w).lookup f = some ⟨oc, od, .func (fnOf name qual params body scope dV kV doc pm an cdv ct), osl⟩) (hcd : codeIn (Ks w) cdv qual = true)
    (hbind : bindArgs (fnOf name qual params body scope dV kV doc pm an cdv ct) ⟨args, []⟩ = pure binds) (hcell : ∀ x ∈ scope.names, x.2 ≠ .cell) (hloc : ∀ x ∈ binds, scope.names.lookup x.1 = some .local)
    (hco : scope.isCoroutine = false) (hgen : scope.isGenerator = false) (hk : scope.kind = .function)
    (h : ∀ s₁ : Shared, St (Fx.mk z (hideAll s.heap (ad.map (·.1))) s.heap.objs.size [] fs) z binds.reverse [] ad s₁.heap → s₁.os = s.os → s₁.gens = s.gens → Ok (A.deeper (envX qual scope s.heap.objs.size f cdv [])) d u →
      wpAny (Md w) (A.deeper (envX qual scope s.heap.objs.size f cdv [])) (execs body (envX qual scope s.heap.objs.size f cdv [])) (fun fl s' => Q (match fl with | .ret v => v | _ => .none) s')
        (fun e s' => wpAny (Md w) (A.deeper (envX qual scope s.heap.objs.size f cdv [])) (leaving (envX qual scope s.heap.objs.size f cdv []) e) (fun _ s'' => E e s'') (fun e' s'' => E e' s'') s') s₁) :
    wpAny (Md w) A (call (.ref f) args) Q E s := by
  have bs := b.mono hz
  refine wpAny_call (codeAny_call_def (fd := fnOf name qual params body scope dV kV doc pm an cdv ct) o.room (bs.k _ _ ho) rfl bs.nolimit (codeRec_of bs.k hcd) rfl (BindsTo.of_eq hbind) hcell hloc (fun h₁ hn hkp => ?_) hco hgen hk)
  refine h { s with heap := h₁, toks := s.toks + binds.length } ?_ rfl rfl (o.deeper _)
  have hsz : ∀ a, s.heap.objs.size ≤ a → s.heap.get? a = none := fun a ha => get_size_none _ ha
  have hno : ∀ a, (hideAll s.heap (ad.map (·.1))).get? a = none ∨ s.heap.get? a ≠ none := fun a => by
    cases q : (hideAll s.heap (ad.map (·.1))).get? a with
    | none => exact .inl rfl
    | some o => exact .inr (by rw [of_hideAll _ q]; simp)
  refine ⟨.of fun b o e => hkp b o (of_hideAll _ e), fun f hf => ?_, stays_refl z, stays_trans hz hkp, fun b o e => .inl e, ⟨_, hn, fun _ _ e => e⟩, fun _ hp => (nomatch hp), fun p hp => ?_, ?_, ?_⟩
  · obtain ⟨e1, e2⟩ := hfs f hf
    cases q : s.heap.get? f with
    | none => exact absurd q e1
    | some o => rw [show (hideAll s.heap (ad.map (·.1))).get? f = some o from hideAll_get _ q e2]; simp
  · obtain ⟨_, o, e, q⟩ := had p hp
    exact ⟨o, hkp _ _ e, q⟩
  · intro a ha
    simp only [Fx.pv, List.map_nil, List.nil_append, List.mem_cons] at ha
    rcases ha with rfl | ha
    · refine ⟨?_, ?_⟩
      · cases q : z.get? s.heap.objs.size with
        | none => rfl
        | some o => exact absurd (Heap.lt_size (hz _ _ q)) (Nat.lt_irrefl _)
      · exact (hno _).elim id fun q => absurd (hsz _ (Nat.le_refl _)) q
    · obtain ⟨p, hp, rfl⟩ := List.mem_map.mp ha
      exact ⟨(had p hp).1, hideAll_none _ ha⟩
  · simp only [Fx.pv, List.map_nil, List.nil_append, List.nodup_cons]
    refine ⟨fun hm => ?_, hnd⟩
    obtain ⟨p, hp, e⟩ := List.mem_map.mp hm
    obtain ⟨_, o, eo, _⟩ := had p hp
    have := Heap.lt_size eo
    rw [show p.1 = s.heap.objs.size from e] at this
    exact absurd this (Nat.lt_irrefl _)

/-- what was lent comes back -/
theorem St.back {F : List Addr} {it : Addr} {p p' : Obj → Prop} {o' : Obj} {hB : Heap} (S : St X z loc cl ((it, p) :: ms) hB) (g : Ws F (hideAll hB [it]) h') (hF : ∀ f ∈ F, f = X.L ∨ f ∈ X.fs) (kz : z.StaysIn h') (ho : h'.get? it = some o') (hp : p' o') :
    St X z loc cl ((it, p') :: ms) h' := by
  have oa := S.own it (by simp [Fx.pv])
  have nd := S.nodup
  simp only [Fx.pv, List.map_cons, List.nodup_cons, List.nodup_append, List.mem_append, List.mem_cons, not_or] at nd
  -- the heap with the lent object as it came back
  have g' : ∀ b o, b ≠ it → hB.get? b = some o → h'.get? b = some o ∨ (b ∈ F ∧ ∃ sl, h'.get? b = some { o with slots := sl }) := fun b o hb e => g b o (hideAll_get _ e (by simpa using hb))
  refine ⟨fun b o e => ?_, S.fsk, S.z0, kz, S.fresh, ?_, ?_, ?_, S.own, S.nodup⟩
  · have nit : b ≠ it := fun q => by rw [q, oa.2] at e; cases e
    have nL : b ≠ X.L := fun q => by rw [q, (S.own _ List.mem_cons_self).2] at e; cases e
    rcases S.old b o e with e1 | ⟨m, sl, e1⟩
    · rcases g' b o nit e1 with e2 | ⟨m, e2⟩
      · exact .inl e2
      · exact .inr ⟨(hF b m).elim (fun x => absurd x nL) id, e2⟩
    · rcases g' b _ nit e1 with e2 | ⟨_, sl2, e2⟩
      · exact .inr ⟨m, sl, e2⟩
      · exact .inr ⟨m, sl2, e2⟩
  · obtain ⟨m, ⟨o, es, ep, e, d, r⟩, l⟩ := S.ns
    rcases g' _ _ nd.1.2.1 e with e2 | ⟨_, sl, e2⟩
    · exact ⟨m, ⟨o, es, ep, e2, d, r⟩, l⟩
    · exact ⟨m, ⟨_, es, ep, e2, d, r⟩, l⟩
  · intro q hq
    obtain ⟨vo, ⟨o, e, d⟩, l⟩ := S.cell q hq
    have nit : q.2 ≠ it := fun x => nd.2.2.2 _ (List.mem_map_of_mem hq) it (.inl rfl) x
    rcases g' _ _ nit e with e2 | ⟨_, sl, e2⟩
    · exact ⟨vo, ⟨o, e2, d⟩, l⟩
    · exact ⟨vo, ⟨_, e2, d⟩, l⟩
  · intro q hq
    rcases List.mem_cons.mp hq with rfl | hq
    · exact ⟨o', ho, hp⟩
    · obtain ⟨o, e, l⟩ := S.mu q (.tail _ hq)
      have hm : q.1 ∈ ms.map (·.1) := List.mem_map_of_mem hq
      have nit : q.1 ≠ it := fun x => nd.2.2.1.1 (x ▸ hm)
      rcases g' _ _ nit e with e2 | ⟨m, _⟩
      · exact ⟨o, e2, l⟩
      · rcases hF _ m with x | x
        · exact absurd (x ▸ hm) nd.1.2.2
        · exact absurd (S.own q.1 (by simp only [Fx.pv, List.map_cons, List.mem_cons, List.mem_append]; exact .inr (.inr (.inr hm)))).2 (S.fsk _ x)
end

noncomputable abbrev stO (w : World) (xs : List Str) : Obj → Prop := fun o => ∃ n, n ≤ xs.length ∧ o.SetObjOf (sk w) (fun k => decide (k ∈ xs)) n

section
variable {X : Fx} {z z' h h' : Heap} {loc cl : List (Str × Value)} {ms : List (Addr × (Obj → Prop))}
variable {w : World} {A : Around} {E : Value → Shared → Prop} {s : Shared} {env : Env}

theorem set_loop (hA : A.handled = none) {l I D : Addr} {vs : List Value} {xs : List Str} {R : Result → Shared → Prop} (hl : z.PlainList l vs.toArray) (hv : All2 StrIs vs xs) (hlen : vs.length ≤ 1000)
    (hR : ∀ h' tk, St X z loc cl ((D, stO w xs) :: ms) h' → R (.ok (.ret .none)) { s with heap := h', toks := tk }) :
    ∀ (k i : Nat), i + k = vs.length → ∀ h₁ tk₁, St X z loc cl ((I, liO l i) :: (D, stO w (xs.take i)) :: ms) h₁ →
      codeAny (Md w) A (.builtin "set.update.loop" ⟨[.ref D, .ref I], []⟩) R { s with heap := h₁, toks := tk₁ } := by
  intro k
  induction k with
  | zero =>
    intro i hk h₁ tk₁ S
    have hxl := hv.length
    have IT := Itr.list (w := w) (z := z) (A := A.in1) (I := I) hA hl.isList
    obtain ⟨o, ho, hp⟩ := S.mu (I, liO l i) List.mem_cons_self
    refine codeAny_builtin F.entry_set_update_loop ?_
    rw [Around.under_plainId F.plain_set_update_loop _]
    show wpAny _ A.in1 (pyNext (.ref I) >>= _) _ _ _
    refine wpAny_bind ?_
    obtain rfl : i = vs.length := by exact om33 hk
    refine IT.done _ _ _ o S.frz ho (by simpa using hp) fun h' hs => ?_
    have S1 := S.lose hs
    rw [List.take_of_length_le (by exact om27 hxl)] at S1
    show wpAny _ A.in1 (ret Value.none) _ _ _
    exact wpAny_pure (hR _ _ S1)
  | succ k ih =>
    intro i hk h₁ tk₁ S
    have hxl := hv.length
    have IT := Itr.list (w := w) (z := z) (A := A.in1) (I := I) hA hl.isList
    obtain ⟨o, ho, hp⟩ := S.mu (I, liO l i) List.mem_cons_self
    refine codeAny_builtin F.entry_set_update_loop ?_
    rw [Around.under_plainId F.plain_set_update_loop _]
    show wpAny _ A.in1 (pyNext (.ref I) >>= _) _ _ _
    refine wpAny_bind ?_
    have hi : i < vs.length := by exact om34 hk
    refine IT.item i _ _ _ o (by simpa using hi) S.frz ho hp fun v h' tk o' hx ho' hp' hs => ?_
    have S1 := (S.setm hs ho' hp').swap
    obtain ⟨x, hx2, t, rfl⟩ := hv.get' (i := i) (a := v) (by simpa using hx)
    obtain ⟨os, hos, n, hn, hso⟩ := S1.mu (D, stO w (xs.take i)) List.mem_cons_self
    show wpAny _ A.in1 (holding [Value.str x t] (setAdd D (.str x t)) >>= _) _ _ _
    refine wpAny_bind (wpAny_holding ?_)
    unfold setAdd
    refine wpAny_holding (wpAny_bind ((sk w).pyHash (k := x) (sk_is w x t) ?_))
    have hn2 : n ≤ i := by rw [List.length_take] at hn; exact om35 hn
    have hsb9 : scanBound = 4096 := rfl
    refine wpAny_setAddHashed_of (knd := sk w) (sk_is w x t) rfl (hso.setOf hos (by exact om36 hlen hk hn2 hsb9)) (by exact om37 hlen hk hn2 hsb9) fun h2 hsb hS2 => ?_
    obtain ⟨o2, ho2, hso2⟩ := hS2.objOf
    have htk : xs.take (i + 1) = xs.take i ++ [x] := by rw [List.take_add_one, hx2]; rfl
    have S2 : St X z loc cl ((I, liO l (i + 1)) :: (D, stO w (xs.take (i + 1))) :: ms) h2 := (S1.setm hsb ho2 (p' := stO w (xs.take (i + 1))) ⟨_, ?_, by
      have e : (fun k' => decide (k' ∈ xs.take i) || decide (k' = x)) = fun k' => decide (k' ∈ xs.take (i + 1)) := by
        funext k'; rw [htk]; simp
      rw [← e]; exact hso2⟩).swap
    · exact wpAny_pure ⟨plainId_quiet F.plain_set_update_loop _, ih (i + 1) (by exact om38 hk) _ _ S2⟩
    · rw [htk, List.length_append]; simp only [List.length_cons, List.length_nil]
      split <;> omega

theorem set_list {l : Addr} {vs : List Value} {xs : List Str} {Q : Value → Shared → Prop} (hA : A.handled = none) (S : St X z loc cl ms s.heap) (hl : z.PlainList l vs.toArray) (hv : All2 StrIs vs xs) (hlen : vs.length ≤ 1000)
    (h : ∀ a h' tk, St X z loc cl ((a, stO w xs) :: ms) h' → Q (.ref a) { s with heap := h', toks := tk }) : wpAny (Md w) A (call (.type "set") [.ref l]) Q E s := by
  obtain ⟨c, tl, hmro⟩ := PySem.F.called_set.mro
  have hmade := PySem.F.called_set.made
  have hsub := PySem.F.called_set.sub
  refine wpAny_call (codeAny_of_tree ?_)
  show wpAny _ _ (callAny (.type "set") _) _ _ _
  refine wpAny_pure ⟨Code.quiet_builtin _ (by decide +kernel), codeAny_builtin PySem.F.entry_type_call ?_⟩
  rw [Around.under_plain (weight_type_call_type "set" [.ref l] []) rfl]
  have h1 := PySem.F.called_set.notType
  have h2 := PySem.F.called_set.canCreate
  have hct := PySem.F.typeCall_set_1 (.ref l)
  repeat (any_goals (first | assumption | wp_step))
  refine codeAny_mono (code_set_new_1 (.ref l) (E := E) (Q₁ := fun obj s₁ => ∃ led : Bool, obj = .ref s.heap.objs.size ∧ s₁ = { s with heap := s.heap.push { cls := .type "set", dict := none, data := .set #[] 0 (.fresh 0 0 led) } }) fun led => ⟨led, rfl, rfl⟩) fun r s₁ hr => ?_
  cases r with
  | error e => exact hr
  | ok fl =>
    cases fl with
    | ret obj =>
      obtain ⟨led, rfl, rfl⟩ := hr
      have S1 := S.push { cls := .type "set", dict := none, data := .set #[] 0 (.fresh 0 0 led) } (p := stO w []) ⟨0, Nat.le_refl _, by
        have e : (fun _ => false) = fun k : Str => decide (k ∈ ([] : List Str)) := by funext k; simp
        rw [← e]; exact setObjOf_fresh led⟩
      have hS : (s.heap.push { cls := .type "set", dict := none, data := .set #[] 0 (.fresh 0 0 led) }).get? s.heap.objs.size = some { cls := .type "set", dict := none, data := .set #[] 0 (.fresh 0 0 led) } := Heap.get?_push_size _ rfl
      have hT : Shared.TypeIs { s with heap := s.heap.push { cls := .type "set", dict := none, data := .set #[] 0 (.fresh 0 0 led) } } (.ref s.heap.objs.size) "set" := ⟨_, hS, rfl⟩
      have hli := PySem.F.called_set.init.lookup
      have hbi := PySem.F.called_set.init.bind (.ref s.heap.objs.size)
      repeat (any_goals (first | assumption | wp_step))
      refine codeAny_mono (codeAny_call_builtin (R := wants (fun r s₂ => r = .none ∧ ∃ h' tk, s₂ = { s with heap := h', toks := tk } ∧ St X z loc cl ((s.heap.objs.size, stO w xs) :: ms) h') E) PySem.F.called_set.init.plain PySem.F.entry_set_init (check_set_init_1 hT ?_)) fun r₂ s₂ hr₂ => ?_
      · obtain ⟨nl, hol⟩ := hl
        have hl1 : (s.heap.push { cls := .type "set", dict := none, data := .set #[] 0 (.fresh 0 0 led) }).IsList l vs.toArray := ⟨_, S1.frz _ _ hol, rfl, nl, rfl⟩
        have hol' := S1.frz _ _ hol
        have hsls := PySem.F.sub_list_set
        have hslf := PySem.F.sub_list_frozenset
        have hne : (Value.type "list" == Value.type "dict") = false := by decide
        unfold Builtin.«set.__init__» noKeywords Builtin.Frozenset.updateFrom
        generalize hPI : pyIter = PI
        wp_walk
        subst hPI
        refine wpAny_pyIter_list hl1 ?_
        refine wpAny_bind (wpAny_runValue ?_)
        have S2 := S1.push { cls := .type "list_iterator", data := .fields #[.ref l, .int 0 0] } (p := liO l 0) ⟨rfl, rfl⟩
        refine set_loop (s := { s with heap := (s.heap.push { cls := .type "set", dict := none, data := .set #[] 0 (.fresh 0 0 led) }).push { cls := .type "list_iterator", data := .fields #[.ref l, .int 0 0] } }) (by simp [hA]) ⟨nl, hol⟩ hv hlen (X := X) (z := z) (loc := loc) (cl := cl) (ms := ms) ?_ vs.length 0 (by exact om39) _ _ S2
        intro h' tk S3
        show wpAny _ _ _ _ _ _
        refine wpAny_pure ?_
        show wpAny _ _ (ret Value.none) _ _ _
        exact wpAny_pure ⟨rfl, h', tk, rfl, S3⟩
      · cases r₂ with
        | error e => exact hr₂
        | ok fl₂ =>
          cases fl₂ with
          | ret r =>
            obtain ⟨rfl, h', tk, rfl, S3⟩ := hr₂
            repeat (any_goals (first | assumption | wp_step))
            exact h _ _ _ S3
          | _ => exact hr₂
    | _ => exact hr
end

noncomputable abbrev bmO (d : Addr) : Obj → Prop := fun o => o = { cls := .type "builtin_function_or_method", data := .fields #[.builtin "set.__contains__", .ref d] }
namespace SC
theorem slot_get : Slot "method_descriptor" "__get__" "method_descriptor.__get__" :=
  .of (owner := "method_descriptor") (n := "__get__") (by rw [typeLookup_type, builtinLookup_eq_fast]; kernel_rfl) (by decide +kernel) (by decide +kernel) (by decide +kernel)
    (by first | exact .inl (by decide +kernel) | exact .inr (by decide +kernel)) (by rw [isSubtype_type]; kernel_rfl)
theorem entry_get : entryFor table "method_descriptor.__get__" = some Builtin.«method_descriptor.__get__» := entryFor_of_tree (by kernel_rfl)
theorem args_get (a b c : Value) : argsOk "method_descriptor.__get__" ⟨[a, b, c], []⟩ := by unfold argsOk; kernel_rfl
theorem type_c : typeOf (.builtin "set.__contains__") = pure (.type "method_descriptor") := PySem.F.type_set_contains
theorem told : Manifest.toldItsClass.contains "set.__contains__" = false := by decide +kernel
theorem lk_set : typeLookup (.type "method_descriptor") "__set__" = pure none := by rw [typeLookup_type, builtinLookup_eq_fast]; kernel_rfl
theorem lk_del : typeLookup (.type "method_descriptor") "__delete__" = pure none := by rw [typeLookup_type, builtinLookup_eq_fast]; kernel_rfl
theorem owner_c : ".".intercalate ("set.__contains__".cutAt '.').dropLast = "set" := by first | decide +kernel | kernel_rfl
theorem sub_c : isSubtype (.type "set") (.type (".".intercalate ("set.__contains__".cutAt '.').dropLast)) = pure true := by rw [owner_c, isSubtype_type]; kernel_rfl
theorem lk_ga : typeLookup (.type "set") "__contains__" = pure (some (.builtin "set.__contains__")) := PySem.F.slot_set_contains.lookup
theorem sub_mod : isSubtype (.type "set") (.type "module") = pure false := by rw [isSubtype_type]; kernel_rfl
theorem sub_type : isSubtype (.type "set") (.type "type") = pure false := by rw [isSubtype_type]; kernel_rfl
end SC
section
variable {w : World} {A : Around} {E : Value → Shared → Prop} {a : Addr} {o : Obj} {h : Heap} {g : Array GenState} {d : Drawn} {t : Nat} {os : OsState}
theorem bound_get {R : Result → Shared → Prop} (hx : h.get? a = some o) (hc : o.cls = .type "set")
    (hq : R (.ok (.ret (.ref h.objs.size))) ⟨h.push { cls := .type "builtin_function_or_method", data := .fields #[.builtin "set.__contains__", .ref a] }, g, d, t, os⟩) :
    codeAny (Md w) A (.call (.builtin "method_descriptor.__get__") ⟨[.builtin "set.__contains__", .ref a, .type "set"], []⟩) R ⟨h, g, d, t, os⟩ := by
  have hT : (⟨h, g, d, t, os⟩ : Shared).TypeIs (.ref a) "set" := ⟨_, hx, hc⟩
  have hT5 : (⟨h, g, d, t, os⟩ : Shared).TypeIs (.builtin "set.__contains__") "method_descriptor" := SC.type_c
  have f8 := SC.sub_c
  refine codeAny_call_builtin SC.slot_get.plain SC.entry_get (SC.slot_get.check _ _ _ _ _ _ _ _ hT5 (SC.args_get _ _ _) ?_)
  unfold Builtin.«method_descriptor.__get__»
  refine wpAny_bind (wpAny_of_eq (a := (.builtin "set.__contains__", some (.ref a), some (.type "set"))) (by first | rfl | kernel_rfl) ?_)
  dsimp only
  rw [SC.told]
  repeat (any_goals (first | assumption | wp_step))

theorem bound_entry {tk : Tok} {Q : Fin → Shared → Prop} (hx : h.get? a = some o) (hc : o.cls = .type "set") (hd : o.dict = none) (hset : ∃ es ep t, o.data = .set es ep t)
    (hq : Q (.done (.ret (.ref h.objs.size))) ⟨h.push { cls := .type "builtin_function_or_method", data := .fields #[.builtin "set.__contains__", .ref a] }, g, d, t, os⟩) :
    wpAny (Md w) A (Builtin.«object.__getattribute__» ⟨[.ref a, .str "__contains__" tk], []⟩) Q E ⟨h, g, d, t, os⟩ := by
  obtain ⟨oc, od, oda, osl⟩ := o
  obtain ⟨es, ep, tb, hset⟩ := hset
  dsimp only at hc hd hset
  subst hc hd hset
  have hT : (⟨h, g, d, t, os⟩ : Shared).TypeIs (.ref a) "set" := ⟨_, hx, rfl⟩
  have hT5 : (⟨h, g, d, t, os⟩ : Shared).TypeIs (.builtin "set.__contains__") "method_descriptor" := SC.type_c
  have f4 := SC.lk_ga
  have f5 := SC.type_c
  have f6 := SC.slot_get.lookup
  have f7 := SC.lk_set
  have f8 := SC.lk_del
  unfold Builtin.«object.__getattribute__»
  repeat (any_goals (first | assumption | wp_step))
  refine bound_get hx rfl ?_
  repeat (any_goals (first | assumption | wp_step))

theorem bound_call {tk : Tok} {R : Result → Shared → Prop} (hx : h.get? a = some o) (hc : o.cls = .type "set") (hd : o.dict = none) (hset : ∃ es ep t, o.data = .set es ep t)
    (hq : R (.ok (.ret (.ref h.objs.size))) ⟨h.push { cls := .type "builtin_function_or_method", data := .fields #[.builtin "set.__contains__", .ref a] }, g, d, t, os⟩) :
    codeAny (Md w) A (.call (.builtin "set.__getattribute__") ⟨[.ref a, .str "__contains__" tk], []⟩) R ⟨h, g, d, t, os⟩ :=
  codeAny_call_builtin PySem.F.slot_set_getattribute.plain PySem.F.entry_set_ga (PySem.F.slot_set_getattribute.check _ _ _ _ _ _ _ _ (show (⟨h, g, d, t, os⟩ : Shared).TypeIs (.ref a) "set" from ⟨_, hx, hc⟩) (PySem.F.args_set_getattribute_2 _ _) (bound_entry hx hc hd hset hq))

theorem bound_attr0 {Q : Value → Shared → Prop} (hx : h.get? a = some o) (hc : o.cls = .type "set") (hd : o.dict = none) (hset : ∃ es ep t, o.data = .set es ep t)
    (hq : Q (.ref h.objs.size) ⟨h.push { cls := .type "builtin_function_or_method", data := .fields #[.builtin "set.__contains__", .ref a] }, g, d, t + 1, os⟩) :
    wpAny (Md w) A (getAttr (.ref a) "__contains__" true) Q E ⟨h, g, d, t, os⟩ := by
  obtain ⟨oc, od, oda, osl⟩ := o
  obtain ⟨es, ep, tb, hset⟩ := hset
  dsimp only at hc hd hset
  subst hc hd hset
  have hT : ∀ t', (⟨h, g, d, t', os⟩ : Shared).TypeIs (.ref a) "set" := fun _ => ⟨_, hx, rfl⟩
  have f2 := PySem.F.slot_set_getattribute.lookup
  have f3 := PySem.F.slot_set_getattribute.bind (.ref a)
  unfold getAttr getAttrBy
  repeat (any_goals (first | assumption | exact hT _ | wp_step))
  refine bound_call hx rfl rfl ⟨_, _, _, rfl⟩ ?_
  repeat (any_goals (first | assumption | wp_step))
end

section
variable {X : Fx} {z z' h h' : Heap} {loc cl : List (Str × Value)} {ms : List (Addr × (Obj → Prop))}
variable {w : World} {A : Around} {E : Value → Shared → Prop} {s : Shared} {env : Env}
theorem bound_attr {a : Addr} {xs : List Str} {Q : Value → Shared → Prop} (S : St X z loc cl ms s.heap) (hs : ∃ o, s.heap.get? a = some o ∧ stO w xs o) (h : ∀ m h' tk, St X z loc cl ((m, bmO a) :: ms) h' → Q (.ref m) { s with heap := h', toks := tk }) :
    wpAny (Md w) A (getAttr (.ref a) "__contains__" true) Q E s := by
  obtain ⟨o, ho, n, hn, ⟨c, d, sl⟩, es, ep, t, hdat, -⟩ := hs
  obtain ⟨hp, g, dr, tk, os⟩ := s
  exact bound_attr0 ho c d ⟨_, _, _, hdat⟩ (h _ _ _ (S.push _ rfl))


theorem check_c0 (a : Addr) (k : Value) : Bind.checkArgs "set.__contains__" ⟨.oneArg, toString (Bind.lastOf "set") ++ toString "." ++ toString (Bind.lastOf "set.__contains__"), "__contains__", .self, [⟨"object", .posOnly, true⟩]⟩ ⟨[.ref a, k], []⟩ = pure () := by kernel_rfl
theorem check_c {a : Addr} {k : Value} {o : Obj} {Q : Unit → Shared → Prop} (hx : s.heap.get? a = some o) (hc : o.cls = .type "set") (hd : o.dict = none) (hset : ∃ es ep t, o.data = .set es ep t) (h : Q () s) : wpAny (Md w) A (checkBoundCall "set.__contains__" ⟨[.ref a, k], []⟩) Q E s := by
  unfold checkBoundCall
  obtain ⟨hp, g, dr, tk, os⟩ := s
  obtain ⟨oc, od, oda, osl⟩ := o
  obtain ⟨es, ep, tb, hset⟩ := hset
  dsimp only at hc hd hset hx
  subst hc hd hset
  have hT : (⟨hp, g, dr, tk, os⟩ : Shared).TypeIs (.ref a) "set" := ⟨_, hx, rfl⟩
  have f1 := SC.sub_mod
  have f2 : typeOf (.type "set") = pure (.type "type") := by first | rfl | kernel_rfl
  repeat (any_goals (first | assumption | wp_step))

theorem bound_in {m a : Addr} {xs : List Str} {k : Str} {t : Tok} {Q : Value → Shared → Prop} (hm : ∃ o, s.heap.get? m = some o ∧ bmO a o) (hs : ∃ o, s.heap.get? a = some o ∧ stO w xs o) (hlen : xs.length ≤ 1000) (h : Q (.bool (decide (k ∈ xs))) { s with toks := s.toks + 1 }) :
    wpAny (Md w) A (call (.ref m) [.str k t]) Q E s := by
  obtain ⟨_, hm, rfl⟩ := hm
  obtain ⟨o, ho, n, hn, hso⟩ := hs
  have hsb9 : scanBound = 4096 := rfl
  have hS := hso.setOf ho (by exact om40 hlen hn hsb9)
  obtain ⟨⟨c, d, sl⟩, es, ep, tb, hdat, -⟩ := hso
  refine wpAny_call (codeAny_of_tree ?_)
  show wpAny _ A.in1 (callAny (.ref m) ⟨[.str k t], []⟩) _ _ s
  simp only [callAny]
  refine wpAny_bind (wpAny_load hm ?_)
  simp only [show (Value.type "builtin_function_or_method" == Value.type "method" || Value.type "builtin_function_or_method" == Value.type "builtin_function_or_method" || Value.type "builtin_function_or_method" == Value.type "method-wrapper") = true by decide, if_true]
  refine KFB.if_so (by decide) ?_
  refine wpAny_bind (check_c ho c d ⟨_, _, _, hdat⟩ ?_)
  refine wpAny_bind (wpAny_pure (wpAny_pure ?_))
  refine ⟨Code.quiet_builtin _ (by decide +kernel), codeAny_builtin entry_set_contains ?_⟩
  unfold Builtin.«frozenset.__contains__» Builtin.Frozenset.oneOther
  simp only [List.isEmpty_nil, bind_assoc]
  unfold Builtin.Frozenset.addrOf Builtin.Frozenset.withSetAsKey setContains
  refine wpAny_bind (wpAny_pure ?_)
  try dsimp only
  refine wpAny_bind (wpAny_pure ?_)
  try dsimp only
  refine wpAny_bind (wpAny_tryCatch ?_)
  refine wpAny_holding ?_
  refine wpAny_bind ((sk w).pyHash (sk_is w k t) ?_)
  refine wpAny_bind (wpAny_setFind_of (knd := sk w) (s := { s with toks := s.toks + 1 }) (sk_is w k t) rfl hS fun r hr => ?_)
  refine wpAny_pure ?_
  show wpAny _ _ (ret (Value.bool r.isSome)) _ _ _
  rw [hr]
  exact wpAny_pure h
end

section
variable {X : Fx} {z z' h h' : Heap} {loc cl : List (Str × Value)} {ms : List (Addr × (Obj → Prop))}
variable {w : World} {A : Around} {E : Value → Shared → Prop} {s : Shared} {env : Env}
theorem while_stE {test : Expr} {body : List Stmt} {pos : Pos} {Q : Flow → Shared → Prop} (hE : PassesOwn (Md w) A env E) (J : Inv) (R : Rs) (n : Nat)
    (S : St X z loc cl ms s.heap) (j0 : J n z loc cl ms) (r0 : R s.os s.gens)
    (turn : ∀ n z' loc cl ms (s : Shared), z.StaysIn z' → J n z' loc cl ms → R s.os s.gens → St X z' loc cl ms s.heap →
      wpAny (Md w) A (isTrue test env (eval test env)) (fun b s2 => if b = true then wpAny (Md w) A (execs body env) (fun f s3 => match f with
        | .next | .cont => Turn X z' J R n s3
        | .brk => Q .next s3
        | .ret v => Q (.ret v) s3) E s2 else Q .next s2) E s) :
    wpAny (Md w) A (exec (.While test body [] pos) env) Q E s := by
  refine whl_start 0 ?_
  have key : ∀ k n, n ≤ k → ∀ z' loc cl ms (s : Shared), z.StaysIn z' → J n z' loc cl ms → R s.os s.gens → St X z' loc cl ms s.heap → WhlRest Pr w A E env test body [] Q 0 s := by
    intro k
    induction k with
    | zero =>
      intro n hn z' loc' cl' ms' s' hz hj hr S'
      refine whl_turn (k := 0) hE (wpAny_mono (turn n z' loc' cl' ms' s' hz hj hr S') (fun b s2 h2 => ?_) fun _ _ x => x)
      unfold WhlIf
      cases b with
      | true =>
        rw [if_pos rfl] at h2 ⊢
        refine wpAny_mono h2 (fun f s3 h3 => ?_) fun _ _ x => x
        cases f with
        | next => obtain ⟨m, hm, _⟩ := h3; omega
        | cont => obtain ⟨m, hm, _⟩ := h3; omega
        | brk => exact h3
        | ret v => exact h3
      | false =>
        rw [if_neg Bool.false_ne_true] at h2 ⊢
        exact wpAny_execs_nil h2
    | succ k ih =>
      intro n hn z' loc' cl' ms' s' hz hj hr S'
      refine whl_turn (k := 0) hE (wpAny_mono (turn n z' loc' cl' ms' s' hz hj hr S') (fun b s2 h2 => ?_) fun _ _ x => x)
      unfold WhlIf
      cases b with
      | true =>
        rw [if_pos rfl] at h2 ⊢
        refine wpAny_mono h2 (fun f s3 h3 => ?_) fun _ _ x => x
        cases f with
        | next => obtain ⟨m, hm, z2, l2, c2, m2, k2, j2, r2, S3⟩ := h3; exact ih m (by exact om41 hn hm) z2 l2 c2 m2 s3 (stays_trans hz k2) j2 r2 S3
        | cont => obtain ⟨m, hm, z2, l2, c2, m2, k2, j2, r2, S3⟩ := h3; exact ih m (by exact om41 hn hm) z2 l2 c2 m2 s3 (stays_trans hz k2) j2 r2 S3
        | brk => exact h3
        | ret v => exact h3
      | false =>
        rw [if_neg Bool.false_ne_true] at h2 ⊢
        exact wpAny_execs_nil h2
  exact key n n (Nat.le_refl _) z loc cl ms s (stays_refl z) j0 r0 S

theorem is_rt {a : Addr} {T : String} {Q : Value → Shared → Prop} (h : Q (.bool false) s) : wpAny (Md w) A (compareOp .Is (.ref a) (.type T)) Q E s := by
  exact wpAny_is_other rfl (by simp) h
theorem Heap.mu_of {a : Addr} {p : Obj → Prop} (hm : ∃ o, z.get? a = some o ∧ p o) (k : z.StaysIn h) : ∃ o, h.get? a = some o ∧ p o := by obtain ⟨o, e, q⟩ := hm; exact ⟨o, k _ _ e, q⟩
noncomputable def BoundAt (h : Heap) (m a : Addr) : Prop := ∃ o, h.get? m = some o ∧ bmO a o
theorem BoundAt.keep {m a : Addr} (b : BoundAt z m a) (k : z.StaysIn h) : BoundAt h m a := by obtain ⟨o, e, q⟩ := b; exact ⟨o, k _ _ e, q⟩
theorem cw_bound {pos : Pos} {u a : Addr} {e : Expr} {rest : List Expr} {Q : Value → Shared → Prop}
    (h : wpAny (Md w) A (spliced (backTo pos (starEach (e :: rest) env))) (fun vs s₁ => BoundAt s₁.heap u a ∧ wpAny (Md w) A (call (.ref u) vs) Q E s₁) E s)
    (he : starEach (e :: rest) env = (false, eval e env) :: starEach rest env := by rfl) (hplain : (backTo pos (starEach rest env)).any (·.1) = false := by rfl) :
    wpAny (Md w) A (callWith pos (.ref u) [] (backTo pos (starEach (e :: rest) env)) []) Q E s := by
  rw [he] at h ⊢
  unfold callWith
  have h0 : wpAny (Md w) A (evalArgs (.ref u) true (backTo pos ((false, eval e env) :: starEach rest env)) []) (fun x s₁ => BoundAt s₁.heap u a ∧ wpAny (Md w) A (call (.ref u) ([] ++ x.pos) x.kw) Q E s₁) E s := evalArgs_plain h
  refine wpAny_bind (wpAny_holding (wpAny_mono h0 (fun x s₁ h₁ => wpAny_bind (wpAny_standAt ?_)) fun _ _ x => x))
  obtain ⟨⟨o, ho, rfl⟩, hcall⟩ := h₁
  have hp2 : (backTo pos ((false, eval e env) :: starEach rest env)).any (·.1) = false := by show (false || (backTo pos (starEach rest env)).any (·.1)) = false; rw [hplain]; rfl
  simp only [hp2, List.any_nil, Bool.or_false]
  refine wpAny_bind (m := keeperOf (.ref u)) ?_
  unfold keeperOf
  refine wpAny_bind (wpAny_load ho ?_)
  simp only [show (Value.type "builtin_function_or_method" != Value.type "method") = true by decide, show (Value.type "builtin_function_or_method" == Value.type "builtin_function_or_method" || Value.type "builtin_function_or_method" == Value.type "method-wrapper") = true by decide, if_true]
  refine wpAny_pure ?_
  exact wpAny_bind (wpAny_mono hcall (fun r s₂ hr => wpAny_bind (wpAny_holding (wpAny_point (wpAny_pure hr)))) fun _ _ x => x)
/-- the object of the class filterfalse -/
noncomputable abbrev ffO (dx it m : Addr) : Obj := { cls := .ref 124, dict := some dx, data := .plain, slots := #[some (.ref m), some (.ref it)] }
theorem sl_get {x dx p : Addr} {name : Str} {ox : Obj} {i : Nat} {v : Value} {expr : Bool} {Q : Value → Shared → Prop} (b : Bs w s.heap) (hx : s.heap.get? x = some ox) (hc : ox.cls = .ref 124) (hn : notCls ox = true) (hd : ox.dict = some dx) (hdx : s.heap.get? dx = some emptyDict)
    (hf : findObj (Ks w) 124 (some emptyDict) name = some (.bind (.builtin "member_descriptor.__get__") (.ref p))) (hp : slotIn (Ks w) p 124 = some i) (hv : (ox.slots[i]?).join = some v) (hv2 : handedIn v = true) (h : Q v { s with toks := s.toks + 1 }) :
    wpAny (Md w) A (getAttr (.ref x) name expr) Q E s := by
  have I : InstAt s.heap x ox 124 (some emptyDict) := ⟨hx, hc, hn, by rw [hd]; exact hdx⟩
  refine get_bind (K := Ks w) b.k I (by rfl) hf (by rfl) ?_
  refine wpAny_call ?_
  refine slot_get (K := Ks w) (s := { s with toks := s.toks + 1 }) b.k I hp hv ?_
  show wpAny _ _ (handedOut v) _ _ _
  rw [handedOut_of hv2]
  exact wpAny_pure h
end

theorem next_spec {w : World} {z : Heap} {A : Around} {s : Shared} {E : Value → Shared → Prop} {Q : Value → Shared → Prop} {fs : List Addr} {outer : List Env} {x dx it m a l : Addr} {vs : List Value} {xs ys : List Str} {i : Nat} (b : Bs w z) (hz : z.StaysIn s.heap) (o : Ok A 5 40)
    (F : Frm outer fs z s.heap) (hA : A.frames = some outer) (hit : z.get? it = none ∧ ∃ ob, s.heap.get? it = some ob ∧ liO l i ob) (hitf : it ∉ fs)
    (hx : z.get? x = some (ffO dx it m)) (hdx : z.get? dx = some emptyDict) (hm : BoundAt z m a) (ha : ∃ o, z.get? a = some o ∧ stO w ys o) (hl : z.PlainList l vs.toArray) (hv : All2 StrIs vs xs) (hlen : xs.length ≤ 1000) (hlen2 : ys.length ≤ 1000) (hi : i ≤ xs.length)
    (hQ : ∀ j k t z' s', i ≤ j → j < xs.length → (∀ q k, i ≤ q → q < j → xs[q]? = some k → k ∈ ys) → xs[j]? = some k → k ∉ ys → vs[j]? = some (.str k t) → z.StaysIn z' → z'.StaysIn s'.heap → Ws fs (hideAll s.heap [it]) s'.heap → s'.os = s.os → s'.gens = s.gens →
      (∀ b o, z'.get? b = some o → z.get? b = some o ∨ (hideAll s.heap [it]).get? b = none) → (∃ ob, s'.heap.get? it = some ob ∧ liO l (j + 1) ob) → Q (.str k t) s')
    (hE : ∀ e s', (∀ q k, i ≤ q → xs[q]? = some k → k ∈ ys) → z.StaysIn s'.heap → Ws fs (hideAll s.heap [it]) s'.heap → s'.os = s.os → s'.gens = s.gens → (∃ ob, s'.heap.get? e = some ob ∧ ob.cls = .type "StopIteration") → E (.ref e) s') :
    wpAny (Md w) A (call (.ref 120) [.ref x]) Q E s := by
  refine' call_fnA (ad := [(it, liO l i)]) (fs := fs) (d := 4) (u := 37) (binds := [("self", .ref x)]) b hz o ?hfs ?had ?hnd ?ho ?hcd ?hbind ?hcell ?hloc ?hco ?hgen ?hk ?_
  (case hfs => exact fun f hf => ⟨by obtain ⟨_, o, e, _⟩ := F.fs f hf; rw [e]; simp, by simp only [List.map_cons, List.map_nil, List.mem_singleton]; exact fun q => hitf (q ▸ hf)⟩)
  (case had => exact fun p hp => by obtain rfl := List.mem_singleton.mp hp; exact hit)
  (case hnd => simp)
  ((case ho => exact rfl); (case hcd => exact rfl); (case hbind => exact rfl); (case hcell => decide); (case hloc => exact locs rfl); (case hco => exact rfl); (case hgen => exact rfl); (case hk => exact rfl))
  intro s₁ S e1 e2 o1
  have hxl := hv.length
  have F' : Frm outer fs z (hideAll s.heap [it]) := ⟨F.env, fun f hf => by obtain ⟨a, o, e, d⟩ := F.fs f hf; exact ⟨a, o, hideAll_get _ e (by simp only [List.mem_singleton]; exact fun q => hitf (q ▸ hf)), d⟩⟩
  have gx : ∀ {h : Heap}, z.StaysIn h → h.get? x = some (ffO dx it m) := fun k => k _ _ hx
  (repeat' (first | walk1 | (dsimp only; walk1)))
  refine sl_get (S.bs b) (gx S.frz) rfl rfl rfl (S.frz _ _ hdx) (by rfl) (by rfl) rfl rfl ?_
  (repeat' (first | walk1 | (dsimp only; walk1)))
  rename_i h2 S2
  refine while_stE ?_ (fun n z' loc cl ms => ∃ j, i ≤ j ∧ j + n = xs.length ∧ (∀ q k, i ≤ q → q < j → xs[q]? = some k → k ∈ ys) ∧ loc = ([("func", .ref m), ("self", .ref x)] : Lo) ∧ cl = [] ∧ ms = ([(it, liO l j)] : Ml)) (Rse s) (xs.length - i)
    (S2.less (loc' := [("func", .ref m), ("self", .ref x)]) (cl' := []) (by exact rfl) (by exact rfl)) ⟨i, Nat.le_refl _, by exact om42 hi, fun q k h1 h2 => by omega, rfl, rfl, rfl⟩ ⟨e1, e2⟩ ?_
  · exact PassesOwn.leaving
  · rintro n z' _ _ _ s₂ hz' ⟨j, hj1, hj2, hj3, rfl, rfl, rfl⟩ ⟨r1, r2⟩ S3
    have hl' : z'.IsList l vs.toArray := hl.isList.at fun _ e => hz' _ _ e
    (repeat' (first | walk1 | (dsimp only; walk1)))
    refine sl_get (S3.bs b) (gx (stays_trans hz' S3.frz)) rfl rfl rfl (S3.frz _ _ (hz' _ _ hdx)) (by rfl) (by rfl) rfl rfl ?_
    (repeat' (first | walk1 | (dsimp only; walk1)))
    obtain ⟨ob, hob, hp⟩ := S3.mu _ List.mem_cons_self
    have hit3 : s₂.heap.IsListIter it l j := ⟨ob, hob, hp⟩
    have hl3 : s₂.heap.IsList l vs.toArray := hl'.at fun _ e => S3.frz _ _ e
    by_cases hjn : j < xs.length
    · have hxj : xs[j]? = some xs[j] := by simp [hjn]
      obtain ⟨v, hvj, t, rfl⟩ := hv.get hxj
      generalize hk : xs[j] = k at *
      refine nx_item hit3 hl3 (x := .str k t) (by simpa using hvj) fun h' hit' hsb => ?_
      obtain ⟨o'4, a4, b4⟩ := hit'
      have S4 : St _ _ _ _ ((it, liO l (j + 1)) :: []) h' := S3.setm hsb a4 b4
      (repeat' (first | walk1 | (dsimp only; walk1)))
      refine is_rt ?_
      (repeat' (first | walk1 | (dsimp only; walk1)))
      refine cw_bound (a := a) ?_
      (repeat' (first | walk1 | (dsimp only; walk1)))
      · exact hm.keep (stays_trans hz' (St.frz (by assumption)))
      refine bound_in (Heap.mu_of hm (stays_trans hz' (St.frz (by assumption)))) (Heap.mu_of ha (stays_trans hz' (St.frz (by assumption)))) hlen2 ?_
      (repeat' (first | walk1 | (dsimp only; walk1)))
      · rename_i h5 S5 hin
        have hin : k ∈ ys := by simpa using hin
        refine ⟨n - 1, by exact om43 hj2 hjn, z', _, _, _, stays_refl _, ⟨j + 1, by exact om44 hj1, by exact om45 hj2 hjn, fun q k' h1 h2 h3 => ?_, rfl, rfl, rfl⟩, And.intro r1 r2, S5.less (loc' := [("func", .ref m), ("self", .ref x)]) (cl' := []) (by exact rfl) (by exact rfl)⟩
        by_cases hq : q = j
        · subst hq; rw [hxj] at h3; cases h3; exact hin
        · exact hj3 q k' h1 (by exact om46 h2 hq) h3
      · rename_i h5 S5 hin
        have hin : k ∉ ys := by simpa using hin
        exact hQ j k t z' _ hj1 hjn hj3 hxj hin hvj hz' S5.frz S5.old r1 r2 S5.fresh (S5.mu _ List.mem_cons_self)
    · obtain rfl : j = xs.length := by exact om47 hj2 hjn
      refine nx_stop o1.hd hit3 hl3 (by simp; exact om48 hxl) fun e h' P => ?_
      refine leave_stop S3 F' ?_ rfl (fun q => nomatch q) P ?_
      · show A.frames.map _ = _
        rw [hA]; rfl
      · intro h2 kz kw ⟨oe, he, hc⟩
        exact hE _ _ (fun q k h1 h2 => hj3 q k h1 (List.getElem?_eq_some_iff.mp h2).1 h2) (stays_trans hz' kz) kw r1 r2 ⟨oe, he, hc⟩

section
variable {X : Fx} {z z' h h' hB : Heap} {loc cl : List (Str × Value)} {ms : List (Addr × (Obj → Prop))}
variable {w : World} {A : Around} {E : Value → Shared → Prop} {s : Shared} {env : Env}

theorem code_fnA {ad : Ml} {fs : List Addr} {d u : Nat} {name qual : Str} {params : Arguments} {body : List Stmt} {scope : Scope} {dV kV doc pm cdv ct oc : Value} {an od : Option Addr} {osl : Array (Option Value)} {f : Addr} {args : List Value} {binds : List (Str × Value)} {R : Result → Shared → Prop}
    (b : Bs w z) (hz : z.StaysIn s.heap) (o : Ok A (d + 1) (u + 3))
    (hfs : ∀ f ∈ fs, s.heap.get? f ≠ none ∧ f ∉ ad.map (·.1)) (had : ∀ p ∈ ad, z.get? p.1 = none ∧ ∃ o, s.heap.get? p.1 = some o ∧ p.2 o) (hnd : (ad.map (·.1)).Nodup)
    (ho : (Ks w).lookup f = some ⟨oc, od, .func (fnOf name qual params body scope dV kV doc pm an cdv ct), osl⟩) (hcd : codeIn (Ks w) cdv qual = true)
    (hbind : bindArgs (fnOf name qual params body scope dV kV doc pm an cdv ct) ⟨args, []⟩ = pure binds) (hcell : ∀ x ∈ scope.names, x.2 ≠ .cell) (hloc : ∀ x ∈ binds, scope.names.lookup x.1 = some .local)
    (hco : scope.isCoroutine = false) (hgen : scope.isGenerator = false) (hk : scope.kind = .function)
    (h : ∀ s₁ : Shared, St (Fx.mk z (hideAll s.heap (ad.map (·.1))) s.heap.objs.size [] fs) z binds.reverse [] ad s₁.heap → s₁.os = s.os → s₁.gens = s.gens → Ok (A.deeper (envX qual scope s.heap.objs.size f cdv [])) d u →
      wpAny (Md w) (A.deeper (envX qual scope s.heap.objs.size f cdv [])) (execs body (envX qual scope s.heap.objs.size f cdv [])) (fun fl s' => R (.ok (.ret (match fl with | .ret v => v | _ => .none))) s')
        (fun e s' => wpAny (Md w) (A.deeper (envX qual scope s.heap.objs.size f cdv [])) (leaving (envX qual scope s.heap.objs.size f cdv []) e) (fun _ s'' => R (.error e) s'') (fun e' s'' => R (.error e') s'') s') s₁) :
    codeAny (Md w) A (.call (.ref f) ⟨args, []⟩) R s := by
  have bs := b.mono hz
  refine codeAny_call_def (fd := fnOf name qual params body scope dV kV doc pm an cdv ct) o.room (bs.k _ _ ho) rfl bs.nolimit (codeRec_of bs.k hcd) rfl (BindsTo.of_eq hbind) hcell hloc (fun h₁ hn hkp => ?_) hco hgen hk
  refine h { s with heap := h₁, toks := s.toks + binds.length } ?_ rfl rfl (o.deeper _)
  have hsz : ∀ a, s.heap.objs.size ≤ a → s.heap.get? a = none := fun a ha => get_size_none _ ha
  have hno : ∀ a, (hideAll s.heap (ad.map (·.1))).get? a = none ∨ s.heap.get? a ≠ none := fun a => by
    cases q : (hideAll s.heap (ad.map (·.1))).get? a with
    | none => exact .inl rfl
    | some o => exact .inr (by rw [of_hideAll _ q]; simp)
  refine ⟨.of fun b o e => hkp b o (of_hideAll _ e), fun f hf => ?_, stays_refl z, stays_trans hz hkp, fun b o e => .inl e, ⟨_, hn, fun _ _ e => e⟩, fun _ hp => (nomatch hp), fun p hp => ?_, ?_, ?_⟩
  · obtain ⟨e1, e2⟩ := hfs f hf
    cases q : s.heap.get? f with
    | none => exact absurd q e1
    | some o => rw [show (hideAll s.heap (ad.map (·.1))).get? f = some o from hideAll_get _ q e2]; simp
  · obtain ⟨_, o, e, q⟩ := had p hp
    exact ⟨o, hkp _ _ e, q⟩
  · intro a ha
    simp only [Fx.pv, List.map_nil, List.nil_append, List.mem_cons] at ha
    rcases ha with rfl | ha
    · refine ⟨?_, ?_⟩
      · cases q : z.get? s.heap.objs.size with
        | none => rfl
        | some o => exact absurd (Heap.lt_size (hz _ _ q)) (Nat.lt_irrefl _)
      · exact (hno _).elim id fun q => absurd (hsz _ (Nat.le_refl _)) q
    · obtain ⟨p, hp, rfl⟩ := List.mem_map.mp ha
      exact ⟨(had p hp).1, hideAll_none _ ha⟩
  · simp only [Fx.pv, List.map_nil, List.nil_append, List.nodup_cons]
    refine ⟨fun hm => ?_, hnd⟩
    obtain ⟨p, hp, e⟩ := List.mem_map.mp hm
    obtain ⟨_, o, eo, _⟩ := had p hp
    have := Heap.lt_size eo
    rw [show p.1 = s.heap.objs.size from e] at this
    exact absurd this (Nat.lt_irrefl _)

/-- an object made by another becomes one's own -/
theorem St.adopt {a : Addr} {p : Obj → Prop} {loc₀ cl₀ : List (Str × Value)} {ms₀ : List (Addr × (Obj → Prop))} (S : St X z loc₀ cl₀ ms₀ hB) (S2 : St X z' loc cl ms h') (hm : ms.map (·.1) = ms₀.map (·.1)) (hb : hB.get? a = none) (hz : z'.get? a = none) (ho : ∃ o, h'.get? a = some o ∧ p o) : St X z' loc cl ((a, p) :: ms) h' where
  old := S2.old
  fsk := S2.fsk
  z0 := S2.z0
  frz := S2.frz
  fresh := S2.fresh
  ns := S2.ns
  cell := S2.cell
  mu := fun q hq => by
    rcases List.mem_cons.mp hq with rfl | hq
    · exact ho
    · exact S2.mu q hq
  own := fun q hq => by
    simp only [Fx.pv, List.map_cons, List.mem_cons, List.mem_append] at hq
    rcases hq with h1 | h1 | h1 | h1
    · exact S2.own q (by simp [Fx.pv, h1])
    · exact S2.own q (by simp only [Fx.pv, List.mem_cons, List.mem_append]; exact .inr (.inl h1))
    · subst h1
      refine ⟨hz, ?_⟩
      cases e : X.hE.get? q with
      | none => rfl
      | some o => obtain ⟨o', e', _⟩ := S.old.there e; rw [hb] at e'; cases e'
    · exact S2.own q (by simp only [Fx.pv, List.mem_cons, List.mem_append]; exact .inr (.inr h1))
  nodup := by
    have nd := S2.nodup
    have hn : a ∉ X.pv ms := fun q => by rw [Fx.pv, hm] at q; obtain ⟨o, e⟩ := S.alive a q; rw [hb] at e; cases e
    simp only [Fx.pv, List.map_cons, List.nodup_cons, List.nodup_append, List.mem_append, List.mem_cons, not_or] at nd hn ⊢
    refine ⟨⟨nd.1.1, fun e => hn.1 e.symm, nd.1.2⟩, nd.2.1, ⟨hn.2.2, nd.2.2.1⟩, fun x hx y hy => ?_⟩
    rcases hy with rfl | hy
    · exact fun e => hn.2.1 (e ▸ hx)
    · exact nd.2.2.2 x hx y hy

open Builtin Builtin.SmallTypes in
theorem iter_list {l : Addr} {vs : Array Value} {Q : Value → Shared → Prop} (S : St X z loc cl ms s.heap) (hl : s.heap.IsList l vs) (h : ∀ I h', St X z loc cl ((I, liO l 0) :: ms) h' → Q (.ref I) { s with heap := h' }) :
    wpAny (Md w) A (call (.builtin "iter") [.ref l]) Q E s := by
  have S1 := S.push { cls := .type "list_iterator", data := .fields #[.ref l, .int 0 0] } (p := liO l 0) ⟨rfl, rfl⟩
  refine call_function_entry (by decide +kernel) (by decide +kernel) kdk_entry_iter (kdk_args_iter _) ?_
  unfold Builtin.«iter»
  refine wpAny_bind (m := someArgs "iter" 1 2 _) (wpAny_of_eq (a := [Value.ref l]) (by first | rfl | kernel_rfl!) ?_)
  exact wpAny_bind (wpAny_pyIter_list hl (wpAny_pure ⟨_, rfl, h _ _ S1⟩))

theorem sl_set {x dx p : Addr} {name : Str} {ox ox' : Obj} {i : Nat} {v : Value} {Q : Unit → Shared → Prop} (b : Bs w s.heap) (S : St X z loc cl ((x, (· = ox)) :: ms) s.heap) (hc : ox.cls = .ref 124) (hn : notCls ox = true) (hd : ox.dict = some dx) (hdx : z.get? dx = some emptyDict)
    (ht : takerIn (Ks w) 124 name = some (some (.ref p))) (hT : typeIn (Ks w) (.ref p) = some (.type "member_descriptor")) (hp : slotIn (Ks w) p 124 = some i) (hi : i < 1000)
    (e : { ox with slots := (ox.slots ++ Array.replicate (i + 1 - ox.slots.size) none).setIfInBounds i (some v) } = ox') (hf : ox'.isFreed = false)
    (h : ∀ h', St X z loc cl ((x, (· = ox')) :: ms) h' → Q () { s with heap := h', toks := s.toks + 1 }) :
    wpAny (Md w) A (setAttr (.ref x) name v) Q E s := by
  obtain ⟨o, hx, ho⟩ := S.mu _ List.mem_cons_self
  dsimp only at hx ho
  subst ho
  have I : InstAt s.heap x o 124 (some emptyDict) := ⟨hx, hc, hn, by rw [hd]; exact S.frz _ _ hdx⟩
  refine set_plain (K := Ks w) b.k I (by rfl) ?_
  have I2 : InstAt ({ s with toks := s.toks + 1 } : Shared).heap x o 124 (some emptyDict) := I
  refine osa_descr (K := Ks w) KF.slot_mset b.k I2 (by rfl) ht hT ?_
  obtain ⟨n, tn, owner, behind, tb, d, sl, cd, hob, hcl, hm, hb, rfl⟩ := slot_of b.k hp
  obtain ⟨hh, g, dr, t, os⟩ := s
  have L0 := I.type (M := Md w)
  have L1 := looks_mroIn (M := Md w) b.k hm
  have L2 : Looks (Md w) hh (Builtin.Slots.slotNamesOf (.ref 124)) cd.slotNames := (looks_clsIn b.k hcl).andThen .now
  dsimp only at hob hx L0 L1
  have f0 := looks_field (M := Md w) hob 0 (v := .str n tn) rfl
  have f1 := looks_field (M := Md w) hob 1 (v := owner) rfl
  have f3 := looks_field (M := Md w) hob 3 (v := .builtin "proto.slot#set") rfl
  have f4 := looks_field (M := Md w) hob 4 (v := .int behind tb) rfl
  refine codeAny_call_builtin KF.slot_mset.plain KF.entry_mset (KF.slot_mset.check _ _ _ _ _ _ _ _ ⟨_, hob, rfl⟩ (KF.args_mset _ _ _) ?_)
  unfold Builtin.«member_descriptor.__set__» Builtin.Getset_descriptor.descrSet Builtin.Getset_descriptor.descrStoreThrough Builtin.Getset_descriptor.descrCheckInstance Builtin.Getset_descriptor.descrNameAndClass isInstance
  have f5 : Looks (Md w) hh (Builtin.Getset_descriptor.descrItself (.ref p)) [.ref p] := ((Looks.ld (part := none) hob).andThen .now).andThen (Looks.of_pure (by kernel_rfl))
  repeat lk
  refine ⟨Code.quiet_builtin _ (by decide +kernel), codeAny_builtin KF.entry_slotset ?_⟩
  unfold Builtin.«proto.slot#set» Builtin.Slots.target
  repeat lk
  rw [if_neg hb]
  refine wpAny_pure (wpAny_bind ?_)
  unfold setSlotAt
  dsimp only
  rw [if_neg (by rw [sizeLine_eq]; exact om49 hi)]
  refine wpAny_updatePart hx (wpAny_pure (h _ ?_))
  refine S.setm (o' := ox') (Heap.SameBut.update ..) ?_ rfl
  rw [← e]
  exact Heap.get?_update_self _ hx (by rw [← e] at hf; exact hf)

theorem ff_new {m l : Addr} {vs : Array Value} {Q : Value → Shared → Prop} (b : Bs w X.z0) (o : Ok A 6 60) (S : St X z loc cl ms s.heap) (hl : z.PlainList l vs) 
    (h : ∀ x dx it z' s', z.StaysIn z' → St X z' loc cl ((it, liO l 0) :: (x, (· = ffO dx it m)) :: ms) s'.heap → z'.get? dx = some emptyDict → s'.os = s.os → s'.gens = s.gens → Q (.ref x) s') :
    wpAny (Md w) A (call (.ref 124) [.ref m, .ref l]) Q E s := by
  have bs := S.bs b
  have S1 := (S.push emptyDict (p := (· = emptyDict)) rfl).push (instObj 124 s.heap.objs.size) (p := (· = instObj 124 s.heap.objs.size)) rfl
  obtain ⟨z1, k1, S2, o1, g1, rfl⟩ := S1.swap.freeze
  rw [Heap.size_push] at S2
  refine wpAny_call ?_
  obtain ⟨hh, g, d, t, os⟩ := s
  have Y : Makes (Md w) hh 124 := makes_of (K := Ks w) bs.k (by rfl)
  refine make_core (init := .ref 106) Y (looks_findIn (K := Ks w) bs.k (by rfl)) (fun self => bind_fn (K := Ks w) bs.k self (by rfl)) (.inl rfl) ?_
  have b1 : Bs w z1 := S2.bsz b
  have oI : Ok (A.under (.builtin "type.__call__" ⟨[.ref 124, .ref m, .ref l], []⟩)) 5 40 := ⟨o.hd, by have := o.dep; show A.depth + (Code.builtin "type.__call__" ⟨[.ref 124, .ref m, .ref l], []⟩).weight + 5 < _; rw [show (Code.builtin "type.__call__" ⟨[.ref 124, .ref m, .ref l], []⟩).weight = 1 from rfl]; exact om50 this, by have := o.un; show A.units + (Code.builtin "type.__call__" ⟨[.ref 124, .ref m, .ref l], []⟩).cUnits + 40 < _; rw [show (Code.builtin "type.__call__" ⟨[.ref 124, .ref m, .ref l], []⟩).cUnits = 1 from rfl]; exact om51 this⟩
  have own0 := S2.own (hh.objs.size + 1) (by simp [Fx.pv])
  refine' code_fnA (z := z1) (ad := [(hh.objs.size + 1, (· = instObj 124 hh.objs.size))]) (fs := []) (d := 4) (u := 37) (binds := [("self", .ref (hh.objs.size + 1)), ("function", .ref m), ("iterable", .ref l)]) b1 S2.frz oI ?hfs ?had ?hnd ?ho ?hcd ?hbind ?hcell ?hloc ?hco ?hgen ?hk ?_
  (case hfs => exact fun f hf => nomatch hf)
  (case had => exact fun p hp => by obtain rfl := List.mem_singleton.mp hp; exact ⟨own0.1, S2.mu _ List.mem_cons_self⟩)
  (case hnd => simp)
  ((case ho => exact rfl); (case hcd => exact rfl); (case hbind => exact rfl); (case hcell => decide); (case hloc => exact locs rfl); (case hco => exact rfl); (case hgen => exact rfl); (case hk => exact rfl))
  intro s₁ S3 e1 e2 o3
  have hl1 : z1.IsList l vs := hl.isList.at fun _ e => k1 _ _ e
  (repeat' (first | walk1 | (dsimp only; walk1)))
  refine plainObj_wpAny_Assign_Attribute ?_ ?_
  rotate_left
  · with_unfolding_all rfl
  (repeat' (first | walk1 | (dsimp only; walk1)))
  refine iter_list S3 (hl1.at fun _ e => S3.frz _ _ e) fun it h2 S4 => ?_
  (repeat' (first | walk1 | (dsimp only; walk1)))
  refine sl_set (S4.bs b1) S4.swap rfl rfl rfl g1 (by rfl) (by rfl) (by rfl) (by decide) rfl rfl fun h3 S5 => ?_
  (repeat' (first | walk1 | (dsimp only; walk1)))
  refine plainObj_wpAny_Assign_Attribute ?_ ?_
  rotate_left
  · with_unfolding_all rfl
  (repeat' (first | walk1 | (dsimp only; walk1)))
  refine sl_set (S5.bs b1) S5 rfl rfl rfl g1 (by rfl) (by rfl) (by rfl) (by decide) rfl rfl fun h4 S6 => ?_
  (repeat' (first | walk1 | (dsimp only; walk1)))
  refine ⟨rfl, ?_⟩
  have P6 := S6.nodup
  simp only [Fx.pv, List.map_cons, List.map_nil, List.nil_append, List.nodup_cons, List.mem_cons, List.not_mem_nil, not_or, or_false] at P6
  have own6 := S6.own it (by simp [Fx.pv])
  have hbn : ((hh.push emptyDict).push (instObj 124 hh.objs.size)).get? it = none := by
    cases q : ((hh.push emptyDict).push (instObj 124 hh.objs.size)).get? it with
    | none => rfl
    | some oo =>
      have := hideAll_get [hh.objs.size + 1] q (by simp only [List.mem_singleton]; exact fun e => P6.2.1 e.symm)
      have e2 : (hideAll ((hh.push emptyDict).push (instObj 124 hh.objs.size)) [hh.objs.size + 1]).get? it = none := own6.2
      rw [e2] at this; cases this
  obtain ⟨ox, hox, hpx⟩ := S6.mu _ List.mem_cons_self
  have S7 := S2.back (h' := h4) (o' := ox) (p' := (· = ffO hh.objs.size it m)) S6.old (fun _ q => nomatch q) S6.frz hox hpx
  have S8 := S2.adopt (p := liO l 0) S7 rfl hbn own6.1 (S6.mu (it, liO l 0) (by (repeat' (first | exact List.Mem.head _ | refine' List.Mem.tail _ ?_))))
  exact h _ _ it _ _ (stays_trans k1 (S6.z0)) (S8) g1 e1 e2
end

section
variable {w : World} {A : Around} {E : Value → Shared → Prop} {s : Shared} {env : Env}
theorem cw_cls {pos : Pos} {f : Addr} {e : Expr} {rest : List Expr} {Q : Value → Shared → Prop} (b : Bs w s.heap) (hk : keepIn (Ks w) (.ref f) = true)
    (h : wpAny (Md w) A (spliced (backTo pos (starEach (e :: rest) env))) (fun vs s₁ => Bs w s₁.heap ∧ wpAny (Md w) A (call (.ref f) vs) Q E s₁) E s)
    (he : starEach (e :: rest) env = (false, eval e env) :: starEach rest env := by rfl) (hplain : (backTo pos (starEach rest env)).any (·.1) = false := by rfl) :
    wpAny (Md w) A (callWith pos (.ref f) [] (backTo pos (starEach (e :: rest) env)) []) Q E s :=
  callWith_K b.k hk (wpAny_mono h (fun _ _ x => ⟨x.1.k, x.2⟩) fun _ _ x => x) he hplain
theorem attr_call1 {f a : Expr} {attr : Str} {pos cp : Pos} {Q : Value → Shared → Prop} (h : wpAny (Md w) A (eval (.Call f [a] [] cp) env) (fun o s₁ => wpAny (Md w) A (getAttr o attr true) Q E s₁) E s) :
    wpAny (Md w) A (eval (.Attribute (.Call f [a] [] cp) attr pos) env) Q E s := by
  rw [arm_eval_Attribute]
  have e1 : attributeBase (.Call f [a] [] cp) attr env (eval (.Call f [a] [] cp) env) = eval (.Call f [a] [] cp) env := by
    cases f <;> rfl
  rw [e1]
  exact wpAny_bind (wpAny_mono h (fun o s₁ h₁ => wpAny_bind (wpAny_standAt (wpAny_bind (wpAny_holding (wpAny_mono h₁ (fun r s₂ h₂ => wpAny_bind (wpAny_letTemporaryGo (wpAny_pure h₂))) fun _ _ y => y))))) fun _ _ y => y)
end
theorem diff_spec {w : World} {z : Heap} {A : Around} {s : Shared} {E Q : Value → Shared → Prop} {l1 l2 : Addr} {vs1 vs2 : List Value} {xs1 xs2 : List Str} (b : Bs w z) (hz : z.StaysIn s.heap) (o : Ok A 8 80)
    (hl1 : z.PlainList l1 vs1.toArray) (hv1 : All2 StrIs vs1 xs1) (hl2 : z.PlainList l2 vs2.toArray) (hv2 : All2 StrIs vs2 xs2) (hlen1 : vs1.length ≤ 1000) (hlen2 : vs2.length ≤ 1000)
    (hQ : ∀ x dx it m a z' s', z.StaysIn z' → z'.StaysIn s'.heap → (∀ b o, z'.get? b = some o → z.get? b = some o ∨ s.heap.get? b = none) → Ws [] s.heap s'.heap → s'.os = s.os → s'.gens = s.gens →
      z'.get? x = some (ffO dx it m) → z'.get? dx = some emptyDict → BoundAt z' m a → (∃ o, z'.get? a = some o ∧ stO w xs2 o) → z'.get? it = none → s.heap.get? it = none → (∃ o, s'.heap.get? it = some o ∧ liO l1 0 o) → Q (.ref x) s') :
    wpAny (Md w) A (call (.ref 135) [.ref l1, .ref l2]) Q E s := by
  refine' call_fnL (fs := []) (d := 7) (u := 77) (binds := [("minuend", .ref l1), ("subtrahend", .ref l2)]) b hz o ?ho ?hcd ?hbind ?hcell ?hloc ?hco ?hgen ?hk ?_
  ((case ho => exact rfl); (case hcd => exact rfl); (case hbind => exact rfl); (case hcell => decide); (case hloc => exact locs rfl); (case hco => exact rfl); (case hgen => exact rfl); (case hk => exact rfl))
  intro env0 A0 X0 s₁ S e1 e2 o1
  (repeat' (first | walk1 | (dsimp only; walk1)))
  show wpAny _ _ (callWith _ (.ref 124) _ _ _) _ _ _
  refine cw_cls (S.bs b) (by rfl) ?_
  (repeat' (first | walk1 | (dsimp only; walk1)))
  refine attr_call1 ?_
  (repeat' (first | walk1 | (dsimp only; walk1)))
  refine set_list o1.hd S (z := z) hl2 hv2 hlen2 fun a h2 tk2 S2 => ?_
  (repeat' (first | walk1 | (dsimp only; walk1)))
  refine bound_attr S2 (S2.mu (a, stO w xs2) (by (repeat' (first | exact List.Mem.head _ | refine' List.Mem.tail _ ?_)))) fun m h3 tk3 S3 => ?_
  (repeat' (first | walk1 | (dsimp only; walk1)))
  · exact S3.bs b
  obtain ⟨z1, k1, S4, hm⟩ := S3.freeze
  obtain ⟨z2, k2, S5, ha⟩ := S4.freeze
  refine ff_new b o1.le S5 (hl1.at fun _ e => k2 _ _ (k1 _ _ e)) fun x dx it z3 s' k3 S6 hdx eo eg => ?_
  obtain ⟨z4, k4, S7, ox, hx, rfl⟩ := S6.swap.freeze
  have own7 := S7.own it (by simp [Fx.pv])
  (repeat' (first | walk1 | (dsimp only; walk1)))
  exact hQ x dx it m a z4 s' (stays_trans (stays_trans k1 k2) (stays_trans k3 k4)) S7.frz S7.fresh S7.old (eo.trans e1) (eg.trans e2) hx (k4 _ _ hdx) (Heap.mu_of hm (stays_trans k2 (stays_trans k3 k4))) (Heap.mu_of ha (stays_trans k3 k4)) own7.1 own7.2 (S7.mu (it, liO l1 0) (by (repeat' (first | exact List.Mem.head _ | refine' List.Mem.tail _ ?_))))

section
variable {X : Fx} {z z' h h' : Heap} {loc cl : List (Str × Value)} {ms : List (Addr × (Obj → Prop))}
variable {w : World} {A : Around} {E : Value → Shared → Prop} {s : Shared} {env : Env}

/-- one's own list, written -/
theorem upd_own {D : Addr} {vs ws : List Value} {f : Array Value → Array Value} {Q : Unit → Shared → Prop} (S : St X z loc cl ((D, lsO vs) :: ms) s.heap) (hf : f vs.toArray = ws.toArray) (hsz : vs.length ≤ sizeLine) (hsz2 : ws.length ≤ sizeLine + 1)
    (h : ∀ h', St X z loc cl ((D, lsO ws) :: ms) h' → Q () { s with heap := h' }) : wpAny (Md w) A (updateSeq D f) Q E s := by
  obtain ⟨o, e, n, rfl⟩ := S.mu (D, lsO vs) List.mem_cons_self
  refine wpAny_updateSeq (n := n) e rfl (h _ ?_) (by simpa using hsz) (by rw [hf]; simpa using hsz2)
  obtain ⟨n', e'⟩ := seq_mapSeq (cls := .type "list") (d := none) (vs := vs.toArray) (n := n) (sl := #[]) f
  refine S.setm (o' := { cls := .type "list", data := .seq ws.toArray n' }) (Heap.SameBut.update ..) ?_ ⟨n', rfl⟩
  have := Heap.get?_update_self (h := s.heap) (fun o => Obj.mapSeq f o) e (by rw [e']; rfl)
  rw [e', hf] at this
  exact this

/-- what a source of items is -/
structure Src (w : World) (A : Around) (X : Fx) (loc cl : List (Str × Value)) (src it : Addr) (n : Nat) (P : Nat → Value → Prop) (c : Value) (J : Nat → Heap → Ml → Prop) (R : Nat → Rs) (Re : Rs) (ms₀ : Ml) : Prop where
  type : ∀ (E : Value → Shared → Prop) (Q : Value → Shared → Prop) (q : Addr × (Obj → Prop)) (z : Heap) (ms : Ml) (s : Shared), J 0 z ms → St X z loc cl (q :: ms) s.heap → Q c s → wpAny (Md w) A (typeOf (.ref src)) Q E s
  ne : (c == .type "list") = false ∧ (c == .type "tuple") = false
  hint : ∀ (E : Value → Shared → Prop) (Q : Bool → Shared → Prop) (q : Addr × (Obj → Prop)) (z : Heap) (ms : Ml) (s : Shared), J 0 z ms → St X z loc cl (q :: ms) s.heap → (∀ b, Q b s) → wpAny (Md w) A (Builtin.List.listLengthHint (.ref src)) Q E s
  iter : ∀ (E : Value → Shared → Prop) (Q : Value → Shared → Prop) (q : Addr × (Obj → Prop)) (z : Heap) (ms : Ml) (s : Shared), J 0 z ms → R 0 s.os s.gens → St X z loc cl (q :: ms) s.heap →
    (∀ z' ms' s', z.StaysIn z' → J 0 z' ms' → R 0 s'.os s'.gens → St X z' loc cl (q :: ms') s'.heap → Q (.ref it) s') → wpAny (Md w) A (pyIter (.ref src)) Q E s
  item : ∀ (E : Value → Shared → Prop) (Q : Option Value → Shared → Prop) (q : Addr × (Obj → Prop)) (i : Nat) (z : Heap) (ms : Ml) (s : Shared), i < n → J i z ms → R i s.os s.gens → St X z loc cl (q :: ms) s.heap →
    (∀ v z' ms' s', P i v → z.StaysIn z' → J (i + 1) z' ms' → R (i + 1) s'.os s'.gens → St X z' loc cl (q :: ms') s'.heap → Q (some v) s') → wpAny (Md w) A (pyNext (.ref it)) Q E s
  done : ∀ (E : Value → Shared → Prop) (Q : Option Value → Shared → Prop) (q : Addr × (Obj → Prop)) (z : Heap) (ms : Ml) (s : Shared), J n z ms → R n s.os s.gens → St X z loc cl (q :: ms) s.heap →
    (∀ z' s', z.StaysIn z' → Re s'.os s'.gens → St X z' loc cl (q :: ms₀) s'.heap → Q none s') → wpAny (Md w) A (pyNext (.ref it)) Q E s

theorem src_loop {src it D : Addr} {n : Nat} {P : Nat → Value → Prop} {c res : Value} {J : Nat → Heap → Ml → Prop} {R : Nat → Rs} {Re : Rs} {ms₀ : Ml} {RR : Result → Shared → Prop} (K : Src w A.in1 X loc cl src it n P c J R Re ms₀) (hn : n ≤ 1000)
    (hR : ∀ vs z' s', vs.length = n → (∀ j v, vs[j]? = some v → P j v) → z.StaysIn z' → Re s'.os s'.gens → St X z' loc cl ((D, lsO vs) :: ms₀) s'.heap → RR (.ok (.ret res)) s') :
    ∀ (k i : Nat), i + k = n → ∀ (vs : List Value) (z' : Heap) (ms : Ml) (s : Shared), vs.length = i → (∀ j v, vs[j]? = some v → P j v) → z.StaysIn z' → J i z' ms → R i s.os s.gens → St X z' loc cl ((D, lsO vs) :: ms) s.heap →
      codeAny (Md w) A (.builtin "list.extend.loop" ⟨[.ref D, .ref it, res], []⟩) RR s := by
  have hsz9 : sizeLine = 16777216 := rfl
  intro k
  induction k with
  | zero =>
    intro i hk vs z' ms s hvs hP hz hj hr S
    refine codeAny_builtin PySem.F.entry_extend_loop ?_
    rw [Around.under_plainId PySem.F.plain_extend_loop _]
    show wpAny _ A.in1 (pyNext (.ref it) >>= _) _ _ _
    refine wpAny_bind ?_
    obtain rfl : i = n := by exact om33 hk
    refine K.done _ _ _ z' ms s hj hr S fun z2 s2 k2 r2 S2 => ?_
    exact wpAny_pure (hR vs z2 s2 hvs hP (stays_trans hz k2) r2 S2)
  | succ k ih =>
    intro i hk vs z' ms s hvs hP hz hj hr S
    refine codeAny_builtin PySem.F.entry_extend_loop ?_
    rw [Around.under_plainId PySem.F.plain_extend_loop _]
    show wpAny _ A.in1 (pyNext (.ref it) >>= _) _ _ _
    refine wpAny_bind ?_
    refine K.item _ _ _ i z' ms s (by exact om34 hk) hj hr S fun v z2 ms2 s2 hv k2 j2 r2 S2 => ?_
    show wpAny _ A.in1 (updateSeq D (·.push v) >>= _) _ _ _
    refine wpAny_bind (upd_own (ws := vs ++ [v]) S2 (by simp) (by exact om52 hn hsz9 hk hvs) (by simp; exact om52 hn hsz9 hk hvs) fun h3 S3 => ?_)
    refine wpAny_pure ⟨plainId_quiet PySem.F.plain_extend_loop _, ?_⟩
    refine ih (i + 1) (by exact om38 hk) (vs ++ [v]) z2 ms2 _ (by simp [hvs]) (fun j u hu => ?_) (stays_trans hz k2) j2 r2 S3
    rw [List.getElem?_append] at hu
    split at hu
    · exact hP j u hu
    · rename_i hjl
      by_cases hj : j = vs.length
      · subst hj; simp at hu; rw [← hu, hvs]; exact hv
      · rw [List.getElem?_eq_none (by simp; exact om53 hjl hj)] at hu; cases hu

theorem list_of {src it : Addr} {n : Nat} {P : Nat → Value → Prop} {c : Value} {J : Nat → Heap → Ml → Prop} {R : Nat → Rs} {Re : Rs} {ms₀ : Ml} {Q : Value → Shared → Prop} (K : Src w A.in1.in1 X loc cl src it n P c J R Re ms₀) (hn : n ≤ 1000)
    (S : St X z loc cl ms s.heap) (hj : J 0 z ms) (hr : R 0 s.os s.gens) (hsrc : ∃ o, s.heap.get? src = some o)
    (hQ : ∀ D vs z' s', vs.length = n → (∀ j v, vs[j]? = some v → P j v) → z.StaysIn z' → Re s'.os s'.gens → St X z' loc cl ((D, lsO vs) :: ms₀) s'.heap → Q (.ref D) s') :
    wpAny (Md w) A (call (.type "list") [.ref src]) Q E s := by
  have hsz9 : sizeLine = 16777216 := rfl
  refine callType_codes (Q₁ := fun obj s₁ => obj = .ref s.heap.objs.size ∧ s₁ = { s with heap := s.heap.push { cls := .type "list", data := .seq #[] } }) PySem.F.called_list (PySem.F.typeCall_list_1 _) PySem.F.entry_list_init
    (code_list_new _ ⟨rfl, rfl⟩) fun obj s₁ h₁ => ?_
  obtain ⟨rfl, rfl⟩ := h₁
  have S1 := S.push { cls := .type "list", data := .seq #[] } (p := lsO []) ⟨_, rfl⟩
  have hSr : s.heap.objs.size ≠ src := fun e => by obtain ⟨o, ho⟩ := hsrc; exact absurd (Heap.lt_size ho) (by rw [e]; exact Nat.lt_irrefl _)
  refine ⟨⟨_, Heap.get?_push_size _ rfl, rfl⟩, PySem.F.args_list_init_2 _ _, ?_⟩
  generalize hD : s.heap.objs.size = D at *
  show wpAny _ _ (do let old ← Builtin.List.listItems (.ref D); Builtin.List.listUpdate (.ref D) (fun _ => #[]); letGo old.toList.reverse; Builtin.List.listExtendWith (.ref D) (.ref src) .none) _ _ _
  obtain ⟨o, ho, nn, rfl⟩ := S1.mu (D, lsO []) List.mem_cons_self
  refine wpAny_bind ?_
  unfold Builtin.List.listItems
  refine wpAny_bind (wpAny_seqItems ho rfl (wpAny_pure ?_))
  show wpAny _ _ (updateSeq D (fun _ => #[]) >>= fun _ => letGo (#[] : Array Value).toList.reverse >>= fun _ => Builtin.List.listExtendWith (.ref D) (.ref src) .none) _ _ _
  refine wpAny_bind (upd_own (ws := []) S1 rfl (by simp) (by simp) fun h2 S2 => ?_)
  refine wpAny_bind (wpAny_letGo ?_)
  unfold Builtin.List.listExtendWith
  refine wpAny_bind (K.type _ _ _ z ms _ hj S2 ?_)
  have h1 : Builtin.List.listSameRef (.ref D) (.ref src) = false := by simp [Builtin.List.listSameRef, hSr]
  simp only [h1, K.ne.1, K.ne.2, Bool.or_false, Bool.false_eq_true, if_false]
  refine wpAny_bind (K.iter _ _ _ z ms _ hj hr S2 fun z3 ms3 s3 k3 j3 r3 S3 => ?_)
  refine wpAny_bind (wpAny_holding (K.hint _ _ _ z3 ms3 _ j3 S3 fun b => ?_))
  have fin : ∀ (s : Shared), R 0 s.os s.gens → St X z3 loc cl ((D, lsO []) :: ms3) s.heap → codeAny (Md w) A.in1 (.builtin "list.extend.loop" ⟨[.ref D, .ref it, .none], []⟩) (wants (fun r s₂ => r = .none ∧ Q (.ref D) s₂) E) s := fun s4 r4 S4 =>
    src_loop (z := z3) K hn (fun vs z5 s5 l5 p5 k5 r5 S5 => ⟨rfl, hQ D vs z5 s5 l5 p5 (stays_trans k3 k5) r5 S5⟩) n 0 (by exact om39) [] z3 ms3 s4 rfl (fun j v hv => by simp at hv) (stays_refl _) j3 r4 S4
  refine wpAny_ite_split (fun _ => ?_) (fun _ => wpAny_pure ⟨plainId_quiet PySem.F.plain_extend_loop _, fin _ r3 S3⟩)
  refine wpAny_bind (wpAny_rule ?_)
  refine wpAny_bind ?_
  show wpAny _ _ (updateSeq D (·.push .none) >>= fun _ => updateSeq D (·.pop)) _ _ _
  refine wpAny_bind (upd_own (ws := [.none]) S3 (by simp) (by simp) (by simp) fun h4 S4 => ?_)
  refine upd_own (ws := []) S4 (by simp) (by simp [hsz9]) (by simp) fun h5 S5 => ?_
  exact wpAny_pure ⟨plainId_quiet PySem.F.plain_extend_loop _, fin _ r3 S5⟩
end

section
variable {X : Fx} {z z' h h' : Heap} {loc cl : List (Str × Value)} {ms : List (Addr × (Obj → Prop))}
variable {w : World} {A : Around} {E : Value → Shared → Prop} {s : Shared} {env : Env} {outer : List Env}
/-- what was lent is given up -/
theorem St.lent {F : List Addr} {it : Addr} {p : Obj → Prop} {hB : Heap} (S : St X z loc cl ((it, p) :: ms) hB) (g : Ws F (hideAll hB [it]) h') (hF : ∀ f ∈ F, f = X.L ∨ f ∈ X.fs) (kz : z.StaysIn h') :
    St X z loc cl ms h' := by
  have oa := S.own it (by simp [Fx.pv])
  have nd := S.nodup
  simp only [Fx.pv, List.map_cons, List.nodup_cons, List.nodup_append, List.mem_append, List.mem_cons, not_or] at nd
  have g' : ∀ b o, b ≠ it → hB.get? b = some o → h'.get? b = some o ∨ (b ∈ F ∧ ∃ sl, h'.get? b = some { o with slots := sl }) := fun b o hb e => g b o (hideAll_get _ e (by simpa using hb))
  have S0 := S.drop
  refine ⟨fun b o e => ?_, S.fsk, S.z0, kz, S.fresh, ?_, ?_, ?_, S0.own, S0.nodup⟩
  · have nit : b ≠ it := fun q => by rw [q, oa.2] at e; cases e
    have nL : b ≠ X.L := fun q => by rw [q, (S.own _ List.mem_cons_self).2] at e; cases e
    rcases S.old b o e with e1 | ⟨m, sl, e1⟩
    · rcases g' b o nit e1 with e2 | ⟨m, e2⟩
      · exact .inl e2
      · exact .inr ⟨(hF b m).elim (fun x => absurd x nL) id, e2⟩
    · rcases g' b _ nit e1 with e2 | ⟨_, sl2, e2⟩
      · exact .inr ⟨m, sl, e2⟩
      · exact .inr ⟨m, sl2, e2⟩
  · obtain ⟨m, ⟨o, es, ep, e, d, r⟩, l⟩ := S.ns
    rcases g' _ _ nd.1.2.1 e with e2 | ⟨_, sl, e2⟩
    · exact ⟨m, ⟨o, es, ep, e2, d, r⟩, l⟩
    · exact ⟨m, ⟨_, es, ep, e2, d, r⟩, l⟩
  · intro q hq
    obtain ⟨vo, ⟨o, e, d⟩, l⟩ := S.cell q hq
    have nit : q.2 ≠ it := fun x => nd.2.2.2 _ (List.mem_map_of_mem hq) it (.inl rfl) x
    rcases g' _ _ nit e with e2 | ⟨_, sl, e2⟩
    · exact ⟨vo, ⟨o, e2, d⟩, l⟩
    · exact ⟨vo, ⟨_, e2, d⟩, l⟩
  · intro q hq
    obtain ⟨o, e, l⟩ := S.mu q (.tail _ hq)
    have hm : q.1 ∈ ms.map (·.1) := List.mem_map_of_mem hq
    have nit : q.1 ≠ it := fun x => nd.2.2.1.1 (x ▸ hm)
    rcases g' _ _ nit e with e2 | ⟨m, _⟩
    · exact ⟨o, e2, l⟩
    · rcases hF _ m with x | x
      · exact absurd (x ▸ hm) nd.1.2.2
      · exact absurd (S.own q.1 (by simp only [Fx.pv, List.map_cons, List.mem_cons, List.mem_append]; exact .inr (.inr (.inr hm)))).2 (S.fsk _ x)

theorem iter_spec {x : Addr} {E Q : Value → Shared → Prop} (b : Bs w z) (hz : z.StaysIn s.heap) (o : Ok A 5 40) (hQ : Ret z s (fun _ v => v = .ref x) Q) : wpAny (Md w) A (call (.ref 113) [.ref x]) Q E s := by
  refine' call_fn (fs := []) (d := 4) (u := 37) (binds := [("self", .ref x)]) b hz o ?ho ?hcd ?hbind ?hcell ?hloc ?hco ?hgen ?hk ?_
  ((case ho => exact rfl); (case hcd => exact rfl); (case hbind => exact rfl); (case hcell => decide); (case hloc => exact locs rfl); (case hco => exact rfl); (case hgen => exact rfl); (case hk => exact rfl))
  intro s₁ S e1 e2 o1
  (repeat' (first | walk1 | (dsimp only; walk1)))
  exact hQ _ z _ (stays_refl _) S.frz S.fresh S.old e1 e2 rfl

theorem ff_inst {x dx it m : Addr} (hx : h.get? x = some (ffO dx it m)) (hdx : h.get? dx = some emptyDict) : InstAt h x (ffO dx it m) 124 (some emptyDict) := ⟨hx, rfl, rfl, hdx⟩

theorem ff_iter {x dx it m : Addr} {Q : Value → Shared → Prop} (b : Bs w z) (hz : z.StaysIn s.heap) (o : Ok A 5 40) (hx : z.get? x = some (ffO dx it m)) (hdx : z.get? dx = some emptyDict) (hQ : Ret z s (fun _ v => v = .ref x) Q) : wpAny (Md w) A (pyIter (.ref x)) Q E s := by
  have X := (b.mono hz).k
  have I := ff_inst (hz _ _ hx) (hz _ _ hdx)
  have hs : findIn (Ks w) (.ref 124) "__iter__" = some (some (.ref 113)) := by rfl
  have hn : findIn (Ks w) (.ref 124) "__next__" = some (some (.ref 120)) := by rfl
  have hf : typeIn (Ks w) (.ref 113) = some (.type "function") := by rfl
  have fin : wpAny (Md w) A (call (.ref 113) [.ref x] >>= fun v => pure (some v)) (fun r s' => ∃ v, r = some v ∧ v = .ref x ∧ z.StaysIn s'.heap ∧ Q v s') E s :=
    wpAny_bind (iter_spec b hz o fun v z' s' k f fr ws eo eg hv => wpAny_pure ⟨v, rfl, hv, stays_trans k f, hQ v z' s' k f fr ws eo eg hv⟩)
  have one : ∀ refuse : Sem Value, wpAny (Md w) A (callSpecialIfBoundUnlessNone? (.ref x) "__iter__" refuse) (fun r s' => ∃ v, r = some v ∧ v = .ref x ∧ z.StaysIn s'.heap ∧ Q v s') E s := by
    intro refuse
    simp only [callSpecialIfBoundUnlessNone?, bindSpecialIfBound?]
    refine wpAny_holding (wpAny_bind (wpAny_bind (wpAny_bind (I.type.here ((looks_findIn X hs).here ?_)))))
    refine wpAny_bind (wpAny_askSetting (wpAny_ite ?_))
    have fin2 : wpAny (Md w) A (if (Value.ref 113 == Value.none) = true then (refuse >>= fun v => pure (some v)) else (call (.ref 113) [.ref x] >>= fun v => pure (some v))) (fun r s' => ∃ v, r = some v ∧ v = .ref x ∧ z.StaysIn s'.heap ∧ Q v s') E s := by
      rw [if_neg (show ¬ ((Value.ref 113 == Value.none) = true) from Bool.false_ne_true)]
      exact fin
    split
    · exact wpAny_bind ((bind_fn X _ hf).here (wpAny_pure (by exact fin2)))
    · exact wpAny_tryCatch (wpAny_bind ((bind_fn X _ hf).here (wpAny_pure (by exact fin2))))
  unfold pyIter
  refine wpAny_bind (wpAny_bind (I.type.here ((looks_findIn X hs).here ?_)))
  show wpAny (Md w) A (callSpecialIfBoundUnlessNone? (.ref x) "__iter__" _ >>= _) Q E s
  refine wpAny_bind (wpAny_mono (one _) (fun r s' hr => ?_) fun _ _ z => z)
  obtain ⟨v, rfl, rfl, hk, hv⟩ := hr
  have X' := (b.mono hk).k
  have I' := ff_inst (hk _ _ hx) (hk _ _ hdx)
  exact wpAny_bind (wpAny_bind (I'.type.here ((looks_findIn X' hn).here (wpAny_pure hv))))

theorem ff_hint {x dx it m : Addr} {Q : Bool → Shared → Prop} (b : Bs w s.heap) (hx : s.heap.get? x = some (ffO dx it m)) (hdx : s.heap.get? dx = some emptyDict) (hQ : ∀ b, Q b s) : wpAny (Md w) A (Builtin.List.listLengthHint (.ref x)) Q E s := by
  have I := ff_inst hx hdx
  have h1 : findIn (Ks w) (.ref 124) "__len__" = some none := by rfl
  have h2 : findIn (Ks w) (.ref 124) "__length_hint__" = some none := by rfl
  unfold Builtin.List.listLengthHint
  refine wpAny_bind (wpAny_bind (I.type.here ((looks_findIn b.k h1).here ?_)))
  dsimp only
  refine wpAny_bind (wpAny_bind (I.type.here ((looks_findIn b.k h2).here ?_)))
  exact wpAny_pure (hQ _)
end

noncomputable def notIn (xs ys : List Str) : List Str := xs.filter fun k => !decide (k ∈ ys)
theorem notIn_skip {xs ys : List Str} {j : Nat} : ∀ {j' : Nat}, j ≤ j' → j' ≤ xs.length → (∀ q k, j ≤ q → q < j' → xs[q]? = some k → k ∈ ys) → notIn (xs.take j') ys = notIn (xs.take j) ys
  | 0, h1, _, _ => by obtain rfl : j = 0 := by exact om11 h1
                      rfl
  | j' + 1, h1, h2, h3 => by
    by_cases e : j = j' + 1
    · rw [e]
    · have hx : xs[j']? = some xs[j'] := by simp
      have := h3 j' _ (by exact om54 h1 e) (by exact om55) hx
      unfold notIn
      rw [List.take_add_one, hx, List.filter_append]
      have e2 : List.filter (fun k => !decide (k ∈ ys)) (some xs[j']).toList = [] := by simp [this]
      rw [e2, List.append_nil]
      exact notIn_skip (by exact om54 h1 e) (by exact om56 h2) fun q k a b c => h3 q k a (by exact om57 b) c
theorem notIn_take {xs ys : List Str} {j : Nat} {k : Str} (h : xs[j]? = some k) (hk : k ∉ ys) : notIn (xs.take (j + 1)) ys = notIn (xs.take j) ys ++ [k] := by
  unfold notIn
  rw [List.take_add_one, h, List.filter_append]
  simp [hk]
theorem notIn_get {xs ys : List Str} {j : Nat} {k : Str} (h : xs[j]? = some k) (hk : k ∉ ys) : (notIn xs ys)[(notIn (xs.take j) ys).length]? = some k := by
  have e : notIn xs ys = notIn (xs.take (j + 1)) ys ++ notIn (xs.drop (j + 1)) ys := by
    unfold notIn; rw [← List.filter_append, List.take_append_drop]
  rw [e, notIn_take h hk]
  simp

section
variable {X : Fx} {z z' h h' : Heap} {loc cl : List (Str × Value)} {ms : List (Addr × (Obj → Prop))}
variable {w : World} {A : Around} {E : Value → Shared → Prop} {s : Shared} {env : Env} {outer : List Env}

theorem ff_next {x dx it m a l : Addr} {vs : List Value} {xs ys : List Str} {j : Nat} {p0 : Ml} {Q : Option Value → Shared → Prop} (b : Bs w X.z0) (o : Ok A 5 40) (F : Frm outer X.fs X.z0 X.hE) (hA : A.frames = some (env :: outer)) (hf : env.frame = some X.L) (hk : env.scope.kind ≠ .module)
    (hx : z.get? x = some (ffO dx it m)) (hdx : z.get? dx = some emptyDict) (hm : BoundAt z m a) (ha : ∃ o, z.get? a = some o ∧ stO w ys o) (hl : z.PlainList l vs.toArray) (hv : All2 StrIs vs xs) (hlen : xs.length ≤ 1000) (hlen2 : ys.length ≤ 1000) (hj : j ≤ xs.length)
    (S : St X z loc cl ((it, liO l j) :: p0) s.heap)
    (hQ : ∀ j' k t s', j ≤ j' → j' < xs.length → (∀ q k, j ≤ q → q < j' → xs[q]? = some k → k ∈ ys) → xs[j']? = some k → k ∉ ys → s'.os = s.os → s'.gens = s.gens → St X z loc cl ((it, liO l (j' + 1)) :: p0) s'.heap → Q (some (.str k t)) s')
    (hE : ∀ s', (∀ q k, j ≤ q → xs[q]? = some k → k ∈ ys) → s'.os = s.os → s'.gens = s.gens → St X z loc cl p0 s'.heap → Q none s') :
    wpAny (Md w) A (pyNext (.ref x)) Q E s := by
  have Kx := (S.bs b).k
  have I := ff_inst (S.frz _ _ hx) (S.frz _ _ hdx)
  have hn : findIn (Ks w) (.ref 124) "__next__" = some (some (.ref 120)) := by rfl
  have hfn : typeIn (Ks w) (.ref 120) = some (.type "function") := by rfl
  have nd := S.nodup
  simp only [Fx.pv, List.map_cons, List.nodup_cons, List.nodup_append, List.mem_append, List.mem_cons, not_or] at nd
  have own := S.own it (by simp [Fx.pv])
  unfold pyNext
  refine wpAny_bind (wpAny_attempt (special_fn (name := "__next__") (args := []) Kx I hn hfn ?_))
  refine next_spec (z := z) (fs := X.L :: X.fs) (outer := env :: outer) (S.bsz b) S.frz o (S.frm F hf hk) hA ⟨own.1, S.mu (it, liO l j) List.mem_cons_self⟩ (fun q => ?_) hx hdx hm ha hl hv hlen hlen2 hj ?_ ?_
  · rcases List.mem_cons.mp q with q | q
    · exact nd.1.2.1 q.symm
    · exact S.offs (ms' := p0) (a := it) (by simp [Fx.pv]) q
  · intro j' k t z' s' h1 h2 h3 h4 h5 _ kz kf ws eo eg _ hit
    obtain ⟨ob, hob, hp⟩ := hit
    exact wpAny_pure (hQ j' k t s' h1 h2 h3 h4 h5 eo eg (S.back ws (fun f hf => List.mem_cons.mp hf) (stays_trans kz kf) hob hp))
  · intro e s' h1 kz ws eo eg ⟨ob, hob, hc⟩
    have hT : s'.TypeIs (.ref e) "StopIteration" := ⟨ob, hob, hc⟩
    refine wpAny_bind (wpAny_isInstance (b := true) hT (by rw [isSubtype_type]; kernel_rfl) ?_)
    rw [if_pos rfl]
    exact wpAny_pure (hE s' h1 eo eg (S.lent ws (fun f hf => List.mem_cons.mp hf) kz))

theorem ff_src {x dx it m a l : Addr} {vs : List Value} {xs ys : List Str} {ms₀ : Ml} {os : OsState} {gens : Array GenState} (b : Bs w X.z0) (o : Ok A 5 40) (F : Frm outer X.fs X.z0 X.hE) (hA : A.frames = some (env :: outer)) (hf : env.frame = some X.L) (hk : env.scope.kind ≠ .module)
    (hx : z.get? x = some (ffO dx it m)) (hdx : z.get? dx = some emptyDict) (hm : BoundAt z m a) (ha : ∃ o, z.get? a = some o ∧ stO w ys o) (hl : z.PlainList l vs.toArray) (hv : All2 StrIs vs xs) (hlen : xs.length ≤ 1000) (hlen2 : ys.length ≤ 1000) :
    Src w A X loc cl x x (notIn xs ys).length (fun i v => ∃ k t, v = .str k t ∧ (notIn xs ys)[i]? = some k) (.ref 124)
      (fun i z' ms => z.StaysIn z' ∧ ∃ j, j ≤ xs.length ∧ (notIn (xs.take j) ys).length = i ∧ ms = (it, liO l j) :: ms₀) (fun _ os' gens' => os' = os ∧ gens' = gens) (fun os' gens' => os' = os ∧ gens' = gens) ms₀ where
  type := fun E Q q z' ms s hj S hq => (ff_inst (S.frz _ _ (hj.1 _ _ hx)) (S.frz _ _ (hj.1 _ _ hdx))).type.here hq
  ne := ⟨rfl, rfl⟩
  hint := fun E Q q z' ms s hj S hq => ff_hint (S.bs b) (S.frz _ _ (hj.1 _ _ hx)) (S.frz _ _ (hj.1 _ _ hdx)) hq
  iter := fun E Q q z' ms s hj hr S hq => ff_iter (z := z') (S.bsz b) S.frz o (hj.1 _ _ hx) (hj.1 _ _ hdx) fun v z2 s' k f fr ws eo eg hv => by
    subst hv
    exact hq z' ms s' (stays_refl _) hj ⟨eo.trans hr.1, eg.trans hr.2⟩ (S.wgrow ws (fun _ q => nomatch q) (stays_trans k f))
  item := fun E Q q i z' ms s hi ⟨hz, j, hj, hji, hms⟩ hr S hq => by
    subst hms
    refine ff_next b o F hA hf hk (hz _ _ hx) (hz _ _ hdx) (hm.keep hz) (Heap.mu_of ha hz) (hl.at fun _ e => hz _ _ e) hv hlen hlen2 hj S.swap ?_ ?_
    · intro j' k t s' h1 h2 h3 h4 h5 eo eg S'
      have e1 := notIn_skip h1 (Nat.le_of_lt h2) h3
      refine hq _ z' _ s' ⟨k, t, rfl, ?_⟩ (stays_refl _) ⟨hz, j' + 1, h2, ?_, rfl⟩ ⟨eo.trans hr.1, eg.trans hr.2⟩ S'.swap
      · rw [← hji, ← e1]; exact notIn_get h4 h5
      · rw [notIn_take h4 h5, e1, List.length_append, hji]; rfl
    · intro s' h1 eo eg S'
      exfalso
      have e1 := notIn_skip hj (Nat.le_refl _) fun q k a _ c => h1 q k a c
      rw [List.take_of_length_le (Nat.le_refl _)] at e1
      rw [e1, hji] at hi
      exact Nat.lt_irrefl _ hi
  done := fun E Q q z' ms s ⟨hz, j, hj, hji, hms⟩ hr S hq => by
    subst hms
    refine ff_next b o F hA hf hk (hz _ _ hx) (hz _ _ hdx) (hm.keep hz) (Heap.mu_of ha hz) (hl.at fun _ e => hz _ _ e) hv hlen hlen2 hj S.swap ?_ ?_
    · intro j' k t s' h1 h2 h3 h4 h5 eo eg S'
      exfalso
      have e1 := notIn_skip h1 (Nat.le_of_lt h2) h3
      have e2 := notIn_get h4 h5
      rw [e1, hji] at e2
      simp at e2
    · intro s' h1 eo eg S'
      exact hq z' s' (stays_refl _) ⟨eo.trans hr.1, eg.trans hr.2⟩ S'
end

section
variable {X : Fx} {z z' h h' : Heap} {loc cl : List (Str × Value)} {ms : List (Addr × (Obj → Prop))}
variable {w : World} {A : Around} {E : Value → Shared → Prop} {s : Shared} {env : Env}
theorem kept_st : KeptH (St X z loc cl ms) := fun _ _ S => S.grow fun _ _ e => Heap.get?_push_of_some _ e
theorem str_ns {value slice : Expr} {x : Str} {t : Tok} {j : Int} {uj : Tok} {Q : Value → Shared → Prop} (S : St X z loc cl ms s.heap) (hsz : x.length ≤ sizeLine) (h : ∀ h' t' k, St X z loc cl ms h' → Q (.str (Txt.slice x none (some j)) t') { s with heap := h', toks := k })
    (hs : subscripted slice false (.str x t) (.ref s.heap.objs.size) = operate [.ref s.heap.objs.size, .str x t] (getItem (.str x t) (.ref s.heap.objs.size)) := by with_unfolding_all rfl)
    (ht : ∀ r, letTemporaryGo value (.str x t) r = pure () := by intro _; with_unfolding_all rfl) :
    wpAny (Md w) A (subscriptTail value slice (.str x t) (.ref s.heap.objs.size)) Q E { s with heap := s.heap.push { cls := .type "slice", data := .fields #[.none, .int j uj, .none] } } :=
  tail_of_ItemOn (SBH.sliceItem_ns kept_st S h hsz) hs ht
theorem str_sn {value slice : Expr} {x : Str} {t : Tok} {i : Int} {ui : Tok} {Q : Value → Shared → Prop} (S : St X z loc cl ms s.heap) (hsz : x.length ≤ sizeLine) (h : ∀ h' t' k, St X z loc cl ms h' → Q (.str (Txt.slice x (some i) none) t') { s with heap := h', toks := k })
    (hs : subscripted slice false (.str x t) (.ref s.heap.objs.size) = operate [.ref s.heap.objs.size, .str x t] (getItem (.str x t) (.ref s.heap.objs.size)) := by with_unfolding_all rfl)
    (ht : ∀ r, letTemporaryGo value (.str x t) r = pure () := by intro _; with_unfolding_all rfl) :
    wpAny (Md w) A (subscriptTail value slice (.str x t) (.ref s.heap.objs.size)) Q E { s with heap := s.heap.push { cls := .type "slice", data := .fields #[.int i ui, .none, .none] } } :=
  tail_of_ItemOn (SBH.sliceItem_sn kept_st S h hsz) hs ht
theorem unp {t : Addr} {vs : List Value} {n : Nat} {Q : List Value → Shared → Prop} (hA : A.handled = none) (S : St X z loc cl ms s.heap) (ht : s.heap.IsTuple t vs.toArray) (hn : n = vs.length) (h : ∀ h', St X z loc cl ms h' → Q vs { s with heap := h' }) :
    wpAny (Md w) A (unpackItems (.ref t) n none) Q E s := by
  subst hn
  refine wpAny_unpackItems_tuple hA ht (fun h' hs => ?_)
  exact h _ (S.grow fun b o e => hs b o (Nat.ne_of_lt (Heap.lt_size e)) e)
end
theorem kind_spec {w : World} {z : Heap} {A : Around} {s : Shared} {E Q : Value → Shared → Prop} {n p : Str} {tn tp : Tok} (b : Bs w z) (hz : z.StaysIn s.heap) (o : Ok A 5 40)
    (hQ : Ret z s (fun _ v => StrIs v "") Q) : wpAny (Md w) A (call (.ref 70) [.str n tn, .str p tp]) Q E s := by
  refine' call_fnL (fs := []) (d := 4) (u := 37) (binds := [("name", .str n tn), ("x", .str p tp)]) b hz o ?ho ?hcd ?hbind ?hcell ?hloc ?hco ?hgen ?hk ?_
  ((case ho => exact rfl); (case hcd => exact rfl); (case hbind => exact rfl); (case hcell => decide); (case hloc => exact locs rfl); (case hco => exact rfl); (case hgen => exact rfl); (case hk => exact rfl))
  intro env0 A0 X0 s₁ S e1 e2 o1
  (repeat' (first | walk1 | (dsimp only; walk1)))
  rename_i h2 S2
  exact hQ _ z _ (stays_refl _) S2.frz S2.fresh S2.old e1 e2 ⟨_, rfl⟩
theorem fspath_spec {w : World} {z : Heap} {A : Around} {s : Shared} {E Q : Value → Shared → Prop} {n p : Str} {tn tp : Tok} (b : Bs w z) (hz : z.StaysIn s.heap) (o : Ok A 7 60)
    (hQ : Ret z s (fun _ v => v = .str p tp) Q) : wpAny (Md w) A (call (.ref 77) [.str n tn, .str p tp]) Q E s := by
  refine' call_fnL (fs := []) (d := 6) (u := 57) (binds := [("name", .str n tn), ("x", .str p tp)]) b hz o ?ho ?hcd ?hbind ?hcell ?hloc ?hco ?hgen ?hk ?_
  ((case ho => exact rfl); (case hcd => exact rfl); (case hbind => exact rfl); (case hcell => decide); (case hloc => exact locs rfl); (case hco => exact rfl); (case hgen => exact rfl); (case hk => exact rfl))
  intro env0 A0 X0 s₁ S e1 e2 o1
  (repeat' (first | walk1 | (dsimp only; walk1)))
  · exact S.bs b
  refine kind_spec b S.frz o1.le fun v z1 s2 k1 f1 fr1 ws1 eo1 eg1 hpat => ?_
  obtain ⟨t1, hv⟩ := hpat
  subst hv
  have S2 := S.after ws1 (fun _ q => nomatch q) k1 f1 fr1
  (repeat' (first | walk1 | (dsimp only; walk1)))
  refine PySem.P.truthy_str (by decide) ?_
  (repeat' (first | walk1 | (dsimp only; walk1)))
  · rename_i h3 S3 
    exact hQ _ z1 _ k1 S3.frz S3.fresh S3.old (eo1.trans e1) (eg1.trans e2) rfl
noncomputable def headOf (p : Str) : Str :=
  let H := Txt.slice p none (some (Txt.rfind p (Str.ofString "/") + 1))
  if (H.length : Int) = 0 then H else if (H != Txt.mul (Str.ofString "/") H.length) = true then Txt.rstripChars H (Str.ofString "/") else H
theorem split_spec {w : World} {z : Heap} {A : Around} {s : Shared} {E Q : Value → Shared → Prop} {p : Str} {tp : Tok} (hp : p.length ≤ 1000) (b : Bs w z) (hz : z.StaysIn s.heap) (o : Ok A 9 90)
    (hQ : Ret z s (fun z' v => ∃ a h th x tt, v = .ref a ∧ z'.IsTuple a #[.str h th, .str x tt] ∧ h = headOf p) Q) : wpAny (Md w) A (call (.ref 84) [.str p tp]) Q E s := by
  refine' call_fnL (fs := []) (d := 8) (u := 87) (binds := [("p", .str p tp)]) b hz o ?ho ?hcd ?hbind ?hcell ?hloc ?hco ?hgen ?hk ?_
  ((case ho => exact rfl); (case hcd => exact rfl); (case hbind => exact rfl); (case hcell => decide); (case hloc => exact locs rfl); (case hco => exact rfl); (case hgen => exact rfl); (case hk => exact rfl))
  intro env0 A0 X0 s₁ S e1 e2 o1
  have hsz9 : sizeLine = 16777216 := rfl
  (repeat' (first | walk1 | (dsimp only; walk1)))
  · exact S.bs b
  refine fspath_spec b S.frz o1.le fun v z1 s2 k1 f1 fr1 ws1 eo1 eg1 hv => ?_
  subst hv
  have S2 := S.after ws1 (fun _ q => nomatch q) k1 f1 fr1
  (repeat' (first | walk1 | (dsimp only; walk1)))
  rename_i h3 S3 h4 S4
  refine str_ns S4 (by exact om58 hp hsz9) fun h5 t5 tk5 S5 => ?_
  (repeat' (first | walk1 | (dsimp only; walk1)))
  refine str_sn S5 (by exact om58 hp hsz9) fun h6 t6 tk6 S6 => ?_
  (repeat' (first | walk1 | (dsimp only; walk1)))
  rename_i a7 h7 S7
  refine unp o1.hd S7 (own_t S7 (by (repeat' (first | exact List.Mem.head _ | refine' List.Mem.tail _ ?_)))) rfl fun h8 S8 => ?_
  (repeat' (first | walk1 | (dsimp only; walk1)))
  generalize hH : Txt.slice p none (some (Txt.rfind p (Str.ofString "/") + 1)) = H at *
  have hHl : H.length ≤ 1000 := by rw [← hH]; exact Nat.le_trans (Txt.slice_le _ _ _) hp
  refine PySem.P.truthy_str (by exact om59 hHl) ?_
  (repeat' (first | walk1 | (dsimp only; walk1)))
  all_goals
    rename_i a8 h8 S8
    obtain ⟨z2, k2, S9, o9, g9, n9, rfl⟩ := S8.freeze
    refine hQ _ z2 _ (stays_trans k1 k2) S9.frz S9.fresh S9.old (eo1.trans e1) (eg1.trans e2) ⟨a8, _, _, _, _, rfl, ⟨_, g9, rfl, n9, rfl⟩, ?_⟩
    unfold headOf
    rw [hH]
    dsimp only
    first
      | (rw [if_pos (by assumption)]; done)
      | (rw [if_neg (by assumption), if_pos (by assumption)]; done)
      | (rw [if_neg (by assumption), if_neg (by rw [show (H != Txt.mul (Str.ofString "/") H.length) = false by assumption]; exact Bool.false_ne_true)]; done)

noncomputable abbrev ancTest : Expr := ((Expr.Name (Str.ofString "path") { line := 76, col := 10, endLine := 76, endCol := 14 }).Attribute
              (Str.ofString "rstrip") { line := 76, col := 10, endLine := 76, endCol := 21 }).Call
          [Expr.Name (Str.ofString "sep") { line := 76, col := 22, endLine := 76, endCol := 25 }] []
          { line := 76, col := 10, endLine := 76, endCol := 26 }
noncomputable abbrev ancStep : Stmt := Stmt.Assign
            [Expr.Tuple
                [Expr.Name (Str.ofString "path") { line := 78, col := 8, endLine := 78, endCol := 12 },
                  Expr.Name (Str.ofString "tail") { line := 78, col := 14, endLine := 78, endCol := 18 }]
                0 { line := 78, col := 8, endLine := 78, endCol := 18 }]
            ((Expr.Name (Str.ofString "split") { line := 78, col := 21, endLine := 78, endCol := 26 }).Call
              [Expr.Name (Str.ofString "path") { line := 78, col := 27, endLine := 78, endCol := 31 }] []
              { line := 78, col := 21, endLine := 78, endCol := 32 })
            { line := 78, col := 8, endLine := 78, endCol := 32 }
noncomputable abbrev ancBody : List Stmt := [Stmt.Expr
            (Expr.Yield (some (Expr.Name (Str.ofString "path") { line := 77, col := 14, endLine := 77, endCol := 18 }))
              { line := 77, col := 8, endLine := 77, endCol := 18 })
            { line := 77, col := 8, endLine := 77, endCol := 18 }, ancStep]
noncomputable abbrev ancFirst : Stmt := Stmt.Assign [Expr.Name (Str.ofString "path") { line := 75, col := 4, endLine := 75, endCol := 8 }]
        (((Expr.Name (Str.ofString "path") { line := 75, col := 11, endLine := 75, endCol := 15 }).Attribute
              (Str.ofString "rstrip") { line := 75, col := 11, endLine := 75, endCol := 22 }).Call
          [Expr.Name (Str.ofString "sep") { line := 75, col := 23, endLine := 75, endCol := 26 }] []
          { line := 75, col := 11, endLine := 75, endCol := 27 })
        { line := 75, col := 4, endLine := 75, endCol := 27 }
noncomputable abbrev ancAll : List Stmt := [ancFirst, Stmt.While ancTest ancBody [] { line := 76, col := 4, endLine := 78, endCol := 32 }]
noncomputable abbrev ancScope : Scope := { kind := ScopeKind.function, names := [(Str.ofString "path", NameKind.local), (Str.ofString "tail", NameKind.local), (Str.ofString "sep", NameKind.globalImplicit), (Str.ofString "split", NameKind.globalImplicit)], isGenerator := true, isCoroutine := false }
noncomputable abbrev envG (C : Addr) : Env := envX (Str.ofString "_ancestry") ancScope C 91 (.ref 90) []
noncomputable abbrev ancC (C : Addr) : Code := .whileLoop ancTest ancBody [] (envG C)

noncomputable def nsO (loc : Lo) : Obj → Prop := fun o => ∃ (es : Array DictEntry) (ep : Nat) (m : Str → Option Value), o.data = .dict es ep ∧ StrKeys es ∧ (∀ name, nsFind es name = m name) ∧ ∀ x v, loc.lookup x = some v → m x = some v

noncomputable abbrev Fg (zb : Heap) (C : Addr) (h : Heap) : Fx := ⟨zb, hideAll h [C], C, [], []⟩
section
variable {w : World} {A : Around} {zb z : Heap} {C : Addr}
theorem gen_st {h : Heap} {loc : Lo} (hz : zb.StaysIn h) (hc : zb.get? C = none) (ho : ∃ o, h.get? C = some o ∧ nsO loc o) : St (Fg zb C h) zb loc [] [] h := by
  obtain ⟨o, e, es, ep, m, d, k, f, l⟩ := ho
  refine ⟨.of fun b o e => of_hideAll _ e, fun _ q => (nomatch q), stays_refl _, hz, fun b o e => .inl e, ⟨m, ⟨o, es, ep, e, d, k, f⟩, l⟩, fun _ q => (nomatch q), fun _ q => (nomatch q), ?_, by simp [Fx.pv]⟩
  intro a ha
  simp only [Fx.pv, List.map_nil, List.append_nil, List.mem_singleton] at ha
  subst ha
  exact ⟨hc, hideAll_none _ (.head _)⟩
theorem St.nso {X : Fx} {loc cl : Lo} {ms : Ml} {h : Heap} (S : St X z loc cl ms h) : ∃ o, h.get? X.L = some o ∧ nsO loc o :=
  by obtain ⟨m, ⟨o, es, ep, e, d, k, f⟩, l⟩ := S.ns; exact ⟨o, e, es, ep, m, d, k, f, l⟩

/-- what has become of the rest, the generator's own names but -/
structure GenRan (C : Addr) (zb : Heap) (s₀ s : Shared) : Prop where
  ws : Ws [] (hideAll s₀.heap [C]) s.heap
  z : zb.StaysIn s.heap
  os : s.os = s₀.os
  gens : s.gens = s₀.gens
noncomputable abbrev ancR (C : Addr) (zb : Heap) : GenEnd := fun n s₀ r s₁ => r = .ok (.ret .none) ∧ n = 0 ∧ GenRan C zb s₀ s₁
noncomputable def pthO (x : Str) : Obj → Prop := fun o => ∃ t, nsO [(Str.ofString "path", Value.str x t)] o
noncomputable abbrev ancY (C : Addr) (zb : Heap) (tx : Nat → Str) (N : Nat) : Protocol := fun n s₀ v s₁ kap => (∃ t, v = .str (tx (N - 1 - n)) t) ∧ GenRan C zb s₀ s₁ ∧ (∃ o, s₁.heap.get? C = some o ∧ pthO (tx (N - 1 - n)) o) ∧
  ∀ s'', zb.StaysIn s''.heap → (∃ o, s''.heap.get? C = some o ∧ pthO (tx (N - 1 - n)) o) → kap (.send .none) s''

theorem anc_loop {tx : Nat → Str} {N : Nat} {K : Result → Sem Fin} {c₁ : Code} {p : Pos} (b : Bs w zb) (hc : zb.get? C = none) (o : Ok (A.over (ancC C) [.ret K none false [] c₁ p []]) 12 120)
    (htx : ∀ i, i < N → tx (i + 1) = headOf (tx i)) (hlen : ∀ i, (tx i).length ≤ 1000) (hgo : ∀ i, i < N → (Txt.rstripChars (tx i) "/").length ≠ 0) (hstop : (Txt.rstripChars (tx N) "/").length = 0)
    (hK : ∀ s₀ s, GenRan C zb s₀ s → Seg (Md w) A (ancR C zb) (ancY C zb tx N) 0 s₀ c₁ (K (.ok .next)) [] s) :
    ∀ n i s₀ (s : Shared) z loc t, i + n = N → St (Fg zb C s₀.heap) z loc [] [] s.heap → loc.lookup (Str.ofString "path") = some (Value.str (tx i) t) → s.os = s₀.os → s.gens = s₀.gens →
      Seg (Md w) A (ancR C zb) (ancY C zb tx N) n s₀ (ancC C) ((Md w).den (ancC C)) [.ret K none false [] c₁ p []] s := by
  intro n
  induction n with
  | zero =>
    intro i s₀ s z loc t hi S hl e1 e2
    have S1 := S.less0 (loc' := [(Str.ofString "path", Value.str (tx i) t)]) (cl' := []) (fun q hq => by obtain rfl := List.mem_singleton.mp hq; exact hl) (of_luk (by exact rfl))
    have hl1 : (tx i).length ≤ 1000 := hlen i
    refine seg_whileLoop ?_
    (repeat' (first | walk1 | (dsimp only; walk1)))
    · rename_i hne
      rw [show i = N by exact om33 hi] at hne
      exact absurd (by exact_mod_cast hstop) hne
    · refine seg_execs_nil (seg_leaf (.ok .next) (hK s₀ _ ⟨S1.old, stays_trans S1.z0 S1.frz, e1, e2⟩))
  | succ n ih =>
    intro i s₀ s z loc t hi S hl e1 e2
    have S1 := S.less0 (loc' := [(Str.ofString "path", Value.str (tx i) t)]) (cl' := []) (fun q hq => by obtain rfl := List.mem_singleton.mp hq; exact hl) (of_luk (by exact rfl))
    have hl1 : (tx i).length ≤ 1000 := hlen i
    refine seg_whileLoop ?_
    (repeat' (first | walk1 | (dsimp only; walk1)))
    · refine seg_execs_cons (seg_Expr_Yield rfl rfl rfl ?_)
      refine nm_local S1 (v := .str (tx i) t) rfl rfl rfl rfl (by decide) ?_
      intro kap hkap
      rw [ancY, show N - 1 - n = i by exact om60 hi]
      refine ⟨⟨t, rfl⟩, ⟨S1.old, stays_trans S1.z0 S1.frz, e1, e2⟩, (by obtain ⟨o, e, q⟩ := S1.nso; exact ⟨o, e, t, q⟩), fun s'' hz'' ho'' => hkap .none s'' ?_⟩
      · obtain ⟨oC, eC, t', qC⟩ := ho''
        have S2 := gen_st hz'' hc ⟨oC, eC, qC⟩
        show Seg _ _ _ _ _ _ _ _ _ _
        refine seg_execs_cons (seg_wrap ?_)
        (repeat' (first | walk1 | (dsimp only; walk1)))
        · exact S2.bs b
        refine split_spec hl1 b S2.frz o.le fun v z3 s3 k3 f3 fr3 ws3 eo3 eg3 hpat => ?_
        obtain ⟨a3, h3, th, x3, tt, hv, ht, hh⟩ := hpat
        subst hv hh
        have S3 := S2.after ws3 (fun _ q => (nomatch q)) k3 f3 fr3
        refine wpAny_assign_Tuple o.hd (frz_t S3 ht) rfl rfl fun h4 hx4 => ?_
        have S4 := S3.grow fun b o e => hx4 b o (Nat.ne_of_lt (Heap.lt_size e)) e
        (repeat' (first | walk1 | (dsimp only; walk1)))
        rename_i h5 S5 h6 S6
        refine seg_execs_nil (seg_again rfl ?_)
        rw [← htx i (by exact om34 hi)] at S6
        exact ih (i + 1) s'' _ z3 _ th (by exact om38 hi) S6 rfl eo3 eg3
    · rename_i he
      exact absurd (by exact_mod_cast he) (hgo i (by exact om34 hi))

/-- the generator's state when i items are out -/
noncomputable def ancCur (x : Str) (tx : Nat → Str) : Nat → Str
  | 0 => x
  | i + 1 => tx i
noncomputable def GenInv (w : World) (A : Around) (C : Addr) (zb : Heap) (x : Str) (tx : Nat → Str) (N i : Nat) (gs : GenState) : Prop :=
  ∀ s, zb.StaysIn s.heap → (∃ o, s.heap.get? C = some o ∧ pthO (ancCur x tx i) o) → gs.Goes (Md w) A (ancR C zb) (ancY C zb tx N) (N - i) (.send .none) s

theorem anc_start {tx : Nat → Str} {N : Nat} {x : Str} (b : Bs w zb) (hc : zb.get? C = none) (o : Ok A 16 130)
    (h0 : Txt.rstripChars x "/" = tx 0) (hx : x.length ≤ 1000)
    (htx : ∀ i, i < N → tx (i + 1) = headOf (tx i)) (hlen : ∀ i, (tx i).length ≤ 1000) (hgo : ∀ i, i < N → (Txt.rstripChars (tx i) "/").length ≠ 0) (hstop : (Txt.rstripChars (tx N) "/").length = 0)
    : GenInv w A C zb x tx N 0 (.fresh (.func ancAll (envG C))) := by
  intro s hz ⟨oC, eC, t, qC⟩
  have qC : nsO [(Str.ofString "path", Value.str x t)] oC := qC
  have S := gen_st hz hc ⟨oC, eC, qC⟩
  refine ⟨rfl, seg_func (seg_execs_cons (seg_wrap ?_))⟩
  (repeat' (first | walk1 | (dsimp only; walk1)))
  rename_i t1 k1 hl1 h2 S2
  rw [h0] at S2
  refine seg_execs_cons (seg_While fun p => ?_)
  refine anc_loop (p := p) b hc ?_ htx hlen hgo hstop (fun s₀ s' g => ?_) N 0 s _ zb _ _ (by exact om39) S2 rfl rfl rfl
  · refine ⟨o.hd, ?_, ?_⟩
    · have := o.dep
      show A.depth + 1 + 0 + 12 < _
      exact om61 this
    · have := o.un
      show A.units + 2 + 1 + 120 < _
      exact om62 this
  · exact seg_end (.ok (.ret .none)) ⟨rfl, rfl, g⟩
end

section
variable {X : Fx} {z z' h h' hB : Heap} {loc cl : List (Str × Value)} {ms : List (Addr × (Obj → Prop))}
variable {w : World} {A : Around} {E : Value → Shared → Prop} {s : Shared} {env : Env} {outer : List Env}
theorem call_gen {name qual : Str} {params : Arguments} {body : List Stmt} {scope : Scope} {dV kV doc pm cdv ct oc : Value} {an od : Option Addr} {osl : Array (Option Value)} {f : Addr} {args : List Value} {binds : List (Str × Value)} {Q : Value → Shared → Prop}
    (b : Bs w X.z0) (o : Ok A 1 10) (S : St X z loc cl ms s.heap)
    (ho : (Ks w).lookup f = some ⟨oc, od, .func (fnOf name qual params body scope dV kV doc pm an cdv ct), osl⟩) (hcd : codeIn (Ks w) cdv qual = true)
    (hbind : bindArgs (fnOf name qual params body scope dV kV doc pm an cdv ct) ⟨args, []⟩ = pure binds) (hcell : ∀ x ∈ scope.names, x.2 ≠ .cell) (hloc : ∀ x ∈ binds, scope.names.lookup x.1 = some .local)
    (hco : scope.isCoroutine = false) (hgen : scope.isGenerator = true) (hk : scope.kind = .function)
    (hQ : ∀ a C z' s', z.StaysIn z' → St X z' loc cl ((C, nsO binds.reverse) :: ms) s'.heap → z'.IsGen a s.gens.size → s'.gens = s.gens.push (.fresh (.func body (envX qual scope C f cdv []))) → s'.os = s.os → Q (.ref a) s') :
    wpAny (Md w) A (call (.ref f) args) Q E s := by
  have bs := S.bs b
  refine wpAny_call (codeAny_call_generator (fd := fnOf name qual params body scope dV kV doc pm an cdv ct) o.room (bs.k _ _ ho) rfl hco hgen rfl (codeRec_of bs.k hcd) ?_)
  refine wpAny_of_eq hbind ?_
  refine wpAny_newFunctionEnv hcell hloc (fun h' hn hs => ⟨bs.nolimit.keeps ?_, ?_⟩) hk
  · exact fun b o e => hs.extBut b o (Nat.ne_of_lt (Heap.lt_size e)) (Heap.get?_push_of_some _ e)
  · have S1 := S.push { cls := .type "frame", data := .dict #[] } (p := fun _ => True) trivial
    obtain ⟨o1, es, ep, e, d, k, ff⟩ := hn
    have S2 : St X z loc cl ((s.heap.objs.size, nsO binds.reverse) :: ms) h' := S1.setm hs e ⟨es, ep, _, d, k, ff, fun _ _ q => q⟩
    have S3 := S2.push { cls := .type "generator", data := .fields #[.int s.gens.size 0, .str name (s.toks + binds.length), .str qual (s.toks + binds.length + 1)] } (p := fun o => o.cls = .type "generator" ∧ (∃ nm qn, o.data = .fields #[.int s.gens.size 0, nm, qn]) ∧ o.slots = #[]) ⟨rfl, ⟨_, _, rfl⟩, rfl⟩
    obtain ⟨z', k', S4, o4, g4, c4, ⟨nm, qn, d4⟩, sl4⟩ := S3.freeze
    exact hQ _ s.heap.objs.size z' _ k' S4 ⟨o4, nm, qn, g4, c4, d4, sl4⟩ rfl rfl

theorem anc_call {x : Str} {t : Tok} {Q : Value → Shared → Prop} (b : Bs w X.z0) (o : Ok A 1 10) (S : St X z loc cl ms s.heap)
    (hQ : ∀ a C z' s', z.StaysIn z' → St X z' loc cl ((C, nsO [(Str.ofString "path", Value.str x t)]) :: ms) s'.heap → z'.IsGen a s.gens.size → s'.gens = s.gens.push (.fresh (.func ancAll (envG C))) → s'.os = s.os → Q (.ref a) s') :
    wpAny (Md w) A (call (.ref 91) [.str x t]) Q E s := by
  refine' call_gen (binds := [(Str.ofString "path", Value.str x t)]) b o S ?ho ?hcd ?hbind ?hcell ?hloc ?hco ?hgen ?hk hQ
  ((case ho => exact rfl); (case hcd => exact rfl); (case hbind => exact rfl); (case hcell => decide); (case hloc => exact locs rfl); (case hco => exact rfl); (case hgen => exact rfl); (case hk => exact rfl))

theorem gen_nx {a C : Addr} {zb : Heap} {x : Str} {tx : Nat → Str} {N i : Nat} {gens0 : Array GenState} {gs : GenState} {p0 : Ml} {Q : Option Value → Shared → Prop} (b : Bs w X.z0) (o : Ok A 16 130) (hzb : zb.StaysIn z) (hg : z.IsGen a gens0.size) (hi : i ≤ N)
    (S : St X z loc cl ((C, pthO (ancCur x tx i)) :: p0) s.heap) (hgens : s.gens = gens0.push gs) (inv : GenInv w A.in1 C zb x tx N i gs)
    (hQ : ∀ t gs' s', i < N → s'.os = s.os → s'.gens = gens0.push gs' → GenInv w A.in1 C zb x tx N (i + 1) gs' → St X z loc cl ((C, pthO (tx i)) :: p0) s'.heap → Q (some (.str (tx i) t)) s')
    (hE : ∀ s', i = N → s'.os = s.os → s'.gens = gens0.push .finished → St X z loc cl p0 s'.heap → Q none s') :
    wpAny (Md w) A (pyNext (.ref a)) Q E s := by
  have bs := S.bs b
  have hgs : s.gens[gens0.size]? = some gs := by rw [hgens]; simp
  have hset2 : ∀ g1 g2 : GenState, (gens0.push g1).setIfInBounds gens0.size g2 = gens0.push g2 := fun g1 g2 => by
    apply Array.ext'
    rw [Array.toList_setIfInBounds, Array.toList_push, Array.toList_push, List.set_append_right _ _ (by simp)]
    simp
  have hset : ∀ g1 : GenState, (s.gens.setIfInBounds gens0.size g1) = gens0.push g1 := fun g1 => by rw [hgens, hset2]
  have own := S.own C (by simp [Fx.pv])
  have kz : ∀ {h1 : Heap}, Ws [] (hideAll s.heap [C]) h1 → z.StaysIn h1 := fun k b o e => by
    have hb : b ≠ C := fun q => by rw [q, own.1] at e; cases e
    rcases k b o (hideAll_get _ (S.frz _ _ e) (by simpa using hb)) with q | ⟨q, _⟩
    · exact q
    · cases q
  refine wpAny_pyNext_gen (P := fun n s₀ s₁ => n = 0 ∧ GenRan C zb s₀ s₁) (Y := ancY C zb tx N) (n := N - i) o.hd bs.nolimit o.room (hg.keeps S.frz) hgs (inv _ (stays_trans hzb S.frz) (S.mu _ List.mem_cons_self)) ?_ ?_
  · intro v s₁ gs' hY
    obtain ⟨⟨t, hv⟩, ran, hC, kap⟩ := hY
    cases hN : N - i with
    | zero =>
      exfalso
      have := kap s₁ ran.z hC
      rw [hN] at this
      exact this
    | succ m =>
      rw [show N - 1 - (N - i - 1) = i by exact om63 hN] at hv hC kap
      subst hv
      obtain ⟨oC, eC, qC⟩ := hC
      refine hQ t gs' _ (by exact om64 hN) ran.os ?_ ?_ (S.back ran.ws (fun _ q => (nomatch q)) (kz ran.ws) eC qC)
      · show s₁.gens.setIfInBounds _ _ = _
        rw [ran.gens]
        show (s.gens.setIfInBounds _ _).setIfInBounds _ _ = _
        rw [hset, hset2]
      · intro s2 hz2 hC2
        have := kap s2 hz2 hC2
        rw [hN] at this
        rw [show N - (i + 1) = m by exact om65 hN]
        exact this
  · intro s₁ hP h' hk
    have S1 := (S.lent hP.2.ws (fun _ q => (nomatch q)) (kz hP.2.ws)).grow hk
    refine hE _ (by omega) hP.2.os ?_ S1
    show s₁.gens.setIfInBounds _ _ = _
    rw [hP.2.gens]
    show (s.gens.setIfInBounds _ _).setIfInBounds _ _ = _
    rw [hset, hset2]
end

section
variable {X : Fx} {z z' h h' hB : Heap} {loc cl : List (Str × Value)} {ms : List (Addr × (Obj → Prop))}
variable {w : World} {A : Around} {E : Value → Shared → Prop} {s : Shared} {env : Env} {outer : List Env}
theorem anc_src {a C : Addr} {zb : Heap} {x : Str} {tx : Nat → Str} {N : Nat} {gens0 : Array GenState} {os0 : OsState} {ms₀ : Ml} (b : Bs w X.z0) (o : Ok A 16 130) (hg : zb.IsGen a gens0.size) :
    Src w A X loc cl a a N (fun i v => ∃ t, v = .str (tx i) t) (.type "generator") (fun i z' ms => zb.StaysIn z' ∧ i ≤ N ∧ ms = (C, pthO (ancCur x tx i)) :: ms₀)
      (fun i os gens => os = os0 ∧ ∃ gs, gens = gens0.push gs ∧ GenInv w A.in1 C zb x tx N i gs) (fun os gens => os = os0 ∧ gens = gens0.push .finished) ms₀ where
  type := fun E Q q z' ms s hj S hq => wpAny_typeOf (hg.keeps (stays_trans hj.1 S.frz)).typeIs hq
  ne := ⟨rfl, rfl⟩
  hint := fun E Q q z' ms s hj S hq => by
    have hT := (hg.keeps (stays_trans hj.1 S.frz)).typeIs
    unfold Builtin.List.listLengthHint
    refine wpAny_bind (wpAny_specialOf hT PySem.F.gen_no_len ?_)
    show wpAny _ _ (specialOf (Value.ref a) (Str.ofString "__length_hint__") >>= _) _ _ _
    refine wpAny_bind (wpAny_specialOf hT PySem.F.gen_no_hint ?_)
    exact wpAny_pure (hq _)
  iter := fun E Q q z' ms s hj hr S hq => wpAny_pyIter_gen (hg.keeps (stays_trans hj.1 S.frz)) (hq z' ms s (stays_refl _) hj hr S)
  item := fun E Q q i z' ms s hi ⟨hz, hiN, hms⟩ ⟨ho, gs, hgs, inv⟩ S hq => by
    subst hms
    refine gen_nx (zb := zb) b o hz (hg.keeps hz) hiN S.swap hgs inv (fun t gs' s' _ eo eg inv' S' => ?_) (fun s' e => ?_)
    · exact hq _ z' _ s' ⟨t, rfl⟩ (stays_refl _) ⟨hz, hi, rfl⟩ ⟨eo.trans ho, gs', eg, inv'⟩ S'.swap
    · omega
  done := fun E Q q z' ms s ⟨hz, hiN, hms⟩ ⟨ho, gs, hgs, inv⟩ S hq => by
    subst hms
    refine gen_nx (zb := zb) b o hz (hg.keeps hz) hiN S.swap hgs inv (fun t gs' s' e => ?_) (fun s' _ eo eg S' => ?_)
    · omega
    · exact hq z' s' (stays_refl _) ⟨eo.trans ho, eg⟩ S'

/-- the texts of a way up -/
structure WayTx (x : Str) (tx : Nat → Str) (N : Nat) : Prop where
  h0 : Txt.rstripChars x "/" = tx 0
  hx : x.length ≤ 1000
  htx : ∀ i, i < N → tx (i + 1) = headOf (tx i)
  hlen : ∀ i, (tx i).length ≤ 1000
  hgo : ∀ i, i < N → (Txt.rstripChars (tx i) "/").length ≠ 0
  hstop : (Txt.rstripChars (tx N) "/").length = 0

theorem anc_list {a C : Addr} {zb : Heap} {x : Str} {tx : Nat → Str} {N : Nat} {gens0 : Array GenState} {Q : Value → Shared → Prop} {t : Tok} (W : WayTx x tx N) (hN : N ≤ 1000) (b : Bs w X.z0) (o : Ok A 17 140) (S : St X z loc cl ((C, nsO [(Str.ofString "path", Value.str x t)]) :: ms) s.heap) (hg : z.IsGen a gens0.size)
    (hgens : s.gens = gens0.push (.fresh (.func ancAll (envG C))))
    (hQ : ∀ D vs z' s', All2 StrIs vs ((List.range N).map tx) → z.StaysIn z' → s'.os = s.os → s'.gens = gens0.push .finished → St X z' loc cl ((D, lsO vs) :: ms) s'.heap → Q (.ref D) s') :
    wpAny (Md w) A (call (.type "list") [.ref a]) Q E s := by
  have own := S.own C (by simp [Fx.pv])
  have bz : Bs w z := S.bsz b
  have hS : St X z loc cl ((C, pthO (ancCur x tx 0)) :: ms) s.heap := by
    obtain ⟨o1, e1, q1⟩ := S.mu _ List.mem_cons_self
    exact S.setm ⟨rfl, fun _ _ => rfl⟩ e1 ⟨t, q1⟩
  have o2 : Ok A.in1.in1 16 130 := ⟨o.hd, by have := o.dep; show A.depth + 16 < _; exact om66 this, by have := o.un; show A.units + 1 + 1 + 130 < _; exact om67 this⟩
  have o3 : Ok A.in1.in1.in1 16 130 := ⟨o.hd, by have := o.dep; show A.depth + 16 < _; exact om66 this, by have := o.un; show A.units + 1 + 1 + 1 + 130 < _; exact om68 this⟩
  refine list_of (anc_src (zb := z) (x := x) (tx := tx) (N := N) (C := C) (gens0 := gens0) (os0 := s.os) (ms₀ := ms) b o2 hg) hN hS ⟨stays_refl _, Nat.zero_le _, rfl⟩ ⟨rfl, _, hgens, anc_start bz own.1 o3 W.h0 W.hx W.htx W.hlen W.hgo W.hstop⟩
    (by obtain ⟨o, _, _, e, _⟩ := hg.keeps S.frz; exact ⟨o, e⟩) ?_
  intro D vs z' s' hl hp kz ⟨eo, eg⟩ S'
  refine hQ D vs z' s' ?_ kz eo eg S'
  clear S' eo eg kz hS S
  have : ∀ (n k : Nat) (vs : List Value), vs.length = n → (∀ j v, vs[j]? = some v → ∃ t, v = Value.str (tx (k + j)) t) → All2 StrIs vs ((List.range' k n).map tx) := by
    intro n
    induction n with
    | zero => intro k vs h _; cases vs with | nil => exact .nil | cons _ _ => cases h
    | succ n ih =>
      intro k vs h hp
      cases vs with
      | nil => cases h
      | cons v vs =>
        rw [List.range'_succ]
        exact .cons (hp 0 v rfl) (ih (k + 1) vs (by simpa using h) fun j u hu => by
          have := hp (j + 1) u (by simpa using hu)
          rwa [show k + (j + 1) = k + 1 + j by exact om69] at this)
  have := this N 0 vs hl (fun j v hv => by simpa using hp j v hv)
  rwa [← List.range_eq_range'] at this
end

noncomputable abbrev rgO (a b : Int) : Obj → Prop := fun o => ∃ t u v, o = { cls := .type "range", data := .fields #[.int a t, .int b u, .int 1 v] }
section
variable {X : Fx} {z z' h h' hB : Heap} {loc cl : List (Str × Value)} {ms : List (Addr × (Obj → Prop))}
variable {w : World} {A : Around} {E : Value → Shared → Prop} {s : Shared} {env : Env}
theorem rg_1 {n : Int} {t : Tok} {Q : Value → Shared → Prop} (S : St X z loc cl ms s.heap) (h : ∀ r h' tk, St X z loc cl ((r, rgO 0 n) :: ms) h' → Q (.ref r) { s with heap := h', toks := tk }) : wpAny (Md w) A (call (.type "range") [.int n t]) Q E s :=
  call_range_1 (h _ _ _ (S.push _ ⟨_, _, _, rfl⟩))
theorem rg_2 {a b : Int} {t u : Tok} {Q : Value → Shared → Prop} (S : St X z loc cl ms s.heap) (h : ∀ r h' tk, St X z loc cl ((r, rgO a b) :: ms) h' → Q (.ref r) { s with heap := h', toks := tk }) : wpAny (Md w) A (call (.type "range") [.int a t, .int b u]) Q E s :=
  call_range_2 (h _ _ _ (S.push _ ⟨_, _, _, rfl⟩))
theorem rg_it {r : Addr} {a : Int} {n : Nat} {Q : Value → Shared → Prop} (ha : 0 ≤ a) (hb : a + n < 2 ^ 60) (S : St X z loc cl ((r, rgO a (a + n)) :: ms) s.heap) (h : ∀ I h', St X z loc cl ((I, riO a n 0) :: ms) h' → Q (.ref I) { s with heap := h' }) : wpAny (Md w) A (pyIter (.ref r)) Q E s := by
  obtain ⟨o, ho, t, u, v, rfl⟩ := S.mu _ List.mem_cons_self
  refine wpAny_pyIter_range ho (small_one (by exact om70 ha) (by exact om71 hb) (by exact om72 ha) (by exact om73 hb)) ?_
  have S1 := S.drop.push { cls := .type "range_iterator", data := .fields #[rawInt a, rawInt (Builtin.Range.rangeSize a (a + n) 1), rawInt 1] } (p := riO a n 0) (by
    have : Builtin.Range.rangeSize a (a + n) 1 = n := by rw [rangeSize_one]; split <;> omega
    rw [this]; simp)
  exact h _ _ S1
theorem for_range {target : Expr} {body : List Stmt} {r : Addr} {a b : Int} {n : Nat} {Q : Flow → Shared → Prop} (hA : A.handled = none) (ha : 0 ≤ a) (hb : a + n < 2 ^ 60) (hab : b = a + n) (S : St X z loc cl ((r, rgO a b) :: ms) s.heap) (J : Inv) (R : Rs)
    (j0 : J 0 z loc cl ms) (r0 : R s.os s.gens)
    (turn : ∀ q i t z' loc cl ms (s : Shared), i < n → z.StaysIn z' → J i z' loc cl ms → R s.os s.gens → St X z' loc cl (q :: ms) s.heap →
      wpAny (Md w) A (assign target env (.int (a + i) t)) (fun _ s2 => wpAny (Md w) A (execs body env) (fun f s3 => match f with
        | .next | .cont => Back X z' J R (i + 1) [q] s3
        | .brk => Q .next s3
        | .ret v => Q (.ret v) s3) (fun _ _ => False) s2) (fun _ _ => False) s)
    (done : ∀ z' loc cl ms (s : Shared), z.StaysIn z' → J n z' loc cl ms → R s.os s.gens → St X z' loc cl ms s.heap → Q .next s) :
    wpAny (Md w) A (pyIter (.ref r)) (fun it s₂ => codeAny (Md w) A (.forLoop target it body [] env) (fun r s' => match r with | .ok f => Q f s' | .error e => cameBackBy (Md w) A env E e s') s₂) E s := by
  subst hab
  refine rg_it ha hb S fun I h' S1 => ?_
  exact for_code (Itr.range (z := z) hA (a := a) (n := n)) J R S1 j0 r0 (fun _ _ x => x) (fun i v z' loc cl ms s hi ⟨t, hv⟩ => by subst hv; exact turn _ i t z' loc cl ms s hi) done
theorem ln_list {l : Addr} {vs : List Value} {Q : Value → Shared → Prop} (hl : s.heap.PlainList l vs.toArray) (hlen : vs.length ≤ 1000) (h : ∀ t k, Q (.int vs.length t) { s with toks := k }) : wpAny (Md w) A (call (.builtin "len") [.ref l]) Q E s :=
  call_len_list hl.isList (by simp; exact om74 hlen) (by simpa using h _ _)
end

noncomputable abbrev StrList (z : Heap) (v : Value) (xs : List Str) : Prop := ∃ a vs, v = .ref a ∧ z.PlainList a vs.toArray ∧ All2 StrIs vs xs
noncomputable def stepsOf (W : List (List Str)) (cs : List Int) (p : Nat) : Int := ((List.range W.length).map fun o => cs.getD o 0 * (((notIn (W.getD p []) (W.getD o [])).length : Int) + ((notIn (W.getD o []) (W.getD p [])).length : Int))).sum

section
variable {X : Fx} {z z' h h' hB : Heap} {loc cl : List (Str × Value)} {ms : List (Addr × (Obj → Prop))}
variable {w : World} {A : Around} {E : Value → Shared → Prop} {s : Shared} {env : Env} {outer : List Env}
theorem StrList.keep {v : Value} {xs : List Str} (h : StrList z v xs) (k : z.StaysIn z') : StrList z' v xs := by obtain ⟨a, vs, e, l, q⟩ := h; exact ⟨a, vs, e, l.at fun _ e => k _ _ e, q⟩

/-- list(_difference(l1, l2)) -/
theorem diff_list {l1 l2 : Addr} {vs1 vs2 : List Value} {xs1 xs2 : List Str} {Q Q0 : Value → Shared → Prop} (hQ0 : ∀ x s', wpAny (Md w) A (call (.type "list") [.ref x]) Q E s' → Q0 (.ref x) s') (b : Bs w X.z0) (o : Ok A 20 200) (F : Frm outer X.fs X.z0 X.hE) (hA : A.frames = some (env :: outer)) (hf : env.frame = some X.L) (hk : env.scope.kind ≠ .module)
    (hl1 : z.PlainList l1 vs1.toArray) (hv1 : All2 StrIs vs1 xs1) (hl2 : z.PlainList l2 vs2.toArray) (hv2 : All2 StrIs vs2 xs2) (hlen1 : vs1.length ≤ 1000) (hlen2 : vs2.length ≤ 1000) (S : St X z loc cl ms s.heap)
    (hQ : ∀ D vs z' s', All2 StrIs vs (notIn xs1 xs2) → z.StaysIn z' → s'.os = s.os → s'.gens = s.gens → St X z' loc cl ((D, lsO vs) :: ms) s'.heap → Q (.ref D) s') :
    wpAny (Md w) A (call (.ref 135) [.ref l1, .ref l2]) Q0 E s := by
  have hx1 := hv1.length
  have hx2 := hv2.length
  refine diff_spec (S.bsz b) S.frz o.le hl1 hv1 hl2 hv2 hlen1 hlen2 fun x dx it m a z' s' k f fr ws eo eg hx hdx hm ha hit0 hit1 hit2 => ?_
  have S1 := S.after ws (fun _ q => (nomatch q)) k f fr
  have S2 := S.adopt (p := liO l1 0) S1 rfl hit1 hit0 hit2
  have o2 : Ok A.in1.in1 5 40 := ⟨o.hd, by have := o.dep; show A.depth + 5 < _; exact om75 this, by have := o.un; show A.units + 1 + 1 + 40 < _; exact om76 this⟩
  have hl1' := hl1.at fun _ e => k _ _ e
  have hnl : (notIn xs1 xs2).length ≤ xs1.length := List.length_filter_le _ _
  refine hQ0 _ _ ?_
  refine list_of (ff_src (z := z') (os := s'.os) (gens := s'.gens) (ms₀ := ms) b o2 F hA hf hk hx hdx hm ha hl1' hv1 (by exact om77 hlen1 hx1) (by exact om77 hlen2 hx2)) (by exact om78 hlen1 hx1 hnl) S2 ⟨stays_refl _, 0, Nat.zero_le _, rfl, rfl⟩ ⟨rfl, rfl⟩ ⟨_, S2.frz _ _ hx⟩ ?_
  intro D vs z2 s2 hl hp kz ⟨eo2, eg2⟩ S3
  refine hQ D vs z2 s2 ?_ (stays_trans k kz) (eo2.trans eo) (eg2.trans eg) S3
  have : ∀ (ys : List Str) (vs : List Value), vs.length = ys.length → (∀ (j : Nat) (v : Value), vs[j]? = some v → ∃ k t, v = Value.str k t ∧ ys[j]? = some k) → All2 StrIs vs ys := by
    intro ys
    induction ys with
    | nil => intro vs h _; cases vs with | nil => exact .nil | cons _ _ => cases h
    | cons y ys ih =>
      intro vs h hp
      cases vs with
      | nil => cases h
      | cons v vs =>
        obtain ⟨k, t, e1, e2⟩ := hp 0 v rfl
        simp at e2
        subst e2
        exact .cons ⟨t, e1⟩ (ih vs (by simpa using h) fun j u hu => by simpa using hp (j + 1) u (by simpa using hu))
  exact this _ vs hl hp
end

noncomputable abbrev JS1 (W : List (List Str)) (cs : List Int) (p : Nat) (tk : Tok) (lw lc : Addr) : Inv := fun i _ loc cl ms => ∃ n t, n = ((List.range i).map fun o => cs.getD o 0 * (((notIn (W.getD p []) (W.getD o [])).length : Int) + ((notIn (W.getD o []) (W.getD p [])).length : Int))).sum ∧ loc = ([("steps", .int n t), ("ways", .ref lw), ("counts", .ref lc), ("place", .int p tk)] : Lo) ∧ cl = [] ∧ ms = []
theorem steps_spec {w : World} {z : Heap} {A : Around} {s : Shared} {E Q : Value → Shared → Prop} {fs : List Addr} {outer : List Env} {lw lc : Addr} {wvs cvs : List Value} {W : List (List Str)} {cs : List Int} {p : Nat} {tk : Tok} (b : Bs w z) (hz : z.StaysIn s.heap) (o : Ok A 30 300)
    (F : Frm outer fs z s.heap) (hA : A.frames = some outer)
    (hlw : z.PlainList lw wvs.toArray) (hW : All2 (StrList z) wvs W) (hlc : z.PlainList lc cvs.toArray) (hC : All2 IntIs cvs cs) (hlen : cs.length = W.length) (hWl : W.length ≤ 8) (hxs : ∀ xs ∈ W, xs.length ≤ 8) (hp : p < W.length)
    (hQ : RetF fs z s (fun _ v => IntIs v (stepsOf W cs p)) Q) :
    wpAny (Md w) A (call (.ref 161) [.ref lw, .ref lc, .int p tk]) Q E s := by
  refine' call_fnL (fs := fs) (d := 29) (u := 297) (binds := [("ways", .ref lw), ("counts", .ref lc), ("place", .int p tk)]) b hz o ?ho ?hcd ?hbind ?hcell ?hloc ?hco ?hgen ?hk ?_ ?hfs
  (case hfs => exact fun f hf => by obtain ⟨_, o, e, _⟩ := F.fs f hf; rw [e]; simp)
  ((case ho => exact rfl); (case hcd => exact rfl); (case hbind => exact rfl); (case hcell => decide); (case hloc => exact locs rfl); (case hco => exact rfl); (case hgen => exact rfl); (case hk => exact rfl))
  intro env0 A0 X0 s₁ S e1 e2 o1
  have hwl := hW.length
  have hcl := hC.length
  have hA1 : ∀ e, (A.deeper e).frames = some (e :: outer) := fun e => by show A.frames.map _ = _; rw [hA]; rfl
  (repeat' (first | walk1 | (dsimp only; walk1)))
  refine wpAny_For ?_
  (repeat' (first | walk1 | (dsimp only; walk1)))
  rename_i h2 S2
  refine ln_list (frz_l S2 hlw) (by exact om79 hWl hwl) fun t3 k3 => ?_
  (repeat' (first | walk1 | (dsimp only; walk1)))
  refine rg_1 S2 fun r h3 k4 S3 => ?_
  (repeat' (first | walk1 | (dsimp only; walk1)))
  refine for_range (a := 0) (n := W.length) o1.hd (by decide) (by exact om80 hWl) (by exact om81 hwl) (S3.less (loc' := [("steps", .int 0 s₁.toks), ("ways", .ref lw), ("counts", .ref lc), ("place", .int p tk)]) (cl' := []) (by exact rfl) (by exact rfl))
    (JS1 W cs p tk lw lc) (Rse s) ⟨_, _, rfl, rfl, rfl, rfl⟩ ⟨e1, e2⟩ ?_ ?_
  · rintro q i t z' _ _ _ s₂ hi hz' ⟨n, u, hn1, rfl, rfl, rfl⟩ ⟨r1, r2⟩ S4
    refine wpAny_assign_Name ?_
    (repeat' (first | walk1 | (dsimp only; walk1)))
    rename_i h5 S5
    have gp : W[p]? = some (W.getD p []) := by simp [hp]
    have gi : W[i]? = some (W.getD i []) := by simp [hi]
    have lp : (W.getD p []).length ≤ 8 := hxs _ (List.mem_of_getElem? gp)
    have li : (W.getD i []).length ≤ 8 := hxs _ (List.mem_of_getElem? gi)
    obtain ⟨vp, hvp, ap, vsp, rfl, hlp, hqp⟩ := hW.get gp
    obtain ⟨vi, hvi, ai, vsi, rfl, hli, hqi⟩ := hW.get gi
    have hcd : cs[i]? = some (cs.getD i 0) := by simp [show i < cs.length by exact om82 hlen hi]
    obtain ⟨vc, hvc, tc, rfl⟩ := hC.get hcd
    have llp := hqp.length
    have lli := hqi.length
    have kk : ∀ {l : Addr} {vs : Array Value}, z.PlainList l vs → z'.PlainList l vs := fun hl => hl.at fun _ e => hz' _ _ e
    refine item_pos (frz_l S5 (kk hlw)) (by exact om22) (by exact om23 hWl hp) (v := .ref ap) (by rw [← hvp]; congr 1) rfl ?_
    (repeat' (first | walk1 | (dsimp only; walk1)))
    refine item_pos (frz_l S5 (kk hlw)) (by exact om83) (by exact om84 hWl hi) (v := .ref ai) (by rw [← hvi]; congr 1; exact om85) rfl ?_
    (repeat' (first | walk1 | (dsimp only; walk1)))
    · exact S5.bs b
    refine' diff_list ?c b o1.le F (hA1 _) rfl (fun q => (nomatch q)) (kk hlp) hqp (kk hli) hqi (by exact om79 lp llp) (by exact om79 li lli) S5 ?_
    case c => intro x s' hx; (repeat' (first | walk1 | (dsimp only; walk1))); exact hx
    intro D1 vs1 z1 s1 hd1 k1 eo1 eg1 S6
    (repeat' (first | walk1 | (dsimp only; walk1)))
    rename_i h7 S7
    have kk1 : ∀ {l : Addr} {vs : Array Value}, z.PlainList l vs → z1.PlainList l vs := fun hl => hl.at fun _ e => k1 _ _ (hz' _ _ e)
    refine item_pos (frz_l S7 (kk1 hlw)) (by exact om83) (by exact om84 hWl hi) (v := .ref ai) (by rw [← hvi]; congr 1; exact om85) rfl ?_
    (repeat' (first | walk1 | (dsimp only; walk1)))
    refine item_pos (frz_l S7 (kk1 hlw)) (by exact om22) (by exact om23 hWl hp) (v := .ref ap) (by rw [← hvp]; congr 1) rfl ?_
    (repeat' (first | walk1 | (dsimp only; walk1)))
    · exact S7.bs b
    refine' diff_list ?c b o1.le F (hA1 _) rfl (fun q => (nomatch q)) (kk1 hli) hqi (kk1 hlp) hqp (by exact om79 li lli) (by exact om79 lp llp) S7 ?_
    case c => intro x s' hx; (repeat' (first | walk1 | (dsimp only; walk1))); exact hx
    intro D2 vs2 z2 s3 hd2 k2 eo2 eg2 S8
    have n1 := hd1.length
    have n2 := hd2.length
    have m1 : (notIn (W.getD p []) (W.getD i [])).length ≤ (W.getD p []).length := List.length_filter_le _ _
    have m2 : (notIn (W.getD i []) (W.getD p [])).length ≤ (W.getD i []).length := List.length_filter_le _ _
    (repeat' (first | walk1 | (dsimp only; walk1)))
    rename_i h9 S9
    refine item_pos (frz_l S9 ((kk1 hlc).at fun _ e => k2 _ _ e)) (by exact om83) (by exact om84 hWl hi) (v := .int (cs.getD i 0) tc) (by rw [← hvc]; congr 1; exact om85) rfl ?_
    (repeat' (first | walk1 | (dsimp only; walk1)))
    refine ln_list (own_l S9 (by (repeat' (first | exact List.Mem.head _ | refine' List.Mem.tail _ ?_)))) (by exact om86 lp n1 m1) fun t4 k4 => ?_
    (repeat' (first | walk1 | (dsimp only; walk1)))
    refine ln_list (own_l S9 (by (repeat' (first | exact List.Mem.head _ | refine' List.Mem.tail _ ?_)))) (by exact om86 li n2 m2) fun t5 k5 => ?_
    (repeat' (first | walk1 | (dsimp only; walk1)))
    rename_i h10 S10
    refine ⟨z2, _, _, _, stays_trans k1 k2, ⟨_, _, ?_, rfl, rfl, rfl⟩, And.intro (eo2.trans (eo1.trans r1)) (eg2.trans (eg1.trans r2)), S10.drop.drop.less (loc' := [("steps", _), ("ways", _), ("counts", _), ("place", _)]) (cl' := []) (by exact rfl) (by exact rfl)⟩
    rw [List.range_succ, List.map_append, List.sum_append, hn1, n1, n2]
    simp
  · rintro z' _ _ _ s₂ hz' ⟨n, u, hn1, rfl, rfl, rfl⟩ ⟨r1, r2⟩ S4
    (repeat' (first | walk1 | (dsimp only; walk1)))
    exact hQ _ z' _ hz' S4.frz S4.fresh S4.old r1 r2 ⟨u, by rw [hn1]; rfl⟩

noncomputable abbrev Xc (X : Fx) (z hB : Heap) (I C : Addr) : Fx := ⟨z, hideAll hB [I], C, [], X.L :: X.fs⟩
section
variable {X : Fx} {z z' h h' hB : Heap} {loc cl loc' cl' : List (Str × Value)} {ms ms' : List (Addr × (Obj → Prop))}
variable {w : World} {A : Around} {E : Value → Shared → Prop} {s : Shared} {env : Env}

theorem St.own1 {a : Addr} {p : Obj → Prop} (S2 : St X z' loc cl ms h') (hn : a ∉ X.pv ms) (hE : X.hE.get? a = none) (hz : z'.get? a = none) (ho : ∃ o, h'.get? a = some o ∧ p o) : St X z' loc cl ((a, p) :: ms) h' where
  old := S2.old
  fsk := S2.fsk
  z0 := S2.z0
  frz := S2.frz
  fresh := S2.fresh
  ns := S2.ns
  cell := S2.cell
  mu := fun q hq => by
    rcases List.mem_cons.mp hq with rfl | hq
    · exact ho
    · exact S2.mu q hq
  own := fun q hq => by
    simp only [Fx.pv, List.map_cons, List.mem_cons, List.mem_append] at hq
    rcases hq with h1 | h1 | h1 | h1
    · exact S2.own q (by simp [Fx.pv, h1])
    · exact S2.own q (by simp only [Fx.pv, List.mem_cons, List.mem_append]; exact .inr (.inl h1))
    · subst h1; exact ⟨hz, hE⟩
    · exact S2.own q (by simp only [Fx.pv, List.mem_cons, List.mem_append]; exact .inr (.inr h1))
  nodup := by
    have nd := S2.nodup
    simp only [Fx.pv, List.map_cons, List.nodup_cons, List.nodup_append, List.mem_append, List.mem_cons, not_or] at nd hn ⊢
    refine ⟨⟨nd.1.1, fun e => hn.1 e.symm, nd.1.2⟩, nd.2.1, ⟨hn.2.2, nd.2.2.1⟩, fun x hx y hy => ?_⟩
    rcases hy with rfl | hy
    · exact fun e => hn.2.1 (e ▸ hx)
    · exact nd.2.2.2 x hx y hy
/-- a comprehension is entered -/
theorem comp_in {I D C : Addr} {p0 pD : Obj → Prop} {dobj cobj : Obj} {m : Str → Option Value} (S : St X z loc cl ((I, p0) :: ms) hB) (hD : D = hB.objs.size) (hC : C = (hB.push dobj).objs.size) (hf : dobj.isFreed = false)
    (hn : h.Ns C m) (hs : Heap.SameBut C ((hB.push dobj).push cobj) h) (hp : pD dobj) : St (Xc X z hB I C) z [] [] [(I, p0), (D, pD)] h := by
  have oI := S.own I (by simp [Fx.pv])
  have hlt : ∀ b o, hB.get? b = some o → b < hB.objs.size := fun b o e => Heap.lt_size e
  have hC' : C = hB.objs.size + 1 := by rw [hC, Heap.size_push]
  have keep : ∀ b o, hB.get? b = some o → h.get? b = some o := fun b o e => by
    have := hlt b o e
    exact hs.extBut b o (by rw [hC']; exact Nat.ne_of_lt (Nat.lt_succ_of_lt this)) (Heap.get?_push_of_some _ (Heap.get?_push_of_some _ e))
  have gD : h.get? D = some dobj := hs.extBut _ _ (by rw [hC', hD]; exact Nat.ne_of_lt (Nat.lt_succ_self _)) (Heap.get?_push_of_some _ (by rw [hD]; exact Heap.get?_push_size _ hf))
  have hno : ∀ a, hB.objs.size ≤ a → z.get? a = none ∧ (hideAll hB [I]).get? a = none := fun a ha => by
    have e := get_size_none hB ha
    refine ⟨?_, ?_⟩
    · cases q : z.get? a with
      | none => rfl
      | some o => rw [S.frz _ _ q] at e; cases e
    · cases q : (hideAll hB [I]).get? a with
      | none => rfl
      | some o => rw [of_hideAll _ q] at e; cases e
  obtain ⟨o0, e0, q0⟩ := S.mu (I, p0) List.mem_cons_self
  have hI := hlt _ _ e0
  refine ⟨.of fun b o e => keep b o (of_hideAll _ e), fun f hf => ?_, stays_refl z, fun b o e => keep b o (S.frz _ _ e), fun b o e => .inl e, ⟨m, hn, fun _ _ q => by simp at q⟩, fun _ q => (nomatch q), fun q hq => ?_, fun a ha => ?_, ?_⟩
  · have : ∃ o, hB.get? f = some o ∧ f ≠ I := by
      rcases List.mem_cons.mp hf with rfl | hf
      · obtain ⟨o, e⟩ := S.alive X.L List.mem_cons_self
        have nd := S.nodup
        simp only [Fx.pv, List.map_cons, List.nodup_cons, List.nodup_append, List.mem_append, List.mem_cons, not_or] at nd
        exact ⟨o, e, nd.1.2.1⟩
      · cases q : X.hE.get? f with
        | none => exact absurd q (S.fsk f hf)
        | some o =>
          obtain ⟨o', e', _⟩ := S.old.there q
          exact ⟨o', e', fun q2 => S.fsk f hf (q2 ▸ oI.2)⟩
    obtain ⟨o, e, ne⟩ := this
    rw [hideAll_get _ e (by simpa using ne)]; simp
  · rcases List.mem_cons.mp hq with rfl | hq
    · exact ⟨o0, keep _ _ e0, q0⟩
    · obtain rfl := List.mem_singleton.mp hq
      exact ⟨dobj, gD, hp⟩
  · simp only [Fx.pv, List.map_nil, List.nil_append, List.map_cons, List.mem_cons, List.not_mem_nil, or_false] at ha
    rcases ha with rfl | rfl | rfl
    · exact hno _ (by rw [hC']; exact Nat.le_succ _)
    · exact ⟨oI.1, hideAll_none _ (.head _)⟩
    · exact hno _ (by rw [hD]; exact Nat.le_refl _)
  · simp only [Fx.pv, List.map_nil, List.nil_append, List.map_cons, List.nodup_cons, List.mem_cons, List.not_mem_nil, or_false, not_or, not_false_eq_true, List.nodup_nil, and_true]
    rw [hC', hD]
    exact ⟨⟨Nat.ne_of_gt (Nat.lt_succ_of_lt hI), Nat.ne_of_gt (Nat.lt_succ_self _)⟩, Nat.ne_of_lt hI⟩

/-- a comprehension is left -/
theorem comp_out {I D C : Addr} {p0 pD : Obj → Prop} (S : St X z loc cl ((I, p0) :: ms) hB) (S2 : St (Xc X z hB I C) z' loc' cl' ((D, pD) :: ms') h) (hD : hB.get? D = none) (hC : hB.get? C = none) (hI : z'.get? I = none) :
    St X z' loc cl ((C, nsO []) :: (D, pD) :: ms) h := by
  have S3 := S.lent S2.old (fun f hf => List.mem_cons.mp hf) (stays_trans S2.z0 S2.frz)
  have S4 : St X z' loc cl ms h := S3.zup S2.z0 S2.frz fun b o e => by
    rcases S2.fresh b o e with q | q
    · exact .inl q
    · right
      have hb : b ≠ I := fun q2 => by rw [q2, hI] at e; cases e
      have hn : hB.get? b = none := by
        cases q3 : hB.get? b with
        | none => rfl
        | some o' => rw [show (hideAll hB [I]).get? b = some o' from hideAll_get _ q3 (by simpa using hb)] at q; cases q
      refine ⟨?_, fun hm => ?_⟩
      · cases q3 : X.hE.get? b with
        | none => rfl
        | some o' => obtain ⟨o2, e2, _⟩ := S.old.there q3; rw [hn] at e2; cases e2
      · obtain ⟨o2, e2⟩ := S.drop.alive b hm
        rw [hn] at e2; cases e2
  have oD := S2.own D (by simp [Fx.pv])
  have oC := S2.own C (by simp [Fx.pv])
  obtain ⟨oc, ec, es, ep, m, d, k, f, l⟩ := S2.nso
  have nd := S2.nodup
  simp only [Fx.pv, List.map_nil, List.nil_append, List.map_cons, List.nodup_cons, List.mem_cons, not_or] at nd
  have hE : ∀ a, hB.get? a = none → X.hE.get? a = none := fun a ha => by
    cases q : X.hE.get? a with
    | none => rfl
    | some o => obtain ⟨o', e', _⟩ := S.old.there q; rw [ha] at e'; cases e'
  have hna : ∀ a, hB.get? a = none → a ∉ X.pv ms := fun a ha q => by obtain ⟨o, e⟩ := S.drop.alive a q; rw [ha] at e; cases e
  have S5 := S4.own1 (p := pD) (hna D hD) (hE D hD) oD.1 (S2.mu (D, pD) List.mem_cons_self)
  refine S5.own1 (fun q => ?_) (hE C hC) oC.1 ⟨oc, ec, es, ep, m, d, k, f, fun _ _ q => by simp at q⟩
  simp only [Fx.pv, List.map_cons, List.mem_cons, List.mem_append] at q
  have := hna C hC
  simp only [Fx.pv, List.mem_cons, List.mem_append, not_or] at this
  rcases q with q | q | q | q
  · exact this.1 q
  · exact this.2.1 q
  · exact nd.1.1 q
  · exact this.2.2 q
end

section
variable {X : Fx} {z z' h h' hB : Heap} {loc cl loc' cl' : List (Str × Value)} {ms ms' : List (Addr × (Obj → Prop))}
variable {w : World} {A : Around} {E : Value → Shared → Prop} {s : Shared} {env : Env}
noncomputable def LcGo (w : World) (A : Around) (E : Value → Shared → Prop) (use : Option (Value → Sem Unit)) (Q : Value → Shared → Prop) (e : Expr) (newAcc : Sem Value) (scope : Scope) (clz : List (Str × Addr)) (env : Env) (it : Value) (s₂ : Shared) : Prop :=
  wpAny (Md w) A newAcc (fun acc s₃ => wpAny (Md w) A (newFunctionEnv scope env.globals clz [] env.qual none .none (some env)) (fun cenv s₄ =>
    codeAny (Md w) A (.compStart e 0 it acc { cenv with scope := relabel scope env }) (compPost (Md w) A E use Q acc cenv.locals) s₄) E s₃) E s₂

theorem lc_eval {elt iter : Expr} {x : Str} {px : Pos} {ifs : List Expr} {scope : Scope} {clz : List (Str × Addr)} {pos : Pos} {Q : Value → Shared → Prop}
    (hclos : closureFor scope env = pure clz) (hkind : scope.kind = .function) (hnames : ∀ y ∈ scope.names, y.2 = .local → scope.names.lookup y.1 = some .local)
    (h : wpAny (Md w) A (eval iter env) (fun xv s₁ => wpAny (Md w) A (pyIter xv) (fun it s₂ => LcGo w A E none Q (.ListComp elt [⟨.Name x px, iter, ifs, 0⟩] scope pos) (newList []) scope clz env it s₂) E s₁) E s)
    (hs : ∀ x, foldedSetIterable iter env x = pure x := by intro _; rfl) :
    wpAny (Md w) A (eval (.ListComp elt [⟨.Name x px, iter, ifs, 0⟩] scope pos) env) Q E s := by
  rw [eval_ListComp]
  exact wpAny_comprehension_free (use := none) rfl hs hclos hkind hnames h

theorem lc_assign {elt iter : Expr} {x y : Str} {px py : Pos} {ifs : List Expr} {scope : Scope} {clz : List (Str × Addr)} {pos spos : Pos} {Q : Flow → Shared → Prop}
    (hsw : swapsWith (.ListComp elt [⟨.Name x px, iter, ifs, 0⟩] scope pos) (some (.Name y py)) spos.line env = pure true)
    (hclos : closureFor scope env = pure clz) (hkind : scope.kind = .function) (hnames : ∀ y ∈ scope.names, y.2 = .local → scope.names.lookup y.1 = some .local)
    (h : wpAny (Md w) A (eval iter env) (fun xv s₁ => wpAny (Md w) A (pyIter xv) (fun it s₂ => LcGo w A E (some (assign (.Name y py) env)) (fun _ s' => Q .next s') (.ListComp elt [⟨.Name x px, iter, ifs, 0⟩] scope pos) (newList []) scope clz env it s₂) E s₁) E s)
    (hs : ∀ x, foldedSetIterable iter env x = pure x := by intro _; rfl) :
    wpAny (Md w) A (exec (.Assign [.Name y py] (.ListComp elt [⟨.Name x px, iter, ifs, 0⟩] scope pos) spos) env) Q E s := by
  rw [exec_Assign_Name_used _ _ _ _ hsw]
  refine wpAny_bind (wpAny_standAt (wpAny_bind ?_))
  show wpAny _ A (do let _ ← comprehension (.ListComp elt [⟨.Name x px, iter, ifs, 0⟩] scope pos) scope env _ (newList []) false (eval iter env) (some (assign (.Name y py) env))) _ _ s
  exact wpAny_bind (wpAny_mono (wpAny_comprehension_free (use := some (assign (.Name y py) env)) (Q := fun _ s' => Q .next s') rfl hs hclos hkind hnames h) (fun _ s' hq => wpAny_pure (wpAny_pure hq)) fun _ _ e => e)

/-- how a turn of a comprehension ends -/
noncomputable def LcNext (X : Fx) (z z₁ : Heap) (hB : Heap) (I C D : Addr) (p : Obj → Prop) (J : Heap → List Value → Prop) (R : Rs) (old vs : List Value) (s : Shared) : Prop :=
  ∃ z' loc, z₁.StaysIn z' ∧ J z' vs ∧ R s.os s.gens ∧ St (Xc X z hB I C) z' loc [] [(I, p), (D, lsO old)] s.heap

theorem lc_if0 {f : Expr → Bool → Sem (ForInStep Bool)} {Q : Bool → Shared → Prop} (h : Q true s) : wpAny (Md w) A (forIn ([] : List Expr) true f) Q E s := by
  rw [List.forIn_nil]; exact wpAny_pure h
theorem lc_if1 {c : Expr} {Q : Bool → Shared → Prop} (h : wpAny (Md w) A (isTrue c env (eval c env)) Q E s) :
    wpAny (Md w) A (forIn [c] true fun c r => if r = true then do let ok ← isTrue c env (eval c env); pure (ForInStep.yield ok) else pure (ForInStep.yield r)) Q E s := by
  rw [List.forIn_cons]
  refine wpAny_bind ?_
  rw [if_pos rfl]
  refine wpAny_bind (wpAny_mono h (fun ok s' h' => wpAny_pure ?_) fun _ _ x => x)
  dsimp only
  rw [List.forIn_nil]
  exact wpAny_pure h'

theorem lc_go {elt iter : Expr} {x : Str} {px : Pos} {ifs : List Expr} {scope : Scope} {clz : List (Str × Addr)} {pos : Pos} {I : Addr} {n : Nat} {P : Nat → Value → Prop} {p : Nat → Obj → Prop} {use : Option (Value → Sem Unit)} {Q : Value → Shared → Prop}
    (IT : Itr w A z I n P p) (hn : n ≤ 1000) (hcell : ∀ y ∈ scope.names, y.2 ≠ .cell) (hkind : scope.kind = .function)
    (S : St X z loc cl ((I, p 0) :: ms) s.heap) (J : Nat → Heap → List Value → Prop) (R : Rs) (j0 : J 0 z []) (r0 : R s.os s.gens)
    (turn : ∀ C D i v z' vs loc' (s' : Shared), i < n → P i v → z.StaysIn z' → J i z' vs → R s'.os s'.gens → vs.length ≤ i → St (Xc X z s.heap I C) z' loc' [] [(I, p (i + 1)), (D, lsO vs)] s'.heap →
      wpAny (Md w) A (assign (.Name x px) (compEnvC scope clz C env) v) (fun _ s2 => wpAny (Md w) A (forIn ifs true fun c r => if r = true then do let ok ← isTrue c (compEnvC scope clz C env) (eval c (compEnvC scope clz C env)); pure (ForInStep.yield ok) else pure (ForInStep.yield r)) (fun ok s3 =>
        if ok = true then wpAny (Md w) A (eval elt (compEnvC scope clz C env)) (fun y s4 => LcNext X z z' s.heap I C D (p (i + 1)) (J (i + 1)) R vs (vs ++ [y]) s4) (fun _ _ => False) s3
        else LcNext X z z' s.heap I C D (p (i + 1)) (J (i + 1)) R vs vs s3) (fun _ _ => False) s2) (fun _ _ => False) s')
    (done : ∀ C D vs z' s', z.StaysIn z' → J n z' vs → R s'.os s'.gens → vs.length ≤ n → St X z' loc cl ((C, nsO []) :: (D, lsO vs) :: ms) s'.heap → compPost (Md w) A E use Q (.ref D) C (.ok .next) s') :
    LcGo w A E use Q (.ListComp elt [⟨.Name x px, iter, ifs, 0⟩] scope pos) (newList []) scope clz env (.ref I) s := by
  have hsz9 : sizeLine = 16777216 := rfl
  unfold LcGo
  refine wpAny_newObj_type (wpAny_newFunctionEnv hcell (by intro y hy; simp at hy) (fun h₁ hns₁ hsb₁ => ?_) hkind)
  dsimp only at hns₁ hsb₁ ⊢
  have Sc := comp_in (pD := lsO []) S rfl rfl rfl hns₁ hsb₁ ⟨_, rfl⟩
  generalize hC : (s.heap.push { cls := .type "list", data := .seq ([] : List Value).toArray }).objs.size = C at *
  have hDn : s.heap.get? s.heap.objs.size = none := get_size_none _ (Nat.le_refl _)
  have hCn : s.heap.get? C = none := get_size_none _ (by rw [← hC, Heap.size_push]; exact Nat.le_succ _)
  generalize hD : s.heap.objs.size = D at *
  have loop : codeAny (Md w) A (.compLoop (.ListComp elt [⟨.Name x px, iter, ifs, 0⟩] scope pos) 0 (.ref I) (.ref D) (compEnvC scope clz C env)) (compPost (Md w) A E use Q (.ref D) C) { s with heap := h₁, toks := s.toks + ([] : List (Str × Value)).length } := by
    refine codeAny_compLoop_tests (fun k s' => ∃ i vs z' loc', k + i = n ∧ z.StaysIn z' ∧ J i z' vs ∧ R s'.os s'.gens ∧ vs.length ≤ i ∧ St (Xc X z s.heap I C) z' loc' [] [(I, p i), (D, lsO vs)] s'.heap) ?_ n ⟨0, [], z, [], rfl, stays_refl z, j0, r0, Nat.le_refl _, Sc⟩
    rintro k s' ⟨i, vs, z', loc', hk, hz, hj, hr, hl, S'⟩
    obtain ⟨o, ho, hp⟩ := S'.mu (I, p i) List.mem_cons_self
    by_cases hi : i < n
    · refine IT.item i s' _ _ o hi (stays_trans hz S'.frz) ho hp fun v h' tk o' hv ho' hp' hs => ?_
      have S2 := S'.setm hs ho' hp'
      refine wpAny_mono (turn C D i v z' vs loc' { s' with heap := h', toks := tk } hi hv hz hj hr hl S2) (fun _ s2 h2 => wpAny_mono h2 (fun ok s3 h3 => ?_) fun _ _ x => x.elim) fun _ _ x => x.elim
      cases ok with
      | true =>
        rw [if_pos rfl] at h3 ⊢
        refine wpAny_mono h3 (fun y s4 h4 => ?_) fun _ _ x => x.elim
        obtain ⟨z2, loc2, k2, j2, r2, S4⟩ := h4
        refine app_own S4.swap (by exact om87 hn hsz9 hl hi) fun h5 S5 => ?_
        exact ⟨k - 1, by exact om8 hk hi, i + 1, vs ++ [y], z2, loc2, by exact om9 hk hi, stays_trans hz k2, j2, r2, by simp; exact om88 hl, S5.swap⟩
      | false =>
        rw [if_neg Bool.false_ne_true] at h3 ⊢
        obtain ⟨z2, loc2, k2, j2, r2, S4⟩ := h3
        exact ⟨k - 1, by exact om8 hk hi, i + 1, vs, z2, loc2, by exact om9 hk hi, stays_trans hz k2, j2, r2, by exact om44 hl, S4⟩
    · obtain rfl : i = n := by exact om10 hk hi
      refine IT.done s' _ _ o (stays_trans hz S'.frz) ho hp fun h' hs => ?_
      have oI := S'.own I (by simp [Fx.pv])
      exact done C D vs z' _ hz hj hr hl (comp_out S (S'.lose hs) hDn hCn oI.1)
  obtain ⟨oI, eI, pI⟩ := Sc.mu (I, p 0) List.mem_cons_self
  exact codeAny_compStart_list loop (IT.self 0 _ _ _ oI eI pI loop)

theorem lc_none {Q : Value → Shared → Prop} {C D : Addr} {vs : List Value} {z' : Heap} {s' : Shared} (S : St X z' loc cl ((C, nsO []) :: (D, lsO vs) :: ms) s'.heap)
    (h : ∀ h', St X z' loc cl ((D, lsO vs) :: ms) h' → Q (.ref D) { s' with heap := h' }) : compPost (Md w) A E none Q (.ref D) C (.ok .next) s' := by
  obtain ⟨o, e, es, ep, m, d, k, f, l⟩ := S.mu _ List.mem_cons_self
  exact ⟨m, ⟨o, es, ep, e, d, k, f⟩, fun h' hs => h h' (S.lose hs.extBut)⟩

theorem lc_some {y : Str} {py : Pos} {Q : Shared → Prop} {C D : Addr} {vs : List Value} {z' : Heap} {s' : Shared} (S : St X z' loc cl ((C, nsO []) :: (D, lsO vs) :: ms) s'.heap)
    (hL : env.locals = X.L) (hk : env.scope.kind = .function) (hl : env.kindOf y = some .local)
    (h : ∀ h' tk, St X z' ((y, .ref D) :: loc) cl ((D, lsO vs) :: ms) h' → Q { s' with heap := h', toks := tk }) : compPost (Md w) A E (some (assign (.Name y py) env)) (fun _ s' => Q s') (.ref D) C (.ok .next) s' := by
  show wpAny _ A (assign (.Name y py) env (.ref D)) _ _ _
  refine wpAny_assign_Name (st_local S hL hk hl fun h2 S2 => ?_)
  obtain ⟨o, e, es, ep, m, d, k, f, l⟩ := S2.mu _ List.mem_cons_self
  exact ⟨m, ⟨o, es, ep, e, d, k, f⟩, fun h' hs => h h' _ (S2.lose hs.extBut)⟩
end

section
variable {X : Fx} {z z' h h' : Heap} {loc cl : List (Str × Value)} {ms : List (Addr × (Obj → Prop))}
variable {w : World} {A : Around} {E : Value → Shared → Prop} {s : Shared} {env : Env}
theorem for_ls {target : Expr} {body : List Stmt} {l : Addr} {vs : List Value} {Q : Flow → Shared → Prop} (hA : A.handled = none) (S : St X z loc cl ms s.heap) (hl : z.PlainList l vs.toArray) (J : Inv) (R : Rs)
    (j0 : J 0 z loc cl ms) (r0 : R s.os s.gens)
    (turn : ∀ q i v z' loc cl ms (s : Shared), i < vs.length → vs[i]? = some v → z.StaysIn z' → J i z' loc cl ms → R s.os s.gens → St X z' loc cl (q :: ms) s.heap →
      wpAny (Md w) A (assign target env v) (fun _ s2 => wpAny (Md w) A (execs body env) (fun f s3 => match f with
        | .next | .cont => Back X z' J R (i + 1) [q] s3
        | .brk => Q .next s3
        | .ret v => Q (.ret v) s3) (fun _ _ => False) s2) (fun _ _ => False) s)
    (done : ∀ z' loc cl ms (s : Shared), z.StaysIn z' → J vs.length z' loc cl ms → R s.os s.gens → St X z' loc cl ms s.heap → Q .next s) :
    wpAny (Md w) A (pyIter (.ref l)) (fun it s₂ => codeAny (Md w) A (.forLoop target it body [] env) (fun r s' => match r with | .ok f => Q f s' | .error e => cameBackBy (Md w) A env E e s') s₂) E s :=
  for_list (iter := .Name "x" ⟨0, 0, 0, 0⟩) (pos := ⟨0, 0, 0, 0⟩) hA S hl.isList J R j0 r0 (fun I i v z' loc cl ms s hi hx => turn _ i v z' loc cl ms s (by simpa using hi) (by simpa using hx)) (by simpa using done)
theorem St.pull {q r t : Addr × (Obj → Prop)} (S : St X z loc cl (q :: r :: t :: ms) h) : St X z loc cl (t :: q :: r :: ms) h :=
  S.perm ((List.Perm.swap q t (r :: ms)).trans (List.Perm.cons q (List.Perm.swap r t ms)))
theorem St.put {q r t : Addr × (Obj → Prop)} (S : St X z loc cl (t :: q :: r :: ms) h) : St X z loc cl (q :: r :: t :: ms) h :=
  S.perm ((List.Perm.cons q (List.Perm.swap t r ms)).trans (List.Perm.swap t q (r :: ms)))
end
noncomputable def upStep (us : List Int) (x : Int) : List Int := us ++ [x.fmod us.length]
noncomputable def upsOf (ns : List Int) : List Int := ns.foldl upStep [0]
noncomputable def paStep (ps : List Str) (x : Int) : List Str := ps ++ [ps.getD (x.fmod ps.length).toNat "" ++ Txt.mul "/" (1 + (x.fdiv 8).fmod 2) ++ Txt.item "tabcdefg" ps.length]
noncomputable def pathsOf (ns : List Int) : List Str := ns.foldl paStep ["t"]
theorem sl_app (a b : Str) : (a ++ b).length = a.length + b.length := by
  show (a.cps ++ b.cps).size = _
  rw [Array.size_append]; rfl
theorem slash_len {x : Int} (h0 : 0 ≤ x) (h1 : x < 2) : (Txt.mul "/" (1 + x)).length ≤ 2 := by
  have : x = 0 ∨ x = 1 := by exact om89 h0 h1
  rcases this with rfl | rfl <;> decide
theorem paths_len : ∀ (ns : List Int) (ps : List Str) (B : Nat), (∀ x ∈ ps, x.length ≤ B) → ∀ x ∈ ns.foldl paStep ps, x.length ≤ B + 3 * ns.length
  | [], ps, B, h, x, hx => by simpa using h x hx
  | n :: ns, ps, B, h, x, hx => by
    have := paths_len ns (paStep ps n) (B + 3) (fun y hy => by
      rcases List.mem_append.mp hy with q | q
      · have := h y q; exact om90 this
      · obtain rfl := List.mem_singleton.mp q
        have h1 : (ps.getD (n.fmod ps.length).toNat "").length ≤ B := by
          by_cases hlt : (n.fmod ps.length).toNat < ps.length
          · rw [List.getD_eq_getElem?_getD, List.getElem?_eq_getElem hlt]
            exact h _ (List.getElem_mem hlt)
          · rw [List.getD_eq_getElem?_getD, List.getElem?_eq_none (by exact om91 hlt)]
            exact Nat.zero_le _
        have h2 := slash_len (x := (n.fdiv 8).fmod 2) (Int.fmod_nonneg_of_pos _ (by decide)) (Int.fmod_lt_of_pos _ (by decide))
        have h3 : (Txt.item "tabcdefg" ps.length).length = 1 := rfl
        rw [sl_app, sl_app]
        exact om92 h1 h2 h3) x hx
    simp only [List.length_cons]
    exact om93 this
theorem pathsOf_len (ns : List Int) : ∀ x ∈ pathsOf ns, x.length ≤ 1 + 3 * ns.length := paths_len ns _ 1 (fun x hx => by obtain rfl := List.mem_singleton.mp hx; decide)
noncomputable abbrev JP1 (ns : List Int) (a1 a2 : Addr) : Inv := fun i _ loc cl ms => ∃ us ps, us.length = i + 1 ∧ ps.length = i + 1 ∧ All2 IntIs us (upsOf (ns.take i)) ∧ All2 StrIs ps (pathsOf (ns.take i)) ∧ ms = ([(a2, lsO ps), (a1, lsO us)] : Ml) ∧ loc = ([("paths", .ref a2), ("ups", .ref a1)] : Lo) ∧ cl = []
theorem places_spec {w : World} {z : Heap} {A : Around} {s : Shared} {E Q : Value → Shared → Prop} {l : Addr} {vs : List Value} {ns : List Int} (b : Bs w z) (hz : z.StaysIn s.heap) (o : Ok A 5 40)
    (hl : z.PlainList l vs.toArray) (hv : All2 IntIs vs ns) (hlen : ns.length ≤ 7) (hpos : ∀ x ∈ ns, 0 ≤ x)
    (hQ : Ret z s (fun z' v => ∃ a lu lp us ps, v = .ref a ∧ z'.IsTuple a #[.ref lu, .ref lp] ∧ z'.PlainList lu us.toArray ∧ z'.PlainList lp ps.toArray ∧ All2 IntIs us (upsOf ns) ∧ All2 StrIs ps (pathsOf ns)) Q) :
    wpAny (Md w) A (call (.ref 142) [.ref l]) Q E s := by
  refine' call_fnL (fs := []) (d := 4) (u := 37) (binds := [("numbers", .ref l)]) b hz o ?ho ?hcd ?hbind ?hcell ?hloc ?hco ?hgen ?hk ?_
  ((case ho => exact rfl); (case hcd => exact rfl); (case hbind => exact rfl); (case hcell => decide); (case hloc => exact locs rfl); (case hco => exact rfl); (case hgen => exact rfl); (case hk => exact rfl))
  intro env0 A0 X0 s₁ S e1 e2 o1
  have hvl := hv.length
  have hsz9 : sizeLine = 16777216 := rfl
  (repeat' (first | walk1 | (dsimp only; walk1)))
  rename_i a1 h1 S1 h2 S2 a2 h3 S3 h4 S4
  refine wpAny_For ?_
  (repeat' (first | walk1 | (dsimp only; walk1)))
  refine for_ls o1.hd (S4.less (loc' := [("paths", .ref a2), ("ups", .ref a1)]) (cl' := []) (by exact rfl) (by exact rfl)) hl
    (JP1 ns a1 a2) (Rse s) ⟨_, _, rfl, rfl, .one ⟨_, rfl⟩, .one ⟨_, rfl⟩, rfl, rfl, rfl⟩ ⟨e1, e2⟩ ?_ ?_
  · rintro q i v z' loc cl ms s₂ hi hx hz' ⟨us, ps, hu, hp, au, ap, rfl, rfl, rfl⟩ ⟨r1, r2⟩ S5
    obtain ⟨n, hn, t, rfl⟩ := hv.get' (i := i) (a := v) hx
    refine wpAny_assign_Name ?_
    (repeat' (first | walk1 | (dsimp only; walk1)))
    rename_i h6 S6
    refine ln_list (own_l S6 (by (repeat' (first | exact List.Mem.head _ | refine' List.Mem.tail _ ?_)))) (by exact om94 hlen hvl hi hp) fun t7 k7 => ?_
    (repeat' (first | walk1 | (dsimp only; walk1)))
    refine app_own (x := .int (n.fmod ps.length) k7) S6.pull (by exact om95 hlen hvl hsz9 hi hu) fun h7 S7 => ?_
    have S8 := S7.put
    have hm0 : 0 ≤ n.fmod (ps.length : Int) := Int.fmod_nonneg_of_pos _ (by exact om96 hp)
    have hk0 : 0 ≤ (n.fdiv 8).fmod 2 := Int.fmod_nonneg_of_pos _ (by decide)
    have hk1 : (n.fdiv 8).fmod 2 < 2 := Int.fmod_lt_of_pos _ (by decide)
    have hm1 : n.fmod (ps.length : Int) < ps.length := Int.fmod_lt_of_pos _ (by exact om96 hp)
    (repeat' (first | walk1 | (dsimp only; walk1)))
    refine item_neg (own_l S8 (by (repeat' (first | exact List.Mem.head _ | refine' List.Mem.tail _ ?_)))) (by decide) (by simp; exact om97) (by decide) (v := .int (n.fmod ps.length) k7) (by rw [show ((-1 : Int) + ((us ++ [Value.int (n.fmod ps.length) k7]).length : Nat)).toNat = us.length by simp; exact om98]; simp) rfl ?_
    (repeat' (first | walk1 | (dsimp only; walk1)))
    obtain ⟨xp, hxp⟩ : ∃ x, (pathsOf (ns.take i))[(n.fmod ps.length).toNat]? = some x := by
      have := ap.length
      exact ⟨_, List.getElem?_eq_getElem (by exact om99 hm0 hm1 this)⟩
    obtain ⟨vp, hvp, tp, rfl⟩ := ap.get hxp
    have hxl : xp.length ≤ 100 := by
      have := pathsOf_len (ns.take i) xp (List.mem_of_getElem? hxp)
      have : (ns.take i).length ≤ 7 := by rw [List.length_take]; exact om100 hlen
      omega
    have hsl := slash_len hk0 hk1
    have hil : (Txt.item (Str.ofString "tabcdefg") ps.length).length = 1 := rfl
    refine item_pos (own_l S8 (by (repeat' (first | exact List.Mem.head _ | refine' List.Mem.tail _ ?_)))) (by exact om101 hm0) (by exact om102 hlen hvl hi hp hm1) (v := .str xp tp) hvp rfl ?_
    (repeat' (first | walk1 | (dsimp only; walk1)))
    refine ln_list (own_l S8 (by (repeat' (first | exact List.Mem.head _ | refine' List.Mem.tail _ ?_)))) (by exact om94 hlen hvl hi hp) fun t9 k9 => ?_
    (repeat' (first | walk1 | (dsimp only; walk1)))
    have hps : (ps.length : Int) < 8 := by exact om103 hlen hvl hi hp
    refine tail_of_ItemOn (SBL.item (i := ps.length) (by show -(8 : Int) ≤ _; exact om104) (by show _ < (8 : Int); exact om105 hps) (by decide) fun _ => ?_) (by with_unfolding_all rfl) (by intro _; with_unfolding_all rfl)
    (repeat' (first | walk1 | (dsimp only; walk1)))
    rename_i t10 k10 _
    refine app_own (x := .str (xp ++ Txt.mul (Str.ofString "/") (1 + (n.fdiv 8).fmod 2) ++ Txt.item (Str.ofString "tabcdefg") ps.length) t10) S8.swap (by exact om106 hsz9 hps) fun h11 S11 => ?_
    (repeat' (first | walk1 | (dsimp only; walk1)))
    have htk : ns.take (i + 1) = ns.take i ++ [n] := by rw [List.take_add_one, hn]; rfl
    have lu := au.length
    have lp := ap.length
    refine ⟨z', _, _, _, stays_refl _, ⟨_, _, ?_, ?_, ?_, ?_, rfl, rfl, rfl⟩, And.intro r1 r2, S11.swap.less (loc' := [("paths", _), ("ups", _)]) (cl' := []) (by exact rfl) (by exact rfl)⟩
    · simp [hu]
    · simp [hp]
    · rw [htk]
      unfold upsOf at au lu ⊢
      rw [List.foldl_append]
      refine au.snoc ⟨k7, ?_⟩
      rw [← lu, hu, hp]
    · rw [htk]
      unfold pathsOf at ap lp hxp ⊢
      rw [List.foldl_append]
      refine ap.snoc ⟨t10, ?_⟩
      rw [← lp]
      congr 3
      rw [List.getD_eq_getElem?_getD, hxp]; rfl
  · rintro z' _ _ _ s₂ hz' ⟨us, ps, hu, hp, au, ap, rfl, rfl, rfl⟩ ⟨r1, r2⟩ S5
    rw [List.take_of_length_le (by exact om27 hvl)] at au ap
    (repeat' (first | walk1 | (dsimp only; walk1)))
    rename_i a6 h6 S6
    obtain ⟨z1, k1, S7, o7, g7, n7, rfl⟩ := S6.freeze
    obtain ⟨z2, k2, S8, o8, g8, n8, rfl⟩ := S7.freeze
    obtain ⟨z3, k3, S9, o9, g9, n9, rfl⟩ := S8.freeze
    exact hQ _ z3 _ (stays_trans hz' (stays_trans k1 (stays_trans k2 k3))) S9.frz S9.fresh S9.old r1 r2 ⟨a6, a1, a2, us, ps, rfl, ⟨_, k3 _ _ (k2 _ _ g7), rfl, n7, rfl⟩, ⟨n9, g9⟩, ⟨n8, k3 _ _ g8⟩, au, ap⟩

noncomputable abbrev tdO (w : World) (v : Value) : Obj → Prop := fun o => ∃ t n, o = { cls := .type "dict", data := .dict #[⟨PyData.keyHash w.params "comp_select_list", .str "comp_select_list" t, v⟩] n }
section
variable {X : Fx} {z z' h h' hB : Heap} {loc cl : List (Str × Value)} {ms : List (Addr × (Obj → Prop))}
variable {w : World} {A : Around} {E : Value → Shared → Prop} {s : Shared} {env : Env}

theorem tc_set {x dx : Addr} {v : Value} {Q : Unit → Shared → Prop} (b : Bs w s.heap) (S : St X z loc cl ((dx, (· = emptyDict)) :: ms) s.heap) (hx : z.get? x = some (instObj 45 dx))
    (h : ∀ h' tk, St X z loc cl ((dx, tdO w v) :: ms) h' → Q () { s with heap := h', toks := tk }) :
    wpAny (Md w) A (setAttr (.ref x) "comp_select_list" v) Q E s := by
  obtain ⟨o, hd, ho⟩ := S.mu _ List.mem_cons_self
  dsimp only at hd ho
  subst ho
  have I : InstAt s.heap x (instObj 45 dx) 45 (some emptyDict) := ⟨S.frz _ _ hx, rfl, rfl, hd⟩
  refine set_plain (K := Ks w) b.k I (by rfl) ?_
  refine osa_open (K := Ks w) (s := { s with toks := s.toks + 1 }) (r := none) b.k I (by rfl) (by rfl) fun bb => ?_
  obtain ⟨hh, g, d, t, os⟩ := s
  obtain ⟨cd, hc, hdict⟩ : ∃ cd, clsIn (Ks w) 45 = some cd ∧ cd.hasDict = true := ⟨_, rfl, rfl⟩
  refine wpAny_bind (wpAny_pure (wpAny_bind (wpAny_bind (wpAny_loadPart (S.frz _ _ hx) (wpAny_bind (looks_clsIn (h := hh) b.k hc _ _ _ _ (fun _ _ e => e) ?_))))))
  rw [hdict]
  refine wpAny_pure (a := some dx) (wpAny_bind (wpAny_pure (wpAny_bind ?_)))
  unfold nsSet
  refine wpAny_bind (wpAny_bind (wpAny_askSetting (wpAny_pure (wpAny_bind (wpAny_mkText (wpAny_bind (wpAny_loadPart hd ?_)))))))
  dsimp only
  rw [aRefKeyMayBeTheName_at]
  rw [show (!(#[] : Array DictEntry).any (·.key.isStr "comp_select_list") && (#[] : Array DictEntry).any (·.refKey)) = false by simp]
  refine wpAny_updatePart hd ?_
  have hp : Obj.putName "comp_select_list" (PyData.keyHash w.params "comp_select_list") (.str "comp_select_list" (t + 1)) v emptyDict = { cls := .type "dict", data := .dict #[⟨PyData.keyHash w.params "comp_select_list", .str "comp_select_list" (t + 1), v⟩] 1 } := by rfl
  have e := Heap.get?_update_self (h := hh) (Obj.putName "comp_select_list" (PyData.keyHash w.params "comp_select_list") (.str "comp_select_list" (t + 1)) v) hd (by rw [hp]; rfl)
  rw [hp] at e
  have S2 : St X z loc cl ((dx, tdO w v) :: ms) _ := S.setm (Heap.SameBut.update hh dx _) e ⟨_, _, rfl⟩
  refine wpAny_bind (wpAny_lookBehind e (pastItsLine_dict (by show 1 ≤ _; exact om107)) ?_)
  exact wpAny_pure (h _ _ S2)

theorem tc_new {v : Value} {Q : Value → Shared → Prop} (b : Bs w X.z0) (o : Ok A 6 60) (S : St X z loc cl ms s.heap)
    (h : ∀ x dx z' s', z.StaysIn z' → St X z' loc cl ms s'.heap → z'.get? x = some (instObj 45 dx) → (∃ o, z'.get? dx = some o ∧ tdO w v o) → s'.os = s.os → s'.gens = s.gens → Q (.ref x) s') :
    wpAny (Md w) A (call (.ref 45) [v]) Q E s := by
  have bs := S.bs b
  have S1 := (S.push emptyDict (p := (· = emptyDict)) rfl).push (instObj 45 s.heap.objs.size) (p := (· = instObj 45 s.heap.objs.size)) rfl
  obtain ⟨z1, k1, S2, o1, g1, rfl⟩ := S1.freeze
  rw [Heap.size_push] at g1
  refine wpAny_call ?_
  obtain ⟨hh, g, d, t, os⟩ := s
  have Y : Makes (Md w) hh 45 := makes_of (K := Ks w) bs.k (by rfl)
  refine make_core (init := .ref 35) Y (looks_findIn (K := Ks w) bs.k (by rfl)) (fun self => bind_fn (K := Ks w) bs.k self (by rfl)) (.inl rfl) ?_
  have b1 : Bs w z1 := S2.bsz b
  have oI : Ok (A.under (.builtin "type.__call__" ⟨[.ref 45, v], []⟩)) 5 40 := ⟨o.hd, by have := o.dep; show A.depth + (Code.builtin "type.__call__" ⟨[.ref 45, v], []⟩).weight + 5 < _; rw [show (Code.builtin "type.__call__" ⟨[.ref 45, v], []⟩).weight = 1 from rfl]; exact om50 this, by have := o.un; show A.units + (Code.builtin "type.__call__" ⟨[.ref 45, v], []⟩).cUnits + 40 < _; rw [show (Code.builtin "type.__call__" ⟨[.ref 45, v], []⟩).cUnits = 1 from rfl]; exact om51 this⟩
  have own0 := S2.own hh.objs.size (by simp [Fx.pv])
  refine' code_fnA (z := z1) (ad := [(hh.objs.size, (· = emptyDict))]) (fs := []) (d := 4) (u := 37) (binds := [("self", .ref (hh.objs.size + 1)), ("comp_select_list", v)]) b1 S2.frz oI ?hfs ?had ?hnd ?ho ?hcd ?hbind ?hcell ?hloc ?hco ?hgen ?hk ?_
  (case hfs => exact fun f hf => nomatch hf)
  (case had => exact fun p hp => by obtain rfl := List.mem_singleton.mp hp; exact ⟨own0.1, S2.mu _ List.mem_cons_self⟩)
  (case hnd => simp)
  ((case ho => exact rfl); (case hcd => exact rfl); (case hbind => exact rfl); (case hcell => decide); (case hloc => exact locs rfl); (case hco => exact rfl); (case hgen => exact rfl); (case hk => exact rfl))
  intro s₁ S3 e1 e2 o3
  (repeat' (first | walk1 | (dsimp only; walk1)))
  refine plainObj_wpAny_Assign_Attribute ?_ ?_
  rotate_left
  · with_unfolding_all rfl
  (repeat' (first | walk1 | (dsimp only; walk1)))
  refine tc_set (S3.bs b1) S3 g1 fun h3 tk3 S5 => ?_
  (repeat' (first | walk1 | (dsimp only; walk1)))
  refine ⟨rfl, ?_⟩
  obtain ⟨ox, hox, hpx⟩ := S5.mu _ List.mem_cons_self
  have S7 := S2.back (h' := h3) (o' := ox) (p' := tdO w v) S5.old (fun _ q => nomatch q) S5.frz hox hpx
  obtain ⟨z2, k2, S8, hd⟩ := S7.freeze
  exact h _ _ z2 _ (stays_trans k1 k2) S8 (k2 _ _ g1) hd e1 e2
end

section
variable {X : Fx} {z z' h h' hB : Heap} {loc cl : List (Str × Value)} {ms : List (Addr × (Obj → Prop))}
variable {w : World} {A : Around} {E : Value → Shared → Prop} {s : Shared} {env : Env}
theorem for_tu {target : Expr} {body : List Stmt} {l : Addr} {vs : List Value} {Q : Flow → Shared → Prop} (hA : A.handled = none) (S : St X z loc cl ms s.heap) (hl : z.IsTuple l vs.toArray) (J : Inv) (R : Rs)
    (j0 : J 0 z loc cl ms) (r0 : R s.os s.gens)
    (turn : ∀ q i v z' loc cl ms (s : Shared), i < vs.length → vs[i]? = some v → z.StaysIn z' → J i z' loc cl ms → R s.os s.gens → St X z' loc cl (q :: ms) s.heap →
      wpAny (Md w) A (assign target env v) (fun _ s2 => wpAny (Md w) A (execs body env) (fun f s3 => match f with
        | .next | .cont => Back X z' J R (i + 1) [q] s3
        | .brk => Q .next s3
        | .ret v => Q (.ret v) s3) (fun _ _ => False) s2) (fun _ _ => False) s)
    (done : ∀ z' loc cl ms (s : Shared), z.StaysIn z' → J vs.length z' loc cl ms → R s.os s.gens → St X z' loc cl ms s.heap → Q .next s) :
    wpAny (Md w) A (pyIter (.ref l)) (fun it s₂ => codeAny (Md w) A (.forLoop target it body [] env) (fun r s' => match r with | .ok f => Q f s' | .error e => cameBackBy (Md w) A env E e s') s₂) E s := by
  refine wpAny_pyIter_tuple (hl.at fun o e => S.frz _ _ e) ?_
  have S1 := S.push { cls := .type "tuple_iterator", data := .fields #[.ref l, .int 0 0] } (p := tiO l 0) ⟨rfl, rfl⟩
  exact for_code (Itr.tuple hA hl) J R S1 j0 r0 (fun _ _ x => x) (fun i v z' loc cl ms s hi hv => turn _ i v z' loc cl ms s (by simpa using hi) (by simpa using hv)) (by simpa using done)
theorem tup_pos {value slice : Expr} {l : Addr} {vs : List Value} {k : Int} {u : Tok} {v : Value} {Q : Value → Shared → Prop} (hl : s.heap.IsTuple l vs.toArray) (h0 : 0 ≤ k) (hhi : k < 2 ^ 63) (hx : vs[k.toNat]? = some v)
    (hs : subscripted slice false (.ref l) (.int k u) = operate [.ref l, .int k u] (getItem (.ref l) (.int k u))) (h : Q v s) : wpAny (Md w) A (subscriptTail value slice (.ref l) (.int k u)) Q E s := by
  have hlt : k.toNat < vs.length := (List.getElem?_eq_some_iff.mp hx).1
  have hi : seqIndex? k vs.toArray.size = some k.toNat := by
    unfold seqIndex?
    simp
    omega
  exact tail_any hl.typeIs slot_tuple_getitem.lookup (getItem_tuple (j := k.toNat) hl (by exact om108 h0) hhi hi (by simpa using hx) h) hs
end
noncomputable def cmpF (turn x y : Int) : Int := if x < y then -turn else if y < x then turn else 0

theorem compare_spec {w : World} {z : Heap} {A : Around} {s : Shared} {E Q : Value → Shared → Prop} {jx dx t1 t2 a1 a2 : Addr} {turn x y : Int} {k0 k1 k2 k3 : Tok} (b : Bs w z) (hz : z.StaysIn s.heap) (o : Ok A 5 40)
    (hj : z.get? jx = some (instObj 45 dx)) (hd : ∃ o, z.get? dx = some o ∧ tdO w (.ref t1) o) (h1 : z.IsTuple t1 #[.ref t2]) (h2 : z.IsTuple t2 #[.int 0 k0, .int turn k1]) (ha1 : z.IsTuple a1 #[.int x k2]) (ha2 : z.IsTuple a2 #[.int y k3])
    (hQ : Ret z s (fun _ v => IntIs v (cmpF turn x y)) Q) :
    wpAny (Md w) A (call (.ref 42) [.ref jx, .ref a1, .ref a2]) Q E s := by
  refine' call_fnL (fs := []) (d := 4) (u := 37) (binds := [("self", .ref jx), ("left", .ref a1), ("right", .ref a2)]) b hz o ?ho ?hcd ?hbind ?hcell ?hloc ?hco ?hgen ?hk ?_
  ((case ho => exact rfl); (case hcd => exact rfl); (case hbind => exact rfl); (case hcell => decide); (case hloc => exact locs rfl); (case hco => exact rfl); (case hgen => exact rfl); (case hk => exact rfl))
  intro env0 A0 X0 s₁ S e1 e2 o1
  refine wpAny_execs_cons ?_
  refine wpAny_For ?_
  (repeat' (first | walk1 | (dsimp only; walk1)))
  obtain ⟨od, hod, td, nd, rfl⟩ := hd
  have I : InstAt s₁.heap jx (instObj 45 dx) 45 (some { cls := .type "dict", data := .dict #[⟨PyData.keyHash w.params "comp_select_list", .str "comp_select_list" td, .ref t1⟩] nd }) := ⟨S.frz _ _ hj, rfl, rfl, S.frz _ _ hod⟩
  refine get_value (K := Ks w) (v := .ref t1) (S.bs b).k I (by rfl) ?_ rfl ?_
  · rfl
  refine for_tu (vs := [.ref t2]) o1.hd (S.less (loc' := [("left", .ref a1), ("right", .ref a2)]) (cl' := []) (by exact rfl) (by exact rfl)) h1 (fun i _ loc cl ms => loc = ([("left", .ref a1), ("right", .ref a2)] : Lo) ∧ cl = [] ∧ ms = [] ∧ (i = 1 → cmpF turn x y = 0)) (Rse s) ⟨rfl, rfl, rfl, by exact om109⟩ ⟨e1, e2⟩ ?_ ?_
  · rintro q i v z' _ _ _ s₂ hi hx hz' ⟨rfl, rfl, rfl, -⟩ ⟨r1, r2⟩ S2
    obtain rfl : i = 0 := by simp at hi; exact hi
    obtain rfl : v = .ref t2 := by simpa using hx.symm
    have kk : ∀ {l : Addr} {vs : Array Value}, z.IsTuple l vs → ∀ {h : Heap}, z'.StaysIn h → h.IsTuple l vs := fun hl _ kh => hl.at fun _ e => kh _ _ (hz' _ _ e)
    refine wpAny_assign_Tuple o1.hd (kk h2 S2.frz) rfl rfl fun h4 hx4 => ?_
    have S4 := S2.grow fun b o e => hx4 b o (Nat.ne_of_lt (Heap.lt_size e)) e
    (repeat' (first | walk1 | (dsimp only; walk1)))
    rename_i h5 S5 h6 S6
    refine tup_pos (vs := [.int x k2]) (kk ha1 S6.frz) (by decide) (by decide) rfl rfl ?_
    (repeat' (first | walk1 | (dsimp only; walk1)))
    rename_i h7 S7
    refine tup_pos (vs := [.int y k3]) (kk ha2 S7.frz) (by decide) (by decide) rfl rfl ?_
    (repeat' (first | walk1 | (dsimp only; walk1)))
    · rename_i h8 S8 hlt
      exact hQ _ z' _ hz' S8.frz S8.fresh S8.old r1 r2 ⟨_, by unfold cmpF; rw [if_pos hlt]⟩
    · rename_i h8 S8 hn hlt
      exact hQ _ z' _ hz' S8.frz S8.fresh S8.old r1 r2 ⟨_, by unfold cmpF; rw [if_neg hn, if_pos hlt]⟩
    · rename_i h8 S8 hn hn2
      exact ⟨z', _, _, _, stays_refl _, ⟨rfl, rfl, rfl, fun _ => by unfold cmpF; rw [if_neg hn, if_neg hn2]⟩, And.intro r1 r2, S8.less (loc' := [("left", _), ("right", _)]) (cl' := []) (by exact rfl) (by exact rfl)⟩
  · rintro z' _ _ _ s₂ hz' ⟨rfl, rfl, rfl, hc⟩ ⟨r1, r2⟩ S2
    (repeat' (first | walk1 | (dsimp only; walk1)))
    exact hQ _ z' _ hz' S2.frz S2.fresh S2.old r1 r2 ⟨_, by rw [hc rfl]⟩

section
variable {X : Fx} {z z' h h' hB : Heap} {loc cl : List (Str × Value)} {ms : List (Addr × (Obj → Prop))}
variable {w : World} {A : Around} {E : Value → Shared → Prop} {s : Shared} {env : Env}
structure CellAt (h : Heap) (c : Addr) (v : Value) : Prop where
  is : h.IsCell c (some v)
theorem nm_fr {x : Str} {pos : Pos} {v : Value} {c : Addr} {Q : Value → Shared → Prop} (hk : env.scope.kind = .function) (hl : env.kindOf x = some .cell) (hd : (x == ("__debug__" : Str)) = false) (hc : env.cells.lookup x = some c) (S : St X z loc cl ms s.heap) (hv : CellAt X.hE c v) (h : Q v s) :
    wpAny (Md w) A (eval (.Name x pos) env) Q E s := nm_free hc (S.old.cell hv.is) hk hl hd h
theorem St.cellE {I c : Addr} {p0 : Obj → Prop} {x : Str} {v : Value} (S : St X z loc cl ((I, p0) :: ms) h) (hv : cl.lookup x = some v) (hc : X.cs.lookup x = some c) : CellAt (hideAll h [I]) c v := by
  have hm := mem_of_lookup hc
  obtain ⟨vo, ⟨o, e, d⟩, l⟩ := S.cell _ hm
  have nd := S.nodup
  simp only [Fx.pv, List.map_cons, List.nodup_cons, List.nodup_append, List.mem_append, List.mem_cons, not_or] at nd
  have hne : c ≠ I := fun q => nd.2.2.2 c (List.mem_map_of_mem (f := (·.2)) hm) I (.inl rfl) q
  exact ⟨⟨o, hideAll_get _ e (by simpa using hne), by rw [d, l v hv hc]⟩⟩
theorem Itr.ls (hA : A.handled = none) {l I : Addr} {vs : List Value} (hl : z.PlainList l vs.toArray) : Itr w A z I vs.length (fun i v => vs[i]? = some v) (liO l) := by
  have := Itr.list (w := w) (A := A) (I := I) hA hl.isList
  simpa using this
theorem it_list {l : Addr} {vs : List Value} {Q : Value → Shared → Prop} (S : St X z loc cl ms s.heap) (hl : z.PlainList l vs.toArray) (h : ∀ I h', St X z loc cl ((I, liO l 0) :: ms) h' → Q (.ref I) { s with heap := h' }) : wpAny (Md w) A (pyIter (.ref l)) Q E s :=
  wpAny_pyIter_list (hl.isList.at fun o e => S.frz _ _ e) (h _ _ (S.push { cls := .type "list_iterator", data := .fields #[.ref l, .int 0 0] } (p := liO l 0) ⟨rfl, rfl⟩))
end
local macro_rules | `(tactic| walk_at "eval Name") => `(tactic| k_dflt (refine' nm_fr (by rfl) (by rfl) (by decide) (by rfl) (by assumption) (by assumption) ?_))
local macro_rules | `(tactic| walk_at "callWith ref") => `(tactic| k_dflt (refine' cw_cls (St.bs (by assumption) (by assumption)) (by exact rfl) ?_))
section
variable {X : Fx} {z z' h h' hB : Heap} {loc cl : List (Str × Value)} {ms : List (Addr × (Obj → Prop))}
variable {w : World} {A : Around} {E : Value → Shared → Prop} {s : Shared} {env : Env}
theorem cw_m {pos : Pos} {f : Addr} {v0 : Value} {e : Expr} {rest : List Expr} {Q : Value → Shared → Prop} (b : Bs w s.heap) (hk : keepIn (Ks w) (.ref f) = true)
    (h : wpAny (Md w) A (spliced (backTo pos (starEach (e :: rest) env))) (fun vs s₁ => Bs w s₁.heap ∧ wpAny (Md w) A (call (.ref f) (v0 :: vs)) Q E s₁) E s)
    (he : starEach (e :: rest) env = (false, eval e env) :: starEach rest env := by rfl) (hplain : (backTo pos (starEach rest env)).any (·.1) = false := by rfl) :
    wpAny (Md w) A (callWith pos (.ref f) [v0] (backTo pos (starEach (e :: rest) env)) []) Q E s :=
  callWith_K b.k hk (wpAny_mono h (fun _ _ x => ⟨x.1.k, x.2⟩) fun _ _ x => x) he hplain
theorem eq_nil {l a : Addr} {ws : List Value} {Q : Value → Shared → Prop} (hu : A.units < cLine) (hl : s.heap.PlainList l ws.toArray) (ha : s.heap.PlainList a ([] : List Value).toArray) (h : Q (.bool (decide (ws.length = 0))) s) : wpAny (Md w) A (compareOp .Eq (.ref l) (.ref a)) Q E s := by
  cases ws with
  | nil => exact SeqAt.eq_listAt (e := fun _ => true) hl.isList ha.isList rfl hu (fun j h1 => by simp at h1) (by simpa using h)
  | cons v r => exact SeqAt.eq_list_lengthsAt hl.isList ha.isList (by simp) hu (by simpa using h)
theorem tc_method {jx dx : Addr} {v : Value} {pl : Sem Bool} {Q : Value × List Value → Shared → Prop} (b : Bs w s.heap) (hj : s.heap.get? jx = some (instObj 45 dx)) (hd : ∃ o, s.heap.get? dx = some o ∧ tdO w v o) (h : Q (.ref 42, [.ref jx]) s) : wpAny (Md w) A (getMethod (.ref jx) "compare" pl) Q E s := by
  obtain ⟨od, hod, td, nd, rfl⟩ := hd
  have I : InstAt s.heap jx (instObj 45 dx) 45 (some { cls := .type "dict", data := .dict #[⟨PyData.keyHash w.params "comp_select_list", .str "comp_select_list" td, v⟩] nd }) := ⟨hj, rfl, rfl, hod⟩
  exact method_fn (K := Ks w) b.k I (by rfl) (by rfl) (by rfl) (by rfl) (by rfl) h
end
local macro_rules | `(tactic| walk_at "callWith ref") => `(tactic| k_dflt (refine' cw_m (St.bs (by assumption) (by assumption)) (by exact rfl) ?_))
noncomputable abbrev TupI (z : Heap) (v : Value) (n : Int) : Prop := ∃ a k, v = .ref a ∧ z.IsTuple a #[.int n k]
theorem TupI.keep {z z' : Heap} {v : Value} {n : Int} (h : TupI z v n) (k : z.StaysIn z') : TupI z' v n := by obtain ⟨a, t, e, q⟩ := h; exact ⟨a, t, e, q.at fun _ e => k _ _ e⟩
noncomputable abbrev JB1 (ns : List Int) (turn : Int) (a11 D jx : Addr) : Inv := fun i z' loc cl ms => ∃ bs, All2 IntIs bs (((List.range i).filter fun p => ns.all fun n => !decide (0 < cmpF turn (turn * ns.getD p 0) (turn * n))).map fun (p : Nat) => (p : Int)) ∧ bs.length ≤ i ∧ loc = ([("best", .ref a11)] : Lo) ∧ cl = ([("rows", .ref D), ("judge", .ref jx)] : Lo) ∧ ms = ([(a11, lsO bs)] : Ml)
theorem best_spec {w : World} {z : Heap} {A : Around} {s : Shared} {E Q : Value → Shared → Prop} {ls : Addr} {vs : List Value} {ns : List Int} {turn : Int} {tt : Tok} (b : Bs w z) (hz : z.StaysIn s.heap) (o : Ok A 10 100)
    (hl : z.PlainList ls vs.toArray) (hv : All2 IntIs vs ns) (hlen : ns.length ≤ 8) (ht0 : -1 ≤ turn) (ht1 : turn ≤ 1) (hb0 : ∀ n ∈ ns, -1000000 ≤ n) (hb1 : ∀ n ∈ ns, n ≤ 1000000)
    (hQ : Ret z s (fun z' v => ∃ a bs, v = .ref a ∧ z'.PlainList a bs.toArray ∧ All2 IntIs bs (((List.range ns.length).filter fun p => ns.all fun n => !decide (0 < cmpF turn (turn * ns.getD p 0) (turn * n))).map fun (p : Nat) => (p : Int))) Q) :
    wpAny (Md w) A (call (.ref 166) [.ref ls, .int turn tt]) Q E s := by
  refine' call_fnCL (fs := []) (d := 9) (u := 97) (binds := [("steps", .ref ls), ("turn", .int turn tt)]) [("steps", .ref ls)] [("turn", .int turn tt)] b hz o ?ho ?hcd ?hbind ?hkind ?hl ?hc ?hnd ?hco ?hgen ?hk ?_
  (case ho => exact rfl); (case hcd => exact rfl); (case hbind => exact rfl); (case hkind => exact rfl); (case hl => exact fun p hp => by obtain rfl := List.mem_singleton.mp hp; rfl); (case hc => exact fun p hp => by obtain rfl := List.mem_singleton.mp hp; rfl); (case hnd => exact fun L => by simp [cellsFrom]; decide); (case hco => exact rfl); (case hgen => exact rfl); (case hk => exact rfl)
  intro env0 A0 X0 s₁ S e1 e2 o1
  have hvl := hv.length
  (repeat' (first | walk1 | (dsimp only; walk1)))
  rename_i a1 h1 S1 a2 h2 S2
  · exact S2.bs b
  rename_i a1 h1 S1 a2 h2 S2
  obtain ⟨z1, kz1, S3, o3, g3, n3, rfl⟩ := S2.freeze
  obtain ⟨z2, kz2, S4, o4, g4, n4, rfl⟩ := S3.freeze
  refine tc_new b o1.le S4 fun jx dx z3 s3 kz3 S5 hj0 hd eo3 eg3 => ?_
  (repeat' (first | walk1 | (dsimp only; walk1)))
  rename_i h6 S6
  refine lc_eval (by rfl) rfl (by decide) ?_
  (repeat' (first | walk1 | (dsimp only; walk1)))
  refine it_list S6 (hl.at fun _ e => kz3 _ _ (kz2 _ _ (kz1 _ _ e))) fun I h7 S7 => ?_
  refine lc_go (Itr.ls o1.hd (hl.at fun _ e => kz3 _ _ (kz2 _ _ (kz1 _ _ e)))) (by exact om79 hlen hvl) (by decide) rfl S7 (fun i z' us => All2 (TupI z') us ((ns.take i).map (turn * ·))) (Rse s) .nil ⟨eo3.trans e1, eg3.trans e2⟩ ?_ ?_
  · intro C D i v z' us loc' s4 hi hx hz' hj hr hl S8
    have c1 := S7.cellE (x := "turn") rfl rfl
    obtain ⟨n, hn, tn, rfl⟩ := hv.get' hx
    have n0 := hb0 n (List.mem_of_getElem? hn)
    have n1 := hb1 n (List.mem_of_getElem? hn)
    refine wpAny_assign_Name ?_
    (repeat' (first | walk1 | (dsimp only; walk1)))
    rename_i h9 S9 a9 h10 S10
    obtain ⟨z4, kz4, S11, o11, g11, n11, rfl⟩ := S10.freeze
    refine ⟨z4, _, kz4, ?_, hr, S11⟩
    rw [List.take_add_one, hn, List.map_append]
    exact (hj.mono fun a b q => q.keep kz4).snoc ⟨a9, _, rfl, ⟨_, g11, rfl, n11, rfl⟩⟩
  · intro C D us z' s4 hz' hj hr hl S8
    refine lc_none S8 fun h9 S9 => ?_
    rw [List.take_of_length_le (by exact om27 hvl)] at hj
    (repeat' (first | walk1 | (dsimp only; walk1)))
    rename_i h10 S10 a11 h11 S11 h12 S12
    obtain ⟨z5, kz5, S13, o13, g13, n13, rfl⟩ := S12.swap.freeze
    have hrows : z5.PlainList D us.toArray := ⟨n13, g13⟩
    have hj5 : All2 (TupI z5) us (ns.map (turn * ·)) := hj.mono fun a b q => q.keep kz5
    have hul := hj5.length
    rw [List.length_map] at hul
    have kj : z3.StaysIn z5 := stays_trans hz' kz5
    refine wpAny_For ?_
    (repeat' (first | walk1 | (dsimp only; walk1)))
    refine ln_list (frz_l S13 hrows) (by exact om79 hlen hul) fun t14 k14 => ?_
    (repeat' (first | walk1 | (dsimp only; walk1)))
    refine rg_1 S13 fun r h15 k15 S15 => ?_
    (repeat' (first | walk1 | (dsimp only; walk1)))
    refine for_range (a := 0) (n := ns.length) o1.hd (by decide) (by exact om80 hlen) (by exact om81 hul) (S15.less (loc' := [("best", .ref a11)]) (cl' := [("rows", .ref D), ("judge", .ref jx)]) (by exact rfl) (by exact rfl))
      (JB1 ns turn a11 D jx) (Rse s) ⟨[], .nil, Nat.zero_le _, rfl, rfl, rfl⟩ hr ?_ ?_
    · rintro q i t z6 _ _ _ s6 hi hz6 ⟨bs, hbs, hbl, rfl, rfl, rfl⟩ ⟨r1, r2⟩ S16
      refine wpAny_assign_Name ?_
      (repeat' (first | walk1 | (dsimp only; walk1)))
      rename_i h17 S17
      refine lc_eval (by rfl) rfl (by decide) ?_
      (repeat' (first | walk1 | (dsimp only; walk1)))
      have hrows6 : z6.PlainList D us.toArray := hrows.at fun _ e => hz6 _ _ e
      refine it_list S17 hrows6 fun I2 h18 S18 => ?_
      have c1 := S18.cellE (x := "rows") rfl rfl
      have c2 := S18.cellE (x := "judge") rfl rfl
      have c3 := S18.cellE (x := "place") rfl rfl
      have hj6 : All2 (TupI z6) us (ns.map (turn * ·)) := hj5.mono fun a b q => q.keep hz6
      refine lc_go (Itr.ls o1.hd hrows6) (by exact om79 hlen hul) (by decide) rfl S18 (fun j z' ws => ws.length = ((ns.take j).filter fun n => decide (0 < cmpF turn (turn * ns.getD i 0) (turn * n))).length) (Rse s) rfl ⟨r1, r2⟩ ?_ ?_
      · intro C2 D2 i2 v z7 ws loc7 s7 hi2 hx2 hz7 hjj hr7 hl7 S19
        obtain ⟨m, hm, a2, kt2, rfl, ht2⟩ := hj6.get' hx2
        have b6 : Bs w z6 := S16.bsz b
        have kh : ∀ {h : Heap}, z7.StaysIn h → z3.StaysIn h := fun k => stays_trans kj (stays_trans hz6 (stays_trans hz7 k))
        refine wpAny_assign_Name ?_
        (repeat' (first | walk1 | (dsimp only; walk1)))
        rename_i h20 S20
        refine tc_method (S20.bs b6) (kh S20.frz _ _ hj0) (Heap.mu_of hd (kh S20.frz)) ?_
        (repeat' (first | walk1 | (dsimp only; walk1)))
        have gi : (ns.map (turn * ·))[i]? = some (turn * ns.getD i 0) := by simp [hi]
        obtain ⟨vi, hvi, a3, kt3, rfl, ht3⟩ := hj6.get gi
        obtain ⟨m2, hm2, rfl⟩ : ∃ m2, ns[i2]? = some m2 ∧ turn * m2 = m := by
          rw [List.getElem?_map] at hm
          obtain ⟨q, q1, q2⟩ := Option.map_eq_some_iff.mp hm
          exact ⟨q, q1, q2⟩
        have kh6 : ∀ {h : Heap}, z7.StaysIn h → z6.StaysIn h := fun k => stays_trans hz7 k
        refine item_pos (frz_l S20 (hrows6.at fun _ e => hz7 _ _ e)) (by exact om83) (by exact om84 hlen hi) (v := .ref a3) (by rw [← hvi]; congr 1; exact om85) rfl ?_
        (repeat' (first | walk1 | (dsimp only; walk1)))
        · exact S20.bs b6
        refine compare_spec (z := z7) (S20.bsz b6) S20.frz o1.le (kh (stays_refl _) _ _ hj0) (Heap.mu_of hd (kh (stays_refl _))) ⟨_, kh (stays_refl _) _ _ (kz3 _ _ (kz2 _ _ g3)), rfl, n3, rfl⟩ ⟨_, kh (stays_refl _) _ _ (kz3 _ _ g4), rfl, n4, rfl⟩ (ht3.at fun _ e => hz7 _ _ e) (ht2.at fun _ e => hz7 _ _ e) fun v z8 s8 k8 f8 fr8 ws8 eo8 eg8 hpat => ?_
        obtain ⟨t8, hv8⟩ := hpat
        subst hv8
        have S21 := S20.after ws8 (fun _ q => (nomatch q)) k8 f8 fr8
        (repeat' (first | walk1 | (dsimp only; walk1)))
        · rename_i hpos
          refine ⟨z8, _, k8, ?_, And.intro (eo8.trans hr7.1) (eg8.trans hr7.2), S21⟩
          show (ws ++ [Value.ref a2]).length = _
          have e1 : List.filter (fun n => decide (0 < cmpF turn (turn * ns.getD i 0) (turn * n))) (some m2).toList = [m2] := by
            show List.filter _ [m2] = _
            rw [List.filter_cons, if_pos (decide_eq_true hpos)]; rfl
          rw [List.take_add_one, hm2, List.filter_append, List.length_append, List.length_append, hjj, e1]
          rfl
        · rename_i hpos
          refine ⟨z8, _, k8, ?_, And.intro (eo8.trans hr7.1) (eg8.trans hr7.2), S21⟩
          show ws.length = _
          have e1 : List.filter (fun n => decide (0 < cmpF turn (turn * ns.getD i 0) (turn * n))) (some m2).toList = [] := by
            show List.filter _ [m2] = _
            rw [List.filter_cons, if_neg (by simpa using hpos)]; rfl
          rw [List.take_add_one, hm2, List.filter_append, List.length_append, hjj, e1]
          rfl
      · intro C2 D2 ws z7 s7 hz7 hjj hr7 hl7 S19
        refine lc_none S19 fun h20 S20 => ?_
        rw [List.take_of_length_le (by exact om27 hul)] at hjj
        (repeat' (first | walk1 | (dsimp only; walk1)))
        rename_i a21 h21 S21
        refine eq_nil o1.units (own_l S21 (by (repeat' (first | exact List.Mem.head _ | refine' List.Mem.tail _ ?_)))) (own_l S21 (by (repeat' (first | exact List.Mem.head _ | refine' List.Mem.tail _ ?_)))) ?_
        (repeat' (first | walk1 | (dsimp only; walk1)))
        · rename_i hz
          refine app_own (x := .int (0 + i) t) S21.drop.drop.swap (by have hsz9 : sizeLine = 16777216 := rfl; exact om110 hlen hi hbl hsz9) fun h22 S22 => ?_
          (repeat' (first | walk1 | (dsimp only; walk1)))
          refine ⟨z7, _, _, _, hz7, ⟨_, ?_, ?_, rfl, rfl, rfl⟩, hr7, S22.swap.less (loc' := [("best", _)]) (cl' := [("rows", _), ("judge", _)]) (by exact rfl) (by exact rfl)⟩
          · rw [List.range_succ, List.filter_append, List.map_append]
            have : (ns.all fun n => !decide (0 < cmpF turn (turn * ns.getD i 0) (turn * n))) = true := by
              rw [List.all_eq_true]
              intro n hn
              have := List.length_eq_zero_iff.mp (hjj.symm.trans hz)
              have h2 := List.filter_eq_nil_iff.mp this n hn
              simpa using h2
            simp only [List.filter_cons, this, if_pos, List.filter_nil, List.map_cons, List.map_nil]
            exact hbs.snoc ⟨t, by rw [Int.zero_add]⟩
          · rw [List.length_append]; exact Nat.succ_le_succ hbl
        · rename_i hz
          refine ⟨z7, _, _, _, hz7, ⟨bs, ?_, Nat.le_succ_of_le hbl, rfl, rfl, rfl⟩, hr7, S21.drop.drop.less (loc' := [("best", _)]) (cl' := [("rows", _), ("judge", _)]) (by exact rfl) (by exact rfl)⟩
          rw [List.range_succ, List.filter_append, List.map_append]
          have : (ns.all fun n => !decide (0 < cmpF turn (turn * ns.getD i 0) (turn * n))) = false := by
            cases q : (ns.all fun n => !decide (0 < cmpF turn (turn * ns.getD i 0) (turn * n))) with
            | false => rfl
            | true =>
              exfalso
              apply hz
              rw [hjj, List.length_eq_zero_iff, List.filter_eq_nil_iff]
              intro n hn
              have := List.all_eq_true.mp q n hn
              simpa using this
          simp only [List.filter_cons, this, List.filter_nil, List.map_nil, List.append_nil, Bool.false_eq_true, if_false]
          exact hbs
    · rintro z6 _ _ _ s6 hz6 ⟨bs, hbs, hbl, rfl, rfl, rfl⟩ ⟨r1, r2⟩ S16
      (repeat' (first | walk1 | (dsimp only; walk1)))
      obtain ⟨z7, kz7, S17, o17, g17, n17, rfl⟩ := S16.freeze
      exact hQ _ z7 _ (stays_trans (stays_trans kz1 (stays_trans kz2 kz3)) (stays_trans kj (stays_trans hz6 kz7))) S17.frz S17.fresh S17.old r1 r2 ⟨a11, bs, rfl, ⟨n17, g17⟩, hbs⟩

section
variable {X : Fx} {z z' h h' hB : Heap} {loc cl loc' cl' : List (Str × Value)} {ms ms' : List (Addr × (Obj → Prop))}
variable {w : World} {A : Around} {E : Value → Shared → Prop} {s : Shared} {env : Env}

theorem not_sys {h : Heap} (b : Bs w h) : (h.objs.size == sysModules) = false := by
  obtain ⟨_, _, t⟩ := b.t
  have h3 : mainGlobals < h.objs.size := t.g.lt
  have h4 : sysModules < mainGlobals := by decide
  simp only [beq_eq_false_iff_ne, ne_eq]
  intro e
  rw [e] at h3
  exact absurd (Nat.lt_trans h3 h4) (Nat.lt_irrefl _)

theorem dset {d : Addr} {kvs : List (Str × Value)} {k : Str} {t : Tok} {v : Value} {Q : Unit → Shared → Prop} (S : St X z loc cl ((d, dcO w kvs) :: ms) s.heap) (hsz : kvs.length ≤ 1000)
    (h : ∀ h' tk, St X z loc cl ((d, dcO w (stored kvs k v)) :: ms) h' → Q () { s with heap := h', toks := tk }) : wpAny (Md w) A (dictSet d (.str k t) v) Q E s := by
  have hsz9 : sizeLine = 16777216 := rfl
  unfold dictSet
  refine wpAny_holding (wpAny_bind ((sk w).pyHash (k := k) (sk_is w k t) ?_))
  refine wpAny_dictSetHashed_pairs (knd := sk w) (sk_is w k t) (own_d S List.mem_cons_self) (fun h' hd hs => ?_) (by exact om58 hsz hsz9)
  obtain ⟨_, e, hp⟩ := Heap.dictOf_iff.mp hd
  exact h h' _ (S.setm hs e hp)

/-- how a display of two entries ends -/
noncomputable def D2End (w : World) (X : Fx) (loc cl : Lo) (ms : Ml) (D : Addr) (Q : Value → Shared → Prop) (kv1 vv1 kv2 vv2 : Value) (s : Shared) : Prop :=
  ∃ x1 t1 x2 t2 z, kv1 = .str x1 t1 ∧ kv2 = .str x2 t2 ∧ St X z loc cl ((D, dcO w []) :: ms) s.heap ∧ ∀ h' tk, St X z loc cl ((D, dcO w (stored (stored [] x1 vv1) x2 vv2)) :: ms) h' → Q (.ref D) { s with heap := h', toks := tk }
theorem nw_dict2 {k1 k2 v1 v2 : Expr} {pos : Pos} {Q : Value → Shared → Prop} (b : Bs w X.z0) (S : St X z loc cl ms s.heap)
    (h : ∀ D h1, (D == sysModules) = false → St X z loc cl ((D, dcO w []) :: ms) h1 → wpAny (Md w) A (eval k1 env) (fun kv1 s1 => wpAny (Md w) A (eval v1 env) (fun vv1 s2 => wpAny (Md w) A (eval k2 env) (fun kv2 s3 => wpAny (Md w) A (eval v2 env) (fun vv2 s4 =>
      D2End w X loc cl ms D Q kv1 vv1 kv2 vv2 s4) E s3) E s2) E s1) E { s with heap := h1 }) :
    wpAny (Md w) A (eval (.Dict [some k1, some k2] [v1, v2] pos) env) Q E s := by
  refine wpAny_Dict_walk (knd := sk w) rfl rfl (by simp) (by show 2 ≤ 15; decide) ?_
  have S1 := S.push { cls := .type "dict", data := .dict #[] } (p := dcO w []) ⟨#[], 0, ⟨rfl, rfl, rfl⟩, rfl, fun _ he => by simp at he, .nil, .nil⟩
  refine pairTrees_cons_walk (wpAny_mono (h _ _ (not_sys (S.bs b)) S1) (fun kv1 s1 h1 => wpAny_mono h1 (fun vv1 s2 h2 => pairTrees_cons_walk (wpAny_mono h2 (fun kv2 s3 h3 => wpAny_mono h3 (fun vv2 s4 h4 => pairTrees_nil_walk ?_) fun _ _ x => x) fun _ _ x => x)) fun _ _ x => x) fun _ _ x => x)
  obtain ⟨x1, t1, x2, t2, z', rfl, rfl, S2, hq⟩ := h4
  refine ⟨[(x1, vv1), (x2, vv2)], ?_, own_d S2 List.mem_cons_self, fun h' hd hs => ?_⟩
  · exact ⟨sk_is w x1 t1, rfl, sk_is w x2 t2, rfl, trivial⟩
  · obtain ⟨_, e, hp⟩ := Heap.dictOf_iff.mp hd
    exact hq h' _ (S2.setm hs e hp)

theorem dc_eval {kx vx iter : Expr} {x : Str} {px : Pos} {ifs : List Expr} {scope : Scope} {clz : List (Str × Addr)} {pos : Pos} {Q : Value → Shared → Prop}
    (hclos : closureFor scope env = pure clz) (hkind : scope.kind = .function) (hnames : ∀ y ∈ scope.names, y.2 = .local → scope.names.lookup y.1 = some .local)
    (h : wpAny (Md w) A (eval iter env) (fun xv s₁ => wpAny (Md w) A (pyIter xv) (fun it s₂ => LcGo w A E none Q (.DictComp kx vx [⟨.Name x px, iter, ifs, 0⟩] scope pos) newDict scope clz env it s₂) E s₁) E s)
    (hs : ∀ x, foldedSetIterable iter env x = pure x := by intro _; rfl) :
    wpAny (Md w) A (eval (.DictComp kx vx [⟨.Name x px, iter, ifs, 0⟩] scope pos) env) Q E s := by
  rw [arm_eval_DictComp]
  exact wpAny_comprehension_free (use := none) rfl hs hclos hkind hnames h

/-- how a turn of a table's comprehension ends -/
noncomputable def DcNext (w : World) (X : Fx) (z z₁ : Heap) (hB : Heap) (I C D : Addr) (p : Obj → Prop) (J : Heap → List (Str × Value) → Prop) (R : Rs) (old : List (Str × Value)) (kv vv : Value) (s : Shared) : Prop :=
  ∃ k t z' loc, kv = .str k t ∧ z₁.StaysIn z' ∧ J z' (stored old k vv) ∧ R s.os s.gens ∧ St (Xc X z hB I C) z' loc [] [(I, p), (D, dcO w old)] s.heap

theorem dc_go {kx vx iter : Expr} {x : Str} {px : Pos} {scope : Scope} {clz : List (Str × Addr)} {pos : Pos} {I : Addr} {n : Nat} {P : Nat → Value → Prop} {p : Nat → Obj → Prop} {use : Option (Value → Sem Unit)} {Q : Value → Shared → Prop} (b : Bs w X.z0)
    (IT : Itr w A z I n P p) (hn : n ≤ 1000) (hcell : ∀ y ∈ scope.names, y.2 ≠ .cell) (hkind : scope.kind = .function)
    (S : St X z loc cl ((I, p 0) :: ms) s.heap) (J : Nat → Heap → List (Str × Value) → Prop) (R : Rs) (j0 : J 0 z []) (r0 : R s.os s.gens)
    (turn : ∀ C D i v z' kvs loc' (s' : Shared), i < n → P i v → z.StaysIn z' → J i z' kvs → R s'.os s'.gens → St (Xc X z s.heap I C) z' loc' [] [(I, p (i + 1)), (D, dcO w kvs)] s'.heap →
      wpAny (Md w) A (assign (.Name x px) (compEnvC scope clz C env) v) (fun _ s2 => wpAny (Md w) A (eval kx (compEnvC scope clz C env)) (fun kv s3 => wpAny (Md w) A (eval vx (compEnvC scope clz C env)) (fun vv s4 =>
        DcNext w X z z' s.heap I C D (p (i + 1)) (J (i + 1)) R kvs kv vv s4) (fun _ _ => False) s3) (fun _ _ => False) s2) (fun _ _ => False) s')
    (done : ∀ C D kvs z' s', (D == sysModules) = false → z.StaysIn z' → J n z' kvs → R s'.os s'.gens → St X z' loc cl ((C, nsO []) :: (D, dcO w kvs) :: ms) s'.heap → compPost (Md w) A E use Q (.ref D) C (.ok .next) s') :
    LcGo w A E use Q (.DictComp kx vx [⟨.Name x px, iter, [], 0⟩] scope pos) newDict scope clz env (.ref I) s := by
  have hsz9 : sizeLine = 16777216 := rfl
  have hsys := not_sys (S.bs b)
  unfold LcGo
  simp only [newDict, newObj]
  refine wpAny_bind (wpAny_alloc (wpAny_pure ?_))
  refine wpAny_newFunctionEnv hcell (by intro y hy; simp at hy) (fun h₁ hns₁ hsb₁ => ?_) hkind
  dsimp only at hns₁ hsb₁ ⊢
  have Sc := comp_in (pD := dcO w []) S rfl rfl rfl hns₁ hsb₁ ⟨#[], 0, ⟨rfl, rfl, rfl⟩, rfl, fun _ he => by simp at he, .nil, .nil⟩
  generalize hC : (s.heap.push { cls := .type "dict", data := .dict #[] }).objs.size = C at *
  have hDn : s.heap.get? s.heap.objs.size = none := get_size_none _ (Nat.le_refl _)
  have hCn : s.heap.get? C = none := get_size_none _ (by rw [← hC, Heap.size_push]; exact Nat.le_succ _)
  generalize hD : s.heap.objs.size = D at *
  have loop : codeAny (Md w) A (.compLoop (.DictComp kx vx [⟨.Name x px, iter, [], 0⟩] scope pos) 0 (.ref I) (.ref D) (compEnvC scope clz C env)) (compPost (Md w) A E use Q (.ref D) C) { s with heap := h₁, toks := s.toks + ([] : List (Str × Value)).length } := by
    refine codeAny_compLoop_testsD (fun k s' => ∃ i kvs z' loc', k + i = n ∧ z.StaysIn z' ∧ J i z' kvs ∧ R s'.os s'.gens ∧ kvs.length ≤ i ∧ St (Xc X z s.heap I C) z' loc' [] [(I, p i), (D, dcO w kvs)] s'.heap) ?_ n ⟨0, [], z, [], rfl, stays_refl z, j0, r0, Nat.le_refl _, Sc⟩
    rintro k s' ⟨i, kvs, z', loc', hk, hz, hj, hr, hl, S'⟩
    obtain ⟨o, ho, hp⟩ := S'.mu (I, p i) List.mem_cons_self
    by_cases hi : i < n
    · refine IT.item i s' _ _ o hi (stays_trans hz S'.frz) ho hp fun v h' tk o' hv ho' hp' hs => ?_
      have S2 := S'.setm hs ho' hp'
      refine wpAny_mono (turn C D i v z' kvs loc' { s' with heap := h', toks := tk } hi hv hz hj hr S2) (fun _ s2 h2 => ?_) fun _ _ x => x.elim
      rw [List.forIn_nil]
      refine wpAny_pure ?_
      rw [if_pos rfl]
      refine wpAny_mono h2 (fun kv s3 h3 => wpAny_mono h3 (fun vv s4 h4 => ?_) fun _ _ x => x.elim) fun _ _ x => x.elim
      obtain ⟨kk, t, z2, loc2, rfl, k2, j2, r2, S4⟩ := h4
      refine dset S4.swap (by exact om111 hn hl hi) fun h5 tk5 S5 => ?_
      refine ⟨k - 1, by exact om8 hk hi, i + 1, _, z2, loc2, by exact om9 hk hi, stays_trans hz k2, j2, r2, ?_, S5.swap⟩
      unfold stored
      split
      · rw [List.length_map]; exact om44 hl
      · rw [List.length_append]; simp only [List.length_cons, List.length_nil]; exact om112 hl
    · obtain rfl : i = n := by exact om10 hk hi
      refine IT.done s' _ _ o (stays_trans hz S'.frz) ho hp fun h' hs => ?_
      have oI := S'.own I (by simp [Fx.pv])
      exact done C D kvs z' _ hsys hz hj hr (comp_out S (S'.lose hs) hDn hCn oI.1)
  obtain ⟨oI, eI, pI⟩ := Sc.mu (I, p 0) List.mem_cons_self
  exact codeAny_compStart_dict loop (IT.self 0 _ _ _ oI eI pI loop)

theorem dc_none {Q : Value → Shared → Prop} {C D : Addr} {pD : Obj → Prop} {z' : Heap} {s' : Shared} (S : St X z' loc cl ((C, nsO []) :: (D, pD) :: ms) s'.heap)
    (h : ∀ h', St X z' loc cl ((D, pD) :: ms) h' → Q (.ref D) { s' with heap := h' }) : compPost (Md w) A E none Q (.ref D) C (.ok .next) s' := by
  obtain ⟨o, e, es, ep, m, d, k, f, l⟩ := S.mu _ List.mem_cons_self
  exact ⟨m, ⟨o, es, ep, e, d, k, f⟩, fun h' hs => h h' (S.lose hs.extBut)⟩
end

theorem All2.map2 {α β γ δ : Type} {R : α → β → Prop} {R' : γ → δ → Prop} {f : α → γ} {g : β → δ} {as : List α} {bs : List β} (h : All2 R as bs) (k : ∀ a b, R a b → R' (f a) (g b)) : All2 R' (as.map f) (bs.map g) := by
  induction h with
  | nil => exact .nil
  | cons a _ ih => exact .cons (k _ _ a) ih

theorem All2.map2m {α β γ δ : Type} {R : α → β → Prop} {R' : γ → δ → Prop} {f : α → γ} {g : β → δ} {as : List α} {bs : List β} (h : All2 R as bs) (k : ∀ a b, b ∈ bs → R a b → R' (f a) (g b)) : All2 R' (as.map f) (bs.map g) := by
  induction h with
  | nil => exact .nil
  | cons a _ ih => exact .cons (k _ _ (.head _) a) (ih fun a b hb => k a b (.tail _ hb))
/- sums of tables -/
theorem addOne_keys {es : List (Str × Int)} {k : Str} {n : Int} (nd : (es.map (·.1)).Nodup) : ((addOne es k n).map (·.1)).Nodup := by
  unfold addOne
  split
  · rw [List.map_map]
    have : ((fun x : Str × Int => x.1) ∘ fun e : Str × Int => if e.1 = k then (e.1, e.2 + n) else e) = fun x => x.1 := by
      funext x; simp only [Function.comp]; split <;> rfl
    rw [this]; exact nd
  · rename_i hany
    rw [List.map_append, List.nodup_append]
    refine ⟨nd, by simp, fun x hx y hy hxy => hany ?_⟩
    obtain ⟨e, he, rfl⟩ := List.mem_map.mp hx
    simp only [List.map_cons, List.map_nil, List.mem_singleton] at hy
    rw [List.any_eq_true]
    exact ⟨e, he, by simp [hxy, hy]⟩
theorem addMap_sum {k : Str} {n : Int} : ∀ {es : List (Str × Int)}, (es.map (·.1)).Nodup → ((es.map fun e => if e.1 = k then (e.1, e.2 + n) else e).map (·.2)).sum = (es.map (·.2)).sum + if (es.any fun e => e.1 = k) = true then n else 0
  | [], _ => by simp
  | e :: es, nd => by
    simp only [List.map_cons, List.nodup_cons] at nd
    have ih := addMap_sum (k := k) (n := n) nd.2
    rw [List.map_cons, List.map_cons, List.sum_cons, ih, List.map_cons, List.sum_cons, List.any_cons]
    by_cases h : e.1 = k
    · have hno : (es.any fun e => decide (e.1 = k)) = false := by
        rw [List.any_eq_false]
        intro x hx hxk
        have hxk : x.1 = k := by simpa using hxk
        exact nd.1 (by rw [h, ← hxk]; exact List.mem_map_of_mem (f := (·.1)) hx)
      rw [hno, if_pos h, decide_eq_true h, if_neg Bool.false_ne_true]
      simp only [Bool.true_or, if_pos]
      exact om113
    · rw [if_neg h, decide_eq_false h, Bool.false_or]
      exact om114
theorem addOne_sum {es : List (Str × Int)} {k : Str} {n : Int} (nd : (es.map (·.1)).Nodup) : ((addOne es k n).map (·.2)).sum = (es.map (·.2)).sum + n := by
  unfold addOne
  split
  · rename_i h
    rw [addMap_sum nd, if_pos h]
  · simp
theorem addAll_sum : ∀ {es2 es : List (Str × Int)}, (es.map (·.1)).Nodup → ((addAll es es2).map (·.2)).sum = (es.map (·.2)).sum + (es2.map (·.2)).sum
  | [], es, _ => by simp [addAll]
  | e :: es2, es, nd => by
    show ((addAll (addOne es e.1 e.2) es2).map (·.2)).sum = _
    rw [addAll_sum (addOne_keys nd), addOne_sum nd]
    simp
    exact om115
theorem addAll_length : ∀ {es2 es : List (Str × Int)}, (addAll es es2).length ≤ es.length + es2.length
  | [], es => by simp [addAll]
  | e :: es2, es => by
    show (addAll (addOne es e.1 e.2) es2).length ≤ _
    have := addAll_length (es2 := es2) (es := addOne es e.1 e.2)
    have h1 := addOne_length es e.1 e.2
    simp only [List.length_cons]
    exact om116 this h1

noncomputable abbrev Tab (w : World) (z : Heap) (v : Value) (S : Int) (L : Nat) : Prop := ∃ d kv es, v = .ref d ∧ (d == sysModules) = false ∧ z.DictOf (sk w) d kv ∧ All2 KvI kv es ∧ (es.map (·.2)).sum = S ∧ es.length ≤ L
theorem Tab.keep {w : World} {z z' : Heap} {v : Value} {S : Int} {L L' : Nat} (h : Tab w z v S L) (k : z.StaysIn z') (hL : L ≤ L') : Tab w z' v S L' := by obtain ⟨d, kv, es, a, b, c, e, f, g⟩ := h; exact ⟨d, kv, es, a, b, c.keep k, e, f, Nat.le_trans g hL⟩

noncomputable def tblSum (x : Int) : Int := (x.fdiv 32).fmod 5 + (x.fdiv 160).fmod 3
noncomputable def psum (W : List (List Str)) (ds : List Int) (i : Nat) (p : Str) : Int := ((List.range i).map fun q => ((W.getD q []).count p : Int) * tblSum (ds.getD q 0)).sum
theorem psum_succ (W : List (List Str)) (ds : List Int) (i : Nat) (p : Str) : psum W ds (i + 1) p = psum W ds i p + ((W.getD i []).count p : Int) * tblSum (ds.getD i 0) := by
  unfold psum; rw [List.range_succ]; simp

noncomputable abbrev RowT (w : World) (z : Heap) (L : Nat) (kv : Str × Value) (x : Str × Int) : Prop := kv.1 = x.1 ∧ Tab w z kv.2 x.2 L
theorem RowT.keys {w : World} {z : Heap} {L : Nat} {kvs : List (Str × Value)} {xs : List (Str × Int)} (h : All2 (RowT w z L) kvs xs) : kvs.map (·.1) = xs.map (·.1) := by
  induction h with
  | nil => rfl
  | cons a _ ih => simp [a.1, ih]
theorem stored_new {kvs : List (Str × Value)} {k : Str} {v : Value} (h : k ∉ kvs.map (·.1)) : stored kvs k v = kvs ++ [(k, v)] := by
  unfold stored
  rw [if_neg]
  intro hany
  rw [List.any_eq_true] at hany
  obtain ⟨e, he, hk⟩ := hany
  have hk : e.1 = k := by simpa using hk
  exact h (hk ▸ List.mem_map_of_mem he)
theorem stored_old {kvs : List (Str × Value)} {k : Str} {v : Value} (h : k ∈ kvs.map (·.1)) : stored kvs k v = kvs.map fun kv => if kv.1 = k then (kv.1, v) else kv := by
  unfold stored
  rw [if_pos]
  obtain ⟨e, he, rfl⟩ := List.mem_map.mp h
  rw [List.any_eq_true]
  exact ⟨e, he, by simp⟩
theorem fg_ne {k : Int} (h0 : 0 ≤ k) (h1 : k < 2) : Txt.item (Str.ofString "fg") k ≠ Str.ofString "h" := by
  have : k = 0 ∨ k = 1 := by exact om89 h0 h1
  rcases this with rfl | rfl <;> decide +kernel
theorem stored2 {k : Int} (h0 : 0 ≤ k) (h1 : k < 2) (v1 v2 : Value) : stored (stored [] (Txt.item (Str.ofString "fg") k) v1) (Str.ofString "h") v2 = [(Txt.item (Str.ofString "fg") k, v1), (Str.ofString "h", v2)] := by
  have e : stored [] (Txt.item (Str.ofString "fg") k) v1 = [(Txt.item (Str.ofString "fg") k, v1)] := rfl
  rw [e, stored_new (by simpa using fun e => fg_ne h0 h1 e.symm)]
  rfl
noncomputable abbrev JI1 (w : World) (P : List Str) (W : List (List Str)) (ds : List Int) (lp lw ld D : Addr) : Inv := fun i z' loc cl ms => ∃ kvs, All2 (RowT w z' (16 * i)) kvs (P.map fun p => (p, psum W ds i p)) ∧ loc = ([("paths", .ref lp), ("ways", .ref lw), ("draws", .ref ld)] : Lo) ∧ cl = ([("inside", .ref D)] : Lo) ∧ ms = ([(D, dcO w kvs)] : Ml)
noncomputable abbrev JI2 (w : World) (P : List Str) (W : List (List Str)) (ds : List Int) (lp lw ld D T : Addr) (q : Addr × (Obj → Prop)) (i : Nat) (xs : List Str) (x : Int) : Inv := fun j z' loc cl ms => ∃ kvs, All2 (RowT w z' (16 * i + 2 * j)) kvs (P.map fun p => (p, psum W ds i p + ((xs.take j).count p : Int) * tblSum x)) ∧ loc = ([("table", .ref T), ("paths", .ref lp), ("ways", .ref lw), ("draws", .ref ld)] : Lo) ∧ cl = ([("inside", .ref D)] : Lo) ∧ ms = ([q, (D, dcO w kvs)] : Ml)
theorem inside_spec {w : World} {z : Heap} {A : Around} {s : Shared} {E Q : Value → Shared → Prop} {lp lw ld : Addr} {pvs wvs dvs : List Value} {P : List Str} {W : List (List Str)} {ds : List Int} (b : Bs w z) (hz : z.StaysIn s.heap) (o : Ok A 12 120)
    (hlp : z.PlainList lp pvs.toArray) (hP : All2 StrIs pvs P) (hlw : z.PlainList lw wvs.toArray) (hW : All2 (StrList z) wvs W) (hld : z.PlainList ld dvs.toArray) (hD : All2 IntIs dvs ds)
    (n1 : P.length ≤ 8) (n2 : W.length = P.length) (n3 : ds.length = P.length) (nd : P.Nodup) (hin : ∀ xs ∈ W, ∀ t ∈ xs, t ∈ P) (hwl : ∀ xs ∈ W, xs.length ≤ 8)
    (hQ : Ret z s (fun z' v => ∃ a vs, v = .ref a ∧ z'.PlainList a vs.toArray ∧ All2 IntIs vs (P.map (psum W ds P.length))) Q) :
    wpAny (Md w) A (call (.ref 154) [.ref lp, .ref lw, .ref ld]) Q E s := by
  refine' call_fnCL (fs := []) (d := 11) (u := 117) (binds := [("paths", .ref lp), ("ways", .ref lw), ("draws", .ref ld)]) [("paths", .ref lp), ("ways", .ref lw), ("draws", .ref ld)] [] b hz o ?ho ?hcd ?hbind ?hkind ?hl ?hc ?hnd ?hco ?hgen ?hk ?_
  (case ho => exact rfl); (case hcd => exact rfl); (case hbind => exact rfl); (case hkind => exact rfl)
  (case hl => exact fun p hp => by simp only [List.mem_cons, List.not_mem_nil, or_false] at hp; rcases hp with rfl | rfl | rfl <;> rfl); (case hc => exact fun p hp => nomatch hp); (case hnd => exact fun L => by simp [cellsFrom]); (case hco => exact rfl); (case hgen => exact rfl); (case hk => exact rfl)
  intro env0 A0 X0 s₁ S e1 e2 o1
  have hpl := hP.length
  have hwl2 := hW.length
  have hdl := hD.length
  (repeat' (first | walk1 | (dsimp only; walk1)))
  refine dc_eval (by rfl) rfl (by decide) ?_
  (repeat' (first | walk1 | (dsimp only; walk1)))
  refine it_list S hlp fun I h2 S2 => ?_
  refine dc_go b (Itr.ls o1.hd hlp) (by exact om79 n1 hpl) (by decide) rfl S2 (fun i z' kvs => All2 (RowT w z' 0) kvs ((P.take i).map fun p => (p, (0 : Int)))) (Rse s) .nil ⟨e1, e2⟩ ?_ ?_
  · intro C D i v z' kvs loc' s3 hi hx hz' hj hr S3
    obtain ⟨p, hp, t, rfl⟩ := hP.get' hx
    have b1 : Bs w (Xc (Fx.mk z s.heap s.heap.objs.size [] []) z h2 I C).z0 := b
    refine wpAny_assign_Name ?_
    (repeat' (first | walk1 | (dsimp only; walk1)))
    rename_i h4 S4
    refine nw_dict b1 S4 fun a h5 ha S5 => ?_
    obtain ⟨z2, k2, S6, o6, g6, p6⟩ := S5.freeze
    have hkeys := RowT.keys hj
    have hpn : p ∉ kvs.map (·.1) := by
      rw [hkeys, List.map_map, show ((fun x : Str × Int => x.1) ∘ fun p : Str => (p, (0 : Int))) = id from rfl, List.map_id]
      intro hm
      have hnd := nd.sublist (List.take_sublist (i + 1) P)
      rw [List.take_add_one, hp] at hnd
      have := List.nodup_append.mp hnd
      exact this.2.2 p hm p (by simp) rfl
    refine ⟨p, t, z2, _, rfl, k2, ?_, hr, S6⟩
    rw [stored_new hpn, List.take_add_one, hp, List.map_append]
    refine (hj.mono fun a b q => ⟨q.1, q.2.keep k2 (Nat.le_refl _)⟩).snoc ⟨rfl, a, [], [], rfl, ha, Heap.dictOf_iff.mpr ⟨o6, g6, p6⟩, .nil, rfl, Nat.le_refl _⟩
  · intro C D kvs z' s3 hsys hz' hj hr S3
    refine dc_none S3 fun h4 S4 => ?_
    rw [List.take_of_length_le (by exact om27 hpl)] at hj
    (repeat' (first | walk1 | (dsimp only; walk1)))
    rename_i h5 S5
    refine wpAny_For ?_
    (repeat' (first | walk1 | (dsimp only; walk1)))
    refine ln_list (frz_l S5 (hlp.at fun _ e => hz' _ _ e)) (by exact om79 n1 hpl) fun t6 k6 => ?_
    (repeat' (first | walk1 | (dsimp only; walk1)))
    refine rg_1 S5 fun r h7 k7 S7 => ?_
    (repeat' (first | walk1 | (dsimp only; walk1)))
    refine for_range (a := 0) (n := P.length) o1.hd (by decide) (by exact om80 n1) (by exact om81 hpl) (S7.less (loc' := [("paths", .ref lp), ("ways", .ref lw), ("draws", .ref ld)]) (cl' := [("inside", .ref D)]) (by exact rfl) (by exact rfl))
      (JI1 w P W ds lp lw ld D) (Rse s) ⟨kvs, hj, rfl, rfl, rfl⟩ hr ?_ ?_
    · rintro q i t z6 _ _ _ s6 hi hz6 ⟨kvs, hkv, rfl, rfl, rfl⟩ ⟨r1, r2⟩ S8
      have kz : z.StaysIn z6 := stays_trans hz' hz6
      have gd : ds[i]? = some (ds.getD i 0) := by simp [show i < ds.length by exact om82 n3 hi]
      obtain ⟨vd, hvd, td, rfl⟩ := hD.get gd
      have gw : W[i]? = some (W.getD i []) := by simp [show i < W.length by exact om82 n2 hi]
      obtain ⟨vw, hvw, aw, ws, rfl, hlw', hws⟩ := hW.get gw
      generalize hx : ds.getD i 0 = x at *
      generalize hxs : W.getD i [] = xs at *
      have hxl : xs.length ≤ 8 := hwl xs (List.mem_of_getElem? gw)
      have hxin : ∀ t ∈ xs, t ∈ P := hin xs (List.mem_of_getElem? gw)
      refine wpAny_assign_Name ?_
      (repeat' (first | walk1 | (dsimp only; walk1)))
      rename_i h9 S9
      refine item_pos (frz_l S9 (hld.at fun _ e => kz _ _ e)) (by exact om83) (by exact om84 n1 hi) (v := .int x td) (by rw [← hvd]; congr 1; exact om85) rfl ?_
      (repeat' (first | walk1 | (dsimp only; walk1)))
      rename_i h10 S10
      have hk0 : 0 ≤ (x.fdiv 16).fmod 2 := Int.fmod_nonneg_of_pos _ (by decide)
      have hk1 : (x.fdiv 16).fmod 2 < 2 := Int.fmod_lt_of_pos _ (by decide)
      refine nw_dict2 b S10 fun T h11 hT S11 => ?_
      (repeat' (first | walk1 | (dsimp only; walk1)))
      refine tail_of_ItemOn (SBL.item (i := (x.fdiv 16).fmod 2) (by show -(2 : Int) ≤ _; exact om117 hk0) (by show _ < (2 : Int); exact om118 hk1) (by decide) fun _ => ?_) (by with_unfolding_all rfl) (by intro _; with_unfolding_all rfl)
      (repeat' (first | walk1 | (dsimp only; walk1)))
      refine ⟨_, _, _, _, z6, rfl, rfl, S11, fun h12 tk12 S12 => ?_⟩
      rw [stored2 hk0 hk1] at S12
      (repeat' (first | walk1 | (dsimp only; walk1)))
      rename_i h13 S13
      obtain ⟨z7, kz7, S14, o14, g14, p14⟩ := S13.freeze
      have hTd := Heap.dictOf_iff.mpr ⟨o14, g14, p14⟩
      refine wpAny_For ?_
      (repeat' (first | walk1 | (dsimp only; walk1)))
      have kz07 : z.StaysIn z7 := stays_trans kz kz7
      refine item_pos (frz_l S14 (hlw.at fun _ e => kz07 _ _ e)) (by exact om83) (by exact om84 n1 hi) (v := .ref aw) (by rw [← hvw]; congr 1; exact om85) rfl ?_
      refine for_ls o1.hd (S14.less (loc' := [("table", .ref T), ("paths", .ref lp), ("ways", .ref lw), ("draws", .ref ld)]) (cl' := [("inside", .ref D)]) (by exact rfl) (by exact rfl)) (hlw'.at fun _ e => kz07 _ _ e)
        (JI2 w P W ds lp lw ld D T q i xs x) (Rse s) ⟨kvs, ?_, rfl, rfl, rfl⟩ ⟨r1, r2⟩ ?_ ?_
      · have e : (P.map fun p => (p, psum W ds i p + ((xs.take 0).count p : Int) * tblSum x)) = P.map fun p => (p, psum W ds i p) := List.map_congr_left fun p _ => by simp
        rw [e]
        exact hkv.mono fun a b q => ⟨q.1, q.2.keep kz7 (by exact om119)⟩
      · rintro q2 j v z8 _ _ _ s8 hj2 hx2 hz8 ⟨kvs2, hkv2, rfl, rfl, rfl⟩ ⟨r3, r4⟩ S15
        obtain ⟨p, hp, tp, rfl⟩ := hws.get' hx2
        have hpP : p ∈ P := hxin p (List.mem_of_getElem? hp)
        have hkeys := RowT.keys hkv2
        rw [List.map_map, show ((fun y : Str × Int => y.1) ∘ fun p : Str => (p, psum W ds i p + ((xs.take j).count p : Int) * tblSum x)) = id from rfl, List.map_id] at hkeys
        obtain ⟨m, hm, hmp⟩ := List.getElem_of_mem hpP
        have gm : (P.map fun p => (p, psum W ds i p + ((xs.take j).count p : Int) * tblSum x))[m]? = some (p, psum W ds i p + ((xs.take j).count p : Int) * tblSum x) := by
          rw [List.getElem?_map, List.getElem?_eq_getElem hm, hmp]; rfl
        obtain ⟨⟨kp, vp⟩, hkp, hk1', d1, kv1, es1, hvp, hs1, hd1, hkv1, hsum1, hlen1⟩ := hkv2.get gm
        dsimp only at hk1' hvp
        subst hk1' hvp
        have hva : valueAt kvs2 kp = some (.ref d1) := valueAt_mem (by rw [hkeys]; exact nd) (List.mem_of_getElem? hkp)
        refine wpAny_assign_Name ?_
        (repeat' (first | walk1 | (dsimp only; walk1)))
        rename_i h16 S16
        refine item_d (own_d S16 (by (repeat' (first | exact List.Mem.head _ | refine' List.Mem.tail _ ?_)))) hva rfl ?_
        (repeat' (first | walk1 | (dsimp only; walk1)))
        · exact S16.bs b
        have hwsl := hws.length
        have nd1 : (es1.map (·.1)).Nodup := by rw [← kvi_keys hkv1]; exact (by obtain ⟨_, _, _, _, _, _, _, _, n⟩ := hd1; exact n)
        refine add_spec (es2 := [(Txt.item (Str.ofString "fg") ((x.fdiv 16).fmod 2), (x.fdiv 32).fmod 5), (Str.ofString "h", (x.fdiv 160).fmod 3)]) (S16.bsz b) S16.frz o1.le hs1 hd1 hkv1 hT (hTd.keep hz8) (.cons ⟨rfl, _, rfl⟩ (.one ⟨rfl, _, rfl⟩)) (by simp only [List.length_cons, List.length_nil]; exact om120 n1 hi hxl hj2 hlen1 hwsl) fun v z9 s9 k9 f9 fr9 ws9 eo9 eg9 hpat => ?_
        obtain ⟨a9, kv9, hv9, hs9, hd9, hkv9⟩ := hpat
        subst hv9
        have S17 := S16.after ws9 (fun _ q => (nomatch q)) k9 f9 fr9
        (repeat' (first | walk1 | (dsimp only; walk1)))
        refine set_d S17.pull (by have hsz9 : sizeLine = 16777216 := rfl; have := hkv2.length; rw [List.length_map] at this; exact om121 n1 hsz9 this) fun h18 S18 => ?_
        have S19 := S18.put
        (repeat' (first | walk1 | (dsimp only; walk1)))
        refine ⟨z9, _, _, _, k9, ⟨_, ?_, rfl, rfl, rfl⟩, And.intro (eo9.trans r3) (eg9.trans r4), S19.less (loc' := [("table", _), ("paths", _), ("ways", _), ("draws", _)]) (cl' := [("inside", _)]) (by exact rfl) (by exact rfl)⟩
        rw [stored_old (by rw [hkeys]; exact hpP)]
        have hg : (P.map fun p => (p, psum W ds i p + ((xs.take (j + 1)).count p : Int) * tblSum x)) = (P.map fun p => (p, psum W ds i p + ((xs.take j).count p : Int) * tblSum x)).map fun y => if y.1 = kp then (y.1, y.2 + tblSum x) else y := by
          rw [List.map_map]
          refine List.map_congr_left fun p' _ => ?_
          simp only [Function.comp]
          have hc : ((xs.take (j + 1)).count p' : Int) = ((xs.take j).count p' : Int) + if p' = kp then 1 else 0 := by
            rw [List.take_add_one, hp]
            show ((xs.take j ++ [kp]).count p' : Int) = _
            rw [List.count_append, List.count_singleton]
            by_cases hpk : p' = kp
            · subst hpk; simp
            · rw [if_neg hpk, if_neg (by simpa using fun e => hpk e.symm)]; simp
          rw [hc]
          by_cases hpk : p' = kp
          · rw [if_pos hpk, if_pos hpk, Int.add_mul, Int.one_mul, Int.add_assoc]
          · rw [if_neg hpk, if_neg hpk, Int.add_zero]
        rw [hg]
        refine hkv2.map2m fun u y hy hR => ?_
        obtain ⟨p', hp', rfl⟩ := List.mem_map.mp hy
        obtain ⟨hR1, hR2⟩ := hR
        dsimp only at hR1 ⊢
        by_cases hpk : p' = kp
        · rw [if_pos (hR1.trans hpk), if_pos hpk]
          subst hpk
          refine ⟨hR1, a9, kv9, _, rfl, hs9, hd9, hkv9, ?_, ?_⟩
          · rw [addAll_sum nd1, hsum1]
            simp [tblSum]
          · have := addAll_length (es := es1) (es2 := [(Txt.item (Str.ofString "fg") ((x.fdiv 16).fmod 2), (x.fdiv 32).fmod 5), (Str.ofString "h", (x.fdiv 160).fmod 3)])
            simp only [List.length_cons, List.length_nil] at this
            exact om122 hlen1 this
        · rw [if_neg (fun e => hpk (hR1.symm.trans e)), if_neg hpk]
          exact ⟨hR1, hR2.keep k9 (by exact om123)⟩
      · rintro z8 _ _ _ s8 hz8 ⟨kvs2, hkv2, rfl, rfl, rfl⟩ ⟨r3, r4⟩ S15
        (repeat' (first | walk1 | (dsimp only; walk1)))
        refine ⟨z8, _, _, _, stays_trans kz7 hz8, ⟨kvs2, ?_, rfl, rfl, rfl⟩, And.intro r3 r4, S15.less (loc' := [("paths", _), ("ways", _), ("draws", _)]) (cl' := [("inside", _)]) (by exact rfl) (by exact rfl)⟩
        have e : (P.map fun p => (p, psum W ds i p + ((xs.take ws.length).count p : Int) * tblSum x)) = P.map fun p => (p, psum W ds (i + 1) p) := List.map_congr_left fun p _ => by
          rw [psum_succ, hx, hxs, List.take_of_length_le (by have := hws.length; exact om27 this)]
        rw [e] at hkv2
        exact hkv2.mono fun a b q => ⟨q.1, q.2.keep (stays_refl _) (by have := hws.length; exact om124 hxl this)⟩
    · rintro z6 _ _ _ s6 hz6 ⟨kvs, hkv, rfl, rfl, rfl⟩ ⟨r1, r2⟩ S8
      obtain ⟨z7, kz7, S9, o9, g9, p9⟩ := S8.freeze
      have hDd := Heap.dictOf_iff.mpr ⟨o9, g9, p9⟩
      have hkv7 : All2 (RowT w z7 (16 * P.length)) kvs (P.map fun p => (p, psum W ds P.length p)) := hkv.mono fun a b q => ⟨q.1, q.2.keep kz7 (Nat.le_refl _)⟩
      have hkeys := RowT.keys hkv7
      rw [List.map_map, show ((fun y : Str × Int => y.1) ∘ fun p : Str => (p, psum W ds P.length p)) = id from rfl, List.map_id] at hkeys
      have hlp7 := hlp.at fun _ e => kz7 _ _ (hz6 _ _ (hz' _ _ e))
      (repeat' (first | walk1 | (dsimp only; walk1)))
      refine lc_eval (by rfl) rfl (by decide) ?_
      (repeat' (first | walk1 | (dsimp only; walk1)))
      refine it_list S9 hlp7 fun I2 h10 S10 => ?_
      have c1 := S10.cellE (x := "inside") rfl rfl
      have b7 : Bs w z7 := S9.bsz b
      refine lc_go (Itr.ls o1.hd hlp7) (by exact om79 n1 hpl) (by decide) rfl S10 (fun j z' us => All2 IntIs us ((P.take j).map (psum W ds P.length))) (Rse s) .nil ⟨r1, r2⟩ ?_ ?_
      · intro C2 D2 j v z8 us loc8 s8 hj2 hx2 hz8 hjj hr8 hl8 S11
        obtain ⟨p, hp, tp, rfl⟩ := hP.get' hx2
        have gm : (P.map fun p => (p, psum W ds P.length p))[j]? = some (p, psum W ds P.length p) := by rw [List.getElem?_map, hp]; rfl
        obtain ⟨⟨kp, vp⟩, hkp, hk1', d1, kv1, es1, hvp, hs1, hd1, hkv1, hsum1, hlen1⟩ := hkv7.get gm
        dsimp only at hk1' hvp
        subst hk1' hvp
        have hva : valueAt kvs kp = some (.ref d1) := valueAt_mem (by rw [hkeys]; exact nd) (List.mem_of_getElem? hkp)
        refine wpAny_assign_Name ?_
        (repeat' (first | walk1 | (dsimp only; walk1)))
        rename_i h12 S12
        refine item_d (frz_d S12 (hDd.keep hz8)) hva rfl ?_
        (repeat' (first | walk1 | (dsimp only; walk1)))
        · exact S12.bs b7
        refine count_spec (S12.bsz b7) S12.frz o1.le hs1 (hd1.keep hz8) hkv1 fun v z9 s9 k9 f9 fr9 ws9 eo9 eg9 hv9 => ?_
        have S13 := S12.after ws9 (fun _ q => (nomatch q)) k9 f9 fr9
        refine ⟨z9, _, k9, ?_, And.intro (eo9.trans hr8.1) (eg9.trans hr8.2), S13⟩
        rw [List.take_add_one, hp, List.map_append]
        refine hjj.snoc ?_
        exact (show (es1.map (·.2)).sum = psum W ds P.length kp from hsum1) ▸ hv9
      · intro C2 D2 us z8 s8 hz8 hjj hr8 hl8 S11
        refine lc_none S11 fun h12 S12 => ?_
        rw [List.take_of_length_le (by exact om27 hpl)] at hjj
        (repeat' (first | walk1 | (dsimp only; walk1)))
        obtain ⟨z9, kz9, S13, o13, g13, n13, rfl⟩ := S12.freeze
        exact hQ _ z9 _ (stays_trans hz' (stays_trans hz6 (stays_trans kz7 (stays_trans hz8 kz9)))) S13.frz S13.fresh S13.old hr8.1 hr8.2 ⟨D2, us, rfl, ⟨n13, g13⟩, hjj⟩

theorem ints_are {vs : List Value} {ns : List Int} (h : All2 IntIs vs ns) : IntsAre vs ns := by
  induction h with
  | nil => exact .nil
  | cons a _ ih => obtain ⟨t, rfl⟩ := a; exact .cons _ t ih
section
variable {X : Fx} {z z' h h' hB : Heap} {loc cl loc' cl' : List (Str × Value)} {ms ms' : List (Addr × (Obj → Prop))}
variable {w : World} {A : Around} {E : Value → Shared → Prop} {s : Shared} {env : Env}

theorem sum_l {l : Addr} {vs : List Value} {ns : List Int} {Q : Value → Shared → Prop} (hA : A.handled = none) (S : St X z loc cl ms s.heap) (hl : s.heap.PlainList l vs.toArray) (hv : All2 IntIs vs ns)
    (h : ∀ h' tk t, St X z loc cl ms h' → Q (.int ns.sum t) { s with heap := h', toks := tk }) : wpAny (Md w) A (call (.builtin "sum") [.ref l]) Q E s := by
  have hi := ints_are hv
  obtain ⟨xs, e⟩ := hi.allInts.items
  have hns : ns = xs.toList.map (·.1) := by rw [← hi.numsOf, ← nums_intItems, ← e]
  have hl' := hl.isList
  rw [e] at hl'
  refine sum_intListG hA hl' fun h' tk t hk => ?_
  rw [preSum_eq, List.take_of_length_le (by simp)]
  have := h h' tk t (S.grow fun b o e => hk b o e)
  rwa [hns] at this

theorem max_l {l : Addr} {vs : List Value} {ns : List Int} {Q : Value → Shared → Prop} (hA : A.handled = none) (S : St X z loc cl ms s.heap) (hl : s.heap.PlainList l vs.toArray) (hv : All2 IntIs vs ns) (hne : 0 < ns.length)
    (h : ∀ h' M tk t, St X z loc cl ms h' → M ∈ ns → (∀ a ∈ ns, a ≤ M) → Q (.int M t) { s with heap := h', toks := tk }) : wpAny (Md w) A (call (.builtin "max") [.ref l]) Q E s := by
  have hi := ints_are hv
  obtain ⟨xs, e⟩ := hi.allInts.items
  have hns : ns = xs.toList.map (·.1) := by rw [← hi.numsOf, ← nums_intItems, ← e]
  have hsz : 0 < xs.size := by
    have h3 := hne; rw [hns, List.length_map, Array.length_toList] at h3; exact h3
  have hl' := hl.isList
  rw [e] at hl'
  refine max_intList hA hl' hsz fun v h' tk hv2 hk => ?_
  obtain ⟨t, rfl⟩ := intItems_at hv2
  obtain ⟨h1, h2⟩ := argBest_gt (numAt xs) (xs.size - 1)
  refine h h' _ tk t (S.grow fun b o e => hk b o e) ?_ fun a ha => ?_
  · rw [hns, numAt_eq]; exact getD_mem (by rw [List.length_map, Array.length_toList]; exact om125 hsz h1)
  · rw [hns] at ha
    obtain ⟨j, hj, rfl⟩ := mem_getD ha
    rw [List.length_map, Array.length_toList] at hj
    rw [← numAt_eq]; exact h2 j (by exact om126 hj)

theorem add_l {l b : Addr} {vs ws : List Value} {Q : Value → Shared → Prop} (S : St X z loc cl ms s.heap) (hl : s.heap.PlainList l vs.toArray) (hb : s.heap.PlainList b ws.toArray) (hsz : vs.length + ws.length ≤ 1000)
    (h : ∀ D h', St X z loc cl ((D, lsO (vs ++ ws)) :: ms) h' → Q (.ref D) { s with heap := h' }) : wpAny (Md w) A (binaryOp .Add (.ref l) (.ref b)) Q E s := by
  have hsz9 : sizeLine = 16777216 := rfl
  obtain ⟨n, ho⟩ := hl
  obtain ⟨n2, ho2⟩ := hb
  have e : vs.toArray ++ ws.toArray = (vs ++ ws).toArray := by simp
  refine concat_meets ⟨_, ho, rfl⟩ ⟨_, ho2, rfl⟩ noFill_list_add seq_list_add PySem.F.slot_list_add PySem.F.entry_list_add (PySem.F.args_list_add_2 _ _) (list_addW l b vs.toArray ws.toArray n n2 none none #[] #[] (by simp; exact om127 hsz hsz9)) ⟨ho, ho2, ?_⟩
  rw [e]
  exact h _ _ (S.push { cls := .type "list", data := .seq (vs ++ ws).toArray } ⟨_, rfl⟩)

theorem slice_l {value slice : Expr} {l : Addr} {vs ws : List Value} {vl vu : Value} {lo hi : Option Int} {Q : Value → Shared → Prop} (S : St X z loc cl ms s.heap) (hl : s.heap.PlainList l vs.toArray) (pl : IsPart vl lo) (pu : IsPart vu hi) (hlen : vs.length ≤ 1000)
    (hw : slicePick vs.toArray lo hi none = ws.toArray)
    (h : ∀ D h', St X z loc cl ((D, lsO ws) :: ms) h' → Q (.ref D) { s with heap := h' })
    (hs : subscripted slice false (.ref l) (.ref s.heap.objs.size) = operate [.ref s.heap.objs.size, .ref l] (getItem (.ref l) (.ref s.heap.objs.size)) := by with_unfolding_all rfl)
    (ht : ∀ r, letTemporaryGo value (.ref l) r = pure () := by intro _; with_unfolding_all rfl) :
    wpAny (Md w) A (subscriptTail value slice (.ref l) (.ref s.heap.objs.size)) Q E { s with heap := s.heap.push { cls := .type "slice", data := .fields #[vl, vu, .none] } } := by
  have hsz9 : sizeLine = 16777216 := rfl
  have hl' := hl.isList
  refine subscriptTail_ops (Heap.IsList.typeIs (s := { s with heap := s.heap.push { cls := .type "slice", data := .fields #[vl, vu, .none] } }) (hl'.push _)) list_getitem_lookup
    (wpAny_getItem_list_slice (hl'.push _) (Heap.IsSliceOf.new ..) pl pu .none (by simp) ?_ (by simp; exact om58 hlen hsz9)) hs ht
  rw [hw]
  have S1 : St X z loc cl ms (s.heap.push { cls := .type "slice", data := .fields #[vl, vu, .none] }) := S.grow fun _ _ e => Heap.get?_push_of_some _ e
  exact h _ _ (S1.push { cls := .type "list", data := .seq ws.toArray } ⟨_, rfl⟩)

theorem St.cellN {I c : Addr} {p0 : Obj → Prop} {v : Value} (S : St X z loc cl ((I, p0) :: ms) h) (hv : CellAt X.hE c v) : CellAt (hideAll h [I]) c v := by
  obtain ⟨o, e, d⟩ := S.old.cell hv.is
  have hne : c ≠ I := fun q => by
    obtain ⟨o', e', _⟩ := hv.is
    have := (S.own I (by simp [Fx.pv])).2
    rw [← q, e'] at this; cases this
  exact ⟨⟨o, hideAll_get _ e (by simpa using hne), d⟩⟩

theorem int_eq {A : Around} {s : Shared} {v v' : Value} {n m : Int} (h : IntIs v n) (h' : IntIs v' m) : SeqAt.EqAt A s v v' (n == m) := by
  obtain ⟨t, rfl⟩ := h
  obtain ⟨u, rfl⟩ := h'
  exact SeqAt.EqAt.int_int n t m u

theorem strs_eq {A : Around} {s : Shared} {v v' : Value} {xs : List Str} (hu : A.units < cLine) (h : StrList s.heap v xs) (h' : StrList s.heap v' xs) : SeqAt.EqAt A s v v' true := by
  obtain ⟨l, vs, rfl, hl, hv⟩ := h
  obtain ⟨l', vs', rfl, hl', hv'⟩ := h'
  by_cases e : l = l'
  · subst e; exact SeqAt.EqAt.same _
  · refine SeqAt.EqAt.of_refs e ?_
    have e1 := hv.length
    have e2 := hv'.length
    have := SeqAt.RcAt.lists (A := A) (s := s) (e := fun _ => true) hl.isList hl'.isList (by simp; exact om128 e1 e2) hu (fun j h1 h2 => by
      have h1 : j < vs.length := by simpa using h1
      have h2 : j < vs'.length := by simpa using h2
      obtain ⟨x, hx, t, hxe⟩ := hv.get' (i := j) (a := vs[j]) (by simp [h1])
      obtain ⟨x', hx', t', hxe'⟩ := hv'.get' (i := j) (a := vs'[j]) (by simp [h2])
      rw [hx] at hx'
      cases hx'
      have := SeqAt.EqAt.str_str (A := A.in1) (s := s) x t x t'
      rw [beq_self_eq_true] at this
      show SeqAt.EqAt A.in1 s vs[j] vs'[j] true
      rw [hxe, hxe']
      exact this)
    have e3 : (List.range vs.toArray.size).all (fun _ => true) = true := by simp
    rwa [e3] at this
end

noncomputable def nsOf (sc : List Int) : List Int := [72, 273, 352] ++ (sc.take 4).map (·.fmod 3360)
noncomputable def upF (ns : List Int) (i : Nat) : Nat := ((upsOf ns).getD i 0).toNat
noncomputable def waysOf (ns : List Int) : List (List Str) := (List.range (ns.length + 1)).map fun p => (way (upF ns) p).map fun q => (pathsOf ns).getD q ""
noncomputable def drawsOf (ns : List Int) : List Int := ns.sum :: ns
noncomputable def countsOf (ns : List Int) : List Int := (drawsOf ns).map tblSum
noncomputable def insOf (ns : List Int) : List Int := (pathsOf ns).map (psum (waysOf ns) (drawsOf ns) (pathsOf ns).length)
noncomputable def stepsL (ns : List Int) : List Int := (List.range (ns.length + 1)).map (stepsOf (waysOf ns) (countsOf ns))
noncomputable def toldF (us ins : List Int) : Nat → List Int
  | 0 => [(ins.drop 1).sum]
  | k + 1 => toldF us ins k ++ [(toldF us ins k).getD (us.getD (k + 1) 0).toNat 0 + ins.getD 0 0 - 2 * ins.getD (k + 1) 0]
noncomputable def doorsOf (ns : List Int) (p : Nat) : List Int := (((List.range ns.length).map (· + 1)).filter fun k => decide (upF ns k = p)).map fun k => (insOf ns).getD k 0
noncomputable def midOf (ns : List Int) (p : Nat) : Bool := (doorsOf ns p ++ [(insOf ns).getD 0 0 - (insOf ns).getD p 0]).all fun x => decide (2 * x ≤ (insOf ns).getD 0 0)
noncomputable def turnOf (ns : List Int) : Int := 1 - 2 * ns.sum.fmod 2

/-- the plain law -/
structure Plain (ns : List Int) : Prop where
  len : ns.length ≤ 7
  pos : ∀ x ∈ ns, 0 ≤ x
  down : Down (upF ns)
  ups : upsOf ns = (List.range (ns.length + 1)).map fun i => (upF ns i : Int)
  plen : (pathsOf ns).length = ns.length + 1
  nd : (pathsOf ns).Nodup
  ways : ∀ p, p < ns.length + 1 → ∃ tx n, n ≤ 8 ∧ WayTx ((pathsOf ns).getD p "") tx n ∧ (List.range n).map tx = (way (upF ns) p).map fun q => (pathsOf ns).getD q ""
  told : stepsL ns = toldF (upsOf ns) (insOf ns) ns.length
  bound : ∀ x ∈ stepsL ns, -1000000 ≤ x ∧ x ≤ 1000000
  best : ((List.range (stepsL ns).length).filter fun p => (stepsL ns).all fun n => !decide (0 < cmpF (turnOf ns) (turnOf ns * (stepsL ns).getD p 0) (turnOf ns * n))) = (List.range (ns.length + 1)).filter (midOf ns)

theorem All2.take {α β : Type} {R : α → β → Prop} {as : List α} {bs : List β} (h : All2 R as bs) : ∀ k, All2 R (as.take k) (bs.take k) := by
  induction h with
  | nil => intro k; simp; exact .nil
  | cons a _ ih =>
    intro k
    cases k with
    | zero => exact .nil
    | succ k => exact .cons a (ih k)
theorem bare_push {gens : Array GenState} (h : AllBare gens) : AllBare (gens.push .finished) := by
  intro y hy
  rcases Array.mem_push.mp hy with q | q
  · exact h y q
  · subst q; rfl
theorem way_le {up : Nat → Nat} (d : Down up) : ∀ p q, q ∈ way up p → q ≤ p := by
  intro p
  induction p using Nat.strongRecOn with
  | _ p ih =>
    intro q hq
    cases p with
    | zero => rw [way_zero] at hq; simp at hq; exact om129 hq
    | succ p =>
      rw [way_pos d (by exact om12)] at hq
      rcases List.mem_cons.mp hq with e | e
      · exact om130 e
      · have := d (p + 1) (by exact om12)
        have := ih _ this q e
        omega
section
variable {w : World} {A : Around} {E : Value → Shared → Prop} {s : Shared}
theorem ne_strs {l b : Addr} {vs us : List Value} {W : List (List Str)} {Q : Value → Shared → Prop} (hu : A.units + 10 < cLine) (hl : s.heap.PlainList l vs.toArray) (hb : s.heap.PlainList b us.toArray) (hv : All2 (StrList s.heap) vs W) (hw : All2 (StrList s.heap) us W)
    (h : Q (.bool false) s) : wpAny (Md w) A (compareOp .NotEq (.ref l) (.ref b)) Q E s := by
  have e1 := hv.length
  have e2 := hw.length
  have := SeqAt.RcNeAt.lists (A := A) (s := s) (e := fun _ => true) hl.isList hb.isList (by simp; exact om128 e1 e2) (by exact om131 hu) (fun j h1 h2 => by
    have h1 : j < vs.length := by simpa using h1
    have h2 : j < us.length := by simpa using h2
    obtain ⟨x, hx, hs1⟩ := hv.get' (i := j) (a := vs[j]) (by simp [h1])
    obtain ⟨x', hx', hs2⟩ := hw.get' (i := j) (a := us[j]) (by simp [h2])
    rw [hx] at hx'
    cases hx'
    exact strs_eq (A := A.in1) (by show A.units + 1 < cLine; exact om132 hu) hs1 hs2)
  have e3 : (!(List.range vs.toArray.size).all (fun _ => true)) = false := by simp
  rw [e3] at this
  exact this _ _ _ _ h
end
theorem All2.drop1 {α β : Type} {R : α → β → Prop} {as : List α} {bs : List β} (h : All2 R as bs) : All2 R (as.drop 1) (bs.drop 1) := by
  cases h with
  | nil => exact .nil
  | cons _ h => exact h
section
variable {X : Fx} {z z' h h' hB : Heap} {loc cl : List (Str × Value)} {ms : List (Addr × (Obj → Prop))} {outer : List Env} {env : Env}
theorem St.frm0 (S : St X z loc cl ms h) (F : Frm outer X.fs X.z0 X.hE) : Frm outer X.fs z h :=
  ⟨F.env, fun f hf => by
    obtain ⟨a, o, e, d⟩ := F.fs f hf
    obtain ⟨o', e', d'⟩ := S.old.there e
    exact ⟨S.fsz a hf, o', e', fun vs q => d vs (d' ▸ q)⟩⟩
theorem St.frmI {I : Addr} {p0 : Obj → Prop} (S : St X z loc cl ((I, p0) :: ms) h) (F : Frm outer X.fs X.z0 X.hE) (hf : env.frame = some X.L) (hk : env.scope.kind ≠ .module) : Frm (env :: outer) (X.L :: X.fs) z (hideAll h [I]) := by
  have F1 := S.frm F hf hk
  have nd := S.nodup
  simp only [Fx.pv, List.map_cons, List.nodup_cons, List.nodup_append, List.mem_append, List.mem_cons, not_or] at nd
  refine ⟨F1.env, fun f hf => ?_⟩
  obtain ⟨a, o, e, d⟩ := F1.fs f hf
  refine ⟨a, o, hideAll_get _ e ?_, d⟩
  simp only [List.mem_singleton]
  rintro rfl
  rcases List.mem_cons.mp hf with q | q
  · exact nd.1.2.1 q.symm
  · exact S.offs (ms' := ms) (a := f) (by simp [Fx.pv]) q
end
local macro_rules | `(tactic| walk_at "eval ListComp") => `(tactic| k_dflt (refine lc_eval (by rfl) rfl (by decide) ?_))
local macro_rules | `(tactic| walk_at "exec Assign") => `(tactic| k_dflt (refine lc_assign (by rfl) (by rfl) rfl (by decide) ?_))
noncomputable abbrev JL1 (sc : List Int) (a57 D41 li D48 D22 lp lu : Addr) : Inv := fun i z' loc cl ms => ∃ tv, All2 IntIs tv (toldF (upsOf (nsOf sc)) (insOf (nsOf sc)) i) ∧ tv.length = i + 1 ∧ loc = ([("told", .ref a57), ("draws", .ref D41)] : Lo) ∧ cl = ([("inside", .ref li), ("counts", .ref D48), ("ways", .ref D22), ("paths", .ref lp), ("ups", .ref lu)] : Lo) ∧ ms = ([(a57, lsO tv)] : Ml)
noncomputable abbrev JL2 (sc : List Int) (a71 D69 D41 li lp lu : Addr) : Inv := fun i z' loc cl ms => ∃ bs, All2 IntIs bs (((List.range i).filter (midOf (nsOf sc))).map fun (p : Nat) => (p : Int)) ∧ bs.length ≤ i ∧ loc = ([("middle", .ref a71), ("steps", .ref D69), ("draws", .ref D41)] : Lo) ∧ cl = ([("inside", .ref li), ("paths", .ref lp), ("ups", .ref lu)] : Lo) ∧ ms = ([(a71, lsO bs)] : Ml)
noncomputable abbrev JL3 (sc : List Int) (i : Nat) : Nat → Heap → List Value → Prop := fun j z' us => All2 IntIs us (((((List.range (nsOf sc).length).map (· + 1)).take j).filter fun k => decide (upF (nsOf sc) k = i)).map fun k => (insOf (nsOf sc)).getD k 0)
theorem law_spec {w : World} {z : Heap} {A : Around} {s : Shared} {E Q : Value → Shared → Prop} {fs : List Addr} {outer : List Env} {ls : Addr} {vs : List Value} {sc : List Int} (b : Bs w z) (hz : z.StaysIn s.heap) (o : Ok A 40 500)
    (F : Frm outer fs z s.heap) (hA : A.frames = some outer) (hl : z.PlainList ls vs.toArray) (hv : All2 IntIs vs sc) (hlen : sc.length ≤ 63) (hp : Plain (nsOf sc))
    (hbare : AllBare s.gens)
    (hQ : ∀ z' s', z.StaysIn z' → z'.StaysIn s'.heap → (∀ b o, z'.get? b = some o → z.get? b = some o ∨ s.heap.get? b = none) → Ws fs s.heap s'.heap → s'.os = s.os → AllBare s'.gens → Q (.bool true) s') :
    wpAny (Md w) A (call (.ref 171) [.ref ls]) Q E s := by
  refine' call_fnCL (fs := fs) (d := 39) (u := 497) (binds := [("script", .ref ls)]) [("script", .ref ls)] [] b hz o ?ho ?hcd ?hbind ?hkind ?hl ?hc ?hnd ?hco ?hgen ?hk ?_ ?hfs
  (case hfs => exact fun f hf => by obtain ⟨_, o, e, _⟩ := F.fs f hf; rw [e]; simp)
  (case ho => exact rfl); (case hcd => exact rfl); (case hbind => exact rfl); (case hkind => exact rfl)
  (case hl => exact fun p hp => by obtain rfl := List.mem_singleton.mp hp; rfl); (case hc => exact fun p hp => nomatch hp); (case hnd => exact fun L => by simp [cellsFrom]; decide); (case hco => exact rfl); (case hgen => exact rfl); (case hk => exact rfl)
  intro env0 A0 X0 s₁ S e1 e2 o1
  have hvl := hv.length
  have hA1 : ∀ e, (A.deeper e).frames = some (e :: outer) := fun e => by show A.frames.map _ = _; rw [hA]; rfl
  (repeat' (first | walk1 | (dsimp only; walk1)))
  rename_i a2 h2 S2
  refine slice_l (ws := vs.take 4) S2 (frz_l S2 hl) .none (.int _ _) (by exact om133 hlen hvl) (by exact slicePick_upto' vs.toArray 4) fun D3 h3 S3 => ?_
  obtain ⟨z1, kz1, S4, o4, g4, n4, rfl⟩ := S3.freeze
  (repeat' (first | walk1 | (dsimp only; walk1)))
  have hv4 : All2 IntIs (vs.take 4) (sc.take 4) := hv.take 4
  have h4l := hv4.length
  have h4le : (vs.take 4).length ≤ 4 := by rw [List.length_take]; exact om134
  refine it_list S4 ⟨n4, g4⟩ fun I5 h5 S5 => ?_
  refine lc_go (Itr.ls o1.hd ⟨n4, g4⟩) (by exact om135 h4le) (by decide) rfl S5 (fun i z' us => All2 IntIs us (((sc.take 4).take i).map (·.fmod 3360))) (Rse s) .nil ⟨e1, e2⟩ ?_ ?_
  · intro C D i v z' us loc' s6 hi hx hz' hj hr hl' S6
    obtain ⟨n, hn, tn, rfl⟩ := hv4.get' hx
    refine wpAny_assign_Name ?_
    (repeat' (first | walk1 | (dsimp only; walk1)))
    rename_i h7 S7
    refine ⟨z', _, stays_refl _, ?_, hr, S7⟩
    rw [List.take_add_one, hn, List.map_append]
    exact hj.snoc ⟨_, rfl⟩
  intro C6 D6 us z6 s6 hz6 hj6 hr6 hl6 S6
  refine lc_none S6 fun h7 S7 => ?_
  rw [List.take_of_length_le (by exact om27 h4l)] at hj6
  have hj6l := hj6.length
  rw [List.length_map] at hj6l
  (repeat' (first | walk1 | (dsimp only; walk1)))
  refine add_l S7 (own_l S7 (by (repeat' (first | exact List.Mem.head _ | refine' List.Mem.tail _ ?_)))) (own_l S7 (by (repeat' (first | exact List.Mem.head _ | refine' List.Mem.tail _ ?_)))) (by simp only [List.length_cons, List.length_nil]; exact om136 h4l h4le hj6l) fun D8 h8 S8 => ?_
  (repeat' (first | walk1 | (dsimp only; walk1)))
  rename_i h9 S9
  · exact S9.bs b
  rename_i h9 S9
  obtain ⟨z10, kz10, S10, o10, g10, n10, rfl⟩ := S9.freeze
  have hns : ∀ t1 t2 t3, All2 IntIs ([Value.int 72 t1, Value.int 273 t2, Value.int 352 t3] ++ us) (nsOf sc) := fun t1 t2 t3 => (All2.cons ⟨t1, rfl⟩ (.cons ⟨t2, rfl⟩ (.one ⟨t3, rfl⟩)) : All2 IntIs [Value.int 72 t1, Value.int 273 t2, Value.int 352 t3] [72, 273, 352]).append hj6
  refine places_spec (S10.bsz b) S10.frz o1.le ⟨n10, g10⟩ (hns _ _ _) hp.len hp.pos fun v z11 s11 k11 f11 fr11 ws11 eo11 eg11 hpat => ?_
  obtain ⟨a11, lu, lp, us', ps, hv11, ht11, hlu, hlp, hus, hps⟩ := hpat
  subst hv11
  have S11 := S10.after ws11 (fun _ q => (nomatch q)) k11 f11 fr11
  refine wpAny_assign_Tuple o1.hd (frz_t S11 ht11) rfl rfl fun h12 hx12 => ?_
  have S12 := S11.grow fun b o e => hx12 b o (Nat.ne_of_lt (Heap.lt_size e)) e
  (repeat' (first | walk1 | (dsimp only; walk1)))
  rename_i h13 S13 h14 S14
  clear S S2 S3 S4 S5 S6 S7 S8 S9 S10 S11 S12 S13
  have S15 := (S14.sub (ms' := []) (List.nil_sublist _)).less (loc' := [("numbers", .ref D8)]) (cl' := [("paths", .ref lp), ("ups", .ref lu)]) (by exact rfl) (by exact rfl)
  clear S14
  have kz11 : z.StaysIn z11 := stays_trans kz1 (stays_trans hz6 (stays_trans kz10 k11))
  have hpsl := hps.length
  have husl := hus.length
  have hplen := hp.plen
  have hplenn := hp.len
  have bare11 : AllBare s11.gens := by rw [eg11]; exact hr6.2 ▸ hbare
  refine it_list S15 hlp fun I16 h16 S16 => ?_
  have b11 : Bs w z11 := S15.bsz b
  refine lc_go (Itr.ls o1.hd hlp) (by exact om137 hpsl hplen hplenn) (by decide) rfl S16 (fun i z' us => All2 (StrList z') us ((waysOf (nsOf sc)).take i)) (Rsb s) .nil ⟨eo11.trans hr6.1, bare11⟩ ?_ ?_
  · intro C D i v z' us2 loc' s17 hi hx hz' hj hr hl17 S17
    obtain ⟨p, hpx, tp, rfl⟩ := hps.get' hx
    have hin : i < (nsOf sc).length + 1 := by exact om138 hpsl hplen hi
    obtain ⟨tx, N, hN8, hW, hmap⟩ := hp.ways i hin
    have hpd : (pathsOf (nsOf sc)).getD i "" = p := by rw [List.getD_eq_getElem?_getD, hpx]; rfl
    rw [hpd] at hW
    refine wpAny_assign_Name ?_
    (repeat' (first | walk1 | (dsimp only; walk1)))
    · exact St.bs (by assumption) b11
    rename_i h18 S18
    refine anc_call b11 o1.le S18 fun ag Cg z19 s19 k19 S19 hg19 eg19 eo19 => ?_
    (repeat' (first | walk1 | (dsimp only; walk1)))
    refine anc_list (zb := z19) hW (by exact om139 hN8) b11 o1.le S19 hg19 eg19 fun Dn vn z20 s20 hvn k20 eo20 eg20 S20 => ?_
    obtain ⟨z21, kz21, S21, o21, g21, n21, rfl⟩ := S20.freeze
    refine ⟨z21, _, stays_trans k19 (stays_trans k20 kz21), ?_, ⟨eo20.trans (eo19.trans hr.1), ?_⟩, S21⟩
    · have hwi : (waysOf (nsOf sc))[i]? = some ((way (upF (nsOf sc)) i).map fun q => (pathsOf (nsOf sc)).getD q "") := by
        unfold waysOf
        rw [List.getElem?_map, List.getElem?_range hin]; rfl
      rw [List.take_add_one, hwi]
      refine (hj.mono fun a b q => q.keep (stays_trans k19 (stays_trans k20 kz21))).snoc ⟨Dn, vn, rfl, ⟨n21, g21⟩, ?_⟩
      rw [← hmap]; exact hvn
    · rw [eg20]; exact bare_push hr.2
  intro C22 D22 wvs z22 s22 hz22 hj22 hr22 hl22 S22
  refine lc_none S22 fun h23 S23 => ?_
  rw [List.take_of_length_le (by unfold waysOf; simp; exact om140 hpsl hplen)] at hj22
  (repeat' (first | walk1 | (dsimp only; walk1)))
  rename_i h24 S24
  clear S23 S22 S16 S15
  obtain ⟨z25, kz25, S25, o25, g25, n25, rfl⟩ := S24.freeze
  have hways : z25.PlainList D22 wvs.toArray := ⟨n25, g25⟩
  have hW25 : All2 (StrList z25) wvs (waysOf (nsOf sc)) := hj22.mono fun a b q => q.keep kz25
  have hlp25 : z25.PlainList lp ps.toArray := hlp.at fun _ e => kz25 _ _ (hz22 _ _ e)
  have hlu25 : z25.PlainList lu us'.toArray := hlu.at fun _ e => kz25 _ _ (hz22 _ _ e)
  have b25 : Bs w z25 := S25.bsz b
  have hwvl := hW25.length
  have hwl : (waysOf (nsOf sc)).length = (nsOf sc).length + 1 := by unfold waysOf; simp
  refine ln_list (frz_l S25 hlp25) (by exact om137 hpsl hplen hplenn) fun t26 k26 => ?_
  (repeat' (first | walk1 | (dsimp only; walk1)))
  refine rg_1 S25 fun r27 h27 k27 S27 => ?_
  (repeat' (first | walk1 | (dsimp only; walk1)))
  refine rg_it (a := 0) (n := ps.length) (by decide) (by exact om141 hpsl hplen hplenn) (by simpa using S27) fun I28 h28 S28 => ?_
  have c1 := S28.cellE (x := "ups") rfl rfl
  have c2 := S28.cellE (x := "paths") rfl rfl
  refine lc_go (Itr.range (z := z25) o1.hd (a := 0) (n := ps.length)) (by exact om137 hpsl hplen hplenn) (by decide) rfl S28 (fun i z' us => All2 (StrList z') us ((waysOf (nsOf sc)).take i)) (Rsb s) .nil hr22 ?_ ?_
  · rintro C29 D29 i v z29 us2 loc29 s29 hi ⟨t29, rfl⟩ hz29 hj hr hl29 S29
    have hin : i < (nsOf sc).length + 1 := by exact om138 hpsl hplen hi
    rw [Int.zero_add]
    refine wpAny_assign_Name ?_
    (repeat' (first | walk1 | (dsimp only; walk1)))
    · exact St.bs (by assumption) b25
    rename_i h30 S30
    have husU : All2 IntIs us' ((List.range ((nsOf sc).length + 1)).map fun i => (upF (nsOf sc) i : Int)) := by rw [← hp.ups]; exact hus
    refine way_spec (S30.bsz b25) S30.frz o1.le (hlu25.at fun _ e => hz29 _ _ e) husU hp.down hin (by exact om142 hplenn) fun v z31 s31 k31 f31 fr31 ws31 eo31 eg31 hpat => ?_
    obtain ⟨a31, vs31, hv31, hl31, hw31⟩ := hpat
    subst hv31
    have S31 := S30.after ws31 (fun _ q => (nomatch q)) k31 f31 fr31
    refine it_list S31 hl31 fun I32 h32 S32 => ?_
    have c3 := S32.cellN c2
    have hwayl := hw31.length
    have hwl31 := way_length (upF (nsOf sc)) i
    rw [List.length_map] at hwayl
    have b31 : Bs w z31 := S31.bsz b25
    refine lc_go (Itr.ls o1.hd hl31) (by exact om143 hpsl hplen hplenn hi hwayl hwl31) (by decide) rfl S32 (fun j z' us => All2 StrIs us ((((way (upF (nsOf sc)) i).take j).map fun q => (pathsOf (nsOf sc)).getD q ""))) (Rsb s) .nil ⟨eo31.trans hr.1, by rw [eg31]; exact hr.2⟩ ?_ ?_
    · rintro C33 D33 j v z33 us3 loc33 s33 hj33 hx33 hz33 hjj hr33 hl33 S33
      obtain ⟨m, hm, tm, rfl⟩ := hw31.get' hx33
      obtain ⟨q, hq, rfl⟩ : ∃ q, (way (upF (nsOf sc)) i)[j]? = some q ∧ (q : Int) = m := by
        rw [List.getElem?_map] at hm
        obtain ⟨q, q1, q2⟩ := Option.map_eq_some_iff.mp hm
        exact ⟨q, q1, q2⟩
      have hqi : q ≤ i := way_le hp.down i q (List.mem_of_getElem? hq)
      have gq : (pathsOf (nsOf sc))[q]? = some ((pathsOf (nsOf sc)).getD q "") := by
        rw [List.getD_eq_getElem?_getD, List.getElem?_eq_getElem (by exact om144 hpsl hi hqi)]; rfl
      obtain ⟨vq, hvq, tq, rfl⟩ := hps.get gq
      refine wpAny_assign_Name ?_
      (repeat' (first | walk1 | (dsimp only; walk1)))
      rename_i h34 S34
      refine item_pos (frz_l S34 (hlp25.at fun _ e => hz33 _ _ (k31 _ _ (hz29 _ _ e)))) (by exact om22) (by exact om145 hpsl hplen hplenn hi hqi) (v := .str _ tq) (by rw [← hvq]; congr 1) rfl ?_
      (repeat' (first | walk1 | (dsimp only; walk1)))
      refine ⟨z33, _, stays_refl _, ?_, hr33, S34⟩
      rw [List.take_add_one, hq, List.map_append]
      exact hjj.snoc ⟨tq, rfl⟩
    · intro C33 D33 us3 z33 s33 hz33 hjj hr33 hl33 S33
      refine lc_none S33 fun h34 S34 => ?_
      rw [List.take_of_length_le (by exact om27 hwayl)] at hjj
      obtain ⟨z35, kz35, S35, o35, g35, n35, rfl⟩ := S34.freeze
      refine ⟨z35, _, stays_trans k31 (stays_trans hz33 kz35), ?_, hr33, S35⟩
      have hwi : (waysOf (nsOf sc))[i]? = some ((way (upF (nsOf sc)) i).map fun q => (pathsOf (nsOf sc)).getD q "") := by
        unfold waysOf
        rw [List.getElem?_map, List.getElem?_range hin]; rfl
      rw [List.take_add_one, hwi]
      exact (hj.mono fun a b q => q.keep (stays_trans k31 (stays_trans hz33 kz35))).snoc ⟨D33, us3, rfl, ⟨n35, g35⟩, hjj⟩
  intro C36 D36 wvs2 z36 s36 hz36 hj36 hr36 hl36 S36
  refine lc_none S36 fun h37 S37 => ?_
  rw [List.take_of_length_le (by exact om146 hpsl hplen hwl)] at hj36
  (repeat' (first | walk1 | (dsimp only; walk1)))
  refine ne_strs (Nat.lt_of_le_of_lt (Nat.add_le_add_left (by decide : 10 ≤ 497) _) o1.un) (frz_l S37 (hways.at fun _ e => hz36 _ _ e)) (own_l S37 (by (repeat' (first | exact List.Mem.head _ | refine' List.Mem.tail _ ?_)))) (hW25.mono fun a b q => q.keep (stays_trans hz36 S37.frz)) (hj36.mono fun a b q => q.keep S37.frz) ?_
  (repeat' (first | walk1 | (dsimp only; walk1)))
  have S38 := (S37.sub (ms' := []) (List.nil_sublist _)).less (loc' := [("numbers", .ref D8)]) (cl' := [("ways", .ref D22), ("paths", .ref lp), ("ups", .ref lu)]) (by exact rfl) (by exact rfl)
  clear S37 S36 S28 S27 S25 S24
  have kz36 : z25.StaysIn z36 := hz36
  have hnum : ∃ vn, z36.PlainList D8 vn ∧ ∃ l, vn = List.toArray l ∧ All2 IntIs l (nsOf sc) := ⟨_, ⟨n10, kz36 _ _ (kz25 _ _ (hz22 _ _ (k11 _ _ g10)))⟩, _, rfl, hns _ _ _⟩
  obtain ⟨_, hnum, vn, rfl, hvn⟩ := hnum
  refine sum_l o1.hd S38 (frz_l S38 hnum) hvn fun h39 k39 t39 S39 => ?_
  (repeat' (first | walk1 | (dsimp only; walk1)))
  rename_i a40 h40 S40
  have hvnl := hvn.length
  refine add_l S40 (own_l S40 (by (repeat' (first | exact List.Mem.head _ | refine' List.Mem.tail _ ?_)))) (frz_l S40 hnum) (by simp only [List.length_cons, List.length_nil]; exact om147 hplenn hvnl) fun D41 h41 S41 => ?_
  have hdr : All2 IntIs ([Value.int (nsOf sc).sum t39] ++ vn) (drawsOf (nsOf sc)) := (All2.one ⟨t39, rfl⟩ : All2 IntIs [Value.int (nsOf sc).sum t39] [(nsOf sc).sum]).append hvn
  generalize hdvs : [Value.int (nsOf sc).sum t39] ++ vn = dvs at *
  have hdrl := hdr.length
  have hdl : (drawsOf (nsOf sc)).length = (nsOf sc).length + 1 := rfl
  (repeat' (first | walk1 | (dsimp only; walk1)))
  rename_i h42 S42
  obtain ⟨z43, kz43, S43, o43, g43, n43, rfl⟩ := S42.freeze
  have hdraws : z43.PlainList D41 dvs.toArray := ⟨n43, g43⟩
  have S44 := (S43.sub (ms' := []) (List.nil_sublist _)).less (loc' := [("draws", .ref D41)]) (cl' := [("ways", .ref D22), ("paths", .ref lp), ("ups", .ref lu)]) (by exact rfl) (by exact rfl)
  clear S43 S42 S41 S40 S39 S38
  refine it_list S44 hdraws fun I45 h45 S45 => ?_
  refine lc_go (Itr.ls o1.hd hdraws) (by exact om148 hplenn hdrl hdl) (by decide) rfl S45 (fun j z' us => All2 IntIs us (((drawsOf (nsOf sc)).take j).map tblSum)) (Rsb s) .nil hr36 ?_ ?_
  · intro C46 D46 j v z46 us46 loc46 s46 hj46 hx46 hz46 hjj hr46 hl46 S46
    obtain ⟨x, hx, tx, rfl⟩ := hdr.get' hx46
    refine wpAny_assign_Name ?_
    (repeat' (first | walk1 | (dsimp only; walk1)))
    rename_i h47 S47
    refine ⟨z46, _, stays_refl _, ?_, hr46, S47⟩
    rw [List.take_add_one, hx, List.map_append]
    exact hjj.snoc ⟨_, rfl⟩
  intro C48 D48 cvs z48 s48 hz48 hj48 hr48 hl48 S48
  refine lc_none S48 fun h49 S49 => ?_
  rw [List.take_of_length_le (by exact om27 hdrl)] at hj48
  (repeat' (first | walk1 | (dsimp only; walk1)))
  · exact St.bs (by assumption) b
  rename_i h50 S50
  obtain ⟨z51, kz51, S51, o51, g51, n51, rfl⟩ := S50.freeze
  have hcounts : z51.PlainList D48 cvs.toArray := ⟨n51, g51⟩
  have k51 : z43.StaysIn z51 := stays_trans hz48 kz51
  have k25 : z25.StaysIn z51 := stays_trans kz36 (stays_trans kz43 k51)
  have hlp51 := hlp25.at fun _ e => k25 _ _ e
  have hlu51 := hlu25.at fun _ e => k25 _ _ e
  have hways51 := hways.at fun _ e => k25 _ _ e
  have hW51 : All2 (StrList z51) wvs (waysOf (nsOf sc)) := hW25.mono fun a b q => q.keep k25
  have hdraws51 := hdraws.at fun _ e => k51 _ _ e
  have hwin : ∀ xs ∈ waysOf (nsOf sc), ∀ t ∈ xs, t ∈ pathsOf (nsOf sc) := by
    intro xs hxs t ht
    obtain ⟨p, hp1, rfl⟩ := List.mem_map.mp hxs
    obtain ⟨q, hq, rfl⟩ := List.mem_map.mp ht
    have := way_le hp.down p q hq
    have hp1 : p < (nsOf sc).length + 1 := by simpa using hp1
    rw [List.getD_eq_getElem?_getD, List.getElem?_eq_getElem (by exact om149 hplen this hp1)]
    exact List.getElem_mem _
  have hwl8 : ∀ xs ∈ waysOf (nsOf sc), xs.length ≤ 8 := by
    intro xs hxs
    obtain ⟨p, hp1, rfl⟩ := List.mem_map.mp hxs
    have hp1 : p < (nsOf sc).length + 1 := by simpa using hp1
    rw [List.length_map]
    have := way_length (upF (nsOf sc)) p
    exact om150 hplenn hp1 this
  refine inside_spec (S51.bsz b) S51.frz o1.le hlp51 hps hways51 hW51 hdraws51 hdr (by exact om151 hplen hplenn) (by exact om152 hplen hwl) (by exact om152 hplen hdl) hp.nd hwin hwl8 fun v z52 s52 k52 f52 fr52 ws52 eo52 eg52 hpat => ?_
  obtain ⟨li, ivs, hv52, hli, hiv⟩ := hpat
  subst hv52
  have S52 := S51.after ws52 (fun _ q => (nomatch q)) k52 f52 fr52
  have hins : All2 IntIs ivs (insOf (nsOf sc)) := hiv
  have hinsl := hins.length
  have hinl : (insOf (nsOf sc)).length = (nsOf sc).length + 1 := by unfold insOf; rw [List.length_map, hplen]
  (repeat' (first | walk1 | (dsimp only; walk1)))
  rename_i h53 S53
  clear S52 S51 S50 S49 S48 S45 S44
  have S54 := (S53.sub (ms' := []) (List.nil_sublist _)).less (loc' := [("draws", .ref D41)]) (cl' := [("inside", .ref li), ("counts", .ref D48), ("ways", .ref D22), ("paths", .ref lp), ("ups", .ref lu)]) (by exact rfl) (by exact rfl)
  clear S53
  refine slice_l (ws := ivs.drop 1) S54 (frz_l S54 hli) (.int _ _) .none (by exact om148 hplenn hinsl hinl) (by exact slicePick_from' ivs.toArray 1) fun D55 h55 S55 => ?_
  (repeat' (first | walk1 | (dsimp only; walk1)))
  refine sum_l o1.hd S55 (own_l S55 (by (repeat' (first | exact List.Mem.head _ | refine' List.Mem.tail _ ?_)))) (hins.drop1) fun h56 k56 t56 S56 => ?_
  (repeat' (first | walk1 | (dsimp only; walk1)))
  rename_i a57 h57 S57 h58 S58
  refine wpAny_For ?_
  (repeat' (first | walk1 | (dsimp only; walk1)))
  have hlp52 := hlp51.at fun _ e => k52 _ _ e
  have hlu52 := hlu51.at fun _ e => k52 _ _ e
  refine ln_list (frz_l S58 hlp52) (by exact om137 hpsl hplen hplenn) fun t59 k59 => ?_
  (repeat' (first | walk1 | (dsimp only; walk1)))
  refine rg_2 S58 fun r60 h60 k60 S60 => ?_
  (repeat' (first | walk1 | (dsimp only; walk1)))
  have hupl : (upsOf (nsOf sc)).length = (nsOf sc).length + 1 := by rw [hp.ups]; simp
  refine for_range (a := 1) (n := (nsOf sc).length) o1.hd (by decide) (by exact om153 hplenn) (by exact om154 hpsl hplen) ((S60.perm (ms' := [(r60, rgO 1 ps.length), (a57, lsO [Value.int ((insOf (nsOf sc)).drop 1).sum t56]), (D55, lsO (ivs.drop 1))]) (by exact List.Perm.refl _)).sub (ms' := [(r60, rgO 1 ps.length), (a57, lsO [Value.int ((insOf (nsOf sc)).drop 1).sum t56])]) (by simp) |>.less (loc' := [("told", .ref a57), ("draws", .ref D41)]) (cl' := [("inside", .ref li), ("counts", .ref D48), ("ways", .ref D22), ("paths", .ref lp), ("ups", .ref lu)]) (by exact rfl) (by exact rfl))
    (JL1 sc a57 D41 li D48 D22 lp lu) (Rsb s) ⟨_, .one ⟨t56, rfl⟩, rfl, rfl, rfl, rfl⟩ ⟨eo52.trans hr48.1, by show AllBare s52.gens; rw [eg52]; exact hr48.2⟩ ?_ ?_
  · rintro q61 i t61 z61 _ _ _ s61 hi hz61 ⟨tv, htv, htl, rfl, rfl, rfl⟩ ⟨r1, r2⟩ S61
    have hin : i + 1 < (nsOf sc).length + 1 := by exact om155 hi
    have gu : (upsOf (nsOf sc))[i + 1]? = some (upF (nsOf sc) (i + 1) : Int) := by
      rw [hp.ups, List.getElem?_map, List.getElem?_range hin]; rfl
    have hu0 : (upsOf (nsOf sc)).getD (i + 1) 0 = (upF (nsOf sc) (i + 1) : Int) := by rw [List.getD_eq_getElem?_getD, gu]; rfl
    have hup := hp.down (i + 1) (by exact om12)
    obtain ⟨vu, hvu, tu, rfl⟩ := hus.get gu
    have tlen := htv.length
    have gt : (toldF (upsOf (nsOf sc)) (insOf (nsOf sc)) i)[upF (nsOf sc) (i + 1)]? = some ((toldF (upsOf (nsOf sc)) (insOf (nsOf sc)) i).getD (upF (nsOf sc) (i + 1)) 0) := by
      rw [List.getD_eq_getElem?_getD, List.getElem?_eq_getElem (by exact om156 htl hup tlen)]; rfl
    obtain ⟨vt, hvt, tt, rfl⟩ := htv.get gt
    have g0 : (insOf (nsOf sc))[0]? = some ((insOf (nsOf sc)).getD 0 0) := by
      rw [List.getD_eq_getElem?_getD, List.getElem?_eq_getElem (by exact om157 hinl)]; rfl
    obtain ⟨v0, hv0, t0, rfl⟩ := hins.get g0
    have gi : (insOf (nsOf sc))[i + 1]? = some ((insOf (nsOf sc)).getD (i + 1) 0) := by
      rw [List.getD_eq_getElem?_getD, List.getElem?_eq_getElem (by exact om158 hinl hi)]; rfl
    obtain ⟨vi, hvi, ti, rfl⟩ := hins.get gi
    have hli61 := hli.at fun _ e => hz61 _ _ e
    refine wpAny_assign_Name ?_
    (repeat' (first | walk1 | (dsimp only; walk1)))
    rename_i h62 S62
    refine item_pos (frz_l S62 (hlu52.at fun _ e => hz61 _ _ e)) (by exact om159) (by exact om160 hplenn hi) (v := .int (upF (nsOf sc) (i + 1)) tu) (by rw [← hvu]; congr 1; exact om161) rfl ?_
    (repeat' (first | walk1 | (dsimp only; walk1)))
    refine item_pos (own_l S62 (by (repeat' (first | exact List.Mem.head _ | refine' List.Mem.tail _ ?_)))) (by exact om22) (by exact om162 hplenn hi hup) (v := .int _ tt) (by rw [← hvt]; congr 1) rfl ?_
    (repeat' (first | walk1 | (dsimp only; walk1)))
    refine item_pos (frz_l S62 hli61) (by decide) (by decide) (v := .int _ t0) hv0 rfl ?_
    (repeat' (first | walk1 | (dsimp only; walk1)))
    refine item_pos (frz_l S62 hli61) (by exact om159) (by exact om160 hplenn hi) (v := .int _ ti) (by rw [← hvi]; congr 1; exact om161) rfl ?_
    (repeat' (first | walk1 | (dsimp only; walk1)))
    refine app_own (x := .int ((toldF (upsOf (nsOf sc)) (insOf (nsOf sc)) i).getD (upF (nsOf sc) (i + 1)) 0 + (insOf (nsOf sc)).getD 0 0 - 2 * (insOf (nsOf sc)).getD (i + 1) 0) _) S62.swap (by have hsz9 : sizeLine = 16777216 := rfl; exact om163 hplenn hi htl hsz9) fun h63 S63 => ?_
    (repeat' (first | walk1 | (dsimp only; walk1)))
    refine ⟨z61, _, _, _, stays_refl _, ⟨_, ?_, by simp [htl], rfl, rfl, rfl⟩, And.intro r1 r2, S63.swap.less (loc' := [("told", _), ("draws", _)]) (cl' := [("inside", _), ("counts", _), ("ways", _), ("paths", _), ("ups", _)]) (by exact rfl) (by exact rfl)⟩
    show All2 IntIs _ (toldF _ _ i ++ [_])
    refine htv.snoc ⟨s61.toks + 1 + 1 + 1 + 1, ?_⟩
    rw [hu0, Int.toNat_natCast]
  · rintro z61 _ _ _ s61 hz61 ⟨tv, htv, htl, rfl, rfl, rfl⟩ ⟨r1, r2⟩ S61
    obtain ⟨z62, kz62, S62, o62, g62, n62, rfl⟩ := S61.freeze
    have htold : z62.PlainList a57 tv.toArray := ⟨n62, g62⟩
    (repeat' (first | walk1 | (dsimp only; walk1)))
    have k62 : z52.StaysIn z62 := stays_trans hz61 kz62
    have hlp62 := hlp52.at fun _ e => k62 _ _ e
    refine ln_list (frz_l S62 hlp62) (by exact om137 hpsl hplen hplenn) fun t63 k63 => ?_
    (repeat' (first | walk1 | (dsimp only; walk1)))
    refine rg_1 S62 fun r64 h64 k64 S64 => ?_
    (repeat' (first | walk1 | (dsimp only; walk1)))
    refine rg_it (a := 0) (n := ps.length) (by decide) (by exact om141 hpsl hplen hplenn) (by simpa using S64) fun I65 h65 S65 => ?_
    have c65w := S65.cellE (x := "ways") rfl rfl
    have c65c := S65.cellE (x := "counts") rfl rfl
    have b62 : Bs w z62 := S65.bsz b
    have hcl : (countsOf (nsOf sc)).length = (waysOf (nsOf sc)).length := by unfold countsOf; rw [List.length_map]; exact om152 hwl hdl
    have kw : z25.StaysIn z62 := stays_trans k25 (stays_trans k52 k62)
    refine lc_go (Itr.range (z := z62) o1.hd (a := 0) (n := ps.length)) (by exact om137 hpsl hplen hplenn) (by decide) rfl S65 (fun i z' us => All2 IntIs us ((stepsL (nsOf sc)).take i)) (Rsb s) .nil ⟨r1, r2⟩ ?_ ?_
    · rintro C66 D66 i v z66 us66 loc66 s66 hi ⟨t66, rfl⟩ hz66 hj hr hl66 S66
      have hin : i < (nsOf sc).length + 1 := by exact om138 hpsl hplen hi
      rw [Int.zero_add]
      refine wpAny_assign_Name ?_
      (repeat' (first | walk1 | (dsimp only; walk1)))
      · exact St.bs (by assumption) b62
      rename_i h67 S67
      refine steps_spec (S67.bsz b62) S67.frz o1.le (S67.frm0 (S65.frmI F (by rfl) (by intro q; cases q))) (hA1 _) (hways.at fun _ e => hz66 _ _ (kw _ _ e)) (hW25.mono fun a b q => q.keep (stays_trans kw hz66)) (hcounts.at fun _ e => hz66 _ _ (k62 _ _ (k52 _ _ e))) hj48 hcl (by exact om164 hplenn hwl) hwl8 (by exact om165 hpsl hplen hwl hi) fun v z68 s68 k68 f68 fr68 ws68 eo68 eg68 hv68 => ?_
      have S68 := S67.after ws68 (fun f hf => .inr hf) k68 f68 fr68
      refine ⟨z68, _, k68, ?_, ⟨eo68.trans hr.1, by rw [eg68]; exact hr.2⟩, S68⟩
      have hsi : (stepsL (nsOf sc))[i]? = some (stepsOf (waysOf (nsOf sc)) (countsOf (nsOf sc)) i) := by
        unfold stepsL
        rw [List.getElem?_map, List.getElem?_range hin]; rfl
      rw [List.take_add_one, hsi]
      exact hj.snoc hv68
    intro C69 D69 svs z69 s69 hz69 hj69 hr69 hl69 S69
    have hslen : (stepsL (nsOf sc)).length = (nsOf sc).length + 1 := by unfold stepsL; simp
    rw [List.take_of_length_le (by exact om146 hpsl hplen hslen)] at hj69
    refine lc_some S69 rfl rfl rfl fun h70 tk70 S70 => ?_
    clear S69 S65 S64 S62 S61 S60 S58 S57 S56 S55 S54
    (repeat' (first | walk1 | (dsimp only; walk1)))
    have hu70 := Nat.lt_of_le_of_lt (Nat.add_le_add_left (by decide : 64 ≤ 497) _) o1.un
    refine ne_intsK (own_l S70 (by (repeat' (first | exact List.Mem.head _ | refine' List.Mem.tail _ ?_)))).isList (ints_are hj69) (frz_l S70 (htold.at fun _ e => hz69 _ _ e)).isList (ints_are htv) hu70 ?_
    rw [show (!decide (stepsL (nsOf sc) = toldF (upsOf (nsOf sc)) (insOf (nsOf sc)) (nsOf sc).length)) = false by rw [hp.told]; simp]
    (repeat' (first | walk1 | (dsimp only; walk1)))
    rename_i a71 h71 S71 h72 S72
    obtain ⟨z73, kz73, S73, o73, g73, n73, rfl⟩ := S72.swap.freeze
    have hsteps : z73.PlainList D69 svs.toArray := ⟨n73, g73⟩
    have k73 : z62.StaysIn z73 := stays_trans hz69 kz73
    have hlp73 := hlp62.at fun _ e => k73 _ _ e
    have hlu73 := hlu52.at fun _ e => k73 _ _ (k62 _ _ e)
    have hli73 := hli.at fun _ e => k73 _ _ (k62 _ _ e)
    have b73 : Bs w z73 := S73.bsz b
    refine wpAny_For ?_
    (repeat' (first | walk1 | (dsimp only; walk1)))
    refine ln_list (frz_l S73 hlp73) (by exact om137 hpsl hplen hplenn) fun t74 k74 => ?_
    (repeat' (first | walk1 | (dsimp only; walk1)))
    refine rg_1 S73 fun r75 h75 k75 S75 => ?_
    (repeat' (first | walk1 | (dsimp only; walk1)))
    refine for_range (a := 0) (n := (nsOf sc).length + 1) o1.hd (by decide) (by exact om166 hplenn) (by exact om167 hpsl hplen) (S75.less (loc' := [("middle", .ref a71), ("steps", .ref D69), ("draws", .ref D41)]) (cl' := [("inside", .ref li), ("paths", .ref lp), ("ups", .ref lu)]) (by exact rfl) (by exact rfl))
      (JL2 sc a71 D69 D41 li lp lu) (Rsb s) ⟨[], .nil, Nat.zero_le _, rfl, rfl, rfl⟩ hr69 ?_ ?_
    · rintro q76 i t76 z76 _ _ _ s76 hi hz76 ⟨bs, hbs, hbl, rfl, rfl, rfl⟩ ⟨r3, r4⟩ S76
      rw [Int.zero_add]
      refine wpAny_assign_Name ?_
      (repeat' (first | walk1 | (dsimp only; walk1)))
      rename_i h77 S77
      have hlp76 := hlp73.at fun _ e => hz76 _ _ e
      have hli76 := hli73.at fun _ e => hz76 _ _ e
      have hlu76 := hlu73.at fun _ e => hz76 _ _ e
      have g0 : (insOf (nsOf sc))[0]? = some ((insOf (nsOf sc)).getD 0 0) := by
        rw [List.getD_eq_getElem?_getD, List.getElem?_eq_getElem (by exact om157 hinl)]; rfl
      obtain ⟨v0, hv0, t0, rfl⟩ := hins.get g0
      have gi : (insOf (nsOf sc))[i]? = some ((insOf (nsOf sc)).getD i 0) := by
        rw [List.getD_eq_getElem?_getD, List.getElem?_eq_getElem (by exact om168 hinl hi)]; rfl
      obtain ⟨vi, hvi, ti, rfl⟩ := hins.get gi
      refine ln_list (frz_l S77 hlp76) (by exact om137 hpsl hplen hplenn) fun t78 k78 => ?_
      (repeat' (first | walk1 | (dsimp only; walk1)))
      refine rg_2 S77 fun r79 h79 k79 S79 => ?_
      (repeat' (first | walk1 | (dsimp only; walk1)))
      refine rg_it (a := 1) (n := (nsOf sc).length) (by decide) (by exact om153 hplenn) (by rw [show (1 : Int) + (nsOf sc).length = ps.length by exact om169 hpsl hplen]; exact S79) fun I80 h80 S80 => ?_
      have c80u := S80.cellE (x := "ups") rfl rfl
      have c80i := S80.cellE (x := "inside") rfl rfl
      have c80p := S80.cellE (x := "place") rfl rfl
      refine lc_go (Itr.range (z := z76) o1.hd (a := 1) (n := (nsOf sc).length)) (by exact om170 hplenn) (by decide) rfl S80 (JL3 sc i) (Rsb s) .nil ⟨r3, r4⟩ ?_ ?_
      · rintro C81 D81 j v z81 us81 loc81 s81 hj81 ⟨t81, rfl⟩ hz81 hjj hr hl81 S81
        have gu : (upsOf (nsOf sc))[j + 1]? = some (upF (nsOf sc) (j + 1) : Int) := by
          rw [hp.ups, List.getElem?_map, List.getElem?_range (by exact om155 hj81)]; rfl
        obtain ⟨vu, hvu, tu, rfl⟩ := hus.get gu
        have gj : (insOf (nsOf sc))[j + 1]? = some ((insOf (nsOf sc)).getD (j + 1) 0) := by
          rw [List.getD_eq_getElem?_getD, List.getElem?_eq_getElem (by exact om158 hinl hj81)]; rfl
        obtain ⟨vj, hvj, tj, rfl⟩ := hins.get gj
        have gr : ((List.range (nsOf sc).length).map (· + 1))[j]? = some (j + 1) := by
          rw [List.getElem?_map, List.getElem?_range hj81]; rfl
        refine wpAny_assign_Name ?_
        (repeat' (first | walk1 | (dsimp only; walk1)))
        rename_i h82 S82
        refine item_pos (frz_l S82 (hlu76.at fun _ e => hz81 _ _ e)) (by exact om159) (by exact om160 hplenn hj81) (v := .int (upF (nsOf sc) (j + 1)) tu) (by rw [← hvu]; congr 1; exact om161) rfl ?_
        (repeat' (first | walk1 | (dsimp only; walk1)))
        · rename_i hup
          refine item_pos (frz_l S82 (hli76.at fun _ e => hz81 _ _ e)) (by exact om159) (by exact om160 hplenn hj81) (v := .int ((insOf (nsOf sc)).getD (j + 1) 0) tj) (by rw [← hvj]; congr 1; exact om161) rfl ?_
          refine ⟨z81, _, stays_refl _, ?_, hr, S82⟩
          have hup' : upF (nsOf sc) (j + 1) = i := by exact_mod_cast hup
          unfold JL3
          rw [List.take_add_one, gr, List.filter_append, List.map_append, show (some (j + 1)).toList = [j + 1] from rfl, List.filter_cons, if_pos (decide_eq_true hup'), List.filter_nil]
          exact hjj.snoc ⟨tj, rfl⟩
        · rename_i hup
          refine ⟨z81, _, stays_refl _, ?_, hr, S82⟩
          have hup' : ¬ upF (nsOf sc) (j + 1) = i := fun e => hup (by exact_mod_cast e)
          unfold JL3
          rw [List.take_add_one, gr, List.filter_append, List.map_append, show (some (j + 1)).toList = [j + 1] from rfl, List.filter_cons, if_neg (by simpa using hup'), List.filter_nil, List.map_nil, List.append_nil]
          exact hjj
      intro C83 D83 dvs2 z83 s83 hz83 hj83 hr83 hl83 S83
      unfold JL3 at hj83
      rw [List.take_of_length_le (by simp)] at hj83
      have hj83 : All2 IntIs dvs2 (doorsOf (nsOf sc) i) := hj83
      refine lc_some S83 rfl rfl rfl fun h84 tk84 S84 => ?_
      (repeat' (first | walk1 | (dsimp only; walk1)))
      have hli83 := hli76.at fun _ e => hz83 _ _ e
      have hdoorl : (doorsOf (nsOf sc) i).length ≤ (nsOf sc).length := by
        unfold doorsOf
        rw [List.length_map]
        exact Nat.le_trans (List.length_filter_le _ _) (by simp)
      have hd2l := hj83.length
      refine item_pos (frz_l S84 hli83) (by decide) (by decide) (v := .int ((insOf (nsOf sc)).getD 0 0) t0) hv0 rfl ?_
      (repeat' (first | walk1 | (dsimp only; walk1)))
      refine item_pos (frz_l S84 hli83) (by exact om22) (by exact om171 hplenn hi) (v := .int ((insOf (nsOf sc)).getD i 0) ti) (by rw [← hvi]; congr 1) rfl ?_
      (repeat' (first | walk1 | (dsimp only; walk1)))
      rename_i a85 h85 S85
      refine add_l S85 (own_l S85 (by (repeat' (first | exact List.Mem.head _ | refine' List.Mem.tail _ ?_)))) (own_l S85 (by (repeat' (first | exact List.Mem.head _ | refine' List.Mem.tail _ ?_)))) (by simp only [List.length_cons, List.length_nil]; exact om172 hplenn hl83) fun D86 h86 S86 => ?_
      have hall : ∀ t, All2 IntIs (dvs2 ++ [Value.int ((insOf (nsOf sc)).getD 0 0 - (insOf (nsOf sc)).getD i 0) t]) (doorsOf (nsOf sc) i ++ [(insOf (nsOf sc)).getD 0 0 - (insOf (nsOf sc)).getD i 0]) := fun t => hj83.snoc ⟨t, rfl⟩
      (repeat' (first | walk1 | (dsimp only; walk1)))
      refine max_l o1.hd S86 (own_l S86 (by (repeat' (first | exact List.Mem.head _ | refine' List.Mem.tail _ ?_)))) (hall _) (by simp) fun h87 M tk87 t87 S87 hM1 hM2 => ?_
      (repeat' (first | walk1 | (dsimp only; walk1)))
      refine item_pos (frz_l S87 hli83) (by decide) (by decide) (v := .int ((insOf (nsOf sc)).getD 0 0) t0) hv0 rfl ?_
      (repeat' (first | walk1 | (dsimp only; walk1)))
      · rename_i hle
        have hmt : midOf (nsOf sc) i = true := by
          unfold midOf
          rw [List.all_eq_true]
          intro x hx
          have := hM2 x hx
          rw [decide_eq_true_eq]; exact om173 hle this
        have S88 := (S87.sub (ms' := [q76, (a71, lsO bs)]) (by (repeat' (first | exact List.Sublist.refl _ | refine List.Sublist.cons _ ?_)))).less (loc' := [("middle", .ref a71), ("steps", .ref D69), ("draws", .ref D41)]) (cl' := [("inside", .ref li), ("paths", .ref lp), ("ups", .ref lu)]) (by exact rfl) (by exact rfl)
        refine app_own (x := .int i t76) S88.swap (by have hsz9 : sizeLine = 16777216 := rfl; exact om174 hplenn hi hbl hsz9) fun h89 S89 => ?_
        (repeat' (first | walk1 | (dsimp only; walk1)))
        refine ⟨z83, _, _, _, hz83, ⟨_, ?_, by simp; exact om88 hbl, rfl, rfl, rfl⟩, hr83, S89.swap⟩
        rw [List.range_succ, List.filter_append, List.map_append, List.filter_cons, if_pos hmt, List.filter_nil]
        exact hbs.snoc ⟨t76, rfl⟩
      · rename_i hle
        have hmf : ¬ midOf (nsOf sc) i = true := by
          unfold midOf
          rw [List.all_eq_true]
          intro q
          have := q M hM1
          rw [decide_eq_true_eq] at this; exact om175 hle this
        have S88 := (S87.sub (ms' := [q76, (a71, lsO bs)]) (by (repeat' (first | exact List.Sublist.refl _ | refine List.Sublist.cons _ ?_)))).less (loc' := [("middle", .ref a71), ("steps", .ref D69), ("draws", .ref D41)]) (cl' := [("inside", .ref li), ("paths", .ref lp), ("ups", .ref lu)]) (by exact rfl) (by exact rfl)
        refine ⟨z83, _, _, _, hz83, ⟨_, ?_, Nat.le_succ_of_le hbl, rfl, rfl, rfl⟩, hr83, S88⟩
        rw [List.range_succ, List.filter_append, List.map_append, List.filter_cons, if_neg hmf, List.filter_nil, List.map_nil, List.append_nil]
        exact hbs
    · rintro z76 _ _ _ s76 hz76 ⟨bs, hbs, hbl, rfl, rfl, rfl⟩ ⟨r3, r4⟩ S76
      obtain ⟨z88, kz88, S88, o88, g88, n88, rfl⟩ := S76.freeze
      have hmid : z88.PlainList a71 bs.toArray := ⟨n88, g88⟩
      (repeat' (first | walk1 | (dsimp only; walk1)))
      have hd0 : (drawsOf (nsOf sc))[0]? = some (nsOf sc).sum := rfl
      obtain ⟨vd, hvd, td, rfl⟩ := hdr.get hd0
      refine item_pos (frz_l S88 (hdraws51.at fun _ e => kz88 _ _ (hz76 _ _ (k73 _ _ (k62 _ _ (k52 _ _ e)))))) (by decide) (by decide) (v := .int (nsOf sc).sum td) hvd rfl ?_
      (repeat' (first | walk1 | (dsimp only; walk1)))
      · exact S88.bs b
      have htb : -1 ≤ turnOf (nsOf sc) ∧ turnOf (nsOf sc) ≤ 1 := by
        unfold turnOf
        have h1 := Int.fmod_nonneg_of_pos (nsOf sc).sum (show (2 : Int) > 0 by decide)
        have h2 := Int.fmod_lt_of_pos (nsOf sc).sum (show (2 : Int) > 0 by decide)
        exact om176 h1 h2
      refine best_spec (turn := turnOf (nsOf sc)) (S88.bsz b) S88.frz o1.le (hsteps.at fun _ e => kz88 _ _ (hz76 _ _ e)) hj69 (by exact om164 hplenn hslen) htb.1 htb.2 (fun n hn => (hp.bound n hn).1) (fun n hn => (hp.bound n hn).2) fun v z89 s89 k89 f89 fr89 ws89 eo89 eg89 hpat => ?_
      obtain ⟨a89, bs2, hv89, hl89, hb89⟩ := hpat
      subst hv89
      have S89 := S88.after ws89 (fun _ q => (nomatch q)) k89 f89 fr89
      (repeat' (first | walk1 | (dsimp only; walk1)))
      have hu89 := Nat.lt_of_le_of_lt (Nat.add_le_add_left (by decide : 64 ≤ 497) _) o1.un
      refine eq_intsK (frz_l S89 hl89).isList (ints_are hb89) (frz_l S89 (hmid.at fun _ e => k89 _ _ e)).isList (ints_are hbs) hu89 ?_
      rw [hp.best, decide_eq_true rfl]
      (repeat' (first | walk1 | (dsimp only; walk1)))
      exact hQ z89 _ S89.z0 S89.frz S89.fresh S89.old (eo89.trans r3) (by rw [eg89]; exact r4)

noncomputable def isum (n : Nat) (f : Nat → Int) : Int := ((List.range n).map f).sum
theorem isum_succ (n : Nat) (f : Nat → Int) : isum (n + 1) f = isum n f + f n := by
  unfold isum; rw [List.range_succ]; simp
theorem isum_congr {n : Nat} {f g : Nat → Int} (h : ∀ q, q < n → f q = g q) : isum n f = isum n g := by
  induction n with
  | zero => rfl
  | succ n ih => rw [isum_succ, isum_succ, ih fun q hq => h q (by exact om57 hq), h n (by exact om55)]
theorem isum_add (n : Nat) (f g : Nat → Int) : isum n (fun q => f q + g q) = isum n f + isum n g := by
  induction n with
  | zero => rfl
  | succ n ih => rw [isum_succ, isum_succ, isum_succ, ih]; exact om177
theorem isum_sub2 (n : Nat) (f g : Nat → Int) : isum n (fun q => f q - 2 * g q) = isum n f - 2 * isum n g := by
  induction n with
  | zero => rfl
  | succ n ih => rw [isum_succ, isum_succ, isum_succ, ih]; exact om178
theorem isum_mul (n : Nat) (a : Int) (f : Nat → Int) : isum n (fun q => a * f q) = a * isum n f := by
  induction n with
  | zero => simp [isum]
  | succ n ih => rw [isum_succ, isum_succ, ih, Int.mul_add]
theorem isum_le {n : Nat} {f g : Nat → Int} (h : ∀ q, q < n → f q ≤ g q) : isum n f ≤ isum n g := by
  induction n with
  | zero => exact Int.le_refl _
  | succ n ih => rw [isum_succ, isum_succ]; have := ih fun q hq => h q (by exact om57 hq); have := h n (by exact om55); omega
theorem isum_const (n : Nat) (a : Int) : isum n (fun _ => a) = n * a := by
  induction n with
  | zero => simp [isum]
  | succ n ih => rw [isum_succ, ih]; push_cast; rw [Int.add_mul]; exact om179
theorem isum_swap (n m : Nat) (f : Nat → Nat → Int) : isum n (fun o => isum m fun i => f o i) = isum m fun i => isum n fun o => f o i := by
  induction n with
  | zero =>
    have : (fun i => isum 0 fun o => f o i) = fun _ : Nat => (0 : Int) := by funext i; rfl
    rw [this, isum_const]; simp [isum]
  | succ n ih =>
    rw [isum_succ, ih, ← isum_add]
    exact isum_congr fun q _ => (isum_succ _ _).symm
theorem isum_one {n j : Nat} (h : j < n) : isum n (fun i => if i = j then 1 else 0) = 1 := by
  induction n with
  | zero => exact om180 h
  | succ n ih =>
    rw [isum_succ]
    by_cases q : n = j
    · subst q
      rw [if_pos rfl, isum_congr (g := fun _ => 0) fun q hq => if_neg (by exact om181 hq), isum_const]; simp
    · rw [if_neg q, ih (by exact om182 h q)]; rfl

section
variable {up : Nat → Nat} (d : Down up)
include d
theorem way_self (p : Nat) : p ∈ way up p := by
  cases p with
  | zero => rw [way_zero]; simp
  | succ p => rw [way_pos d (by exact om12)]; simp
theorem way_root (p : Nat) : 0 ∈ way up p := by
  induction p using Nat.strongRecOn with
  | _ p ih =>
    cases p with
    | zero => rw [way_zero]; simp
    | succ p => rw [way_pos d (by exact om12)]; exact List.mem_cons_of_mem _ (ih _ (d _ (by exact om12)))
theorem wayLe {p q : Nat} (hq : q ∈ way up p) : q ≤ p := by
  induction p using Nat.strongRecOn with
  | _ p ih =>
    cases p with
    | zero => rw [way_zero] at hq; simp at hq; exact om129 hq
    | succ p =>
      rw [way_pos d (by exact om12)] at hq
      have := d (p + 1) (by exact om12)
      rcases List.mem_cons.mp hq with e | e
      · exact om130 e
      · have := ih _ this e; omega
theorem way_not {p : Nat} (hp : 0 < p) : p ∉ way up (up p) := fun q => by
  have := wayLe d q
  have := d p hp
  omega
theorem way_nodup (p : Nat) : (way up p).Nodup := by
  induction p using Nat.strongRecOn with
  | _ p ih =>
    cases p with
    | zero => rw [way_zero]; simp
    | succ p => rw [way_pos d (by exact om12)]; exact List.nodup_cons.mpr ⟨way_not d (by exact om12), ih _ (d _ (by exact om12))⟩
theorem way_trans {a b q : Nat} (h1 : a ∈ way up b) (h2 : b ∈ way up q) : a ∈ way up q := by
  induction q using Nat.strongRecOn with
  | _ q ih =>
    cases q with
    | zero => rw [way_zero] at h2; simp at h2; subst h2; exact h1
    | succ q =>
      rw [way_pos d (by exact om12)] at h2 ⊢
      rcases List.mem_cons.mp h2 with e | e
      · subst e; rw [← way_pos d (by exact om12)]; exact h1
      · exact List.mem_cons_of_mem _ (ih _ (d _ (by exact om12)) e)
theorem way_up {k q : Nat} (hk : 0 < k) (h : k ∈ way up q) : up k ∈ way up q :=
  way_trans d (by rw [way_pos d hk]; exact List.mem_cons_of_mem _ (way_self d _)) h
theorem way_chain {a b q : Nat} (h1 : a ∈ way up q) (h2 : b ∈ way up q) : a ∈ way up b ∨ b ∈ way up a := by
  induction q using Nat.strongRecOn with
  | _ q ih =>
    cases q with
    | zero =>
      rw [way_zero] at h1 h2; simp at h1 h2; subst h1; subst h2; exact .inl (way_self d _)
    | succ q =>
      have h1' := h1
      have h2' := h2
      rw [way_pos d (by exact om12)] at h1 h2
      rcases List.mem_cons.mp h1 with e | e
      · subst e; exact .inr h2'
      · rcases List.mem_cons.mp h2 with e2 | e2
        · subst e2; exact .inl h1'
        · exact ih _ (d _ (by exact om12)) e e2
end

noncomputable def away (l w : List Nat) : Nat := (l.filter fun k => !decide (k ∈ w)).length
theorem away_cons_left (x : Nat) (l w : List Nat) : away (x :: l) w = (if x ∈ w then 0 else 1) + away l w := by
  unfold away
  rw [List.filter_cons]
  by_cases h : x ∈ w
  · simp [h]
  · simp [h]; exact om183
theorem away_cons_right {x : Nat} {w : List Nat} (hw : x ∉ w) : ∀ {l : List Nat}, l.Nodup → away l (x :: w) + (if x ∈ l then 1 else 0) = away l w
  | [], _ => by simp [away]
  | y :: l, nd => by
    have nd := List.nodup_cons.mp nd
    have ih := away_cons_right hw nd.2
    rw [away_cons_left, away_cons_left]
    by_cases hy : y = x
    · subst hy
      rw [if_neg nd.1] at ih
      simp [hw]
      exact om184 ih
    · by_cases h2 : y ∈ w
      · simp [h2, Ne.symm hy, hy] at ih ⊢
        split at ih <;> simp_all
      · simp [h2, Ne.symm hy, hy] at ih ⊢
        split at ih <;> simp_all <;> exact om185 ih

noncomputable def dist (up : Nat → Nat) (p o : Nat) : Int := (away (way up p) (way up o) : Int) + (away (way up o) (way up p) : Int)
noncomputable def inn (up : Nat → Nat) (n : Nat) (c : Nat → Int) (k : Nat) : Int := isum n fun q => if k ∈ way up q then c q else 0
noncomputable def DD (up : Nat → Nat) (n : Nat) (c : Nat → Int) (p : Nat) : Int := isum n fun o => c o * dist up p o

section
variable {up : Nat → Nat} (d : Down up) {n : Nat} {c : Nat → Int}
include d
theorem dist_step {p : Nat} (hp : 0 < p) (o : Nat) : dist up p o = dist up (up p) o + 1 - 2 * (if p ∈ way up o then 1 else 0) := by
  unfold dist
  have e1 := away_cons_left p (way up (up p)) (way up o)
  have e2 := away_cons_right (way_not d hp) (way_nodup d o)
  rw [← way_pos d hp] at e1 e2
  split at e2
  · rename_i h
    rw [if_pos h] at e1 ⊢
    exact om186 e1 e2
  · rename_i h
    rw [if_neg h] at e1 ⊢
    exact om187 e1 e2
theorem DD_step {p : Nat} (hp : 0 < p) : DD up n c p = DD up n c (up p) + inn up n c 0 - 2 * inn up n c p := by
  unfold DD inn
  rw [← isum_add, ← isum_sub2]
  refine isum_congr fun o _ => ?_
  rw [dist_step d hp o, if_pos (way_root d o)]
  split
  · rw [show dist up (up p) o + 1 - 2 * 1 = dist up (up p) o - 1 by exact om188, Int.mul_sub]; exact om189
  · rw [show dist up (up p) o + 1 - 2 * 0 = dist up (up p) o + 1 by exact om190, Int.mul_add]; exact om191
theorem dist_root (m : Nat) : ∀ o, o < m + 1 → dist up 0 o = isum m fun i => if i + 1 ∈ way up o then 1 else 0 := by
  intro o
  induction o using Nat.strongRecOn with
  | _ o ih =>
    intro ho
    cases o with
    | zero =>
      have : dist up 0 0 = 0 := by unfold dist; rw [way_zero]; rfl
      rw [this, isum_congr (g := fun _ => 0) fun i _ => if_neg (by rw [way_zero]; simp), isum_const]; simp
    | succ o =>
      have hu := d (o + 1) (by exact om12)
      have ih := ih _ hu (by exact om192 ho hu)
      have e1 := away_cons_left (o + 1) (way up (up (o + 1))) (way up 0)
      have e2 := away_cons_right (way_not d (p := o + 1) (by exact om12)) (way_nodup d 0)
      rw [← way_pos d (by exact om12)] at e1 e2
      have h0 : o + 1 ∉ way up 0 := by rw [way_zero]; simp
      rw [if_neg h0] at e1 e2
      have e3 : dist up 0 (o + 1) = dist up 0 (up (o + 1)) + 1 := by unfold dist; exact om193 e1 e2
      rw [e3, ih]
      refine Eq.trans (congrArg (HAdd.hAdd _) (isum_one (n := m) (j := o) (by exact om194 ho)).symm) ?_
      rw [← isum_add]
      refine isum_congr fun i _ => ?_
      rw [way_pos d (p := o + 1) (by exact om12)]
      by_cases q : i = o
      · subst q
        simp [way_not d (p := i + 1) (by exact om12)]
      · simp [q]
theorem DD_root (m : Nat) : DD up (m + 1) c 0 = isum m fun i => inn up (m + 1) c (i + 1) := by
  unfold DD inn
  rw [← isum_swap]
  refine isum_congr fun o ho => ?_
  rw [dist_root d m o ho, ← isum_mul]
  refine isum_congr fun i _ => ?_
  split <;> simp
theorem dist_bound {m : Nat} (hlen : ∀ p, p < n → (way up p).length ≤ m) {p o : Nat} (hp : p < n) (ho : o < n) : 0 ≤ dist up p o ∧ dist up p o ≤ 2 * m := by
  unfold dist away
  have h1 := List.length_filter_le (fun k => !decide (k ∈ way up o)) (way up p)
  have h2 := List.length_filter_le (fun k => !decide (k ∈ way up p)) (way up o)
  have h3 := hlen p hp
  have h4 := hlen o ho
  exact om195 h1 h2 h3 h4
variable (hc : ∀ q, q < n → 0 ≤ c q)
include hc
theorem inn_nonneg (k : Nat) : 0 ≤ inn up n c k := by
  have : isum n (fun _ => 0) ≤ inn up n c k := isum_le fun q hq => by split; exact hc q hq; exact Int.le_refl _
  rw [isum_const] at this
  simpa using this
theorem inn_up {k : Nat} (hk : 0 < k) : inn up n c k ≤ inn up n c (up k) := by
  refine isum_le fun q hq => ?_
  by_cases h : k ∈ way up q
  · rw [if_pos h, if_pos (way_up d hk h)]; exact Int.le_refl _
  · rw [if_neg h]; split; exact hc q hq; exact Int.le_refl _
theorem inn_apart {a b : Nat} (h1 : a ∉ way up b) (h2 : b ∉ way up a) : inn up n c a + inn up n c b ≤ inn up n c 0 := by
  unfold inn
  rw [← isum_add]
  refine isum_le fun q hq => ?_
  rw [if_pos (way_root d q)]
  have := hc q hq
  by_cases ha : a ∈ way up q
  · rw [if_pos ha, if_neg fun hb => (way_chain d ha hb).elim h1 h2]; exact om196
  · rw [if_neg ha]; split <;> omega
/-- Jordan: the place to which no more than half come over any door is nearest to all -/
theorem mid_best {p : Nat} (hp : p < n) : (∀ o, o < n → DD up n c p ≤ DD up n c o) ↔
    (∀ k, 0 < k → k < n → up k = p → 2 * inn up n c k ≤ inn up n c 0) ∧ 2 * (inn up n c 0 - inn up n c p) ≤ inn up n c 0 := by
  have hw := inn_nonneg d hc 0
  constructor
  · intro h
    refine ⟨fun k hk hkn e => ?_, ?_⟩
    · have := h k hkn
      have e2 := DD_step d (n := n) (c := c) hk
      rw [e] at e2
      exact om197 this e2
    · rcases Nat.eq_zero_or_pos p with rfl | hp0
      · exact om198 hw
      · have := h (up p) (by have := d p hp0; exact om24 hp this)
        have e2 := DD_step d (n := n) (c := c) hp0
        exact om199 this e2
  · rintro ⟨hk, hu⟩
    have up2 : ∀ o, o ∈ way up p → inn up n c 0 ≤ 2 * inn up n c o ∧ DD up n c p ≤ DD up n c o := by
      have : ∀ x, x ∈ way up p → (inn up n c 0 ≤ 2 * inn up n c x ∧ DD up n c p ≤ DD up n c x) → ∀ o, o ∈ way up x → inn up n c 0 ≤ 2 * inn up n c o ∧ DD up n c p ≤ DD up n c o := by
        intro x
        induction x using Nat.strongRecOn with
        | _ x ih =>
          intro hx hh o ho
          rcases Nat.eq_zero_or_pos x with rfl | hx0
          · rw [way_zero] at ho; simp at ho; subst ho; exact hh
          · have e2 := DD_step d (n := n) (c := c) hx0
            have e3 := inn_up d hc hx0
            rw [way_pos d hx0] at ho
            rcases List.mem_cons.mp ho with rfl | ho
            · exact hh
            · exact ih _ (d x hx0) (way_up d hx0 hx) ⟨by exact om200 hh e3, by exact om201 hh e2⟩ o ho
      exact this p (way_self d p) ⟨by exact om202 hu, Int.le_refl _⟩
    have below : ∀ o, o < n → p ∈ way up o → o ≠ p → 2 * inn up n c o ≤ inn up n c 0 := by
      intro o
      induction o using Nat.strongRecOn with
      | _ o ih =>
        intro ho hm hne
        rcases Nat.eq_zero_or_pos o with rfl | ho0
        · rw [way_zero] at hm; simp at hm; exact om203 hne hm
        · rw [way_pos d ho0] at hm
          have hm := (List.mem_cons.mp hm).resolve_left fun e => hne e.symm
          have hlt := d o ho0
          by_cases e : up o = p
          · exact hk o ho0 ho e
          · have := ih _ hlt (by exact om24 ho hlt) hm e
            have := inn_up d hc ho0
            omega
    intro o
    induction o using Nat.strongRecOn with
    | _ o ih =>
      intro ho
      by_cases hm : o ∈ way up p
      · exact (up2 o hm).2
      · have ho0 : 0 < o := by
          rcases Nat.eq_zero_or_pos o with rfl | q
          · exact absurd (way_root d p) hm
          · exact q
        have hlt := d o ho0
        have := ih _ hlt (by exact om24 ho hlt)
        have e2 := DD_step d (n := n) (c := c) ho0
        have : 2 * inn up n c o ≤ inn up n c 0 := by
          by_cases hb : p ∈ way up o
          · exact below o ho hb fun e => hm (e ▸ way_self d o)
          · have := inn_apart d hc hm hb
            exact om204 hu this
        omega
end

section
open PySem.Builtin PySem.Builtin.Str
noncomputable abbrev ch (x : Str) (k : Nat) : Nat := x.cps.getD k 0
theorem ch_app (a b : Str) (k : Nat) : ch (a ++ b) k = if k < a.length then ch a k else ch b (k - a.length) := by
  show (a.cps ++ b.cps).getD k 0 = _
  unfold Str.length ch
  simp only [Array.getD_eq_getD_getElem?, Array.getElem?_append]
  split <;> rfl
theorem slApp (a b : Str) : (a ++ b).length = a.length + b.length := by
  show (a.cps ++ b.cps).size = _
  rw [Array.size_append]; rfl
theorem sub_app (a b : Str) : strSub (a ++ b) 0 a.length = a := by
  apply Str.ext'
  show (a.cps ++ b.cps).extract 0 a.cps.size = a.cps
  simp
noncomputable def slash : Str := Str.ofString "/"
theorem slash_cps : slash = ⟨#[47]⟩ := by decide +kernel
theorem slash_has (c : Nat) : slash.cps.contains c = decide (c = 47) := by
  rw [slash_cps]
  by_cases h : c = 47
  · subst h; simp
  · simp [h]
structure Ends (x : Str) : Prop where
  pos : 0 < x.length
  last : ch x (x.length - 1) ≠ 47
theorem rstrip_same {x : Str} (h : Ends x) : Txt.rstripChars x slash = x := by
  unfold Txt.rstripChars
  rw [PyProof.Rows.stripBy_eq]
  obtain ⟨h1, h2, h3, h4⟩ := hi_facts slash.cps.contains x 0 (Nat.zero_le _)
  have e0 : stripLo slash.cps.contains false x = 0 := rfl
  rw [e0]
  have : stripHi slash.cps.contains true x 0 = x.length := by
    rcases Nat.lt_or_ge (stripHi slash.cps.contains true x 0) x.length with q | q
    · have := h3 (x.length - 1) (by exact om126 q) (by have := h.pos; exact om205 this)
      rw [slash_has, decide_eq_true_eq] at this
      exact absurd this h.last
    · exact om206 h2 q
  rw [this, strSub_whole]
theorem rstrip_app {a s : Str} (h : Ends a) (hs : ∀ k, k < s.length → ch s k = 47) : Txt.rstripChars (a ++ s) slash = a := by
  unfold Txt.rstripChars
  rw [PyProof.Rows.stripBy_eq]
  obtain ⟨h1, h2, h3, h4⟩ := hi_facts slash.cps.contains (a ++ s) 0 (Nat.zero_le _)
  have e0 : stripLo slash.cps.contains false (a ++ s) = 0 := rfl
  rw [e0]
  have hp := h.pos
  have hl := slApp a s
  have : stripHi slash.cps.contains true (a ++ s) 0 = a.length := by
    rcases Nat.lt_trichotomy (stripHi slash.cps.contains true (a ++ s) 0) a.length with q | q | q
    · have := h3 (a.length - 1) (by exact om126 q) (by exact om207 hp hl)
      rw [slash_has, decide_eq_true_eq] at this
      have e := ch_app a s (a.length - 1)
      rw [if_pos (by exact om205 hp)] at e
      exact absurd (e.symm.trans this) h.last
    · exact q
    · have h4 := h4.resolve_left (by exact om208 q)
      rw [slash_has, decide_eq_false_iff_not] at h4
      have e := ch_app a s (stripHi slash.cps.contains true (a ++ s) 0 - 1)
      rw [if_neg (by exact om209 q), hs _ (by exact om210 h2 hl q)] at e
      exact absurd e h4
  rw [this, sub_app]
theorem at_slash (x : Str) (i : Nat) : StrLaws.At x slash x.length i ↔ i < x.length ∧ ch x i = 47 := by
  unfold StrLaws.At
  rw [slash_cps]
  show i + 1 ≤ x.cps.size ∧ (x.cps.extract i (i + 1) == #[47]) = true ↔ i < x.cps.size ∧ x.cps.getD i 0 = 47
  constructor
  · rintro ⟨h1, h2⟩
    have h1 : i < x.cps.size := by exact om211 h1
    refine ⟨h1, ?_⟩
    rw [beq_iff_eq] at h2
    have := congrArg (fun a => a[0]?) h2
    rw [Array.getElem?_extract, if_pos (by omega)] at this
    simpa [h1] using this
  · rintro ⟨h1, h2⟩
    refine ⟨by exact om212 h1, ?_⟩
    rw [beq_iff_eq]
    simp [h1] at h2
    apply Array.ext
    · simp; exact om213 h1
    · intro j hj hj2
      simp at hj2
      subst hj2
      simp [h2]
theorem rfind_app {a s c : Str} (hs : ∀ k, k < s.length → ch s k = 47) (h0 : 0 < s.length) (hc : ∀ k, k < c.length → ch c k ≠ 47) : Txt.rfind (a ++ s ++ c) slash = ((a.length + s.length - 1 : Nat) : Int) := by
  have hl := slApp (a ++ s) c
  have hl2 := slApp a s
  have key : StrLaws.At (a ++ s ++ c) slash (a ++ s ++ c).length (a.length + s.length - 1) := by
    refine (at_slash _ _).mpr ⟨by exact om214 h0 hl hl2, ?_⟩
    rw [ch_app, if_pos (by exact om215 h0 hl2), ch_app, if_neg (by exact om216 h0), hs _ (by exact om217 h0)]
  rcases rfind_whole (a ++ s ++ c) slash with ⟨_, h⟩ | ⟨i, e, hi, h⟩
  · exact absurd key (h _)
  · rw [e]
    have h1 : ¬ i < a.length + s.length - 1 := fun q => h _ q key
    have h2 := (at_slash _ _).mp hi
    have h3 : ¬ a.length + s.length - 1 < i := fun q => by
      have := h2.2
      rw [ch_app, if_neg (by exact om218 hl2 q)] at this
      exact hc _ (by exact om219 hl hl2 h2 q) this
    congr 1
    exact om220 h1 h3
theorem slice_to {x : Str} {n : Nat} (h : n ≤ x.length) : Txt.slice x none (some (n : Int)) = strSub x 0 n := by
  have e : strSliceIndices none (some (n : Int)) 1 x.length = strSliceIndices (some ((0 : Nat) : Int)) (some (n : Int)) 1 x.length := by
    unfold strSliceIndices
    simp
    congr 1
  unfold Txt.slice
  rw [e, StrLaws.sliced_plain x (Nat.zero_le _) h]
  split
  · rename_i q
    have : n = x.length := by
      rw [StrLaws.strSliceIndices_plain (Nat.zero_le _) h] at q
      simpa using q
    rw [this, strSub_whole]
  · rw [strSub_mk]
theorem mem_foldl_app {c : Nat} : ∀ (l : List (Array Nat)) (acc : Array Nat), c ∈ l.foldl (· ++ ·) acc → c ∈ acc ∨ ∃ a ∈ l, c ∈ a
  | [], acc, h => .inl h
  | a :: l, acc, h => by
    rcases mem_foldl_app l (acc ++ a) h with q | ⟨b, hb, q⟩
    · rcases Array.mem_append.mp q with q | q
      · exact .inl q
      · exact .inr ⟨a, List.mem_cons_self, q⟩
    · exact .inr ⟨b, List.mem_cons_of_mem _ hb, q⟩
theorem mul_slash (n : Int) : ∀ c ∈ (Txt.mul slash n).cps, c = 47 := by
  intro c hc
  unfold Txt.mul at hc
  rw [slash_cps] at hc
  split at hc
  · cases (Array.mem_def.mp hc)
  · split at hc
    · simpa using hc
    · rcases mem_foldl_app _ _ hc with q | ⟨a, ha, q⟩
      · cases (Array.mem_def.mp q)
      · rw [(List.mem_replicate.mp ha).2] at q
        simpa using q
theorem ch_mem {x : Str} {k : Nat} (h : k < x.length) : ch x k ∈ x.cps := by
  have h : k < x.cps.size := h
  show x.cps.getD k 0 ∈ x.cps
  simp [h]
theorem head_app {a s c : Str} (h : Ends a) (hs : ∀ k, k < s.length → ch s k = 47) (h0 : 0 < s.length) (hc : ∀ k, k < c.length → ch c k ≠ 47) : headOf (a ++ s ++ c) = a := by
  have hl := slApp (a ++ s) c
  have hl2 := slApp a s
  have hp := h.pos
  have e1 : Txt.slice (a ++ s ++ c) none (some (Txt.rfind (a ++ s ++ c) (Str.ofString "/") + 1)) = a ++ s := by
    rw [show Str.ofString "/" = slash from rfl, rfind_app hs h0 hc, show ((a.length + s.length - 1 : Nat) : Int) + 1 = (((a ++ s).length : Nat) : Int) by exact om221 hl2 hp, slice_to (by exact om222 hl), sub_app]
  unfold headOf
  dsimp only
  rw [e1]
  rw [if_neg (by exact om223 hl2 hp), if_pos]
  · exact rstrip_app h hs
  · rw [bne_iff_ne]
    intro e
    have hm : ch (a ++ s) (a.length - 1) ∈ (a ++ s).cps := ch_mem (by exact om224 hl2 hp)
    rw [e] at hm
    have := mul_slash _ _ hm
    rw [← e, ch_app, if_pos (by exact om205 hp)] at this
    exact h.last this
theorem headT : headOf "t" = "" := by decide +kernel
theorem rstripE : Txt.rstripChars "" slash = "" := by decide +kernel
theorem headE : headOf "" = "" := by decide +kernel
end

section
open PySem.Builtin PySem.Builtin.Str
theorem rind {α : Type} {P : List α → Prop} (h0 : P []) (h1 : ∀ l x, P l → P (l ++ [x])) (l : List α) : P l := by
  have : ∀ r : List α, P r.reverse := by
    intro r
    induction r with
    | nil => exact h0
    | cons a r ih => rw [List.reverse_cons]; exact h1 _ _ ih
  have := this l.reverse
  rwa [List.reverse_reverse] at this
theorem getD_ge {α : Type} {l : List α} {i : Nat} {a d : α} (h : l[i]? = some a) : l.getD i d = a := by
  rw [List.getD_eq_getElem?_getD, h]; rfl
theorem get_app {α : Type} {l r : List α} {i : Nat} {a : α} (h : l[i]? = some a) : (l ++ r)[i]? = some a := by
  obtain ⟨hi, _⟩ := List.getElem?_eq_some_iff.mp h
  rw [List.getElem?_append_left hi]; exact h
theorem getD_app {α : Type} {l r : List α} {i : Nat} {d : α} (h : i < l.length) : (l ++ r).getD i d = l.getD i d := by
  rw [List.getD_eq_getElem?_getD, List.getD_eq_getElem?_getD, List.getElem?_append_left h]
structure Built (ns : List Int) : Prop where
  ul : (upsOf ns).length = ns.length + 1
  pl : (pathsOf ns).length = ns.length + 1
  u0 : (upsOf ns)[0]? = some 0
  p0 : (pathsOf ns)[0]? = some (Str.ofString "t")
  us : ∀ i, i < ns.length → ∃ (u : Nat) (k : Int), u ≤ i ∧ (k = 1 ∨ k = 2) ∧ (upsOf ns)[i + 1]? = some (u : Int) ∧ (pathsOf ns)[i + 1]? = some ((pathsOf ns).getD u "" ++ Txt.mul slash k ++ Txt.item "tabcdefg" ((i + 1 : Nat) : Int))
theorem built (ns : List Int) : Built ns := by
  refine rind (P := Built) ⟨rfl, rfl, rfl, rfl, fun i h => by simp at h⟩ (fun l x b => ?_) ns
  have eu : upsOf (l ++ [x]) = upsOf l ++ [x.fmod (upsOf l).length] := by unfold upsOf; rw [List.foldl_append]; rfl
  have ep : pathsOf (l ++ [x]) = pathsOf l ++ [(pathsOf l).getD (x.fmod (pathsOf l).length).toNat "" ++ Txt.mul slash (1 + (x.fdiv 8).fmod 2) ++ Txt.item "tabcdefg" (pathsOf l).length] := by unfold pathsOf; rw [List.foldl_append]; rfl
  rw [b.ul] at eu
  rw [b.pl] at ep
  have hn : ((l.length + 1 : Nat) : Int) > 0 := by exact om225
  have f0 := Int.fmod_nonneg_of_pos x hn
  have f1 := Int.fmod_lt_of_pos x hn
  have g0 := Int.fmod_nonneg_of_pos (x.fdiv 8) (show (2 : Int) > 0 by decide)
  have g1 := Int.fmod_lt_of_pos (x.fdiv 8) (show (2 : Int) > 0 by decide)
  have hll : (l ++ [x]).length = l.length + 1 := by simp
  refine ⟨by rw [eu, List.length_append, b.ul, hll]; rfl, by rw [ep, List.length_append, b.pl, hll]; rfl, by rw [eu]; exact get_app b.u0, by rw [ep]; exact get_app b.p0, fun i hi => ?_⟩
  rw [hll] at hi
  rcases Nat.lt_or_ge i l.length with q | q
  · obtain ⟨u, k, h1, h2, h3, h4⟩ := b.us i q
    refine ⟨u, k, h1, h2, by rw [eu]; exact get_app h3, ?_⟩
    rw [ep, getD_app (by rw [b.pl]; exact om226 q h1)]
    exact get_app h4
  · obtain rfl : i = l.length := by exact om227 hi q
    refine ⟨(x.fmod ((l.length + 1 : Nat) : Int)).toNat, 1 + (x.fdiv 8).fmod 2, by exact om228 f1, by exact om229 g0 g1, ?_, ?_⟩
    · rw [eu, Int.toNat_of_nonneg f0, List.getElem?_append_right (by rw [b.ul]; exact om230), b.ul]
      simp
    · rw [ep, getD_app (by rw [b.pl]; exact om231 f1), List.getElem?_append_right (by rw [b.pl]; exact om230), b.pl]
      simp
noncomputable def let8 (i : Nat) : Nat := ch (Txt.item "tabcdefg" (i : Int)) 0
theorem let8_ne : ∀ i, i < 8 → let8 i ≠ 47 := by decide +kernel
theorem let8_inj : ∀ i, i < 8 → ∀ j, j < 8 → let8 i = let8 j → i = j := by decide +kernel
theorem mul_ok {k : Int} (h : k = 1 ∨ k = 2) : 0 < (Txt.mul slash k).length ∧ ∀ j, j < (Txt.mul slash k).length → ch (Txt.mul slash k) j = 47 :=
  ⟨by rcases h with rfl | rfl <;> decide +kernel, fun j hj => mul_slash _ _ (ch_mem hj)⟩

section
variable {ns : List Int} (b : Built ns) (hlen : ns.length ≤ 7)
include b hlen
theorem path_last {i : Nat} (hi : i < ns.length + 1) : 0 < ((pathsOf ns).getD i "").length ∧ ch ((pathsOf ns).getD i "") (((pathsOf ns).getD i "").length - 1) = let8 i := by
  cases i with
  | zero => rw [getD_ge b.p0]; decide +kernel
  | succ i =>
    obtain ⟨u, k, h1, h2, h3, h4⟩ := b.us i (by exact om194 hi)
    rw [getD_ge h4]
    have e1 := slApp ((pathsOf ns).getD u "" ++ Txt.mul slash k) (Txt.item "tabcdefg" ((i + 1 : Nat) : Int))
    have e2 : (Txt.item "tabcdefg" ((i + 1 : Nat) : Int)).length = 1 := rfl
    refine ⟨by exact om232 e1 e2, ?_⟩
    rw [ch_app, if_neg (by exact om233 e1 e2)]
    unfold let8
    congr 1
    exact om234 e1 e2
theorem path_ends {i : Nat} (hi : i < ns.length + 1) : Ends ((pathsOf ns).getD i "") :=
  let h := path_last b hlen hi
  ⟨h.1, by rw [h.2]; exact let8_ne i (by exact om235 hlen hi)⟩
theorem path_inj {i j : Nat} (hi : i < ns.length + 1) (hj : j < ns.length + 1) (e : (pathsOf ns).getD i "" = (pathsOf ns).getD j "") : i = j := by
  have h1 := (path_last b hlen hi).2
  have h2 := (path_last b hlen hj).2
  rw [e, h2] at h1
  exact (let8_inj j (by exact om235 hlen hj) i (by exact om235 hlen hi) h1).symm
theorem path_head {i : Nat} (hi : i < ns.length) : headOf ((pathsOf ns).getD (i + 1) "") = (pathsOf ns).getD (upF ns (i + 1)) "" := by
  obtain ⟨u, k, h1, h2, h3, h4⟩ := b.us i hi
  have hu : upF ns (i + 1) = u := by unfold upF; rw [getD_ge h3]; rfl
  rw [getD_ge h4, hu]
  refine head_app (path_ends b hlen (by exact om226 hi h1)) (mul_ok h2).2 (mul_ok h2).1 fun j hj => ?_
  have : j = 0 := by
    have : (Txt.item "tabcdefg" ((i + 1 : Nat) : Int)).length = 1 := rfl
    exact om236 hj this
  subst this
  exact let8_ne (i + 1) (by exact om237 hlen hi)
omit hlen in
theorem upF_lt {p : Nat} (hp : 0 < p) : upF ns p < p := by
  unfold upF
  by_cases h : p ≤ ns.length
  · obtain ⟨u, k, h1, h2, h3, h4⟩ := b.us (p - 1) (by exact om238 hp h)
    rw [show p - 1 + 1 = p by exact om239 hp] at h3
    rw [getD_ge h3, Int.toNat_natCast]
    exact om125 hp h1
  · rw [List.getD_eq_getElem?_getD, List.getElem?_eq_none (by rw [b.ul]; exact om240 h)]
    exact hp
theorem ways_ok (p : Nat) (hp : p < ns.length + 1) : ∃ tx n, n = (way (upF ns) p).length ∧ WayTx ((pathsOf ns).getD p "") tx n ∧ (List.range n).map tx = (way (upF ns) p).map fun q => (pathsOf ns).getD q "" := by
  have d : Down (upF ns) := fun p hp => upF_lt b hp
  have hlx : ∀ i, i < ns.length + 1 → ((pathsOf ns).getD i "").length ≤ 1000 := fun i hi => by
    have : i < (pathsOf ns).length := by rw [b.pl]; exact hi
    rw [List.getD_eq_getElem?_getD, List.getElem?_eq_getElem this]
    have := pathsOf_len ns _ (List.getElem_mem this)
    show (pathsOf ns)[i].length ≤ 1000
    omega
  have hrs : ∀ i, i < ns.length + 1 → Txt.rstripChars ((pathsOf ns).getD i "") "/" = (pathsOf ns).getD i "" := fun i hi => rstrip_same (path_ends b hlen hi)
  induction p using Nat.strongRecOn with
  | _ p ih =>
    cases p with
    | zero =>
      have e := getD_ge (d := Str.ofString "") b.p0
      refine ⟨fun i => if i = 0 then (pathsOf ns).getD 0 "" else "", 1, by rw [way_zero]; rfl, ⟨hrs 0 hp, hlx 0 hp, ?_, ?_, ?_, ?_⟩, by rw [way_zero]; rfl⟩
      · intro i hi
        obtain rfl : i = 0 := by exact om241 hi
        show "" = headOf ((pathsOf ns).getD 0 "")
        rw [e]; exact headT.symm
      · intro i
        split
        · exact hlx 0 hp
        · exact Nat.zero_le _
      · intro i hi
        obtain rfl : i = 0 := by exact om241 hi
        show (Txt.rstripChars ((pathsOf ns).getD 0 "") "/").length ≠ 0
        rw [hrs 0 hp]
        have := (path_ends b hlen hp).pos
        exact om242 this
      · show (Txt.rstripChars "" "/").length = 0
        decide +kernel
    | succ p =>
      have hu := d (p + 1) (by exact om12)
      obtain ⟨tx, N, hN, W, hm⟩ := ih _ hu (by exact om192 hp hu)
      have t0 : tx 0 = (pathsOf ns).getD (upF ns (p + 1)) "" := W.h0.symm.trans (hrs _ (by exact om192 hp hu))
      refine ⟨fun i => match i with | 0 => (pathsOf ns).getD (p + 1) "" | i + 1 => tx i, N + 1, by rw [way_pos d (by exact om12), hN]; rfl, ⟨hrs _ hp, hlx _ hp, ?_, ?_, ?_, W.hstop⟩, ?_⟩
      · intro i hi
        cases i with
        | zero => exact t0.trans (path_head b hlen (by exact om194 hp)).symm
        | succ i => exact W.htx i (by exact om194 hi)
      · intro i
        cases i with
        | zero => exact hlx _ hp
        | succ i => exact W.hlen i
      · intro i hi
        cases i with
        | zero =>
          show (Txt.rstripChars ((pathsOf ns).getD (p + 1) "") "/").length ≠ 0
          rw [hrs _ hp]
          have := (path_ends b hlen hp).pos
          exact om242 this
        | succ i => exact W.hgo i (by exact om194 hi)
      · rw [List.range_succ_eq_map, way_pos d (by exact om12), List.map_cons, List.map_cons, List.map_map, ← hm]
        rfl
end
theorem count_nd {a : Str} : ∀ {l : List Str}, l.Nodup → l.count a = if a ∈ l then 1 else 0
  | [], _ => by simp
  | x :: l, nd => by
    have nd := List.nodup_cons.mp nd
    rw [List.count_cons, count_nd nd.2]
    by_cases h : x = a
    · subst h; simp [nd.1]
    · have : ¬ a = x := fun e => h e.symm
      simp [h, this]
theorem away_map {P : Nat → Str} {l w : List Nat} (h : ∀ a ∈ l, ∀ c ∈ w, P a = P c → a = c) : (notIn (l.map P) (w.map P)).length = away l w := by
  unfold notIn away
  rw [List.filter_map, List.length_map]
  congr 1
  refine List.filter_congr fun k hk => ?_
  show (!decide (P k ∈ w.map P)) = _
  congr 1
  rw [decide_eq_decide]
  constructor
  · intro q
    obtain ⟨c, hc, e⟩ := List.mem_map.mp q
    exact h k hk c hc e.symm ▸ hc
  · exact fun q => List.mem_map_of_mem q
theorem nodup_map {P : Nat → Str} : ∀ {l : List Nat}, l.Nodup → (∀ a ∈ l, ∀ c ∈ l, P a = P c → a = c) → (l.map P).Nodup
  | [], _, _ => by simp
  | x :: l, nd, h => by
    have nd := List.nodup_cons.mp nd
    rw [List.map_cons, List.nodup_cons]
    refine ⟨fun q => ?_, nodup_map nd.2 fun a ha c hc => h a (.tail _ ha) c (.tail _ hc)⟩
    obtain ⟨c, hc, e⟩ := List.mem_map.mp q
    exact nd.1 (h c (.tail _ hc) x (.head _) e ▸ hc)
theorem range_map_getD {f : Nat → Int} {n k : Nat} (h : k < n) : ((List.range n).map f).getD k 0 = f k := by
  refine getD_ge ?_
  rw [List.getElem?_map, List.getElem?_range h]; rfl
theorem drop_one_sum (m : Nat) (f : Nat → Int) : (((List.range (m + 1)).map f).drop 1).sum = isum m fun i => f (i + 1) := by
  rw [List.range_succ_eq_map, List.map_cons, List.drop_one, List.tail_cons, List.map_map]; rfl
noncomputable def cF (ns : List Int) (q : Nat) : Int := (countsOf ns).getD q 0
theorem tbl_bound (x : Int) : 0 ≤ tblSum x ∧ tblSum x ≤ 6 := by
  unfold tblSum
  have h1 := Int.fmod_nonneg_of_pos (x.fdiv 32) (show (5 : Int) > 0 by decide)
  have h2 := Int.fmod_lt_of_pos (x.fdiv 32) (show (5 : Int) > 0 by decide)
  have h3 := Int.fmod_nonneg_of_pos (x.fdiv 160) (show (3 : Int) > 0 by decide)
  have h4 := Int.fmod_lt_of_pos (x.fdiv 160) (show (3 : Int) > 0 by decide)
  exact om243 h1 h2 h3 h4
theorem cF_tbl (ns : List Int) (q : Nat) : cF ns q = tblSum ((drawsOf ns).getD q 0) := by
  unfold cF countsOf
  rw [List.getD_eq_getElem?_getD, List.getD_eq_getElem?_getD, List.getElem?_map]
  cases (drawsOf ns)[q]? with
  | none => decide +kernel
  | some x => rfl
section
variable {ns : List Int} (b : Built ns) (hlen : ns.length ≤ 7)
include b hlen
theorem waysOf_getD {p : Nat} (hp : p < ns.length + 1) : (waysOf ns).getD p [] = (way (upF ns) p).map fun q => (pathsOf ns).getD q "" := by
  refine getD_ge ?_
  unfold waysOf
  rw [List.getElem?_map, List.getElem?_range hp]; rfl
theorem insOf_eq : insOf ns = (List.range (ns.length + 1)).map (inn (upF ns) (ns.length + 1) (cF ns)) := by
  have d : Down (upF ns) := fun p hp => upF_lt b hp
  refine List.ext_getElem? fun k => ?_
  unfold insOf
  rw [List.getElem?_map, List.getElem?_map]
  by_cases hk : k < ns.length + 1
  · rw [List.getElem?_range hk]
    have hk2 : k < (pathsOf ns).length := by rw [b.pl]; exact hk
    have gk : (pathsOf ns)[k]? = some ((pathsOf ns).getD k "") := by
      rw [List.getD_eq_getElem?_getD, List.getElem?_eq_getElem hk2]; rfl
    rw [gk]
    show some _ = some _
    congr 1
    unfold psum inn
    rw [b.pl]
    refine isum_congr fun q hq => ?_
    rw [waysOf_getD b hlen hq, count_nd (nodup_map (way_nodup d q) fun a ha c hc e => path_inj b hlen (by have := wayLe d ha; exact om244 hq this) (by have := wayLe d hc; exact om244 hq this) e), cF_tbl]
    by_cases hm : k ∈ way (upF ns) q
    · rw [if_pos hm, if_pos (List.mem_map_of_mem hm)]; simp
    · rw [if_neg hm, if_neg]
      · simp
      · intro q2
        obtain ⟨c, hc, e⟩ := List.mem_map.mp q2
        exact hm (path_inj b hlen (by have := wayLe d hc; exact om244 hq this) hk e ▸ hc)
  · rw [List.getElem?_eq_none (by rw [b.pl]; exact om245 hk), List.getElem?_eq_none (by simp; exact om245 hk)]; rfl
theorem stepsL_eq : stepsL ns = (List.range (ns.length + 1)).map (DD (upF ns) (ns.length + 1) (cF ns)) := by
  have d : Down (upF ns) := fun p hp => upF_lt b hp
  unfold stepsL
  refine List.map_congr_left fun p hp => ?_
  have hp : p < ns.length + 1 := by simpa using hp
  have hwl : (waysOf ns).length = ns.length + 1 := by unfold waysOf; simp
  unfold stepsOf DD
  rw [hwl]
  refine isum_congr fun o ho => ?_
  rw [waysOf_getD b hlen hp, waysOf_getD b hlen ho, away_map fun a ha c hc e => path_inj b hlen (by have := wayLe d ha; exact om244 hp this) (by have := wayLe d hc; exact om244 ho this) e, away_map fun a ha c hc e => path_inj b hlen (by have := wayLe d ha; exact om244 ho this) (by have := wayLe d hc; exact om244 hp this) e]
  rfl
theorem told_eq (k : Nat) (hk : k ≤ ns.length) : toldF (upsOf ns) (insOf ns) k = (List.range (k + 1)).map (DD (upF ns) (ns.length + 1) (cF ns)) := by
  have d : Down (upF ns) := fun p hp => upF_lt b hp
  induction k with
  | zero =>
    show [(insOf ns |>.drop 1).sum] = _
    rw [insOf_eq b hlen, drop_one_sum, ← DD_root d]
    rfl
  | succ k ih =>
    show toldF _ _ k ++ [_] = _
    rw [ih (by exact om56 hk), List.range_succ (n := k + 1), List.map_append, insOf_eq b hlen]
    congr 1
    show [_] = [_]
    have hu := d (k + 1) (by exact om12)
    rw [show ((upsOf ns).getD (k + 1) 0).toNat = upF ns (k + 1) from rfl, range_map_getD (by exact om246 hu), range_map_getD (by exact om12), range_map_getD (by exact om247 hk), DD_step d (p := k + 1) (by exact om12)]
theorem cmp_iff {t x y : Int} (ht : t = 1 ∨ t = -1) : 0 < cmpF t (t * x) (t * y) ↔ y < x := by
  unfold cmpF
  rcases ht with rfl | rfl
  · rw [Int.one_mul, Int.one_mul]
    split
    · omega
    · split <;> omega
  · split
    · omega
    · split <;> omega
theorem plain (hpos : ∀ x ∈ ns, 0 ≤ x) : Plain ns := by
  have d : Down (upF ns) := fun p hp => upF_lt b hp
  have hc : ∀ q, q < ns.length + 1 → 0 ≤ cF ns q := fun q _ => by rw [cF_tbl]; exact (tbl_bound _).1
  refine ⟨hlen, hpos, d, ?_, b.pl, ?_, ?_, ?_, ?_, ?_⟩
  · refine List.ext_getElem? fun i => ?_
    by_cases hi : i < ns.length + 1
    · rw [List.getElem?_map, List.getElem?_range hi]
      show _ = some (((upsOf ns).getD i 0).toNat : Int)
      cases i with
      | zero => rw [getD_ge b.u0, b.u0]; rfl
      | succ i =>
        obtain ⟨u, k, h1, h2, h3, h4⟩ := b.us i (by exact om194 hi)
        rw [getD_ge h3, h3]; rfl
    · rw [List.getElem?_eq_none (by rw [b.ul]; exact om245 hi), List.getElem?_eq_none (by simp; exact om245 hi)]
  · have e : pathsOf ns = (List.range (ns.length + 1)).map fun q => (pathsOf ns).getD q "" := by
      refine List.ext_getElem? fun i => ?_
      by_cases hi : i < ns.length + 1
      · rw [List.getElem?_map, List.getElem?_range hi, List.getElem?_eq_getElem (by rw [b.pl]; exact hi)]
        show _ = some ((pathsOf ns).getD i (Str.ofString ""))
        rw [List.getD_eq_getElem?_getD, List.getElem?_eq_getElem (by rw [b.pl]; exact hi)]; rfl
      · rw [List.getElem?_eq_none (by rw [b.pl]; exact om245 hi), List.getElem?_eq_none (by simp; exact om245 hi)]
    rw [e]
    exact nodup_map List.nodup_range fun a ha c hc e => path_inj b hlen (by simpa using ha) (by simpa using hc) e
  · intro p hp
    obtain ⟨tx, n, hn, W, hm⟩ := ways_ok b hlen p hp
    exact ⟨tx, n, by have := way_length (upF ns) p; exact om248 hlen hp hn this, W, hm⟩
  · rw [stepsL_eq b hlen, told_eq b hlen _ (Nat.le_refl _)]
  · intro x hx
    rw [stepsL_eq b hlen] at hx
    obtain ⟨p, hp, rfl⟩ := List.mem_map.mp hx
    have hp : p < ns.length + 1 := by simpa using hp
    have hd := fun o ho => dist_bound d (n := ns.length + 1) (m := 8) (fun p hp => by have := way_length (upF ns) p; exact om150 hlen hp this) (p := p) (o := o) hp ho
    have h1 : isum (ns.length + 1) (fun _ => 0) ≤ DD (upF ns) (ns.length + 1) (cF ns) p := isum_le fun q hq => Int.mul_nonneg (hc q hq) (hd q hq).1
    have h2 : DD (upF ns) (ns.length + 1) (cF ns) p ≤ isum (ns.length + 1) (fun _ => 6 * (2 * ((8 : Nat) : Int))) := isum_le fun q hq => Int.mul_le_mul (by rw [cF_tbl]; exact (tbl_bound _).2) (hd q hq).2 (hd q hq).1 (by decide)
    rw [isum_const] at h1 h2
    omega
  · have hsl : (stepsL ns).length = ns.length + 1 := by unfold stepsL; simp
    rw [hsl]
    refine List.filter_congr fun p hp => ?_
    have hp : p < ns.length + 1 := by simpa using hp
    have ht : turnOf ns = 1 ∨ turnOf ns = -1 := by
      unfold turnOf
      have h1 := Int.fmod_nonneg_of_pos ns.sum (show (2 : Int) > 0 by decide)
      have h2 := Int.fmod_lt_of_pos ns.sum (show (2 : Int) > 0 by decide)
      exact om249 h1 h2
    have gi : ∀ k, k < ns.length + 1 → (insOf ns).getD k 0 = inn (upF ns) (ns.length + 1) (cF ns) k := fun k hk => by rw [insOf_eq b hlen, range_map_getD hk]
    have h1 : ((stepsL ns).all fun n => !decide (0 < cmpF (turnOf ns) (turnOf ns * (stepsL ns).getD p 0) (turnOf ns * n))) = true ↔ ∀ o, o < ns.length + 1 → DD (upF ns) (ns.length + 1) (cF ns) p ≤ DD (upF ns) (ns.length + 1) (cF ns) o := by
      rw [List.all_eq_true]
      constructor
      · intro h o ho
        have := h (DD (upF ns) (ns.length + 1) (cF ns) o) (by rw [stepsL_eq b hlen]; exact List.mem_map_of_mem (by simpa using ho))
        rw [Bool.not_eq_true', decide_eq_false_iff_not, cmp_iff b hlen ht, stepsL_eq b hlen, range_map_getD hp] at this
        exact om250 this
      · intro h n hn
        rw [stepsL_eq b hlen] at hn
        obtain ⟨o, ho, rfl⟩ := List.mem_map.mp hn
        rw [Bool.not_eq_true', decide_eq_false_iff_not, cmp_iff b hlen ht, stepsL_eq b hlen, range_map_getD hp]
        have := h o (by simpa using ho)
        exact om251 this
    have h2 : midOf ns p = true ↔ (∀ k, 0 < k → k < ns.length + 1 → upF ns k = p → 2 * inn (upF ns) (ns.length + 1) (cF ns) k ≤ inn (upF ns) (ns.length + 1) (cF ns) 0) ∧ 2 * (inn (upF ns) (ns.length + 1) (cF ns) 0 - inn (upF ns) (ns.length + 1) (cF ns) p) ≤ inn (upF ns) (ns.length + 1) (cF ns) 0 := by
      unfold midOf
      rw [gi 0 (by exact om12), gi p hp, List.all_eq_true]
      constructor
      · intro h
        refine ⟨fun k hk hkn e => ?_, ?_⟩
        · have := h ((insOf ns).getD k 0) (List.mem_append_left _ (List.mem_map_of_mem (List.mem_filter.mpr ⟨List.mem_map.mpr ⟨k - 1, by simp; exact om252 hk hkn, by exact om239 hk⟩, by simpa using e⟩)))
          rw [gi k hkn] at this
          simpa using this
        · have := h _ (List.mem_append_right _ (List.mem_singleton.mpr rfl))
          simpa using this
      · rintro ⟨h1, h2⟩ x hx
        rw [decide_eq_true_eq]
        rcases List.mem_append.mp hx with q | q
        · obtain ⟨k, hk, rfl⟩ := List.mem_map.mp q
          obtain ⟨hk1, hk2⟩ := List.mem_filter.mp hk
          obtain ⟨j, hj, rfl⟩ := List.mem_map.mp hk1
          have hj : j < ns.length := by simpa using hj
          rw [gi _ (by exact om155 hj)]
          exact h1 (j + 1) (by exact om12) (by exact om155 hj) (by simpa using hk2)
        · obtain rfl := List.mem_singleton.mp q
          exact h2
    rw [Bool.eq_iff_iff, h1, h2]
    exact mid_best d hc hp
end
theorem plain_law (sc : List Int) : Plain (nsOf sc) := by
  refine plain (built _) ?_ ?_
  · unfold nsOf
    have := List.length_take_le 4 sc
    simp
    exact om134
  · intro x hx
    unfold nsOf at hx
    rcases List.mem_append.mp hx with q | q
    · simp at q; exact om253 q
    · obtain ⟨y, _, rfl⟩ := List.mem_map.mp q
      exact Int.fmod_nonneg_of_pos y (by decide)
end

theorem plain_of {P : Params} {h : Heap} {a : Addr} {vs : List Value} {xs : List WData} (hL : h.IsList a vs.toArray) (W : Well P h (.ref a) (.list xs)) : h.PlainList a vs.toArray := by
  cases W with
  | list e _ =>
    obtain ⟨o, e2, c, n, d⟩ := hL
    rw [e] at e2
    cases e2
    injection d with d1 d2
    exact ⟨_, by rw [e, d1]⟩
theorem all2_ints {vs : List Value} {ns : List Int} (h : IntsAre vs ns) : All2 IntIs vs ns := by
  induction h with
  | nil => exact .nil
  | cons n t _ ih => exact .cons ⟨t, rfl⟩ ih
set_option maxRecDepth 100000 in
set_option maxHeartbeats 8000000 in
theorem en : PySem.Challenge.rw_mr0110_01.Holds := by
  refine hd ?_
  k_fill
  intro w s₀ s₁ mg mb G Y fa o pm cd doc dV kV ho hd1 hcd hD hmg hg args vals as hpre hlay hrd hwl hlo
  have KX := kIn_of Y
  refine Ground.open G ?_
  intro T B D TE TW
  wrow_args hpre hlay hrd hwl hlo
  rename_i sc _ _ _ _ _ as1 as2 l vs as3 hL _ w1 _ hI _ hlen _
  have hfa : fa = 171 := by
    have e1 := mg_of (n := Str.ofString "law") (v := .ref 171) KX (Top.g T) (by kernel_rfl)
    have e2 := hmg.symm.trans e1
    exact Value.ref.inj (Option.some.inj e2)
  subst hfa
  have b : Bs w s₁.heap := ⟨KX, mg, mb, topRead_of T⟩
  refine law_spec (A := callerA) (outer := []) (fs := []) b (fun _ _ e => e) ⟨rfl, by decide +kernel, by decide +kernel⟩ ⟨fun e he => (nomatch he), fun f hf => (nomatch hf)⟩ rfl (plain_of hL w1) (all2_ints hI) (by exact om254 hlen) (plain_law sc) (.of_eq hg) fun z' s' k f _ _ eo eb => ?_
  refine ⟨.inl ⟨_, _, [], rfl, fun _ => rfl, ReadsW.bool true, ?_, fun _ => ⟨List.nodup_nil, fun _ hm => (nomatch hm)⟩⟩, .of_keep (fun b o e => f _ _ (k _ _ e)), eo, eb⟩
  first | rfl | wrow_post

end Mine

set_option maxRecDepth 100000 in
set_option maxHeartbeats 8000000 in
theorem PySem.Challenge.cw_mr0110_01_holds : PySem.Challenge.rw_mr0110_01.Holds := by
  exact Mine.en
