import PyProof.Rows.All
import Wide.All
import OpenK.AllK
import Wide.FinOn
import PySem.Challenge.RW_nq0137_01
set_option Elab.async false
set_option maxRecDepth 1000000
namespace Mine
/-! ## arithmetic: each fact in a context of its own -/
theorem om0 {x0 : Nat} (h0 : (¬ (x0 ≤ (63 : Nat)))) : ((63 : Int) < ((x0 : Nat) : Int)) := by omega
theorem om1 {x0 : Nat} {x1 : Nat} (h0 : (x1 ≤ (63 : Nat))) (h1 : (x0 = x1)) : (x0 ≤ (63 : Nat)) := le_of_eq_of_le h1 h0
theorem om2 {x0 : Nat} {x1 : Nat} {x2 : Nat} (h0 : ((x0 + ((8 : Nat) * (x1 + (1 : Nat)))) < x2)) : (((x0 + (3 : Nat)) + ((8 : Nat) * x1)) < x2) := by lia
theorem om3 {x0 : Nat} {x1 : Nat} {x2 : Nat} (h0 : ((x0 + (x1 + (1 : Nat))) < x2)) : (((x0 + (1 : Nat)) + x1) < x2) := by omega
theorem om4 {x0 : Nat} {x1 : Nat} {x2 : Nat} (h0 : ((x0 + ((8 : Nat) * (x1 + (1 : Nat)))) < x2)) : (((x0 + (1 : Nat)) + ((8 : Nat) * x1)) < x2) := by lia
theorem om5 {x0 : Nat} {x1 : Nat} {x2 : Nat} (h0 : ((x0 + (x1 + (1 : Nat))) < x2)) : ((x0 + x1) < x2) := Nat.lt_of_succ_lt h0
theorem om6 {x0 : Nat} {x1 : Nat} {x2 : Nat} {x3 : Nat} (h0 : (x1 ≤ x3)) (h1 : ((x0 + ((8 : Nat) * x3)) < x2)) : ((x0 + ((8 : Nat) * x1)) < x2) := by lia
theorem om7 {x0 : Nat} {x1 : Nat} {x2 : Nat} {x3 : Nat} (h0 : (x1 ≤ x3)) (h1 : ((x0 + x3) < x2)) : ((x0 + x1) < x2) := by lia
theorem om8 {x0 : Nat} {x1 : Nat} {x2 : Nat} (h0 : ((x0 + x2) < x1)) : (x0 < x1) := Nat.lt_of_add_right_lt h0
theorem om9 {x0 : Nat} {x1 : Nat} {x2 : Nat} (h0 : ((x0 + ((8 : Nat) * x2)) < x1)) : (x0 < x1) := Nat.lt_of_add_right_lt h0
theorem om10 {x0 : Int} (h0 : ((0 : Int) ≤ x0)) (h1 : (x0 ≤ ((2 : Int) ^ (20 : Nat)))) : (((-((2 : Int) ^ (63 : Nat))) ≤ x0) ∧ (x0 < ((2 : Int) ^ (63 : Nat)))) := by omega
theorem om11 {x0 : Int} (h0 : (x0 ≤ ((2 : Int) ^ (20 : Nat)))) : (¬ ((Int.toNat x0) > (16777216 : Nat))) := by lia
theorem om12 {x0 : Int} (h0 : (x0 ≤ ((2 : Int) ^ (20 : Nat)))) : (¬ (x0 = (((2 : Int) ^ (63 : Nat)) - (1 : Int)))) := by lia
theorem om13 {x0 : Int} (h0 : ((0 : Int) ≤ x0)) : (¬ (x0 < (0 : Int))) := Int.not_lt_of_ge h0
theorem om14 {x0 : Int} (h0 : (x0 ≤ ((2 : Int) ^ (20 : Nat)))) : ((Int.toNat x0) ≤ (16777216 : Nat)) := by grind
theorem om15 {x0 : Int} (h0 : (¬ (x0 > (0 : Int)))) : ((Int.toNat x0) = (0 : Nat)) := by first | (simp; done) | (simp_all; done) | omega
theorem om16 {x0 : Int} (h0 : ((0 : Int) ≤ x0)) (h1 : (x0 < ((2 : Int) ^ (20 : Nat)))) : (((-((2 : Int) ^ (63 : Nat))) ≤ x0) ∧ (x0 < ((2 : Int) ^ (63 : Nat)))) := by lia
theorem om17 {x0 : Int} (h0 : (((0 : Int) ≤ x0) ∧ (x0 < (256 : Int)))) : (¬ ((x0 < (0 : Int)) ∨ (x0 ≥ (256 : Int)))) := by first | (simp; done) | (simp_all; done) | omega
theorem om18 {x0 : Nat} (h0 : (x0 ≤ ((2 : Nat) ^ (20 : Nat)))) : (x0 ≤ (16777216 : Nat)) := by lia
theorem om19 {x0 : Nat} {x1 : Int} (h0 : (¬ (x1 < ((x0 : Nat) : Int)))) : (((x0 : Nat) : Int) ≤ x1) := Int.not_lt.mp h0
theorem om20 : (((-((2 : Int) ^ (62 : Nat))) ≤ (0 : Int)) ∧ ((0 : Int) < ((2 : Int) ^ (62 : Nat)))) := by first | (simp; done) | (simp_all; done) | omega
theorem om21 {x0 : Int} (h0 : (((-((2 : Int) ^ (40 : Nat))) ≤ x0) ∧ (x0 ≤ ((2 : Int) ^ (40 : Nat))))) : (x0 < ((2 : Int) ^ (62 : Nat))) := by omega
theorem om22 {x0 : Int} (h0 : (((-((2 : Int) ^ (40 : Nat))) ≤ x0) ∧ (x0 ≤ ((2 : Int) ^ (40 : Nat))))) : ((-((2 : Int) ^ (62 : Nat))) ≤ x0) := by lia
theorem om23 {x0 : Nat} (h0 : (x0 ≤ ((2 : Nat) ^ (20 : Nat)))) : (x0 ≤ (1099511627776 : Nat)) := by lia
theorem om24 {x0 : Nat} (h0 : (x0 ≤ (1000 : Nat))) : (x0 ≤ ((2 : Nat) ^ (20 : Nat))) := by lia
theorem om25 {x0 : Nat} (h0 : (x0 ≤ (1000 : Nat))) : (((x0 : Nat) : Int) ≤ ((2 : Int) ^ (20 : Nat))) := by omega
theorem om26 {x0 : Nat} : ((0 : Int) ≤ ((x0 : Nat) : Int)) := Int.natCast_nonneg x0
theorem om27 {x0 : Int} (h0 : (((-(2 : Int)) ≤ x0) ∧ (x0 ≤ (4 : Int)))) : (((-((2 : Int) ^ (40 : Nat))) ≤ x0) ∧ (x0 ≤ ((2 : Int) ^ (40 : Nat)))) := by omega
theorem om28 {x0 : Nat} (h0 : (x0 ≤ (1000 : Nat))) : (((-((2 : Int) ^ (40 : Nat))) ≤ ((x0 : Nat) : Int)) ∧ (((x0 : Nat) : Int) ≤ ((2 : Int) ^ (40 : Nat)))) := by lia
theorem om29 : (((-((2 : Int) ^ (40 : Nat))) ≤ (0 : Int)) ∧ ((0 : Int) ≤ ((2 : Int) ^ (40 : Nat)))) := by first | (simp; done) | (simp_all; done) | omega
theorem om30 {x0 : Int} (h0 : (((-(2 : Int)) ≤ x0) ∧ (x0 ≤ (4 : Int)))) : ((Int.natAbs x0) < (1073741824 : Nat)) := by omega
theorem om31 {x0 : Int} (h0 : ((0 : Int) ≤ x0)) : ((0 : Int) ≤ (x0 + (1 : Int))) := Int.le_add_one h0
theorem om32 : ((0 : Int) ≤ (0 : Int)) := Int.zero_le_ofNat 0
theorem om33 {x0 : Int} {x1 : Nat} (h0 : (x0 ≤ ((((x1 : Nat) : Int) - (0 : Int)) - (1 : Int)))) : (x0 < ((x1 : Nat) : Int)) := Int.lt_of_le_sub_one h0
theorem om34 {x0 : Nat} {x1 : Int} (h0 : (((x0 : Nat) : Int) < (x1 + (1 : Int)))) : (((x0 : Nat) : Int) ≤ x1) := (Int.add_le_add_iff_right 1).mp h0
theorem om35 {x0 : Nat} {x1 : Int} (h0 : (((x0 : Nat) : Int) ≤ x1)) : (((x0 : Nat) : Int) < (x1 + (1 : Int))) := Int.le_iff_lt_add_one.mp h0
theorem om36 {x0 : Int} {x1 : Nat} {x2 : Int} (h0 : (((0 : Int) < x2) ∧ (x0 < ((x1 : Nat) : Int)))) : (x0 ≤ ((((x1 : Nat) : Int) - (0 : Int)) - (1 : Int))) := by lia
theorem om37 {x0 : Int} {x1 : Int} {x2 : Nat} {x3 : Nat} (h0 : (((x3 : Nat) : Int) < (0 : Int))) : (((0 : Int) < x0) ∧ (x1 < ((x2 : Nat) : Int))) := by omega
theorem om38 {x0 : Int} (h0 : (x0 > (0 : Int))) : ((0 : Int) ≤ x0) := Int.le_of_lt h0
theorem om39 {x0 : Nat} (h0 : (((x0 : Nat) : Int) < (0 : Int))) : False := (Int.negSucc_not_nonneg x0).mp h0
theorem om40 {x0 : Nat} {x1 : Nat} (h0 : ((0 : Int) < (((x1 : Nat) : Int) - ((x0 : Nat) : Int)))) : (((x0 : Nat) : Int) < ((x1 : Nat) : Int)) := Int.lt_of_sub_pos h0
theorem om41 {x0 : Nat} (h0 : ((0 : Int) < ((x0 : Nat) : Int))) : ((0 : Nat) < x0) := Int.natCast_pos.mp h0
theorem om42 : (((-((2 : Int) ^ (40 : Nat))) ≤ (1 : Int)) ∧ ((1 : Int) ≤ ((2 : Int) ^ (40 : Nat)))) := by first | (simp; done) | (simp_all; done) | omega
theorem om43 {x0 : Nat} (h0 : (((-(2 : Int)) ≤ ((x0 : Nat) : Int)) ∧ (((x0 : Nat) : Int) ≤ (4 : Int)))) : (((-((2 : Int) ^ (40 : Nat))) ≤ ((x0 : Nat) : Int)) ∧ (((x0 : Nat) : Int) ≤ ((2 : Int) ^ (40 : Nat)))) := by omega
theorem om44 {x0 : Nat} {x1 : Nat} {x2 : Nat} (h0 : ((0 : Nat) < (0 : Nat))) : ((x0 + x1) ≤ x2) := by first | (simp; done) | (simp_all; done) | omega
theorem om45 {x0 : Nat} {x1 : Nat} {x2 : Nat} (h0 : (((x0 + x1) - (0 : Nat)) ≤ x2)) (h1 : (x2 < (x0 + x1))) : False := by lia
theorem om46 {x0 : Nat} {x1 : Nat} {x2 : Nat} {x3 : Nat} (h0 : ((0 : Int) < (((x3 : Nat) : Int) - ((x1 : Nat) : Int)))) (h1 : ((x0 + x3) ≤ x2)) : ((x0 + x1) < x2) := by omega
theorem om47 {x0 : Nat} {x1 : Nat} {x2 : Nat} (h0 : ((0 : Int) < (((x1 : Nat) : Int) - ((x2 : Nat) : Int)))) : ((((((x0 : Nat) : Int) + ((x1 : Nat) : Int)) - (1 : Int)) - ((x2 : Nat) : Int)) = (((((x0 + x1) - (1 : Nat)) - x2) : Nat) : Int)) := by lia
theorem om48 {x0 : Nat} {x1 : Nat} {x2 : Nat} (h0 : ((x0 + x1) < x2)) : ((((x0 : Nat) : Int) + ((x1 : Nat) : Int)) < ((x2 : Nat) : Int)) := Int.lt_of_toNat_lt h0
theorem om49 {x0 : Nat} {x1 : Nat} : ((0 : Int) ≤ (((x0 : Nat) : Int) + ((x1 : Nat) : Int))) := Int.zero_le_ofNat (x0 + x1)
theorem om50 {x0 : Nat} {x1 : Nat} (h0 : (x1 ≤ (1000 : Nat))) (h1 : (x0 = x1)) : (x0 ≤ ((2 : Nat) ^ (20 : Nat))) := by lia
theorem om51 {x0 : Nat} (h0 : (x0 < ((2 : Nat) ^ (8 : Nat)))) : (((x0 : Nat) : Int) < (256 : Int)) := Int.lt_toNat.mp h0
theorem om52 {x0 : Nat} {x1 : Nat} {x2 : Nat} : ((0 : Int) ≤ (((((x0 + x1) - (1 : Nat)) - x2) : Nat) : Int)) := Int.natCast_nonneg (x0 + x1 - 1 - x2)
theorem om53 {x0 : Nat} {x1 : Nat} (h0 : ((0 : Int) < (((x1 : Nat) : Int) - ((x0 : Nat) : Int)))) : ((x0 + (1 : Nat)) ≤ x1) := by grind
theorem om54 {x0 : Nat} {x1 : Nat} : ((((x0 : Nat) : Int) - (((x1 : Nat) : Int) + (1 : Int))) = ((((x0 : Nat) : Int) - ((x1 : Nat) : Int)) - (1 : Int))) := Eq.symm (Int.sub_sub (↑x0) (↑x1) 1)
theorem om55 {x0 : Nat} {x1 : Nat} (h0 : ((0 : Int) < (((x0 : Nat) : Int) - ((x1 : Nat) : Int)))) : ((x0 - (x1 + (1 : Nat))) < (x0 - x1)) := by grind
theorem om56 {x0 : Nat} {x1 : Nat} {x2 : Nat} {x3 : Nat} (h0 : ((0 : Int) < (((x1 : Nat) : Int) - ((x2 : Nat) : Int)))) (h1 : (x3 < x0)) : ((((x0 + x1) - (1 : Nat)) - x2) ≠ x3) := by omega
theorem om57 {x0 : Nat} {x1 : Nat} {x2 : Nat} {x3 : Nat} {x4 : Nat} (h0 : ((((((x2 + x3) - (1 : Nat)) - x4) : Nat) : Int) < ((x1 : Nat) : Int))) (h1 : ((((x2 + x3) - (1 : Nat)) - x4) = x0)) : (x0 < x1) := by first | (simp; done) | (simp_all; done) | omega
theorem om58 {x0 : Nat} : (((0 : Nat) + x0) = x0) := Nat.zero_add x0
theorem om59 {x0 : Nat} {x1 : Nat} (h0 : ((0 : Int) < (((x0 : Nat) : Int) - ((x1 : Nat) : Int)))) : (((x0 - (1 : Nat)) - x1) < x0) := by grind
theorem om60 {x0 : Nat} {x1 : Nat} {x2 : Nat} {x3 : Nat} (h0 : ((0 : Int) < (((x1 : Nat) : Int) - ((x2 : Nat) : Int)))) (h1 : ((((x3 + x1) - (1 : Nat)) - x2) = x0)) : (x0 = (((x1 - (1 : Nat)) - x2) + x3)) := by omega
theorem om61 {x0 : Nat} {x1 : Nat} {x2 : Nat} (h0 : ((0 : Int) < (((x1 : Nat) : Int) - ((x2 : Nat) : Int)))) : ((x0 + ((x1 - (1 : Nat)) - ((x1 - (1 : Nat)) - x2))) = (x0 + x2)) := by lia
theorem om62 {x0 : Nat} {x1 : Nat} {x2 : Nat} {x3 : Nat} (h0 : (((x0 + x1) - (x2 + (1 : Nat))) ≤ x3)) (h1 : (¬ ((((x0 + x1) - (1 : Nat)) - x2) = x3))) : (((x0 + x1) - x2) ≤ x3) := by omega
theorem om63 {x0 : Nat} {x1 : Nat} {x2 : Nat} {x3 : Nat} {x4 : Nat} (h0 : (x3 = x2)) (h1 : ((((((x0 + x1) - (1 : Nat)) - x4) : Nat) : Int) < ((x3 : Nat) : Int))) (h2 : (x4 = (0 : Nat))) : ((x0 + x1) ≤ x2) := by omega
theorem om64 {x0 : Nat} {x1 : Nat} {x2 : Nat} {x3 : Nat} {x4 : Nat} (h0 : (x1 = x2)) (h1 : ((((((x3 : Nat) : Int) + ((x4 : Nat) : Int)) - (1 : Int)) - ((x0 : Nat) : Int)) = (((((x3 + x4) - (1 : Nat)) - x0) : Nat) : Int))) (h2 : (((x1 : Nat) : Int) ≤ (((((x3 + x4) - (1 : Nat)) - x0) : Nat) : Int))) (h3 : ((x3 + x4) ≤ x2)) : (x0 = (0 : Nat)) := by omega
theorem om65 {x0 : Nat} {x1 : Nat} {x2 : Nat} {x3 : Nat} {x4 : Nat} (h0 : (x0 = x1)) (h1 : ((((((x2 : Nat) : Int) + ((x3 : Nat) : Int)) - (1 : Int)) - ((x4 : Nat) : Int)) = (((((x2 + x3) - (1 : Nat)) - x4) : Nat) : Int))) (h2 : (((x0 : Nat) : Int) ≤ (((((x2 + x3) - (1 : Nat)) - x4) : Nat) : Int))) (h3 : ((x2 + x3) ≤ x1)) : False := by omega
theorem om66 {x0 : Nat} {x1 : Nat} (h0 : (x0 ≤ x1)) (h1 : ((((x1 : Nat) : Int) - ((x0 : Nat) : Int)) ≤ (0 : Int))) : (x0 = x1) := by lia
theorem om67 {x0 : Nat} {x1 : Nat} (h0 : ((0 : Int) < ((x1 : Nat) : Int))) (h1 : ((((x1 : Nat) : Int) - ((x0 : Nat) : Int)) ≤ (0 : Int))) : ((0 : Nat) < x0) := by omega
theorem om68 {x0 : Nat} {x1 : Nat} : ((((x0 : Nat) : Int) - (((x1 + (1 : Nat)) : Nat) : Int)) = ((((x0 : Nat) : Int) - ((x1 : Nat) : Int)) - (1 : Int))) := by grind
theorem om69 {x0 : Int} {x1 : Nat} : ((x0 + ((1 : Int) * ((x1 : Nat) : Int))) = (x0 + ((x1 : Nat) : Int))) := by first | (simp; done) | (simp_all; done) | omega
theorem om70 {x0 : Nat} {x1 : Nat} {x2 : Nat} (h0 : ((x0 + x1) ≤ x2)) : ((((x0 + x1) : Nat) : Int) ≤ ((x2 : Nat) : Int)) := Int.ofNat_le.mpr h0
theorem om71 {x0 : Nat} {x1 : Nat} {x2 : Nat} (h0 : (((x0 : Nat) : Int) < (((x1 + x2) : Nat) : Int))) : (x0 < (x1 + x2)) := Int.ofNat_lt.mp h0
theorem om72 {x0 : Nat} {x1 : Nat} {x2 : Nat} {x3 : Nat} (h0 : ((((x1 : Nat) : Int) - ((x2 : Nat) : Int)) ≤ (0 : Int))) (h1 : (¬ (x3 < x0))) : (((x0 + x1) - x2) ≤ x3) := by omega
theorem om73 {x0 : Nat} {x1 : Nat} (h0 : ((((x0 : Nat) : Int) - ((x1 : Nat) : Int)) ≤ (0 : Int))) (h1 : (((x1 : Nat) : Int) < ((x0 : Nat) : Int))) : False := by omega
theorem om74 {x0 : Int} {x1 : Nat} {x2 : Int} (h0 : (¬ (((0 : Int) < x2) ∧ (x0 < ((x1 : Nat) : Int))))) (h1 : ((0 : Int) < x2)) (h2 : (x0 ≤ ((x1 : Nat) : Int))) : (x0 = ((x1 : Nat) : Int)) := by lia
theorem om75 {x0 : Int} (h0 : ((0 : Int) < x0)) : (¬ (x0 ≤ (0 : Int))) := Int.not_le.mpr h0
theorem om76 {x0 : Nat} {x1 : Int} {x2 : Nat} {x3 : Nat} (h0 : (x2 = x3)) (h1 : (x0 < x2)) (h2 : (x1 = ((x3 : Nat) : Int))) : (((x0 : Nat) : Int) < x1) := by first | (simp; done) | (simp_all; done) | omega
theorem om77 {x0 : Int} (h0 : (¬ ((0 : Int) < x0))) : (x0 ≤ (0 : Int)) := Int.not_lt.mp h0
theorem om78 {x0 : Nat} {x1 : Nat} : (x0 ≤ ((x0 + (1 : Nat)) + x1)) := by grind
theorem om79 {x0 : Int} (h0 : ((0 : Int) ≤ x0)) : ((-((2 : Int) ^ (63 : Nat))) ≤ x0) := by lia
theorem om80 {x0 : Int} {x1 : Nat} (h0 : ((Int.toNat x0) < x1)) : (x0 < ((x1 : Nat) : Int)) := Int.lt_of_toNat_lt h0
theorem om81 : ((4 : Nat) ≤ (5 : Nat)) := Nat.le_of_ble_eq_true rfl
theorem om82 {x0 : Nat} (h0 : (x0 < ((2 : Nat) ^ (20 : Nat)))) : (x0 ≤ (16777216 : Nat)) := by grind
theorem om83 {x0 : Nat} {x1 : Nat} {x2 : Nat} (h0 : (x1 ≤ (64 : Nat))) (h1 : (x0 = x2)) (h2 : (x2 < x1)) : (x0 < ((2 : Nat) ^ (20 : Nat))) := by omega
theorem om84 {x0 : Nat} {x1 : Nat} (h0 : (x0 < x1)) : ((x0 + (1 : Nat)) ≤ x1) := Nat.succ_le_of_lt h0
theorem om85 {x0 : Nat} {x1 : Nat} (h0 : (x1 < x0)) : ((x0 - (x1 + (1 : Nat))) < (x0 - x1)) := Nat.sub_succ_lt_self x0 x1 h0
theorem om86 {x0 : Nat} {x1 : Nat} (h0 : (x0 ≤ x1)) (h1 : (x1 ≤ x0)) : (x0 = x1) := Nat.le_antisymm h0 h1
theorem om87 {x0 : Nat} {x1 : Nat} {x2 : Nat} (h0 : (x0 = x2)) (h1 : (x2 = x1)) : (x0 = x1) := by first | (simp; done) | (simp_all; done) | omega
theorem om88 {x0 : Int} (h0 : (((-(2 : Int)) ≤ x0) ∧ (x0 ≤ (4 : Int)))) : (((max (1 : Nat) (Int.natAbs x0)) = (1 : Nat)) ∨ (((max (1 : Nat) (Int.natAbs x0)) = (2 : Nat)) ∨ (((max (1 : Nat) (Int.natAbs x0)) = (3 : Nat)) ∨ ((max (1 : Nat) (Int.natAbs x0)) = (4 : Nat))))) := by lia
theorem om89 {x0 : Int} (h0 : (((-(2 : Int)) ≤ x0) ∧ (x0 ≤ (4 : Int)))) : ((max (1 : Nat) (Int.natAbs x0)) ≤ (4 : Nat)) := by omega
theorem om90 {x0 : Int} (h0 : (x0 < (3 : Int))) : ((Int.toNat x0) ≤ (2 : Nat)) := by omega
theorem om91 {x0 : Nat} (h0 : (x0 ≤ (9 : Nat))) : (((-((2 : Int) ^ (40 : Nat))) ≤ ((x0 : Nat) : Int)) ∧ (((x0 : Nat) : Int) ≤ ((2 : Int) ^ (40 : Nat)))) := by lia
theorem om92 {x0 : Nat} {x1 : Nat} (h0 : ((0 : Int) < (((x1 : Nat) : Int) - ((x0 : Nat) : Int)))) : (x0 < x1) := by first | (simp; done) | (simp_all; done) | omega
theorem om93 {x0 : Nat} {x1 : Nat} (h0 : (x1 ≤ (9 : Nat))) (h1 : ((0 : Int) < (((x1 : Nat) : Int) - ((x0 : Nat) : Int)))) : (((x0 : Nat) : Int) ≤ (1000000 : Int)) := by lia
theorem om94 {x0 : Nat} {x1 : Nat} (h0 : (x1 ≤ (9 : Nat))) (h1 : ((0 : Int) < (((x1 : Nat) : Int) - ((x0 : Nat) : Int)))) : (x0 ≤ (9 : Nat)) := by grind
theorem om95 {x0 : Nat} {x1 : Nat} {x2 : Nat} (h0 : (x1 ≤ (9 : Nat))) (h1 : (x0 = x2)) (h2 : ((0 : Int) < (((x1 : Nat) : Int) - ((x2 : Nat) : Int)))) : (x0 < ((2 : Nat) ^ (20 : Nat))) := by grind
theorem om96 {x0 : Nat} {x1 : Nat} (h0 : (x1 ≤ (9 : Nat))) (h1 : (x0 = x1)) : (x0 ≤ (16777216 : Nat)) := by lia
theorem om97 {x0 : Nat} {x1 : Nat} {x2 : Nat} (h0 : (x1 ≤ (64 : Nat))) : ((min (min x0 x1) x2) < ((2 : Nat) ^ (20 : Nat))) := by grind
theorem om98 {x0 : Nat} {x1 : Nat} (h0 : (x0 < x1)) : ((min x0 x1) = x0) := by grind
theorem om99 {x0 : Int} : (x0 = (x0 + (0 : Int))) := Eq.symm (Int.add_zero x0)
theorem om100 {x0 : Int} (h0 : (¬ (x0 < (0 : Int)))) : ((0 : Int) ≤ x0) := Int.not_lt.mp h0
theorem om101 {x0 : Nat} (h0 : (((x0 : Nat) : Int) ≠ (0 : Int))) : ((0 : Nat) < x0) := Nat.zero_lt_of_ne_zero fun a => h0 (congrArg Nat.cast a)
theorem om102 {x0 : Nat} (h0 : ((0 : Nat) < x0)) : ((0 : Int) < ((x0 : Nat) : Int)) := Int.natCast_pos.mpr h0
theorem om103 {x0 : Nat} (h0 : ((0 : Nat) < x0)) : (((x0 : Nat) : Int) > (0 : Int)) := Int.natCast_pos.mpr h0
theorem om104 {x0 : Nat} (h0 : (x0 > (0 : Nat))) : (x0 = ((x0 - (1 : Nat)) + (1 : Nat))) := (Nat.sub_eq_iff_eq_add h0).mp rfl
theorem om105 {x0 : Int} {x1 : Nat} : ((((x0 + (((x1 : Nat) : Int) * (1 : Int))) - (0 : Int)) - (1 : Int)) = ((((x1 : Nat) : Int) - (1 : Int)) + x0)) := by grind
theorem om106 {x0 : Nat} : ((((x0 : Nat) : Int) - (1 : Int)) < ((x0 : Nat) : Int)) := by grind
theorem om107 {x0 : Nat} (h0 : ((0 : Nat) < x0)) : ((0 : Int) ≤ (((x0 : Nat) : Int) - (1 : Int))) := by lia
theorem om108 {x0 : Nat} (h0 : (((x0 : Nat) : Int) ≠ (0 : Int))) : (((x0 : Nat) : Int) ≠ (0 : Int)) := Int.ofNat_ne_zero.mpr fun a => h0 (congrArg Nat.cast a)
theorem om109 {x0 : Nat} : ((((0 : Int) + ((x0 : Nat) : Int)) + (1 : Int)) = (((x0 : Nat) : Int) + (1 : Int))) := by first | (simp; done) | (simp_all; done) | omega
theorem om110 {x0 : Nat} (h0 : (((-(2 : Int)) ≤ ((x0 : Nat) : Int)) ∧ (((x0 : Nat) : Int) ≤ (4 : Int)))) : ((Int.natAbs ((x0 : Nat) : Int)) < (1073741824 : Nat)) := by omega
theorem om111 {x0 : Nat} {x1 : Nat} {x2 : Nat} {x3 : Nat} (h0 : ((x0 + x1) ≤ x3)) (h1 : (x3 ≤ x2)) : ((x0 + x1) ≤ x2) := Nat.le_trans h0 h1
theorem om112 {x0 : Nat} {x1 : Nat} (h0 : (((-(2 : Int)) ≤ ((x1 : Nat) : Int)) ∧ (((x1 : Nat) : Int) ≤ (4 : Int)))) (h1 : ((0 : Int) < (((x1 : Nat) : Int) - ((x0 : Nat) : Int)))) : (((x0 : Nat) : Int) ≤ (1000000 : Int)) := by omega
theorem om113 {x0 : Nat} {x1 : Nat} {x2 : Nat} {x3 : Nat} (h0 : ((x0 + x3) ≤ x2)) (h1 : ((0 : Int) < (((x3 : Nat) : Int) - ((x1 : Nat) : Int)))) : ((((x0 : Nat) : Int) + ((x1 : Nat) : Int)) < ((x2 : Nat) : Int)) := by grind
theorem om114 {x0 : Nat} {x1 : Nat} {x2 : Nat} (h0 : (((-(2 : Int)) ≤ ((x1 : Nat) : Int)) ∧ (((x1 : Nat) : Int) ≤ (4 : Int)))) (h1 : (x0 = x2)) (h2 : ((0 : Int) < (((x1 : Nat) : Int) - ((x2 : Nat) : Int)))) : (x0 < ((2 : Nat) ^ (20 : Nat))) := by omega
theorem om115 {x0 : Nat} (h0 : (x0 < ((2 : Nat) ^ (8 : Nat)))) : (x0 < ((2 : Nat) ^ (64 : Nat))) := by omega
theorem om116 {x0 : Nat} {x1 : Nat} {x2 : Nat} {x3 : Nat} (h0 : (x0 = x2)) (h1 : (x1 = x3)) (h2 : (x2 = x3)) : (x0 = x1) := by first | (simp; done) | (simp_all; done) | omega
theorem om117 {x0 : Nat} {x1 : Nat} {x2 : Nat} {x3 : Nat} (h0 : (x0 = x2)) (h1 : (x1 = x3)) (h2 : (¬ (x2 = x3))) : (¬ (x0 = x1)) := by first | (simp; done) | (simp_all; done) | omega
theorem om118 {x0 : Nat} {x1 : Nat} {x2 : Nat} (h0 : (x1 = x2)) (h1 : (x0 < x2)) : (x0 < x1) := Nat.lt_of_lt_of_eq h1 (id (Eq.symm h0))
theorem om119 {x0 : Nat} {x1 : Nat} {x2 : Nat} (h0 : ((x0 - x1) = x2)) (h1 : (x1 < x0)) : ((x0 - (x1 + (1 : Nat))) < x2) := by lia
theorem om120 {x0 : Int} {x1 : Int} (h0 : (x1 ≠ x0)) (h1 : (¬ (x1 < x0))) : (x0 < x1) := by omega
theorem om121 {x0 : Nat} {x1 : Nat} {x2 : Nat} (h0 : (x0 = x2)) (h1 : (¬ (x1 < x2))) : (x0 ≤ x1) := by first | (simp; done) | (simp_all; done) | omega
theorem om122 {x0 : Nat} {x1 : Nat} (h0 : (¬ (x1 < x0))) : (x0 ≤ x1) := Nat.le_of_not_lt h0
theorem om123 {x0 : Nat} {x1 : Nat} {x2 : Nat} {x3 : Nat} {x4 : Nat} (h0 : (x1 = x2)) (h1 : (x0 = x3)) (h2 : (x4 < x2)) (h3 : (¬ (x4 < x3))) : (x0 ≤ x1) := by lia
theorem om124 {x0 : Nat} {x1 : Nat} {x2 : Nat} {x3 : Nat} {x4 : Nat} (h0 : (x0 = x2)) (h1 : (x1 = x3)) (h2 : (¬ (x4 < x2))) (h3 : (x4 < x3)) : (x0 < x1) := by lia
theorem om125 {x0 : Nat} {x1 : Nat} {x2 : Nat} {x3 : Nat} {x4 : Nat} (h0 : (x2 ≤ x3)) (h1 : (x1 = x3)) (h2 : (x0 = x4)) (h3 : (¬ (x2 < x4))) : (x0 ≤ x1) := by grind
theorem om126 {x0 : Nat} (h0 : ((2 : Nat) ≤ x0)) : ((0 : Nat) < x0) := Nat.zero_lt_of_lt h0
theorem om127 {x0 : Nat} (h0 : ((2 : Nat) ≤ x0)) : (¬ (x0 < (2 : Nat))) := Nat.not_lt.mpr h0
theorem om128 {x0 : Nat} (h0 : (x0 < (64 : Nat))) : (x0 ≤ (16777216 : Nat)) := by grind
theorem om129 {x0 : Nat} (h0 : (x0 < (64 : Nat))) : (x0 ≤ ((16777216 : Nat) + (1 : Nat))) := by lia
theorem om130 {x0 : Nat} (h0 : (x0 < ((2 : Nat) ^ (60 : Nat)))) : (((x0 : Nat) : Int) < ((2 : Int) ^ (63 : Nat))) := by omega
theorem om131 {x0 : Nat} (h0 : (x0 ≤ (0 : Nat))) : (x0 = (0 : Nat)) := Nat.eq_zero_of_le_zero h0
theorem om132 {x0 : Nat} : (¬ (x0 < (0 : Nat))) := Nat.not_lt_zero x0
theorem om133 {x0 : Nat} {x1 : Nat} (h0 : (x0 ≤ (x1 + (1 : Nat)))) : (((x0 - (1 : Nat)) / (2 : Nat)) ≤ x1) := by omega
theorem om134 {x0 : Nat} : ((((2 : Nat) * x0) + (1 : Nat)) ≤ (((2 : Nat) * x0) + (2 : Nat))) := Nat.le_succ (2 * x0 + 1)
theorem om135 {x0 : Nat} {x1 : Nat} (h0 : (x1 ≤ ((0 : Nat) + x0))) : (¬ ((((2 : Nat) * x0) + (1 : Nat)) < x1)) := by lia
theorem om136 {x0 : Nat} {x1 : Nat} {x2 : Nat} {x3 : Nat} (h0 : (x0 ≤ ((x1 + (1 : Nat)) + x3))) (h1 : ((((2 : Nat) * x3) + (1 : Nat)) ≤ x2)) : (x0 ≤ (x1 + x2)) := by lia
theorem om137 {x0 : Nat} {x1 : Nat} (h0 : (x0 < x1)) : (((x0 - (1 : Nat)) / (2 : Nat)) < x1) := by omega
theorem om138 {x0 : Nat} {x1 : Nat} (h0 : (x0 ≤ x1)) (h1 : ((x1 - x0) = (0 : Nat))) : (x0 = x1) := by grind
theorem om139 {x0 : Nat} {x1 : Nat} {x2 : Nat} (h0 : (x1 < (64 : Nat))) (h1 : (x0 = x2)) (h2 : (x2 < x1)) : ((x0 + (1 : Nat)) ≤ ((16777216 : Nat) + (1 : Nat))) := by lia
theorem om140 {x0 : Nat} {x1 : Nat} {x2 : Nat} (h0 : (x1 < (64 : Nat))) (h1 : (x0 = x2)) (h2 : (x2 < x1)) : (x0 ≤ (16777216 : Nat)) := by grind
theorem om141 {x0 : Nat} {x1 : Nat} (h0 : (x0 < (x1 + (1 : Nat)))) (h1 : (¬ (x0 < x1))) : (x0 = x1) := Nat.eq_of_lt_succ_of_not_lt h0 h1
theorem om142 {x0 : Nat} {x1 : Nat} (h0 : (x0 = x1)) : (x0 ≤ x1) := Nat.le_of_eq h0
theorem om143 {x0 : Nat} (h0 : (x0 < (0 : Nat))) : False := Nat.not_succ_le_zero x0 h0
theorem om144 {x0 : Nat} {x1 : Nat} (h0 : (x1 < x0)) : (((x0 - (1 : Nat)) - x1) < x0) := Nat.sub_one_sub_lt_of_lt h0
theorem om145 {x0 : Nat} {x1 : Nat} (h0 : ((2 : Nat) ≤ x1)) (h1 : (x0 = x1)) : ((2 : Nat) ≤ x0) := le_of_le_of_eq h0 (id (Eq.symm h1))
theorem om146 {x0 : Nat} {x1 : Nat} {x2 : Nat} (h0 : (x2 = x1)) (h1 : (x0 < x2)) : (x0 < x1) := Nat.lt_of_lt_of_eq h1 h0
theorem om147 {x0 : Nat} {x1 : Nat} (h0 : (x1 < (64 : Nat))) (h1 : (x0 = x1)) : (x0 ≤ (16777216 : Nat)) := by grind
theorem om148 {x0 : Nat} (h0 : (x0 ≤ (2 : Nat))) : (x0 ≤ (16777216 : Nat)) := by lia
theorem om149 {x0 : Nat} (h0 : ((0 : Nat) < x0)) : (x0 = ((x0 - (1 : Nat)) + (1 : Nat))) := (Nat.sub_eq_iff_eq_add h0).mp rfl
theorem om150 {x0 : Nat} (h0 : (x0 < ((2 : Nat) ^ (20 : Nat)))) : (((x0 : Nat) : Int) < ((2 : Int) ^ (63 : Nat))) := by lia
theorem om151 {x0 : Nat} {x1 : Nat} (h0 : (((x0 : Nat) : Int) < ((x1 : Nat) : Int))) : (x0 < x1) := Int.ofNat_lt.mp h0
theorem om152 {x0 : Nat} {x1 : Nat} (h0 : (x0 < x1)) (h1 : (x1 < ((2 : Nat) ^ (60 : Nat)))) : (((x0 : Nat) : Int) < ((2 : Int) ^ (63 : Nat))) := by omega
theorem om153 {x0 : Nat} {x1 : Nat} {x2 : Nat} (h0 : (x1 = x2)) (h1 : (x0 < x2)) : (((x0 : Nat) : Int) < ((x1 : Nat) : Int)) := by first | (simp; done) | (simp_all; done) | omega
theorem om154 {x0 : Nat} {x1 : Nat} (h0 : (x1 < ((2 : Nat) ^ (60 : Nat)))) (h1 : (x0 < x1)) : (((x0 : Nat) : Int) < ((2 : Int) ^ (63 : Nat))) := by omega
theorem om155 {x0 : Nat} {x1 : Nat} (h0 : (((x1 : Nat) : Int) < ((x0 : Nat) : Int))) : (((((x0 : Nat) : Int) - (1 : Int)) / (2 : Int)) = ((((x0 - (1 : Nat)) / (2 : Nat)) : Nat) : Int)) := by grind
theorem om156 {x0 : Nat} {x1 : Nat} (h0 : (((x1 : Nat) : Int) < ((x0 : Nat) : Int))) : ((0 : Int) ≤ (((x0 : Nat) : Int) - (1 : Int))) := by omega
theorem om157 {x0 : Nat} {x1 : Nat} {x2 : Nat} (h0 : (x1 = x2)) (h1 : (x0 < x2)) : (((x0 - (1 : Nat)) / (2 : Nat)) < x1) := by omega
theorem om158 {x0 : Nat} {x1 : Nat} (h0 : (x1 < ((2 : Nat) ^ (60 : Nat)))) (h1 : (x0 < x1)) : (((((x0 - (1 : Nat)) / (2 : Nat)) : Nat) : Int) < ((2 : Int) ^ (63 : Nat))) := by omega
theorem om159 {x0 : Nat} : ((0 : Int) ≤ ((((x0 - (1 : Nat)) / (2 : Nat)) : Nat) : Int)) := Int.natCast_nonneg ((x0 - 1) / 2)
theorem om160 : ((3 : Nat) ≤ (4 : Nat)) := Nat.le_of_ble_eq_true rfl
theorem om161 {x0 : Nat} (h0 : (((((x0 : Nat) : Int) - (1 : Int)) / (2 : Int)) = ((((x0 - (1 : Nat)) / (2 : Nat)) : Nat) : Int))) : (((x0 - (1 : Nat)) / (2 : Nat)) < x0) := by omega
theorem om162 {x0 : Nat} (h0 : (((x0 : Nat) : Int) < (((0 : Nat) : Nat) : Int))) : False := (Int.negSucc_not_nonneg x0).mp h0
theorem om163 {x0 : Nat} {x1 : Nat} (h0 : (((x0 : Nat) : Int) < (((x1 + (1 : Nat)) : Nat) : Int))) : (x0 < (x1 + (1 : Nat))) := Int.ofNat_lt.mp h0
theorem om164 {x0 : Nat} : ((((x0 + (1 : Nat)) - (1 : Nat)) / (2 : Nat)) ≤ x0) := Nat.div_le_self (x0 + 1 - 1) 2
theorem om165 {x0 : Nat} : ((((x0 + (1 : Nat)) - (1 : Nat)) / (2 : Nat)) ≤ (((x0 + (1 : Nat)) - (1 : Nat)) / (2 : Nat))) := Nat.le_refl ((x0 + 1 - 1) / 2)
theorem om166 {x0 : Nat} {x1 : Nat} (h0 : (¬ (((x0 : Nat) : Int) < ((x1 : Nat) : Int)))) : (¬ (x0 < x1)) := by first | (simp; done) | (simp_all; done) | omega
theorem om167 {x0 : Nat} : ((((2 : Int) * ((x0 : Nat) : Int)) + (1 : Int)) = (((((2 : Nat) * x0) + (1 : Nat)) : Nat) : Int)) := Int.mem_toNat?.mp rfl
theorem om168 {x0 : Nat} : (((((2 : Int) * ((x0 : Nat) : Int)) + (1 : Int)) + (1 : Int)) = (((((2 : Nat) * x0) + (2 : Nat)) : Nat) : Int)) := Int.mem_toNat?.mp rfl
theorem om169 {x0 : Nat} {x1 : Nat} {x2 : Nat} (h0 : (x1 = x2)) (h1 : ((((2 : Int) * ((x0 : Nat) : Int)) + (1 : Int)) < ((x2 : Nat) : Int))) : ((((2 : Nat) * x0) + (1 : Nat)) < x1) := by lia
theorem om170 {x0 : Nat} {x1 : Nat} {x2 : Nat} (h0 : (x1 = x2)) (h1 : ((((((2 : Nat) * x0) + (2 : Nat)) : Nat) : Int) < ((x2 : Nat) : Int))) : ((((2 : Nat) * x0) + (2 : Nat)) < x1) := by omega
theorem om171 {x0 : Nat} {x1 : Nat} {x2 : Nat} (h0 : (x1 = x2)) (h1 : ((((((2 : Nat) * x0) + (2 : Nat)) : Nat) : Int) < ((x2 : Nat) : Int))) : ((((2 : Nat) * x0) + (1 : Nat)) < x1) := by omega
theorem om172 : ((3 : Nat) ≤ (7 : Nat)) := Nat.le_of_ble_eq_true rfl
theorem om173 {x0 : Nat} {x1 : Nat} (h0 : (x1 < ((2 : Nat) ^ (60 : Nat)))) (h1 : ((((((2 : Nat) * x0) + (2 : Nat)) : Nat) : Int) < ((x1 : Nat) : Int))) : ((((((2 : Nat) * x0) + (2 : Nat)) : Nat) : Int) < ((2 : Int) ^ (63 : Nat))) := by omega
theorem om174 {x0 : Nat} : ((0 : Int) ≤ (((((2 : Nat) * x0) + (2 : Nat)) : Nat) : Int)) := Int.natCast_nonneg (2 * x0 + 2)
theorem om175 {x0 : Nat} {x1 : Nat} (h0 : (x1 < ((2 : Nat) ^ (60 : Nat)))) (h1 : ((((((2 : Nat) * x0) + (2 : Nat)) : Nat) : Int) < ((x1 : Nat) : Int))) : ((((((2 : Nat) * x0) + (1 : Nat)) : Nat) : Int) < ((2 : Int) ^ (63 : Nat))) := by omega
theorem om176 {x0 : Nat} : ((0 : Int) ≤ (((((2 : Nat) * x0) + (1 : Nat)) : Nat) : Int)) := Int.natCast_nonneg (2 * x0 + 1)
theorem om177 {x0 : Nat} {x1 : Nat} (h0 : (x1 < ((2 : Nat) ^ (60 : Nat)))) (h1 : ((((2 : Int) * ((x0 : Nat) : Int)) + (1 : Int)) < ((x1 : Nat) : Int))) : (((x0 : Nat) : Int) < ((2 : Int) ^ (63 : Nat))) := by lia
theorem om178 {x0 : Nat} {x1 : Nat} {x2 : Nat} (h0 : (x1 < ((2 : Nat) ^ (60 : Nat)))) (h1 : (x2 = x1)) (h2 : (x0 < x2)) : (((x0 : Nat) : Int) < ((2 : Int) ^ (63 : Nat))) := by lia
theorem om179 {x0 : Nat} {x1 : Nat} {x2 : Nat} (h0 : (x2 < x0)) (h1 : ((((2 : Nat) * x2) + (1 : Nat)) ≤ x1)) : ((x0 - x1) < (x0 - x2)) := by omega
theorem om180 {x0 : Nat} {x1 : Nat} (h0 : ((((2 : Int) * ((x1 : Nat) : Int)) + (1 : Int)) < ((x0 : Nat) : Int))) : (x0 = ((x0 - (1 : Nat)) + (1 : Nat))) := by omega
theorem om181 {x0 : Nat} {x1 : Nat} {x2 : Nat} {x3 : Nat} {x4 : Nat} (h0 : (x0 = x3)) (h1 : ((((2 : Nat) * x4) + (1 : Nat)) ≤ x2)) (h2 : (x3 = (x1 + (1 : Nat)))) : (x0 ≤ (x1 + x2)) := by lia
theorem om182 {x0 : Nat} {x1 : Nat} {x2 : Nat} {x3 : Nat} (h0 : (x0 = x3)) (h1 : (x3 = (x1 + (1 : Nat)))) : (x0 ≤ ((x1 + (1 : Nat)) + x2)) := by first | (simp; done) | (simp_all; done) | omega
theorem om183 {x0 : Nat} {x1 : Nat} (h0 : (x1 < x0)) : (x0 = ((x0 - (1 : Nat)) + (1 : Nat))) := by lia
theorem om184 {x0 : Nat} {x1 : Nat} {x2 : Nat} (h0 : (x1 = x2)) (h1 : (¬ ((((2 : Int) * ((x0 : Nat) : Int)) + (1 : Int)) < ((x2 : Nat) : Int)))) : (¬ ((((2 : Nat) * x0) + (1 : Nat)) < x1)) := by omega
theorem om185 {x0 : Nat} {x1 : Nat} (h0 : (x1 < ((2 : Nat) ^ (60 : Nat)))) (h1 : (x0 = x1)) : (x0 < ((2 : Nat) ^ (60 : Nat))) := lt_of_eq_of_lt h1 h0
theorem om186 : ((5 : Nat) ≤ (7 : Nat)) := Nat.le_of_ble_eq_true rfl
theorem om187 : ((0 : Int) < ((2 : Int) ^ (63 : Nat))) := Int.sign_eq_one_iff_pos.mp rfl
theorem om188 : ((8 : Nat) ≤ (9 : Nat)) := Nat.le_of_ble_eq_true rfl
theorem om189 {x0 : Nat} {x1 : Int} (h0 : ((0 : Int) < ((max x1 (0 : Int)) - ((x0 : Nat) : Int)))) : ((((x0 : Nat) : Int) + (1 : Int)) ≤ (max x1 (0 : Int))) := Int.add_le_of_le_sub_left h0
theorem om190 {x0 : Nat} {x1 : Nat} (h0 : ((x0 - x1) = (0 : Nat))) : ((x0 - x1) = (0 : Nat)) := Eq.symm (Nat.add_right_cancel (congrFun (congrArg HAdd.hAdd (id (Eq.symm h0))) x0))
theorem om191 {x0 : Nat} {x1 : Nat} (h0 : (¬ (x0 < x1))) (h1 : ((x0 - x1) = (0 : Nat))) : (x0 = x1) := by lia
theorem om192 {x0 : Int} (h0 : (((-(100 : Int)) ≤ x0) ∧ (x0 ≤ (100 : Int)))) : (((-((2 : Int) ^ (40 : Nat))) ≤ x0) ∧ (x0 ≤ ((2 : Int) ^ (40 : Nat)))) := by lia
theorem om193 {x0 : Int} : ((0 : Int) ≤ (max x0 (0 : Int))) := Int.le_max_right x0 0
theorem om194 {x0 : Nat} {x1 : Nat} (h0 : (x0 < x1)) (h1 : (x1 ≤ (16 : Nat))) : (x0 < ((2 : Nat) ^ (20 : Nat))) := by grind
theorem om195 {x0 : Int} {x1 : Nat} : (((max x0 (0 : Int)) - (((x1 + (1 : Nat)) : Nat) : Int)) = (((max x0 (0 : Int)) - ((x1 : Nat) : Int)) - (1 : Int))) := by grind
theorem om196 {x0 : Nat} {x1 : Nat} (h0 : (x0 < x1)) (h1 : (x1 ≤ (16 : Nat))) : (((200 : Nat) - (x0 + (1 : Nat))) < ((200 : Nat) - x0)) := by omega
theorem om197 {x0 : Int} {x1 : Nat} (h0 : ((0 : Int) < ((max x0 (0 : Int)) - ((x1 : Nat) : Int)))) : ((1 : Int) ≤ x0) := by grind
theorem om198 {x0 : Nat} {x1 : Int} (h0 : (((max x1 (0 : Int)) - ((x0 : Nat) : Int)) ≤ (0 : Int))) (h1 : (((x0 : Nat) : Int) ≤ (max x1 (0 : Int)))) : (((x0 : Nat) : Int) = (max x1 (0 : Int))) := by lia
theorem om199 {x0 : Nat} {x1 : Int} {x2 : Nat} (h0 : (((x2 : Nat) : Int) = (max x1 (0 : Int)))) (h1 : (x2 ≤ x0)) : (¬ (((x0 : Nat) : Int) < x1)) := by lia
theorem om200 {x0 : Nat} {x1 : Int} {x2 : Nat} (h0 : ((0 : Int) < ((max x1 (0 : Int)) - ((x2 : Nat) : Int)))) (h1 : (x2 = x0)) : (((x0 : Nat) : Int) < x1) := by omega
theorem om201 : (((-((2 : Int) ^ (40 : Nat))) ≤ (-(1 : Int))) ∧ ((-(1 : Int)) ≤ ((2 : Int) ^ (40 : Nat)))) := by first | (simp; done) | (simp_all; done) | omega
theorem om202 {x0 : Int} (h0 : (((-(100 : Int)) ≤ x0) ∧ (x0 ≤ (100 : Int)))) : (((-((2 : Int) ^ (40 : Nat))) ≤ (-x0)) ∧ ((-x0) ≤ ((2 : Int) ^ (40 : Nat)))) := by lia
theorem om203 {x0 : Nat} : ((-(((x0 : Nat) : Int) + (1 : Int))) = ((-((x0 : Nat) : Int)) + (-(1 : Int)))) := Int.neg_add
theorem om204 {x0 : Nat} (h0 : (x0 ≤ (16 : Nat))) : (x0 < ((2 : Nat) ^ (60 : Nat))) := by omega
theorem om205 {x0 : Nat} (h0 : (x0 ≤ (16 : Nat))) : (x0 < (64 : Nat)) := by omega
theorem om206 {x0 : Nat} (h0 : (x0 ≤ (16 : Nat))) : (x0 < ((2 : Nat) ^ (20 : Nat))) := by grind
theorem om207 {x0 : Int} (h0 : ((0 : Int) = (max x0 (0 : Int)))) : (x0 ≤ (0 : Int)) := Int.max_eq_right_iff.mp (id (Eq.symm h0))
theorem om208 {x0 : Int} {x1 : Nat} (h0 : ((2 : Nat) ≤ x1)) (h1 : ((0 : Nat) = x1)) : (x0 ≤ (0 : Int)) := by grind
theorem om209 {x0 : Int} (h0 : (x0 ≤ (0 : Int))) (h1 : ((1 : Int) ≤ x0)) : False := by omega
theorem om210 {x0 : Nat} {x1 : Int} (h0 : (x1 ≤ (0 : Int))) : (¬ (((x0 : Nat) : Int) < x1)) := by grind
theorem om211 {x0 : Int} {x1 : Nat} (h0 : (x0 ≠ (1 : Int))) (h1 : ((0 : Nat) < x1)) (h2 : (((x1 : Nat) : Int) = (max x0 (0 : Int)))) : ((2 : Int) ≤ x0) := by lia
theorem om212 {x0 : Nat} {x1 : Int} (h0 : ((2 : Int) ≤ x1)) (h1 : (((x0 : Nat) : Int) ≤ (max x1 (0 : Int)))) : (((x0 : Nat) : Int) ≤ x1) := by grind
theorem om213 {x0 : Nat} (h0 : (x0 ≤ (16 : Nat))) : (x0 < (1152921504606846976 : Nat)) := by grind
theorem om214 {x0 : Nat} {x1 : Int} (h0 : (((x0 : Nat) : Int) ≤ x1)) : (((x0 : Nat) : Int) ≤ x1) := Int.le_def.mpr h0
theorem om215 {x0 : Int} (h0 : ((2 : Int) ≤ x0)) : ((1 : Int) ≤ x0) := Int.le_of_lt h0
theorem om216 {x0 : Nat} {x1 : Nat} (h0 : (x1 ≤ (16 : Nat))) (h1 : (x0 = x1)) : (x0 ≤ (16 : Nat)) := le_of_eq_of_le h1 h0
theorem om217 {x0 : Nat} {x1 : Nat} {x2 : Nat} (h0 : (x1 ≤ (16 : Nat))) (h1 : (x0 = (min x1 x2))) : (x0 ≤ (16 : Nat)) := by grind
theorem om218 {x0 : Nat} {x1 : Nat} (h0 : (x1 ≤ (16 : Nat))) : ((min x0 x1) < ((2 : Nat) ^ (20 : Nat))) := by omega
theorem om219 {x0 : Int} (h0 : ((2 : Int) ≤ x0)) : (¬ (x0 ≤ (0 : Int))) := by lia
theorem om220 {x0 : Nat} (h0 : ((2 : Nat) ≤ x0)) : ((1 : Nat) ≤ x0) := Nat.one_le_of_lt h0
theorem om221 {x0 : Int} {x1 : Nat} (h0 : (((x1 : Nat) : Int) ≤ x0)) : ((0 : Int) ≤ x0) := by lia
theorem om222 {x0 : Nat} {x1 : Nat} {x2 : Nat} (h0 : (((x1 : Nat) : Int) ≤ ((x0 : Nat) : Int))) (h1 : (x2 < x1)) : ((1 : Int) ≤ ((x0 : Nat) : Int)) := by omega
theorem om223 {x0 : Nat} {x1 : Nat} : ((x0 + (x1 + (1 : Nat))) = ((x0 + (1 : Nat)) + x1)) := Eq.symm (Nat.succ_add_eq_add_succ x0 x1)
theorem om224 {x0 : Nat} : (((((((x0 : Nat) : Int) - (0 : Int)) - (1 : Int)) / (1 : Int)) + (1 : Int)) = ((x0 : Nat) : Int)) := by first | (simp; done) | (simp_all; done) | omega
theorem om225 {x0 : Nat} (h0 : (¬ ((0 : Int) < ((x0 : Nat) : Int)))) : ((0 : Int) = ((x0 : Nat) : Int)) := by first | (simp; done) | (simp_all; done) | omega
theorem om226 {x0 : Int} (h0 : ((-((2 : Int) ^ (62 : Nat))) ≤ x0)) (h1 : (x0 < ((2 : Int) ^ (62 : Nat)))) : (((-((2 : Int) ^ (63 : Nat))) ≤ x0) ∧ (x0 < ((2 : Int) ^ (63 : Nat)))) := by lia
theorem om227 : (((0 : Int) - (1 : Int)) < ((2 : Int) ^ (62 : Nat))) := Rat.intCast_lt_intCast.mp rfl
theorem om228 : ((-((2 : Int) ^ (62 : Nat))) ≤ ((0 : Int) - (1 : Int))) := Int.le.intro_sub (Nat.succ 4611686018427387903 - Nat.succ 0) rfl
theorem om229 : ((-(1 : Int)) < ((2 : Int) ^ (62 : Nat))) := Rat.intCast_lt_intCast.mp rfl
theorem om230 : ((-((2 : Int) ^ (62 : Nat))) ≤ (-(1 : Int))) := Int.le.intro_sub (Nat.succ 4611686018427387903 - Nat.succ 0) rfl
theorem om231 : ((1 : Int) < ((2 : Int) ^ (62 : Nat))) := Rat.intCast_lt_intCast.mp rfl
theorem om232 : ((-((2 : Int) ^ (62 : Nat))) ≤ (1 : Int)) := Int.neg_ofNat_le_ofNat (2 ^ 62) 1
theorem om233 {x0 : Nat} (h0 : (x0 < ((2 : Nat) ^ (61 : Nat)))) : (((x0 : Nat) : Int) < ((2 : Int) ^ (62 : Nat))) := by omega
theorem om234 {x0 : Nat} : ((-((2 : Int) ^ (62 : Nat))) ≤ ((x0 : Nat) : Int)) := Int.neg_ofNat_le_natCast (2 ^ 62) x0
theorem om235 : ((0 : Int) < ((2 : Int) ^ (62 : Nat))) := Int.sign_eq_one_iff_pos.mp rfl
theorem om236 : ((-((2 : Int) ^ (62 : Nat))) ≤ (0 : Int)) := Int.neg_ofNat_le_ofNat (2 ^ 62) 0
theorem om237 {x0 : Nat} {x1 : Nat} (h0 : ((2 : Nat) ≤ x1)) (h1 : (x0 = x1)) : ((0 : Nat) < x0) := by omega
theorem om238 {x0 : Int} (h0 : ((1 : Int) ≤ x0)) : ((0 : Int) ≤ x0) := Int.le_of_lt h0
theorem om239 {x0 : Nat} {x1 : Nat} {x2 : Nat} (h0 : (x2 ≤ (16 : Nat))) (h1 : (x1 = x2)) : ((min x0 x1) ≤ (16 : Nat)) := by grind
theorem om240 {x0 : Nat} (h0 : (x0 ≤ (16 : Nat))) : (x0 ≤ (64 : Nat)) := by omega
theorem om241 {x0 : Nat} {x1 : Nat} {x2 : Nat} (h0 : (x0 < x2)) (h1 : (x1 = x2)) : (x0 < x1) := Nat.lt_of_lt_of_eq h0 (id (Eq.symm h1))
theorem om242 {x0 : Nat} {x1 : Nat} {x2 : Nat} (h0 : (x1 ≤ (16 : Nat))) (h1 : (x2 < x1)) (h2 : (x0 = x2)) : (((x0 : Nat) : Int) < ((2 : Int) ^ (63 : Nat))) := by grind
theorem om243 {x0 : Nat} {x1 : Nat} (h0 : (x1 ≤ (16 : Nat))) (h1 : (x0 < x1)) : (x0 < ((2 : Nat) ^ (20 : Nat))) := by omega
theorem om244 {x0 : Nat} {x1 : Nat} {x2 : Nat} (h0 : (x1 ≤ (64 : Nat))) (h1 : (x0 ≤ (min x2 x1))) : (x0 < ((2 : Nat) ^ (20 : Nat))) := by grind
theorem om245 {x0 : Nat} (h0 : (x0 ≤ (64 : Nat))) : (x0 < ((2 : Nat) ^ (20 : Nat))) := by lia
theorem om246 {x0 : Nat} {x1 : Nat} (h0 : (x1 ≤ (64 : Nat))) : ((min x0 x1) ≤ (64 : Nat)) := by grind
theorem om247 {x0 : Nat} {x1 : Nat} (h0 : (x1 ≤ (16 : Nat))) (h1 : (x0 = x1)) : (x0 ≤ (64 : Nat)) := by grind
theorem om248 {x0 : Nat} {x1 : Nat} (h0 : (x1 ≤ (16 : Nat))) (h1 : (x0 ≤ x1)) : (x0 < ((2 : Nat) ^ (60 : Nat))) := by lia
theorem om249 {x0 : Nat} {x1 : Nat} {x2 : Nat} (h0 : (x1 ≤ (16 : Nat))) (h1 : (x2 = x1)) (h2 : (x0 < x2)) : (x0 < ((2 : Nat) ^ (20 : Nat))) := by grind
theorem om250 {x0 : Int} (h0 : (x0 < (1 : Int))) : (x0 ≤ (0 : Int)) := Int.le_iff_lt_add_one.mpr h0
theorem om251 {x0 : Int} (h0 : (x0 < (1 : Int))) (h1 : ((1 : Int) ≤ x0)) : False := by lia
theorem om252 {x0 : Int} (h0 : (¬ (x0 < (1 : Int)))) : ((1 : Int) ≤ x0) := Int.not_lt.mp h0
theorem om253 {x0 : Int} (h0 : ((0 : Int) < x0)) : ((0 : Int) ≤ x0) := Int.le_of_lt h0
theorem om254 {x0 : Int} (h0 : (¬ (x0 < (1 : Int)))) : (¬ (x0 ≤ (0 : Int))) := by omega
theorem om255 {x0 : Nat} {x1 : Nat} {x2 : Nat} (h0 : (x1 < (x2 - x0))) : ((x0 + x1) < x2) := Nat.add_lt_of_lt_sub' h0
theorem om256 {x0 : Nat} {x1 : Nat} : (x0 ≤ (x1 + (x0 - x1))) := by omega
theorem om257 {x0 : Nat} {x1 : Nat} (h0 : (x0 ≤ (64 : Nat))) : (x0 ≤ ((16777216 : Nat) + x1)) := by lia
theorem om258 {x0 : Nat} : ((((x0 : Nat) : Int) / (2 : Int)) = (((x0 / (2 : Nat)) : Nat) : Int)) := Eq.symm (Nat.ToInt.div_congr rfl rfl)
theorem om259 : ((0 : Int) ≤ (2 : Int)) := Int.zero_le_ofNat 2
theorem om260 {x0 : Nat} (h0 : (x0 < ((2 : Nat) ^ (60 : Nat)))) : ((x0 / (2 : Nat)) < ((2 : Nat) ^ (61 : Nat))) := by lia
theorem om261 {x0 : Nat} (h0 : ((0 : Int) < ((x0 : Nat) : Int))) : ((((x0 : Nat) : Int) - (1 : Int)) = (((x0 - (1 : Nat)) : Nat) : Int)) := by grind
theorem om262 {x0 : Nat} {x1 : Nat} {x2 : Nat} (h0 : (x1 = x2)) (h1 : (x0 ≤ (x2 / (2 : Nat)))) (h2 : ((((x0 : Nat) : Int) - (1 : Int)) = (((x0 - (1 : Nat)) : Nat) : Int))) : ((x0 - (1 : Nat)) < x1) := by omega
theorem om263 {x0 : Nat} {x1 : Nat} (h0 : (x0 ≤ (x1 / (2 : Nat)))) : ((x0 - (1 : Nat)) ≤ (x1 / (2 : Nat))) := by lia
theorem om264 {x0 : Nat} (h0 : ((((x0 : Nat) : Int) - (1 : Int)) = (((x0 - (1 : Nat)) : Nat) : Int))) : ((x0 - (1 : Nat)) < x0) := by omega
theorem om265 {x0 : Nat} (h0 : ((((x0 : Nat) : Int) - (1 : Int)) = (((x0 - (1 : Nat)) : Nat) : Int))) : (x0 = ((x0 - (1 : Nat)) + (1 : Nat))) := by lia
theorem om266 {x0 : Nat} (h0 : (((x0 : Nat) : Int) ≤ (0 : Int))) : (x0 = (0 : Nat)) := Int.natCast_nonpos_iff.mp h0
theorem om267 {x0 : Nat} {x1 : Nat} (h0 : (x1 ≤ (16 : Nat))) (h1 : (x0 = x1)) : (x0 < ((2 : Nat) ^ (20 : Nat))) := by omega
theorem om268 {x0 : Nat} {x1 : Nat} (h0 : (x1 = x0)) (h1 : (x1 ≤ (16 : Nat))) : (x0 ≤ (64 : Nat)) := by grind
theorem om269 {x0 : Nat} {x1 : Nat} (h0 : ((x0 + x1) ≤ (200 : Nat))) : ((x0 + x1) ≤ (16777216 : Nat)) := by lia
theorem om270 {x0 : Nat} (h0 : (((x0 + (1 : Nat)) + (1 : Nat)) < (2 : Nat))) : False := by grind
theorem om271 {x0 : Nat} (h0 : (x0 ≤ (63 : Nat))) : (x0 ≤ (199 : Nat)) := by lia
theorem om272 {x0 : Int} (h0 : (x0 < (7 : Int))) (h1 : ((0 : Int) ≤ x0)) : (((-(2 : Int)) ≤ (x0 - (2 : Int))) ∧ ((x0 - (2 : Int)) ≤ (4 : Int))) := by lia
theorem om273 {x0 : Nat} (h0 : (x0 ≤ (63 : Nat))) : (x0 < ((2 : Nat) ^ (20 : Nat))) := by omega
theorem om274 {x0 : Nat} (h0 : (x0 ≤ (63 : Nat))) : (x0 ≤ (198 : Nat)) := by lia
theorem om275 {x0 : Nat} (h0 : (x0 ≤ (63 : Nat))) : (((x0 - (1 : Nat)) + (3 : Nat)) < (1048576 : Nat)) := by omega
theorem om276 {x0 : Nat} : (((3 : Nat) ≤ (min (8 : Nat) ((x0 - (1 : Nat)) + ((((0 : Nat) + (1 : Nat)) + (1 : Nat)) + (1 : Nat))))) ∧ ((min (8 : Nat) ((x0 - (1 : Nat)) + ((((0 : Nat) + (1 : Nat)) + (1 : Nat)) + (1 : Nat)))) ≤ (8 : Nat))) := by omega
theorem om277 {x0 : Nat} (h0 : (((3 : Nat) ≤ x0) ∧ (x0 ≤ (8 : Nat)))) : (x0 ≤ (64 : Nat)) := by lia
theorem om278 {x0 : Nat} {x1 : Nat} (h0 : (((3 : Nat) ≤ x1) ∧ (x1 ≤ (8 : Nat)))) (h1 : (x0 = x1)) : (x0 ≤ (8 : Nat)) := by first | (simp; done) | (simp_all; done) | omega
theorem om279 {x0 : Nat} {x1 : Nat} (h0 : (((3 : Nat) ≤ x1) ∧ (x1 ≤ (8 : Nat)))) (h1 : (x0 = x1)) : ((3 : Nat) ≤ x0) := by first | (simp; done) | (simp_all; done) | omega
theorem om280 {x0 : Nat} (h0 : (x0 ≤ (8 : Nat))) : (x0 < ((2 : Nat) ^ (60 : Nat))) := by grind
theorem om281 {x0 : Nat} : ((((x0 : Nat) : Int) + (3 : Int)) ≠ (0 : Int)) := Ne.symm (not_eq_of_beq_eq_false rfl)
theorem om282 {x0 : Nat} : ((0 : Int) < (((x0 : Nat) : Int) + (3 : Int))) := Int.sign_eq_one_iff_pos.mp rfl
theorem om283 {x0 : Int} {x1 : Nat} {x2 : Nat} (h0 : (x1 ≤ (8 : Nat))) (h1 : (x0 < (((x2 : Nat) : Int) + (3 : Int)))) (h2 : ((0 : Int) ≤ x0)) (h3 : (x2 = x1)) : (((-(100 : Int)) ≤ (x0 - (1 : Int))) ∧ ((x0 - (1 : Int)) ≤ (100 : Int))) := by lia
theorem om284 {x0 : Nat} (h0 : (x0 ≤ (8 : Nat))) : (x0 ≤ (16 : Nat)) := by lia
theorem om285 {x0 : Nat} (h0 : ((3 : Nat) ≤ x0)) : ((2 : Nat) ≤ x0) := Nat.le_of_add_left_le h0
theorem om286 {x0 : Nat} (h0 : (x0 < (2 : Nat))) : ((x0 + (1 : Nat)) ≤ (2 : Nat)) := Nat.succ_le_of_lt h0
theorem om287 {x0 : Nat} (h0 : (x0 < (2 : Nat))) : (((2 : Nat) - (x0 + (1 : Nat))) < ((2 : Nat) - x0)) := Nat.sub_succ_lt_self 2 x0 h0
theorem om288 {x0 : Nat} (h0 : (x0 ≤ (2 : Nat))) (h1 : (¬ (x0 < (2 : Nat)))) : (x0 = (2 : Nat)) := by lia
theorem om289 {x0 : Nat} {x1 : Nat} {x2 : Nat} (h0 : (x0 < x2)) (h1 : (x2 < x1)) : (x0 < x1) := Nat.lt_trans h0 h1
theorem om290 {x0 : Nat} {x1 : Nat} (h0 : (x1 ≤ x0)) : ((x0 - (x0 - x1)) = x1) := Nat.sub_sub_self h0
theorem om291 {x0 : Nat} {x1 : Nat} : ((x0 - x1) ≤ x0) := Nat.sub_le x0 x1
theorem om292 {x0 : Nat} {x1 : Nat} : (x0 ≤ (x0 + (x1 + (1 : Nat)))) := Nat.le_add_right x0 (x1 + 1)
theorem om293 {x0 : Nat} {x1 : Nat} {x2 : Nat} (h0 : (x0 < (x1 + (x2 + (1 : Nat))))) : (x0 < ((x1 + (1 : Nat)) + x2)) := by lia
theorem om294 {x0 : Nat} {x1 : Nat} {x2 : Nat} (h0 : (x0 ≤ ((x1 + (1 : Nat)) + x2))) : (x0 ≤ (x1 + (x2 + (1 : Nat)))) := by lia
theorem om295 {x0 : Nat} {x1 : Nat} (h0 : ((x0 + (1 : Nat)) ≤ x1)) : (x0 ≤ x1) := Nat.le_of_succ_le h0
theorem om296 {x0 : Nat} {x1 : Nat} (h0 : (x0 ≤ x1)) (h1 : (¬ (x1 = x0))) : ((x0 + (1 : Nat)) ≤ x1) := by lia
theorem om297 {x0 : Nat} {x1 : Nat} (h0 : (¬ ((x1 + (1 : Nat)) < x0))) : (x0 ≤ (x1 + (1 : Nat))) := Nat.le_of_not_lt h0
theorem om298 {x0 : Nat} {x1 : Nat} {x2 : Nat} (h0 : (x2 ≤ x1)) (h1 : ((x0 + (1 : Nat)) < x2)) : ((x0 + (1 : Nat)) < x1) := Nat.lt_of_lt_of_le h1 h0
theorem om299 {x0 : Nat} {x1 : Nat} {x2 : Nat} (h0 : (¬ ((x1 + (1 : Nat)) < x2))) (h1 : (x0 < x2)) : (x0 < (x1 + (1 : Nat))) := by omega
theorem om300 {x0 : Nat} : (x0 < (x0 + (1 : Nat))) := Nat.lt_add_one x0
theorem om301 {x0 : Nat} {x1 : Nat} {x2 : Nat} (h0 : (x2 ≤ x1)) (h1 : ((x0 + (1 : Nat)) < x2)) : (x0 < x1) := by omega
theorem om302 {x0 : Nat} {x1 : Nat} (h0 : ((x0 + (1 : Nat)) < x1)) : (x0 < x1) := Nat.lt_of_succ_lt h0
theorem om303 {x0 : Nat} {x1 : Nat} (h0 : (x0 < (x1 + (1 : Nat)))) (h1 : (¬ (x0 = x1))) : (x0 < x1) := by omega
theorem om304 {x0 : Nat} {x1 : Nat} {x2 : Nat} (h0 : (x0 ≤ x2)) (h1 : (x2 ≤ x1)) : (x0 ≤ x1) := Nat.le_trans h0 h1
theorem om305 {x0 : Nat} {x1 : Nat} {x2 : Nat} (h0 : (x2 ≤ x1)) (h1 : (x0 < x2)) : (x0 < x1) := Nat.lt_of_lt_of_le h1 h0
theorem om306 {x0 : Nat} {x1 : Nat} {x2 : Nat} (h0 : (x2 ≤ x1)) : (¬ ((x0 ≤ x1) ∧ (x1 < x2))) := by first | (simp; done) | (simp_all; done) | omega
theorem om307 {x0 : Nat} {x1 : Nat} {x2 : Nat} (h0 : (x2 < x0)) : (((((0 : Nat) + x0) - (1 : Nat)) - x1) < x0) := by grind
theorem om308 {x0 : Nat} {x1 : Nat} {x2 : Nat} (h0 : (x2 < x1)) (h1 : (x1 < x0)) : (((((0 : Nat) + x0) - (1 : Nat)) - x1) < ((((0 : Nat) + x0) - (1 : Nat)) - x2)) := by lia
theorem om309 {x0 : Nat} {x1 : Nat} {x2 : Nat} {x3 : Nat} (h0 : (x2 < x3)) (h1 : (x3 < (x0 - (x1 + (1 : Nat))))) : (¬ (((x0 - (x1 + (1 : Nat))) ≤ x2) ∧ (x2 < x0))) := by lia
theorem om310 {x0 : Nat} {x1 : Nat} {x2 : Nat} (h0 : (x2 < (x0 - (x1 + (1 : Nat))))) : (¬ (((x0 - (x1 + (1 : Nat))) ≤ x2) ∧ (x2 < x0))) := by lia
theorem om311 {x0 : Nat} {x1 : Nat} {x2 : Nat} (h0 : (¬ (x2 < (x0 - (x1 + (1 : Nat)))))) : ((x0 - (x1 + (1 : Nat))) ≤ x2) := Nat.le_of_not_lt h0
theorem om312 {x0 : Nat} {x1 : Nat} {x2 : Nat} {x3 : Nat} (h0 : (¬ (x2 < (x0 - (x1 + (1 : Nat)))))) (h1 : (x3 < (x0 - (x1 + (1 : Nat))))) : (((((x0 - (x1 + (1 : Nat))) + x0) - (1 : Nat)) - x2) < x0) := by omega
theorem om313 {x0 : Nat} {x1 : Nat} {x2 : Nat} (h0 : (x2 < x0)) : ((x0 - (x1 + (1 : Nat))) ≤ ((((x0 - (x1 + (1 : Nat))) + x0) - (1 : Nat)) - x2)) := by omega
theorem om314 {x0 : Nat} {x1 : Nat} {x2 : Nat} {x3 : Nat} (h0 : (x3 < x0)) (h1 : (¬ (x2 < (x0 - (x1 + (1 : Nat)))))) : (((((x0 - (x1 + (1 : Nat))) + x0) - (1 : Nat)) - x2) < x0) := by omega
theorem om315 {x0 : Nat} {x1 : Nat} {x2 : Nat} {x3 : Nat} (h0 : (x3 < x2)) (h1 : (x2 < x0)) : (((((x0 - (x1 + (1 : Nat))) + x0) - (1 : Nat)) - x2) < ((((x0 - (x1 + (1 : Nat))) + x0) - (1 : Nat)) - x3)) := by omega
theorem om316 {x0 : Nat} {x1 : Nat} (h0 : (¬ (x1 < (x0 - (1 : Nat))))) : ((x0 - ((0 : Nat) + (1 : Nat))) ≤ x1) := Nat.le_of_not_lt h0
theorem om317 {x0 : Nat} {x1 : Nat} {x2 : Nat} (h0 : (x0 < x2)) (h1 : (x2 < x1)) : (x0 < (x1 - ((0 : Nat) + (1 : Nat)))) := by grind
theorem om318 {x0 : Nat} {x1 : Nat} {x2 : Nat} (h0 : ((1 : Nat) ≤ x0)) (h1 : (((x0 + (1 : Nat)) - ((0 : Nat) + (1 : Nat))) ≤ x1)) (h2 : (x1 < x2)) (h3 : (x2 < (x0 + (1 : Nat)))) : False := by lia
theorem om319 {x0 : Nat} : (((0 : Nat) + (1 : Nat)) ≤ (x0 + (1 : Nat))) := Nat.le_add_left (0 + 1) x0
theorem om320 {x0 : Nat} {x1 : Nat} (h0 : (x0 < x1)) : (x0 < (x1 + (1 : Nat))) := Nat.lt_add_right 1 h0
theorem om321 {x0 : Nat} {x1 : Nat} {x2 : Nat} (h0 : (x2 < x1)) (h1 : (x0 < (x2 + (1 : Nat)))) : (x0 < x1) := Nat.lt_of_lt_of_le h1 h0
theorem om322 {x0 : Nat} {x1 : Nat} (h0 : (((x1 + (1 : Nat)) - ((0 : Nat) + (1 : Nat))) ≤ x0)) (h1 : (x0 < (x1 + (1 : Nat)))) : (x0 = x1) := Nat.eq_of_le_of_lt_succ h0 h1
theorem om323 {x0 : Nat} {x1 : Nat} (h0 : (x0 < ((x1 + (1 : Nat)) - ((0 : Nat) + (1 : Nat))))) : (x0 < x1) := Nat.lt_of_succ_le h0
theorem om324 {x0 : Nat} {x1 : Nat} (h0 : ((x1 + (1 : Nat)) ≤ x0)) : ((x0 - (1 : Nat)) < x0) := Nat.sub_one_lt_of_lt h0
theorem om325 {x0 : Nat} {x1 : Nat} : ((x0 - (x1 + (1 : Nat))) ≤ (x0 - (1 : Nat))) := by omega
theorem om326 {x0 : Nat} {x1 : Nat} (h0 : (x1 < x0)) : ((x0 - (1 : Nat)) < x0) := Nat.sub_one_lt_of_lt h0
theorem om327 {x0 : Nat} {x1 : Nat} (h0 : (x0 < x1)) (h1 : (¬ (x0 = (x1 - (1 : Nat))))) : (x0 < (x1 - (1 : Nat))) := by lia
theorem om328 {x0 : Nat} {x1 : Nat} {x2 : Nat} (h0 : ((x0 + (x2 + (1 : Nat))) = x1)) : (x0 < x1) := by grind
theorem om329 {x0 : Nat} {x1 : Nat} (h0 : ((x1 + (1 : Nat)) ≤ x0)) : ((1 : Nat) ≤ x0) := Nat.one_le_of_lt h0
theorem om330 {x0 : Nat} {x1 : Nat} {x2 : Nat} (h0 : ((x0 + (x1 + (1 : Nat))) = x2)) : (((x0 + (1 : Nat)) + x1) = x2) := by lia
theorem om331 {x0 : Nat} {x1 : Nat} : (¬ (((x0 - (x1 + (1 : Nat))) ≤ x0) ∧ (x0 < x0))) := by grind
theorem om332 {x0 : Nat} (h0 : (¬ (x0 > (0 : Nat)))) : (x0 = (0 : Nat)) := Nat.eq_zero_of_not_pos h0
theorem om333 {x0 : Nat} (h0 : (((0 : Nat) + (1 : Nat)) ≤ x0)) : ((1 : Nat) ≤ x0) := Nat.one_le_of_lt h0
theorem om334 {x0 : Nat} {x1 : Nat} (h0 : ((x0 + (1 : Nat)) ≤ x1)) : (((x0 + (1 : Nat)) + (1 : Nat)) ≤ (x1 + (1 : Nat))) := Nat.add_le_add_right h0 1
theorem om335 {x0 : Nat} {x1 : Nat} {x2 : Nat} (h0 : ((x0 + (x2 + (1 : Nat))) = x1)) : ((x0 + (1 : Nat)) ≤ x1) := by lia
theorem om336 {x0 : Nat} : (x0 ≤ (x0 + (1 : Nat))) := Nat.le_add_right x0 1
theorem om337 {x0 : Nat} {x1 : Nat} : (((x0 + (1 : Nat)) - ((x1 + (1 : Nat)) + (1 : Nat))) = (x0 - (x1 + (1 : Nat)))) := Nat.add_sub_add_right x0 1 (x1 + 1)
theorem om338 {x0 : Nat} {x1 : Nat} {x2 : Nat} (h0 : (x0 < ((x1 + (1 : Nat)) - ((x2 + (1 : Nat)) + (1 : Nat))))) : (x0 < (x1 - (x2 + (1 : Nat)))) := by first | (simp; done) | (simp_all; done) | omega
theorem om339 {x0 : Nat} {x1 : Nat} {x2 : Nat} (h0 : (((x0 + (1 : Nat)) - ((x1 + (1 : Nat)) + (1 : Nat))) ≤ x2)) : ((x0 - (x1 + (1 : Nat))) ≤ x2) := by first | (simp; done) | (simp_all; done) | omega
theorem om340 {x0 : Nat} {x1 : Nat} {x2 : Nat} (h0 : (x0 < x2)) (h1 : (x2 = x1)) : (x0 < x1) := Nat.lt_of_lt_of_eq h0 h1
theorem om341 {x0 : Nat} {x1 : Nat} {x2 : Nat} (h0 : (x0 < x2)) (h1 : (x2 = x1)) (h2 : (¬ (x0 = (x1 - (1 : Nat))))) : (x0 < (x1 - (1 : Nat))) := by omega
theorem om342 {x0 : Nat} {x1 : Nat} (h0 : (x0 = x1)) (h1 : (x0 < x1)) : False := by first | (simp; done) | (simp_all; done) | omega
theorem om343 {x0 : Nat} {x1 : Nat} (h0 : (x0 = x1)) (h1 : (x1 < x0)) : False := by omega
theorem om344 {x0 : Nat} {x1 : Nat} (h0 : (x0 < x1)) (h1 : (x1 < x0)) : False := by lia
theorem om345 {x0 : Nat} (h0 : (x0 < x0)) : False := by first | (simp; done) | (simp_all; done) | omega
theorem om346 {x0 : Nat} {x1 : Nat} {x2 : Nat} (h0 : (x0 = x1)) (h1 : (x2 = x0)) (h2 : (x2 < x1)) : False := by first | (simp; done) | (simp_all; done) | omega
theorem om347 {x0 : Nat} {x1 : Nat} {x2 : Nat} (h0 : (x2 = x1)) (h1 : (x0 < (x1 + (1 : Nat)))) (h2 : (x0 ≠ x2)) : (x0 < x1) := by lia
theorem om348 {x0 : Nat} {x1 : Nat} (h0 : (x1 < x0)) : (((x0 - (1 : Nat)) - ((x0 - (1 : Nat)) - x1)) = x1) := by omega
theorem om349 {x0 : Nat} {x1 : Nat} {x2 : Nat} (h0 : (x1 < x0)) (h1 : (x2 < x1)) : (((x0 - (1 : Nat)) - x1) < ((x0 - (1 : Nat)) - x2)) := by grind
theorem om350 {x0 : Nat} {x1 : Nat} (h0 : (x0 ≤ (x1 + (1 : Nat)))) (h1 : (¬ (x0 ≤ x1))) : (x0 = (x1 + (1 : Nat))) := by lia
theorem om351 {x0 : Nat} (h0 : ((1 : Nat) ≤ x0)) : ((1 : Nat) = (min (1 : Nat) x0)) := Eq.symm (Nat.min_eq_left h0)
theorem om352 {x0 : Nat} {x1 : Nat} (h0 : (x0 < x1)) : (x0 ≤ (x1 - (1 : Nat))) := Nat.le_sub_one_of_lt h0
theorem om353 {x0 : Nat} {x1 : Nat} {x2 : Nat} {x3 : Nat} (h0 : (x2 < x3)) (h1 : (x2 = x0)) (h2 : (x3 = x1)) : (x0 < x1) := by first | (simp; done) | (simp_all; done) | omega
theorem om354 {x0 : Nat} {x1 : Nat} {x2 : Nat} {x3 : Int} {x4 : Int} (h0 : (x2 < x1)) (h1 : ((x0 = x2) ∧ (x3 = x4))) : (x0 < x1) := by first | (simp; done) | (simp_all; done) | omega
theorem om355 {x0 : Int} {x1 : Int} (h0 : (x0 ≠ x1)) (h1 : (¬ (x1 < x0))) : (x0 < x1) := by omega
theorem om356 {x0 : Nat} {x1 : Nat} (h0 : (x0 ≤ x1)) : (x0 = (min x0 x1)) := Eq.symm (Nat.min_eq_left h0)
theorem om357 {x0 : Nat} {x1 : Nat} (h0 : (x0 ≤ x1)) : (x0 < (x1 + (1 : Nat))) := Nat.lt_succ_of_le h0
theorem om358 {x0 : Nat} {x1 : Nat} (h0 : (x0 < x1)) : (x0 < x1) := Nat.lt_of_succ_le h0
theorem om359 {x0 : Nat} {x1 : Nat} {x2 : Nat} (h0 : (x0 < x1)) : (x0 < (x1 + x2)) := Nat.lt_add_right x2 h0
theorem om360 {x0 : Nat} {x1 : Nat} : (((x0 + x1) + (1 : Nat)) = (x0 + (x1 + (1 : Nat)))) := Nat.add_assoc x0 x1 1
theorem om361 {x0 : Nat} {x1 : Nat} : (((x0 + x1) + (1 : Nat)) = ((x0 + (1 : Nat)) + x1)) := Nat.add_right_comm x0 x1 1
theorem om362 {x0 : Int} {x1 : Int} (h0 : (¬ (x0 < x1))) (h1 : (¬ (x1 < x0))) : (x0 = x1) := by lia
theorem om363 {x0 : Nat} : ((((0 : Nat) : Nat) : Int) < (((x0 + (1 : Nat)) : Nat) : Int)) := Int.compare_eq_gt.mp rfl
theorem om364 {x0 : Nat} : (¬ ((((x0 + (1 : Nat)) : Nat) : Int) < (((0 : Nat) : Nat) : Int))) := of_decide_eq_false rfl
theorem om365 {x0 : Nat} {x1 : Nat} : ((((x0 : Nat) : Int) < ((x1 : Nat) : Int)) ↔ ((((x0 + (1 : Nat)) : Nat) : Int) < (((x1 + (1 : Nat)) : Nat) : Int))) := by first | (simp; done) | (simp_all; done) | omega
theorem om366 {x0 : Int} (h0 : (x0 < (0 : Int))) : (x0 ≤ (0 : Int)) := Int.le_of_lt h0
theorem om367 {x0 : Int} (h0 : (x0 ≠ (0 : Int))) (h1 : (¬ (x0 < (0 : Int)))) : ((0 : Int) < x0) := by omega
theorem om368 {x0 : Int} (h0 : ((0 : Int) < x0)) : ((0 : Nat) < (Int.toNat x0)) := Int.pos_iff_toNat_pos.mp h0
theorem om369 {x0 : Nat} {x1 : Nat} (h0 : (x0 ≤ x1)) : ((min x0 x1) = x0) := Nat.min_eq_left h0
theorem om370 {x0 : Nat} {x1 : Nat} {x2 : Nat} (h0 : (x0 < (min x2 x1))) : (x0 < x1) := by omega
theorem om371 {x0 : Nat} {x1 : Nat} (h0 : (x0 < x1)) : (x0 ≤ x1) := Nat.le_of_succ_le h0
theorem om372 {x0 : Nat} {x1 : Nat} {x2 : Nat} (h0 : (x2 < x1)) (h1 : (x0 < x2)) : (x0 < x1) := Nat.lt_trans h1 h0
theorem om373 {x0 : Nat} {x1 : Nat} : ((((x0 : Nat) : Int) + ((x1 : Nat) : Int)) = (((x1 + x0) : Nat) : Int)) := by grind
theorem om374 {x0 : Int} {x1 : Int} (h0 : (x0 < x1)) : (¬ (x0 = x1)) := Int.ne_of_lt h0
theorem om375 {x0 : Nat} {x1 : Nat} (h0 : (x0 < x1)) : (((x0 : Nat) : Int) < ((x1 : Nat) : Int)) := Int.ofNat_lt.mpr h0
theorem om376 {x0 : Nat} {x1 : Nat} {x2 : Nat} (h0 : (x2 ≤ x1)) (h1 : (x0 ≤ (x2 + (x1 - x2)))) : (x0 ≤ x1) := by first | (simp; done) | (simp_all; done) | omega
theorem om377 {x0 : Nat} {x1 : Nat} (h0 : (x0 < x1)) : (((x0 + (1 : Nat)) + (x1 - (x0 + (1 : Nat)))) = x1) := Nat.add_sub_of_le h0
theorem om378 {x0 : Nat} (h0 : (¬ (x0 > (0 : Nat)))) : ((0 : Nat) = x0) := Eq.symm (Nat.eq_zero_of_not_pos h0)
theorem om379 {x0 : Nat} {x1 : Nat} (h0 : ((1 : Nat) ≤ x1)) (h1 : (x0 < (1 : Nat))) : (x0 < x1) := Nat.lt_of_lt_of_le h1 h0
theorem om380 {x0 : Nat} {x1 : Nat} (h0 : (x0 < x1)) (h1 : (x1 < (1 : Nat))) : False := by first | (simp; done) | (simp_all; done) | omega
theorem om381 {x0 : Nat} {x1 : Nat} (h0 : (x0 ≤ x1)) (h1 : (¬ (x0 = x1))) : (x0 < x1) := Nat.lt_of_le_of_ne h0 h1
theorem om382 {x0 : Nat} {x1 : Nat} {x2 : Nat} (h0 : (x0 ≤ x2)) (h1 : (x2 < x1)) : (x0 < x1) := Nat.lt_of_le_of_lt h0 h1
theorem om383 {x0 : Nat} (h0 : (x0 > (1 : Nat))) : ((x0 - (1 : Nat)) < x0) := Nat.sub_one_lt_of_lt h0
theorem om384 {x0 : Nat} {x1 : Nat} {x2 : Nat} (h0 : (x2 < x1)) : (((((0 : Nat) + x0) - (1 : Nat)) - x1) ≤ ((((0 : Nat) + x0) - (1 : Nat)) - x2)) := by omega
theorem om385 {x0 : Nat} {x1 : Nat} {x2 : Nat} (h0 : (x0 < x2)) : (((((0 : Nat) + x0) - (1 : Nat)) - x1) < x2) := by omega
theorem om386 {x0 : Nat} : (¬ (((0 : Nat) ≤ x0) ∧ (x0 < x0))) := by omega
theorem om387 {x0 : Nat} {x1 : Nat} : (((((0 : Nat) + x0) - (1 : Nat)) - x1) ≤ (x0 - (1 : Nat))) := by first | (simp; done) | (simp_all; done) | omega
theorem om388 {x0 : Nat} (h0 : ((1 : Nat) ≤ x0)) (h1 : (¬ (x0 > (1 : Nat)))) : (x0 = (1 : Nat)) := by lia
theorem om389 {x0 : Nat} (h0 : (x0 < (1 : Nat))) : (x0 = (0 : Nat)) := Nat.lt_one_iff.mp h0
theorem om390 {x0 : Nat} {x1 : Nat} {x2 : Nat} (h0 : ((x0 - x2) ≤ (0 : Nat))) (h1 : (x2 ≤ x1)) : (x0 ≤ x1) := by omega
theorem om391 {x0 : Nat} {x1 : Nat} {x2 : Nat} (h0 : (x2 ≥ x0)) (h1 : (x2 ≤ x1)) : (x0 ≤ x1) := Nat.le_trans h0 h1
theorem om392 {x0 : Nat} {x1 : Nat} {x2 : Nat} (h0 : ((x1 - x0) ≤ (x2 + (1 : Nat)))) : ((((x0 + x1) / (2 : Nat)) - x0) ≤ x2) := by omega
theorem om393 {x0 : Nat} {x1 : Nat} {x2 : Nat} (h0 : (x1 ≤ x2)) (h1 : (¬ (x0 ≥ x1))) : (((x0 + x1) / (2 : Nat)) ≤ x2) := by omega
theorem om394 {x0 : Nat} {x1 : Nat} (h0 : (¬ (x0 ≥ x1))) : (x0 ≤ ((x0 + x1) / (2 : Nat))) := by omega
theorem om395 {x0 : Nat} {x1 : Nat} {x2 : Nat} (h0 : (((x0 + x1) / (2 : Nat)) ≤ x2)) (h1 : (¬ (x2 = ((x0 + x1) / (2 : Nat))))) : (((x0 + x1) / (2 : Nat)) < x2) := Nat.lt_of_le_of_ne h0 fun a => h1 (id (Eq.symm a))
theorem om396 {x0 : Nat} {x1 : Nat} {x2 : Nat} (h0 : ((x0 - x1) ≤ (x2 + (1 : Nat)))) : ((x0 - (((x1 + x0) / (2 : Nat)) + (1 : Nat))) ≤ x2) := by omega
theorem om397 {x0 : Nat} {x1 : Nat} (h0 : (¬ (x0 ≥ x1))) : ((((x0 + x1) / (2 : Nat)) + (1 : Nat)) ≤ x1) := by lia
theorem om398 {x0 : Nat} {x1 : Nat} {x2 : Nat} (h0 : (x1 ≤ x2)) (h1 : (¬ (x0 ≥ x1))) : (((x0 + x1) / (2 : Nat)) < x2) := by lia
theorem om399 {x0 : Nat} {x1 : Nat} {x2 : Nat} (h0 : (x0 < (((x1 + x2) / (2 : Nat)) + (1 : Nat)))) (h1 : (¬ (x0 = ((x1 + x2) / (2 : Nat))))) : (x0 < ((x1 + x2) / (2 : Nat))) := by lia
theorem om400 {x0 : Nat} {x1 : Nat} (h0 : ((x0 + (0 : Nat)) = x1)) : (x0 = x1) := Nat.add_right_cancel h0
theorem om401 {x0 : Nat} {x1 : Nat} (h0 : (x0 ≤ x1)) (h1 : (x1 < x0)) : False := by omega
theorem om402 {x0 : Nat} : ((x0 - (0 : Nat)) ≤ x0) := Nat.sub_le x0 0
theorem om403 {x0 : Nat} {x1 : Nat} {x2 : Nat} (h0 : (x1 < x0)) : (¬ ((x0 < x1) ∧ (x1 ≤ x2))) := by grind
theorem om404 {x0 : Nat} {x1 : Nat} (h0 : (x0 < x1)) : (¬ (x0 = x1)) := Nat.ne_of_lt h0
theorem om405 {x0 : Nat} {x1 : Nat} (h0 : (x1 < x0)) : (¬ (x0 = x1)) := Nat.ne_of_lt' h0
theorem om406 {x0 : Nat} {x1 : Nat} {x2 : Nat} {x3 : Nat} (h0 : (x2 ≤ x1)) (h1 : (x0 < x3)) (h2 : (x3 = x2)) : (x0 < x1) := by lia
theorem om407 {x0 : Nat} {x1 : Nat} (h0 : (x0 < (x1 + (1 : Nat)))) : (x0 ≤ x1) := Nat.le_of_lt_succ h0
theorem om408 {x0 : Nat} {x1 : Nat} (h0 : (¬ (x1 < x0))) (h1 : (¬ (x1 = x0))) : (x0 < x1) := by omega
theorem om409 {x0 : Nat} {x1 : Nat} {x2 : Nat} (h0 : (x2 < x0)) (h1 : (x0 < (x1 + (1 : Nat)))) : ((x0 - (1 : Nat)) < x1) := by omega
theorem om410 {x0 : Nat} {x1 : Nat} {x2 : Nat} (h0 : (¬ (x1 < x2))) (h1 : (¬ (x1 = x2))) (h2 : (x0 < x2)) : (x0 < (x1 - (1 : Nat))) := by grind
theorem om411 {x0 : Nat} {x1 : Nat} {x2 : Nat} (h0 : (x2 < x1)) (h1 : (x2 = x0)) : (x0 ≤ (x1 - (1 : Nat))) := by omega
theorem om412 {x0 : Nat} {x1 : Nat} {x2 : Nat} (h0 : (x0 < x2)) (h1 : (x2 < (x1 + (1 : Nat)))) : (x0 ≤ x1) := by grind
theorem om413 {x0 : Nat} {x1 : Nat} {x2 : Nat} (h0 : (x0 < x1)) (h1 : (¬ (x0 < x2))) (h2 : (¬ (x0 = x2))) : ((x0 - (1 : Nat)) < (x1 - (1 : Nat))) := by lia
theorem om414 {x0 : Nat} {x1 : Nat} {x2 : Nat} (h0 : ((x2 + (1 : Nat)) ≤ x1)) : (¬ ((x0 < x1) ∧ (x1 ≤ x2))) := by lia
theorem om415 {x0 : Nat} {x1 : Nat} {x2 : Nat} (h0 : (x1 ≤ x2)) (h1 : ((x2 + (1 : Nat)) ≤ x0)) : (¬ (x0 = x1)) := by lia
theorem om416 {x0 : Nat} {x1 : Nat} {x2 : Nat} (h0 : ((x2 < x0) ∧ (x0 ≤ x1))) : ((x0 - (1 : Nat)) < x1) := by grind
theorem om417 {x0 : Nat} {x1 : Nat} {x2 : Nat} (h0 : (x2 ≤ x1)) (h1 : (x0 < (x1 + (1 : Nat)))) (h2 : (¬ (x0 = x2))) (h3 : (¬ ((x2 < x0) ∧ (x0 ≤ x1)))) : (x0 < x1) := by lia
theorem om418 {x0 : Nat} (h0 : ((1 : Nat) ≤ x0)) : ((max x0 (1 : Nat)) = x0) := Nat.max_eq_left h0
theorem om419 {x0 : Nat} {x1 : Nat} (h0 : (x0 < x1)) : ((x0 + (x1 - x0)) = x1) := by grind
theorem om420 {x0 : Nat} {x1 : Nat} (h0 : (¬ (x0 < x1))) (h1 : (x0 ≤ x1)) : (x0 = x1) := by lia
theorem om421 {x0 : Nat} : ((((((2 : Nat) * x0) + (1 : Nat)) - (1 : Nat)) / (2 : Nat)) = x0) := by first | (simp; done) | (simp_all; done) | omega
theorem om422 {x0 : Nat} : ((((((2 : Nat) * x0) + (2 : Nat)) - (1 : Nat)) / (2 : Nat)) = x0) := by grind
theorem om423 {x0 : Nat} {x1 : Nat} (h0 : ((0 : Nat) < x0)) (h1 : (((x0 - (1 : Nat)) / (2 : Nat)) = x1)) : ((x0 = (((2 : Nat) * x1) + (1 : Nat))) ∨ (x0 = (((2 : Nat) * x1) + (2 : Nat)))) := by grind
theorem om424 {x0 : Nat} {x1 : Nat} (h0 : (x0 ≤ ((0 : Nat) + x1))) (h1 : (x1 < x0)) : False := by grind
theorem om425 {x0 : Nat} {x1 : Nat} (h0 : ((x0 = (((2 : Nat) * x1) + (1 : Nat))) ∨ (x0 = (((2 : Nat) * x1) + (2 : Nat))))) : (((x0 - (1 : Nat)) / (2 : Nat)) = x1) := by omega
theorem om426 {x0 : Nat} (h0 : ((0 : Nat) < x0)) : (¬ (((x0 - (1 : Nat)) / (2 : Nat)) = x0)) := by lia
theorem om427 {x0 : Nat} {x1 : Nat} (h0 : ((((2 : Nat) * x1) + (1 : Nat)) ≤ x0)) : ((0 : Nat) < x0) := Nat.zero_lt_of_lt h0
theorem om428 {x0 : Nat} {x1 : Nat} (h0 : ((0 : Nat) < x0)) (h1 : (x1 ≤ ((x0 - (1 : Nat)) / (2 : Nat)))) (h2 : (x0 = x1)) : False := by grind
theorem om429 {x0 : Nat} {x1 : Nat} {x2 : Nat} (h0 : (((x2 - (1 : Nat)) / (2 : Nat)) = x1)) (h1 : ((0 : Nat) < x0)) (h2 : (((x0 - (1 : Nat)) / (2 : Nat)) = x2)) : (¬ (x0 = x1)) := by omega
theorem om430 {x0 : Nat} {x1 : Nat} {x2 : Nat} (h0 : ((((2 : Nat) * x1) + (1 : Nat)) ≤ x2)) (h1 : (((x0 - (1 : Nat)) / (2 : Nat)) = x2)) : (((x0 - (1 : Nat)) / (2 : Nat)) ≠ x1) := by lia
theorem om431 {x0 : Nat} {x1 : Nat} {x2 : Nat} (h0 : (((x2 - (1 : Nat)) / (2 : Nat)) = x1)) (h1 : ((0 : Nat) < x0)) (h2 : (((x0 - (1 : Nat)) / (2 : Nat)) = x2)) : (x0 ≠ x1) := by omega
theorem om432 {x0 : Nat} {x1 : Nat} {x2 : Nat} {x3 : Nat} (h0 : (((x2 - (1 : Nat)) / (2 : Nat)) = x3)) (h1 : (((x1 - (1 : Nat)) / (2 : Nat)) = x2)) (h2 : (x0 ≤ x3)) : (x0 ≤ ((x1 - (1 : Nat)) / (2 : Nat))) := by lia
theorem om433 {x0 : Nat} {x1 : Nat} (h0 : ((0 : Nat) < x0)) (h1 : (x0 = x1)) : (¬ (((x0 - (1 : Nat)) / (2 : Nat)) = x1)) := by lia
theorem om434 {x0 : Nat} {x1 : Nat} {x2 : Nat} (h0 : ((0 : Nat) < x0)) (h1 : (x1 ≤ ((x0 - (1 : Nat)) / (2 : Nat)))) (h2 : (x0 = x2)) (h3 : (x2 = x1)) : False := by omega
theorem om435 {x0 : Nat} {x1 : Nat} (h0 : (x0 ≤ (0 : Nat))) (h1 : (x1 ≤ x0)) : (x0 = x1) := by first | (simp; done) | (simp_all; done) | omega
theorem om436 {x0 : Nat} {x1 : Nat} (h0 : (x1 < x0)) : (x0 ≠ x1) := Ne.symm (Nat.ne_of_lt h0)
theorem om437 {x0 : Nat} {x1 : Nat} (h0 : (x1 < x0)) : (((x0 - (1 : Nat)) / (2 : Nat)) < x0) := by omega
theorem om438 {x0 : Nat} (h0 : (((x0 - (1 : Nat)) / (2 : Nat)) < x0)) : (((((x0 - (1 : Nat)) / (2 : Nat)) - (1 : Nat)) / (2 : Nat)) ≠ x0) := by omega
theorem om439 {x0 : Nat} (h0 : (((x0 - (1 : Nat)) / (2 : Nat)) < x0)) : (((x0 - (1 : Nat)) / (2 : Nat)) ≠ x0) := Nat.ne_of_lt h0
theorem om440 {x0 : Nat} {x1 : Nat} (h0 : (x0 ≤ ((((x1 - (1 : Nat)) / (2 : Nat)) - (1 : Nat)) / (2 : Nat)))) : (x0 ≤ ((((x1 - (1 : Nat)) / (2 : Nat)) - (1 : Nat)) / (2 : Nat))) := by omega
theorem om441 {x0 : Nat} {x1 : Nat} (h0 : (x1 ≤ ((x0 - (1 : Nat)) / (2 : Nat)))) (h1 : (((x0 - (1 : Nat)) / (2 : Nat)) ≠ x1)) : ((0 : Nat) < ((x0 - (1 : Nat)) / (2 : Nat))) := by lia
theorem om442 {x0 : Nat} {x1 : Nat} (h0 : (((x1 - (1 : Nat)) / (2 : Nat)) < x1)) (h1 : (((x0 - (1 : Nat)) / (2 : Nat)) = ((x1 - (1 : Nat)) / (2 : Nat)))) : (((x0 - (1 : Nat)) / (2 : Nat)) ≠ x1) := by lia
theorem om443 {x0 : Nat} {x1 : Nat} {x2 : Nat} (h0 : (x0 ≤ ((x2 - (1 : Nat)) / (2 : Nat)))) (h1 : (((x1 - (1 : Nat)) / (2 : Nat)) = ((x2 - (1 : Nat)) / (2 : Nat)))) : (x0 ≤ ((x1 - (1 : Nat)) / (2 : Nat))) := le_of_le_of_eq h0 (id (Eq.symm h1))
theorem om444 {x0 : Nat} {x1 : Nat} (h0 : (x0 ≤ ((x1 - (1 : Nat)) / (2 : Nat)))) (h1 : (((x1 - (1 : Nat)) / (2 : Nat)) ≠ x0)) : ((x0 + (1 : Nat)) ≤ ((x1 - (1 : Nat)) / (2 : Nat))) := by lia
theorem om445 {x0 : Nat} {x1 : Nat} : (x0 ≤ (x0 + x1)) := Nat.le_add_right x0 x1
theorem om446 {x0 : Nat} {x1 : Nat} {x2 : Nat} (h0 : (x0 ≤ (((2 : Nat) * x1) + (1 : Nat)))) (h1 : ((0 : Nat) < x2)) (h2 : (x2 < x0)) (h3 : (((x2 - (1 : Nat)) / (2 : Nat)) = x1)) : False := by omega
theorem om447 {x0 : Nat} {x1 : Nat} (h0 : ((x0 + (1 : Nat)) ≤ x1)) : (x0 < x1) := Nat.lt_of_succ_le h0
theorem om448 {x0 : Nat} {x1 : Nat} (h0 : ((0 : Nat) < x0)) (h1 : (x0 < x1)) (h2 : ((x1 / (2 : Nat)) ≤ ((x0 - (1 : Nat)) / (2 : Nat)))) : False := by omega
theorem om449 {x0 : Nat} : ((x0 / (2 : Nat)) ≤ x0) := Nat.div_le_self x0 2
theorem om450 {x0 : Nat} (h0 : (¬ (x0 = (0 : Nat)))) : (((x0 - (1 : Nat)) / (2 : Nat)) < x0) := by lia
theorem om451 {x0 : Nat} (h0 : (¬ (x0 = (0 : Nat)))) : ((0 : Nat) < x0) := Nat.zero_lt_of_ne_zero h0
theorem om452 {x0 : Nat} (h0 : (((0 : Nat) + (1 : Nat)) ≤ ((x0 - (1 : Nat)) / (2 : Nat)))) : (¬ (((x0 - (1 : Nat)) / (2 : Nat)) = (0 : Nat))) := Nat.ne_zero_of_lt h0
theorem om453 {x0 : Nat} (h0 : ((0 : Nat) < x0)) : (¬ (x0 = (0 : Nat))) := Nat.ne_zero_of_lt h0
theorem om454 {x0 : Nat} {x1 : Nat} : ((x0 < x1) ↔ (((x0 : Nat) : Int) < ((x1 : Nat) : Int))) := Iff.symm Int.ofNat_lt
theorem om455 {x0 : Nat} {x1 : Int} {x2 : Nat} {x3 : Int} (h0 : (x0 < ((2 : Nat) ^ (8 : Nat)))) (h1 : (x1 < x3)) : ((((x0 : Nat) : Int) + ((256 : Int) * x1)) < (((x2 : Nat) : Int) + ((256 : Int) * x3))) := by lia
theorem om456 {x0 : Nat} {x1 : Int} {x2 : Nat} {x3 : Int} (h0 : (x2 < ((2 : Nat) ^ (8 : Nat)))) (h1 : (x3 < x1)) : (¬ ((((x0 : Nat) : Int) + ((256 : Int) * x1)) < (((x2 : Nat) : Int) + ((256 : Int) * x3)))) := by lia
theorem om457 {x0 : Nat} {x1 : Int} {x2 : Nat} (h0 : (((x0 : Nat) : Int) < ((x2 : Nat) : Int))) : ((((x0 : Nat) : Int) + ((256 : Int) * x1)) < (((x2 : Nat) : Int) + ((256 : Int) * x1))) := Int.add_lt_add_right h0 (256 * x1)
theorem om458 {x0 : Nat} {x1 : Int} {x2 : Nat} (h0 : (¬ (((x0 : Nat) : Int) < ((x2 : Nat) : Int)))) : (¬ ((((x0 : Nat) : Int) + ((256 : Int) * x1)) < (((x2 : Nat) : Int) + ((256 : Int) * x1)))) := by first | (simp; done) | (simp_all; done) | omega
theorem om459 {x0 : Nat} {x1 : Nat} : (((x0 + x1) - x0) = x1) := Nat.add_sub_self_left x0 x1
theorem om460 {x0 : Nat} {x1 : Nat} {x2 : Nat} (h0 : (x2 = x0)) (h1 : (x1 < x0)) : (((x0 - (1 : Nat)) - x1) < x2) := by omega
theorem om461 {x0 : Nat} {x1 : Nat} {x2 : Nat} {x3 : Nat} (h0 : (x3 = x1)) : (((x0 + x1) + ((x1 - (1 : Nat)) - x2)) = (x3 + (x0 + ((x1 - (1 : Nat)) - x2)))) := by grind
theorem om462 {x0 : Nat} {x1 : Nat} {x2 : Nat} {x3 : Nat} (h0 : (x3 = x1)) : (((x0 + x1) + x2) = (x3 + (x0 + x2))) := by grind
theorem om463 {x0 : Nat} {x1 : Nat} : ((min x0 (x1 + x0)) = x0) := Nat.min_add_left_self
theorem om464 {x0 : Nat} (h0 : ((0 : Nat) < x0)) (h1 : (x0 = (0 : Nat))) : False := by first | (simp; done) | (simp_all; done) | omega
theorem om465 {x0 : Nat} {x1 : Nat} : (((x0 + x1) - x1) = x0) := Eq.symm (Nat.eq_sub_of_add_eq rfl)
theorem om466 {x0 : Nat} {x1 : Nat} (h0 : (x0 ≠ x1)) : ((x0 < x1) ∨ (x1 < x0)) := Nat.lt_or_gt_of_ne h0
theorem om467 {x0 : Int} {x1 : Int} {x2 : Int} (h0 : (x0 < x2)) (h1 : (x2 < x1)) : (x0 < x1) := Int.lt_trans h0 h1
theorem om468 {x0 : Nat} {x1 : Int} (h0 : (x1 < x1)) : (x0 < x0) := by first | (simp; done) | (simp_all; done) | omega
theorem om469 {x0 : Nat} {x1 : Nat} {x2 : Int} {x3 : Int} (h0 : (x2 < x3)) (h1 : (x3 < x2)) : (x0 < x1) := by grind
end Mine
namespace Mine
open PySem PySem.Calls PyProof.Rows PySem.W

theorem all0 {α : Type} {P : α → Prop} : ∀ x ∈ ([] : List α), P x := fun _ q => nomatch q
theorem allc {α : Type} {P : α → Prop} {a : α} {l : List α} (h : P a) (t : ∀ x ∈ l, P x) : ∀ x ∈ a :: l, P x := List.forall_mem_cons.2 ⟨h, t⟩
/-! ## heaps -/
/-- up to the slots of a frame -/
def ndOb (o : Obj) : Bool := match o.data with
  | .dict _ _ => false
  | _ => true
def Sim (o o' : Obj) : Prop := ∃ sl, o' = { o with slots := sl } ∧ (ndOb o = true → sl = o.slots)
theorem Sim.refl (o : Obj) : Sim o o := ⟨o.slots, rfl, fun _ => rfl⟩
theorem Sim.trans {o o' o'' : Obj} (x : Sim o o') (y : Sim o' o'') : Sim o o'' := by
  obtain ⟨sl, rfl, h1⟩ := x
  obtain ⟨sl', rfl, h2⟩ := y
  exact ⟨sl', rfl, fun h => (h2 h).trans (h1 h)⟩
/-- what is known of an object: a sequence (of any age), a record to the letter, a cell -/
inductive Kn where
  | sq (cls : String) (its : Array Value)
  | ex (o : Obj)
  | cell (v : Option Value)
  | fd (cls : String) (vs : Array Value)
def Kn.is : Kn → Obj → Prop
  | .sq c its, o => o.cls = .type c ∧ ∃ n, o.data = .seq its n
  | .ex o', o => o = o' ∧ ndOb o' = true
  | .cell v, o => o.data = .cell v
  | .fd c vs, o => o.cls = .type c ∧ o.data = .fields vs
abbrev Kn.list (its : List Value) : Kn := .sq "list" its.toArray
abbrev Kn.tup (its : List Value) : Kn := .sq "tuple" its.toArray
abbrev Kn.fl (cls : String) (vs : Array Value) : Kn := .ex { cls := .type cls, data := .fields vs }
abbrev Kn.liter (l : Addr) (i : Nat) : Kn := .fd "list_iterator" #[.ref l, .int i 0]
abbrev Kn.rng (a b c : Int) (t u v : Tok) : Kn := .fl "range" #[.int a t, .int b u, .int c v]
abbrev Kn.riter (x left step : Int) : Kn := .fl "range_iterator" #[rawInt x, rawInt left, rawInt step]
theorem Kn.is.sim {k : Kn} {o o' : Obj} (h : k.is o) (e : Sim o o') : k.is o' := by
  obtain ⟨sl, rfl, h1⟩ := e
  cases k with
  | sq c its => exact h
  | ex o₀ => obtain ⟨rfl, h2⟩ := h; rw [h1 h2]; exact ⟨rfl, h2⟩
  | cell v => exact h
  | fd c vs => exact h
def At (h : Heap) (a : Addr) (k : Kn) : Prop := ∃ o, h.get? a = some o ∧ k.is o
theorem At.lt {h : Heap} {a : Addr} {k : Kn} (e : At h a k) : a < h.objs.size := let ⟨_, e, _⟩ := e; Heap.lt_size e
theorem At.isList {h : Heap} {a : Addr} {its : Array Value} (e : At h a (.sq "list" its)) : h.IsList a its := e
theorem At.isTuple {h : Heap} {a : Addr} {its : Array Value} (e : At h a (.sq "tuple" its)) : h.IsTuple a its := e
theorem At.isTup {h : Heap} {a : Addr} {its : Array Value} (e : At h a (.sq "tuple" its)) : IsTup h a its := e
theorem At.get {h : Heap} {a : Addr} {o : Obj} (e : At h a (.ex o)) : h.get? a = some o := by obtain ⟨o', e, rfl, _⟩ := e; exact e
theorem At.of {h : Heap} {a : Addr} {o : Obj} (e : h.get? a = some o) (hn : ndOb o = true := by rfl) : At h a (.ex o) := ⟨o, e, rfl, hn⟩
theorem At.isIter {h : Heap} {a l : Addr} {i : Nat} (e : At h a (.liter l i)) : h.IsListIter a l i := let ⟨o, ho, hc, hd⟩ := e; ⟨o, ho, hc, hd⟩
theorem At.ofIter {h : Heap} {a l : Addr} {i : Nat} (e : h.IsListIter a l i) : At h a (.liter l i) := let ⟨o, ho, hc, hd⟩ := e; ⟨o, ho, hc, hd⟩
theorem At.isCell {h : Heap} {a : Addr} {v : Option Value} (e : At h a (.cell v)) : h.IsCell a v := e
/-- all of h but S stands in h', up to slots of frames -/
def Ext (S : List Addr) (h h' : Heap) : Prop := ∀ b o, b ∉ S → h.get? b = some o → ∃ o', h'.get? b = some o' ∧ Sim o o'
theorem Ext.refl (S : List Addr) (h : Heap) : Ext S h h := fun _ o _ e => ⟨o, e, .refl o⟩
theorem Ext.trans {S : List Addr} {h₁ h₂ h₃ : Heap} (x : Ext S h₁ h₂) (y : Ext S h₂ h₃) : Ext S h₁ h₃ := fun b o hb e =>
  let ⟨_, e₁, s₁⟩ := x b o hb e; let ⟨o₂, e₂, s₂⟩ := y b _ hb e₁; ⟨o₂, e₂, s₁.trans s₂⟩
theorem Ext.mono {S S' : List Addr} {h h' : Heap} (x : Ext S h h') (hs : ∀ a ∈ S, a ∈ S') : Ext S' h h' := fun b o hb e => x b o (fun q => hb (hs b q)) e
theorem Ext.at {S : List Addr} {h h' : Heap} (x : Ext S h h') {a : Addr} {k : Kn} (ha : a ∉ S) (e : At h a k) : At h' a k :=
  let ⟨_, e, q⟩ := e; let ⟨o', e', si⟩ := x a _ ha e; ⟨o', e', q.sim si⟩
theorem Ext.ns {S : List Addr} {h h' : Heap} (x : Ext S h h') {a : Addr} {m : Str → Option Value} (ha : a ∉ S) (e : h.Ns a m) : h'.Ns a m :=
  let ⟨o, es, ep, ho, hd, r⟩ := e; let ⟨o', e', si⟩ := x a o ha ho; ⟨o', es, ep, e', by obtain ⟨_, rfl, _⟩ := si; exact hd, r⟩
theorem Ext.alive {S : List Addr} {h h' : Heap} (x : Ext S h h') {a : Addr} (ha : a ∉ S) (e : ∃ o, h.get? a = some o) : ∃ o, h'.get? a = some o :=
  let ⟨o, e⟩ := e; let ⟨o', e', _⟩ := x a o ha e; ⟨o', e'⟩
theorem Ext.of_but {a : Addr} {h h' : Heap} (x : Heap.ExtBut a h h') : Ext [a] h h' := fun b o hb e => ⟨o, x b o (fun q => hb (by rw [q]; exact List.mem_singleton.mpr rfl)) e, .refl o⟩
theorem Ext.of_same {a : Addr} {h h' : Heap} (x : Heap.SameBut a h h') : Ext [a] h h' := Ext.of_but x.extBut
theorem Ext.of_keeps {S : List Addr} {h h' : Heap} (x : h.StaysIn h') : Ext S h h' := fun b o _ e => ⟨o, x b o e, .refl o⟩
theorem Ext.push (S : List Addr) (h : Heap) (o : Obj) : Ext S h (h.push o) := Ext.of_keeps fun _ _ e => Heap.get?_push_of_some o e
theorem Ext.of_S {S : List Addr} {h h' : Heap} (x : ∀ b o, b ∉ S → h.get? b = some o → h'.get? b = some o) : Ext S h h' := fun b o hb e => ⟨o, x b o hb e, .refl o⟩
/-- what h does not hold may change -/
theorem Ext.drop {S : List Addr} {h h' : Heap} {a : Addr} (x : Ext (a :: S) h h') (ha : h.get? a = none) : Ext S h h' := fun b o hb e =>
  x b o (fun q => by rcases List.mem_cons.mp q with rfl | q; · rw [ha] at e; cases e
                     · exact hb q) e

/-! ## room on the stack -/
structure Rm (A : Around) (k : Nat) : Prop where
  d : A.depth + k < recursionLimit
  u : A.units + 8 * k < cLine
  hh : A.handled = none
theorem Rm.deeper {A : Around} {k : Nat} (r : Rm A (k + 1)) (env : Env) : Rm (A.deeper env) k :=
  ⟨by have := r.d; show A.depth + 1 + k < _; exact om3 this, by have := r.u; show A.units + 3 + 8 * k < _; exact om2 this, r.hh⟩
theorem Rm.in1 {A : Around} {k : Nat} (r : Rm A (k + 1)) : Rm A.in1 k :=
  ⟨by have := r.d; show A.depth + k < _; exact om5 this, by have := r.u; show A.units + 1 + 8 * k < _; exact om4 this, r.hh⟩
theorem Rm.le {A : Around} {k j : Nat} (r : Rm A k) (h : j ≤ k) : Rm A j := ⟨by have := r.d; exact om7 h this, by have := r.u; exact om6 h this, r.hh⟩
theorem Rm.room {A : Around} {k : Nat} (r : Rm A k) : A.depth < recursionLimit := by have := r.d; exact om8 this
theorem Rm.units {A : Around} {k : Nat} (r : Rm A k) : A.units < cLine := by have := r.u; exact om9 this

/-! ## a frame at work -/
structure Cx where
  G : Heap
  L : Addr
  S : List Addr
  sE : Shared
/-- the frame may change a -/
structure Own (c : Cx) (a : Addr) : Prop where
  may : a ∈ c.S ∨ (c.sE.heap.get? a = none ∧ a ∉ c.S)
  off : c.G.get? a = none
/-- the frame, or one that it called, has made a -/
structure Fresh (c : Cx) (a : Addr) : Prop where
  may : c.sE.heap.get? a = none ∧ a ∉ c.S
  off : c.G.get? a = none
theorem Fresh.own {c : Cx} {a : Addr} (f : Fresh c a) : Own c a := ⟨.inr f.may, f.off⟩
structure Fx (c : Cx) (m : Str → Option Value) (ℓ : List (Addr × Kn)) (s : Shared) : Prop where
  sh : ∃ h tk, s = { c.sE with heap := h, toks := tk }
  kg : c.G.StaysIn s.heap
  ns : s.heap.Ns c.L m
  nd : (ℓ.map (·.1)).Nodup
  led : ∀ p ∈ ℓ, p.1 ≠ c.L ∧ At s.heap p.1 p.2
  ext : Ext (c.L :: c.S) c.sE.heap s.heap
  sal : ∀ a ∈ c.S, ∃ o, s.heap.get? a = some o
  gl : c.G.get? c.L = none
  el : c.sE.heap.get? c.L = none
/-- what a call leaves behind: only S is changed -/
structure Post (G : Heap) (S : List Addr) (s s' : Shared) : Prop where
  sh : ∃ h tk, s' = { s with heap := h, toks := tk }
  kg : G.StaysIn s'.heap
  ext : Ext S s.heap s'.heap
  sal : ∀ a ∈ S, ∃ o, s'.heap.get? a = some o

section
variable {c : Cx} {m : Str → Option Value} {ℓ : List (Addr × Kn)} {s : Shared}
theorem Fx.post (F : Fx c m ℓ s) : Post c.G c.S c.sE s := ⟨F.sh, F.kg, F.ext.drop F.el, F.sal⟩
theorem Fx.at (F : Fx c m ℓ s) {a : Addr} {k : Kn} (h : (a, k) ∈ ℓ) : At s.heap a k := (F.led _ h).2
theorem Fx.neL (F : Fx c m ℓ s) {a : Addr} {k : Kn} (h : (a, k) ∈ ℓ) : a ≠ c.L := (F.led _ h).1
/-- fewer entries -/
theorem Fx.sub (F : Fx c m ℓ s) {ℓ' : List (Addr × Kn)} (hs : ∀ p ∈ ℓ', p ∈ ℓ) (hn : (ℓ'.map (·.1)).Nodup) : Fx c m ℓ' s :=
  ⟨F.sh, F.kg, F.ns, hn, fun p hp => F.led p (hs p hp), F.ext, F.sal, F.gl, F.el⟩
theorem Fx.sublist (F : Fx c m ℓ s) {ℓ' : List (Addr × Kn)} (hs : ℓ'.Sublist ℓ) : Fx c m ℓ' s := F.sub (fun _ hp => hs.subset hp) (F.nd.sublist (hs.map _))
theorem Fx.perm (F : Fx c m ℓ s) {ℓ' : List (Addr × Kn)} (hs : ℓ'.Perm ℓ) : Fx c m ℓ' s := F.sub (fun _ hp => hs.subset hp) ((hs.map _).nodup_iff.mpr F.nd)
theorem Fx.swap {p q : Addr × Kn} (F : Fx c m (p :: q :: ℓ) s) : Fx c m (q :: p :: ℓ) s := F.perm (.swap ..)
theorem Fx.tail {p : Addr × Kn} (F : Fx c m (p :: ℓ) s) : Fx c m ℓ s := F.sublist (List.sublist_cons_self _ _)
theorem Fx.map (F : Fx c m ℓ s) {m' : Str → Option Value} (h : ∀ x, m x = m' x) : Fx c m' ℓ s := by
  have e : m = m' := funext h
  rw [← e]; exact F
theorem Fx.toks (F : Fx c m ℓ s) (k : Nat) : Fx c m ℓ { s with toks := k } :=
  let ⟨h, _, e⟩ := F.sh; ⟨⟨h, k, by rw [e]⟩, F.kg, F.ns, F.nd, F.led, F.ext, F.sal, F.gl, F.el⟩
theorem Fx.fresh_of (F : Fx c m ℓ s) {a : Addr} (ha : s.heap.get? a = none) : c.sE.heap.get? a = none := by
  cases q : c.sE.heap.get? a with
  | none => rfl
  | some o =>
    exfalso
    have key : ∀ o', s.heap.get? a = some o' → False := fun o' e => by rw [ha] at e; cases e
    by_cases hm : a ∈ c.L :: c.S
    · rcases List.mem_cons.mp hm with e | e
      · obtain ⟨o', _, _, ho', _⟩ := F.ns; rw [← e] at ho'; exact key _ ho'
      · obtain ⟨o', e'⟩ := F.sal _ e; exact key o' e'
    · obtain ⟨_, e, _⟩ := F.ext _ _ hm q; exact key _ e
theorem Fx.freshG_of (F : Fx c m ℓ s) {a : Addr} (ha : s.heap.get? a = none) : c.G.get? a = none := by
  cases q : c.G.get? a with
  | none => rfl
  | some o => have := F.kg _ _ q; rw [ha] at this; cases this
theorem Fx.new_of (F : Fx c m ℓ s) {a : Addr} (ha : s.heap.get? a = none) : Fresh c a :=
  ⟨⟨F.fresh_of ha, fun q => by obtain ⟨o, e⟩ := F.sal a q; rw [ha] at e; cases e⟩, F.freshG_of ha⟩
theorem get?_size (h : Heap) : h.get? h.objs.size = none := by
  cases q : h.get? h.objs.size with
  | none => rfl
  | some o => exact absurd (Heap.lt_size q) (Nat.lt_irrefl _)
theorem Fx.new (F : Fx c m ℓ s) : Fresh c s.heap.objs.size := F.new_of (get?_size _)
/-- a new heap that only turns the frame's own locals -/
theorem Fx.setL (F : Fx c m ℓ s) {m' : Str → Option Value} {h' : Heap} {tk : Nat} (hn : h'.Ns c.L m') (hs : Heap.SameBut c.L s.heap h') : Fx c m' ℓ { s with heap := h', toks := tk } := by
  obtain ⟨h, k, e⟩ := F.sh
  refine ⟨⟨h', tk, by rw [e]⟩, fun b o q => (hs.2 b fun r => ?_).trans (F.kg b o q), hn, F.nd, fun p hp => ⟨(F.led p hp).1, ?_⟩, ?_, fun a ha => ?_, F.gl, F.el⟩
  · rw [r, F.gl] at q; cases q
  · obtain ⟨o, e', q⟩ := (F.led p hp).2; exact ⟨o, (hs.2 p.1 (F.led p hp).1).trans e', q⟩
  · exact F.ext.trans ((Ext.of_same hs).mono fun a ha => by rw [List.mem_singleton.mp ha]; exact .head _)
  · by_cases q : a = c.L
    · obtain ⟨o, _, _, ho, _⟩ := hn; exact ⟨o, by rw [q]; exact ho⟩
    · obtain ⟨o, e'⟩ := F.sal a ha; exact ⟨o, (hs.2 a q).trans e'⟩
/-- a new object -/
theorem Fx.push (F : Fx c m ℓ s) (o : Obj) (k : Kn) (hk : k.is o) (ho : o.isFreed = false := by rfl) {tk : Nat} : Fx c m ((s.heap.objs.size, k) :: ℓ) { s with heap := s.heap.push o, toks := tk } := by
  obtain ⟨h, t, e⟩ := F.sh
  refine ⟨⟨s.heap.push o, tk, by rw [e]⟩, fun b o' q => Heap.get?_push_of_some o (F.kg b o' q), F.ns.push o, ?_, fun p hp => ?_, F.ext.trans (Ext.push _ _ _), fun a ha => ?_, F.gl, F.el⟩
  · rw [List.map_cons, List.nodup_cons]
    refine ⟨fun q => ?_, F.nd⟩
    obtain ⟨p, hp, e'⟩ := List.mem_map.mp q
    have := (F.led p hp).2.lt
    rw [e'] at this; exact Nat.lt_irrefl _ this
  · rcases List.mem_cons.mp hp with rfl | hp
    · exact ⟨fun q => absurd F.ns.lt (by rw [← q]; exact Nat.lt_irrefl _), o, Heap.get?_push_size _ ho, hk⟩
    · obtain ⟨o', e', q⟩ := (F.led p hp).2; exact ⟨(F.led p hp).1, o', Heap.get?_push_of_some o e', q⟩
  · obtain ⟨o', e'⟩ := F.sal a ha; exact ⟨o', Heap.get?_push_of_some o e'⟩
theorem Fx.pushE (F : Fx c m ℓ s) (o : Obj) (hn : ndOb o = true := by rfl) (ho : o.isFreed = false := by rfl) {tk : Nat} : Fx c m ((s.heap.objs.size, .ex o) :: ℓ) { s with heap := s.heap.push o, toks := tk } := F.push o (.ex o) ⟨rfl, hn⟩ ho
theorem Fx.pushS (F : Fx c m ℓ s) (cls : String) (its : Array Value) {tk : Nat} : Fx c m ((s.heap.objs.size, .sq cls its) :: ℓ) { s with heap := s.heap.push { cls := .type cls, data := .seq its }, toks := tk } := F.push _ (.sq cls its) ⟨rfl, _, rfl⟩ rfl
/-- own objects turned, all else as it stood up to slots -/
theorem Fx.turnS {S : List Addr} (F : Fx c m ℓ s) {s' : Shared} (own : ∀ a ∈ S, Own c a ∧ a ≠ c.L) (hsh : ∃ h tk, s' = { s with heap := h, toks := tk }) (hx : Ext S s.heap s'.heap) (hg : c.G.StaysIn s'.heap)
    (hal : ∀ a ∈ S, a ∈ c.S → ∃ o, s'.heap.get? a = some o) {ℓ' : List (Addr × Kn)} (hnd : (ℓ'.map (·.1)).Nodup) (hl : ∀ p ∈ ℓ', (p ∈ ℓ ∧ p.1 ∉ S) ∨ (p.1 ≠ c.L ∧ At s'.heap p.1 p.2)) : Fx c m ℓ' s' := by
  obtain ⟨h, k, e⟩ := F.sh
  obtain ⟨h', k', e'⟩ := hsh
  have hLS : c.L ∉ S := fun q => (own _ q).2 rfl
  refine ⟨⟨h', k', by rw [e', e]⟩, hg, hx.ns hLS F.ns, hnd, fun p hp => ?_, fun b ob hb q => ?_, fun b hb => ?_, F.gl, F.el⟩
  · rcases hl p hp with q | q
    · exact ⟨(F.led p q.1).1, hx.at q.2 (F.led p q.1).2⟩
    · exact q
  · obtain ⟨o1, e1, s1⟩ := F.ext b ob hb q
    by_cases r : b ∈ S
    · exfalso
      rcases (own b r).1.may with q' | q'
      · exact hb (.tail _ q')
      · rw [q'.1] at q; cases q
    · obtain ⟨o2, e2, s2⟩ := hx b _ r e1; exact ⟨o2, e2, s1.trans s2⟩
  · by_cases r : b ∈ S
    · exact hal b r hb
    · exact hx.alive r (F.sal b hb)
theorem Fx.turn {a : Addr} {k k' : Kn} (F : Fx c m ((a, k) :: ℓ) s) (w : Own c a) {h' : Heap} {tk : Nat} (hs : Heap.ExtBut a s.heap h') (ho : At h' a k') : Fx c m ((a, k') :: ℓ) { s with heap := h', toks := tk } := by
  have nd := F.nd
  rw [List.map_cons, List.nodup_cons] at nd
  refine F.turnS (S := [a]) (fun b hb => ?_) ⟨h', tk, rfl⟩ (Ext.of_but hs) (fun b o q => hs b o (fun r => ?_) (F.kg b o q)) (fun b hb _ => ?_) F.nd fun p hp => ?_
  · rw [List.mem_singleton.mp hb]; exact ⟨w, F.neL (.head _)⟩
  · rw [r, w.off] at q; cases q
  · rw [List.mem_singleton.mp hb]; obtain ⟨o, e, _⟩ := ho; exact ⟨o, e⟩
  · rcases List.mem_cons.mp hp with rfl | hp
    · exact .inr ⟨F.neL (.head _), ho⟩
    · exact .inl ⟨.tail _ hp, fun r => nd.1 (List.mem_map.mpr ⟨p, hp, List.mem_singleton.mp r⟩)⟩
/-- an own object let go -/
theorem Fx.drop1 {a : Addr} {k : Kn} (F : Fx c m ((a, k) :: ℓ) s) (w : Fresh c a) {h' : Heap} {tk : Nat} (hs : Heap.ExtBut a s.heap h') : Fx c m ℓ { s with heap := h', toks := tk } := by
  have nd := F.nd
  rw [List.map_cons, List.nodup_cons] at nd
  refine F.turnS (S := [a]) (fun b hb => ?_) ⟨h', tk, rfl⟩ (Ext.of_but hs) (fun b o q => hs b o (fun r => ?_) (F.kg b o q)) (fun b hb q => ?_) nd.2 fun p hp => ?_
  · rw [List.mem_singleton.mp hb]; exact ⟨w.own, F.neL (.head _)⟩
  · rw [r, w.off] at q; cases q
  · rw [List.mem_singleton.mp hb] at q; exact absurd q w.may.2
  · exact .inl ⟨.tail _ hp, fun r => nd.1 (List.mem_map.mpr ⟨p, hp, List.mem_singleton.mp r⟩)⟩
/-- behind a call that changes nothing that stood -/
theorem Fx.after0 (F : Fx c m ℓ s) {s' : Shared} (P : Post c.G [] s s') : Fx c m ℓ s' :=
  F.turnS (S := []) (fun _ q => nomatch q) P.sh P.ext P.kg (fun _ q _ => nomatch q) F.nd fun _ hp => .inl ⟨hp, fun q => nomatch q⟩
theorem Fx.after1 {a : Addr} {k k' : Kn} (F : Fx c m ((a, k) :: ℓ) s) (w : Own c a) {s' : Shared} (P : Post c.G [a] s s') (ho : At s'.heap a k') : Fx c m ((a, k') :: ℓ) s' := by
  have nd := F.nd
  rw [List.map_cons, List.nodup_cons] at nd
  refine F.turnS (S := [a]) (fun b hb => ?_) P.sh P.ext P.kg (fun a ha _ => P.sal a ha) F.nd fun p hp => ?_
  · rw [List.mem_singleton.mp hb]; exact ⟨w, F.neL (.head _)⟩
  · rcases List.mem_cons.mp hp with rfl | hp
    · exact .inr ⟨F.neL (.head _), ho⟩
    · exact .inl ⟨.tail _ hp, fun r => nd.1 (List.mem_map.mpr ⟨p, hp, List.mem_singleton.mp r⟩)⟩
/-- one more known thing, that did not stand in an earlier state of this frame -/
theorem Fx.add {s₀ : Shared} {m₀ : Str → Option Value} {ℓ₀ : List (Addr × Kn)} (F : Fx c m ℓ s) (F₀ : Fx c m₀ ℓ₀ s₀) {a : Addr} {k : Kn} (hn : s₀.heap.get? a = none) (hℓ : ∀ p ∈ ℓ, ∃ o, s₀.heap.get? p.1 = some o) (h : At s.heap a k) :
    Fx c m ((a, k) :: ℓ) s ∧ Fresh c a := by
  have hL : a ≠ c.L := fun q => by
    obtain ⟨o, _, _, ho, _⟩ := F₀.ns
    rw [← q, hn] at ho; cases ho
  refine ⟨⟨F.sh, F.kg, F.ns, ?_, fun p hp => ?_, F.ext, F.sal, F.gl, F.el⟩, F₀.new_of hn⟩
  · rw [List.map_cons, List.nodup_cons]
    refine ⟨fun q => ?_, F.nd⟩
    obtain ⟨p, hp, e⟩ := List.mem_map.mp q
    obtain ⟨o, ho⟩ := hℓ p hp
    rw [e, hn] at ho; cases ho
  · rcases List.mem_cons.mp hp with rfl | hp
    · exact ⟨hL, h⟩
    · exact F.led p hp
theorem Fx.alive (F : Fx c m ℓ s) : ∀ p ∈ ℓ, ∃ o, s.heap.get? p.1 = some o := fun p hp => let ⟨o, e, _⟩ := (F.led p hp).2; ⟨o, e⟩
end
end Mine
namespace Mine
open PySem PySem.Calls PyProof.Rows PySem.W

/-! ## the text's functions -/
structure FD where
  name : Str
  params : Arguments
  body : List Stmt
  scope : Scope
def fdOf : Option Stmt → FD
  | some (.FunctionDef n a b _ _ _ sc _ _ _) => ⟨n, a, b, sc⟩
  | _ => ⟨"", ⟨[], [], none, [], [], none, []⟩, [], ⟨.function, [], false, false, []⟩⟩
def fdAt (i : Nat) : FD := fdOf PySem.Challenge.pw_nq0137_01.main.body[i]?
abbrev fdX (i : Nat) (dV doc pm : Value) (an : Option Addr) (cd : Addr) (ct : Value) : FuncData :=
  fnX (fdAt i).name (fdAt i).name (fdAt i).params (fdAt i).body (fdAt i).scope [] dV .none doc pm an (.ref cd) ct
def FnIs (G : Heap) (i : Nat) (f cd : Addr) (dV : Value) : Prop :=
  ∃ o doc pm an ct, G.get? f = some o ∧ o.data = .func (fdX i dV doc pm an cd ct) ∧ G.CodeRec (.ref cd) (fdAt i).name
def globs : List (Str × Value) := [("heapreplace", .ref 21), ("heapify", .ref 28), ("_heapreplace_max", .ref 35), ("_heapify_max", .ref 42), ("_siftdown", .ref 49), ("_siftup", .ref 56), ("_siftdown_max", .ref 63),
  ("_siftup_max", .ref 70), ("nsmallest", .ref 76), ("nlargest", .ref 82), ("_byteswap", .ref 89), ("_law_rows", .ref 94), ("_law_asked", .ref 101), ("_law_numbers", .ref 106), ("_law_pairs", .ref 111), ("_law_due", .ref 116)]
def bins : List Str := ["len", "reversed", "range", "iter", "object", "min", "max", "TypeError", "AttributeError", "sorted", "zip", "bytearray", "bytes", "abs", "IndexError", "ValueError", "sum", "enumerate", "list"]
def fnTab : List (Nat × Addr × Addr × Value) := [(1, 21, 20, .none), (2, 28, 27, .none), (3, 35, 34, .none), (4, 42, 41, .none), (5, 49, 48, .none), (6, 56, 55, .none), (7, 63, 62, .none), (8, 70, 69, .none),
  (9, 76, 75, .ref 71), (10, 82, 81, .ref 77), (12, 89, 88, .none), (14, 94, 93, .none), (15, 101, 100, .none), (16, 106, 105, .none), (17, 111, 110, .none), (18, 116, 115, .none)]
structure Base (G : Heap) : Prop where
  g : ∃ mg, G.Ns mainGlobals mg ∧ (∀ x v, globs.lookup x = some v → mg x = some v) ∧ ∀ x, bins.contains x = true → mg x = none
  b : ∃ mb, G.Ns builtinsNs mb ∧ ∀ x, bins.contains x = true → mb x = bootBuiltins x
  lim : G.NoLimit
  fn : ∀ e ∈ fnTab, FnIs G e.1 e.2.1 e.2.2.1 e.2.2.2
  dflt : At G 71 (.tup [.none]) ∧ At G 77 (.tup [.none])

/-! ## names, constants -/
/-- the locals with x set -/
abbrev upd (m : Str → Option Value) (x : Str) (v : Value) : Str → Option Value := fun y => if y = x then some v else m y
section
variable {M : Model} {A : Around} {E : Value → Shared → Prop} {s : Shared} {c : Cx} {m : Str → Option Value} {ℓ : List (Addr × Kn)} {q : Str} {sc : Scope} {f : Addr} {cd : Value} {cl : List (Str × Addr)} {x : Str} {pos : Pos} {v : Value} {Q : Value → Shared → Prop}
theorem nmL (F : Fx c m ℓ s) (hv : m x = some v) (h : Q v s) (hk : sc.kind = .function := by rfl) (hx : (envX q sc c.L f cd cl).kindOf x = some .local := by rfl) (hd : (x == ("__debug__" : Str)) = false := by decide) :
    wpAny M A (eval (.Name x pos) (envX q sc c.L f cd cl)) Q E s := wpAny_Name (wpAny_loadName_local hk hx F.ns hv h) hd
theorem nmG (B : Base c.G) (F : Fx c m ℓ s) (hv : globs.lookup x = some v) (h : Q v s) (hk : sc.kind = .function := by rfl) (hx : (envX q sc c.L f cd cl).kindOf x = some .globalImplicit := by rfl) (hd : (x == ("__debug__" : Str)) = false := by decide) :
    wpAny M A (eval (.Name x pos) (envX q sc c.L f cd cl)) Q E s :=
  let ⟨_, hg, h1, _⟩ := B.g
  Name_function_global hk hx (loadGlobal_global (env := envX q sc c.L f cd cl) (hg.keeps F.kg) (h1 x v hv) h) hd
theorem nmB (B : Base c.G) (F : Fx c m ℓ s) (hv : bootBuiltins x = some v) (h : Q v s) (hb : bins.contains x = true := by decide) (hk : sc.kind = .function := by rfl) (hx : (envX q sc c.L f cd cl).kindOf x = some .globalImplicit := by rfl) (hd : (x == ("__debug__" : Str)) = false := by decide) :
    wpAny M A (eval (.Name x pos) (envX q sc c.L f cd cl)) Q E s :=
  let ⟨_, hg, _, h2⟩ := B.g
  let ⟨_, hbn, h3⟩ := B.b
  Name_function_global hk hx (loadGlobal_builtin (env := envX q sc c.L f cd cl) (hg.keeps F.kg) (h2 x hb) (hbn.keeps F.kg) ((h3 x hb).trans hv) h) hd
theorem nmC {a : Addr} (F : Fx c m ℓ s) (hc : cl.lookup x = some a) (hm : (a, Kn.cell (some v)) ∈ ℓ) (h : Q v s) (hk : sc.kind = .function := by rfl) (hx : (envX q sc c.L f cd cl).kindOf x = some .cell := by rfl) (hd : (x == ("__debug__" : Str)) = false := by decide) :
    wpAny M A (eval (.Name x pos) (envX q sc c.L f cd cl)) Q E s := wpAny_Name (wpAny_loadName_cell hk hx hc (F.at hm).isCell h) hd
theorem nmF {a : Addr} (F : Fx c m ℓ s) (hc : cl.lookup x = some a) (hm : (a, Kn.cell (some v)) ∈ ℓ) (h : Q v s) (hk : sc.kind = .function := by rfl) (hx : (envX q sc c.L f cd cl).kindOf x = some .free := by rfl) (hd : (x == ("__debug__" : Str)) = false := by decide)
    (hn : (x == ("__classdict__" : Str)) = false := by decide) :
    wpAny M A (eval (.Name x pos) (envX q sc c.L f cd cl)) Q E s := wpAny_Name (wpAny_loadName_free hk hx hc (F.at hm).isCell h hn) hd
theorem ci {i : Int} {k : Nat} {env : Env} (F : Fx c m ℓ s) (h : ∀ t s', Fx c m ℓ s' → Q (.int i t) s') : wpAny M A (eval (.Constant (.int i) k pos) env) Q E s := wpAny_Constant_int (h _ _ (F.toks _))
theorem stL {Q : Unit → Shared → Prop} (F : Fx c m ℓ s) (h : ∀ s', Fx c (upd m x v) ℓ s' → Q () s') (hk : sc.kind = .function := by rfl) (hx : (envX q sc c.L f cd cl).kindOf x = some .local := by rfl) :
    wpAny M A (storeName (envX q sc c.L f cd cl) x v) Q E s :=
  wpAny_storeName_local hx F.ns (fun _ hn hs => h _ (F.setL hn hs)) (by show (sc.kind == .class || (sc.kind == .module && c.L != mainGlobals)) = false; rw [hk]; rfl)
theorem stC {Q : Unit → Shared → Prop} {a : Addr} {v₀ : Option Value} (F : Fx c m ((a, Kn.cell v₀) :: ℓ) s) (w : Own c a) (hc : cl.lookup x = some a) (h : ∀ s', Fx c m ((a, Kn.cell (some v)) :: ℓ) s' → Q () s')
    (hk : sc.kind = .function := by rfl) (hx : (envX q sc c.L f cd cl).kindOf x = some .cell := by rfl) :
    wpAny M A (storeName (envX q sc c.L f cd cl) x v) Q E s :=
  wpAny_storeName_cell hk hx hc (F.at (.head _)).isCell fun _ hv hs => h _ (F.turn w hs.extBut hv)
end

/-! ## a call of one of the text's defs -/
def flv : Flow → Value
  | .ret v => v
  | _ => .none
section
variable {prog : Program} {w : World} {A : Around} {E : Value → Shared → Prop} {s : Shared} {Q : Value → Shared → Prop} {G : Heap}
abbrev envI (i : Nat) (L f cd : Addr) : Env := envX (fdAt i).name (fdAt i).scope L f (.ref cd) []
/-- a body that runs to the end: what stands behind it is told for an opaque post Z -/
theorem enter {i : Nat} {f cd : Addr} {dV : Value} {args : Args} {binds : List (Str × Value)} {k : Nat} (B : Base G) (kg : G.StaysIn s.heap) (hf : FnIs G i f cd dV) (rm : Rm A (k + 1)) (S : List Addr)
    (hS : ∀ a ∈ S, G.get? a = none ∧ ∃ o, s.heap.get? a = some o) (ℓ : List (Addr × Kn)) (nd : (ℓ.map (·.1)).Nodup) (hℓ : ∀ p ∈ ℓ, At s.heap p.1 p.2)
    (hbind : ∀ doc pm an ct, BindsTo s (fdX i dV doc pm an cd ct) args binds)
    (h : ∀ (L : Addr) (A' : Around) (Z : Flow → Shared → Prop) (E' : Value → Shared → Prop) (s₁ : Shared), Rm A' k → (∀ fl s', Q (flv fl) s' → Z fl s') → Fx ⟨G, L, S, s⟩ (fun x => binds.reverse.lookup x) ℓ s₁ →
      wpAny (model prog w) A' (execs (fdAt i).body (envI i L f cd)) Z E' s₁)
    (hloc : (binds.all fun x => decide ((fdAt i).scope.names.lookup x.1 = some .local)) = true := by rfl) (hcell : ∀ x ∈ (fdAt i).scope.names, x.2 ≠ .cell := by decide)
    (hco : (fdAt i).scope.isCoroutine = false := by rfl) (hgen : (fdAt i).scope.isGenerator = false := by rfl) (hk : (fdAt i).scope.kind = .function := by rfl) :
    wpAny (model prog w) A (call (.ref f) args.pos args.kw) Q E s := by
  obtain ⟨o, doc, pm, an, ct, ho, hd, hcd⟩ := hf
  refine wpAny_call (codeAny_call_def (fd := fdX i dV doc pm an cd ct) rm.room (kg _ _ ho) hd (B.lim.keeps kg) (hcd.keeps kg) rfl (hbind doc pm an ct) hcell (locs hloc) (fun h₁ hns hk₁ => ?_) hco hgen hk)
  refine h s.heap.objs.size _ _ _ { s with heap := h₁, toks := s.toks + binds.length } (rm.deeper _) (fun fl s' hq => ?_) ⟨⟨h₁, _, rfl⟩, fun b o e => hk₁ b o (kg b o e), hns, nd, fun p hp => ?_, Ext.of_keeps hk₁, fun a ha => ?_, ?_, get?_size _⟩
  · cases fl <;> exact hq
  · obtain ⟨o', e', q⟩ := hℓ p hp
    exact ⟨Nat.ne_of_lt (Heap.lt_size e'), o', hk₁ _ _ e', q⟩
  · obtain ⟨o', e'⟩ := (hS a ha).2; exact ⟨o', hk₁ _ _ e'⟩
  · show G.get? s.heap.objs.size = none
    cases q : G.get? s.heap.objs.size with
    | none => rfl
    | some o => exact absurd (Heap.lt_size (kg _ _ q)) (Nat.lt_irrefl _)
end

/-! ## comparisons of what a list holds -/
def CmpOn (prog : Program) (w : World) (lt : Value → Value → Bool) (xs : List Value) (K : List (Addr × Kn)) : Prop :=
  ∀ x ∈ xs, ∀ y ∈ xs, ∀ (A : Around) (s : Shared) (Q : Value → Shared → Prop) (E : Value → Shared → Prop), Rm A 3 → (∀ p ∈ K, At s.heap p.1 p.2) → Q (.bool (lt x y)) s → wpAny (model prog w) A (compareOp .Lt x y) Q E s

/-! ## statements and loops, their posts held small -/
/-- what stands behind a statement: the rest -/
def andThen (M : Model) (A : Around) (rest : List Stmt) (env : Env) (Q : Flow → Shared → Prop) (E : Value → Shared → Prop) (f : Flow) (s : Shared) : Prop := match f with
  | .next => wpAny M A (execs rest env) Q E s
  | f => Q f s
theorem ec {M : Model} {A : Around} {E : Value → Shared → Prop} {s : Shared} {env : Env} {st : Stmt} {rest : List Stmt} {Q : Flow → Shared → Prop} (h : wpAny M A (exec st env) (andThen M A rest env Q E) E s) : wpAny M A (execs (st :: rest) env) Q E s :=
  wpAny_execs_cons (wpAny_mono h (fun f _ hq => by cases f <;> exact hq) fun _ _ x => x)
/-- the end of a loop's body -/
def turned (R : Result → Shared → Prop) (I : Nat → Shared → Prop) (n : Nat) (f : Flow) (s : Shared) : Prop := match f with
  | .next | .cont => ∃ m, m < n ∧ I m s
  | .brk => R (.ok .next) s
  | .ret v => R (.ok (.ret v)) s
section
variable {prog : Program} {w : World} {A : Around} {s : Shared} {R : Result → Shared → Prop} {env : Env}
theorem aFor {target : Expr} {it : Value} {body : List Stmt} (I : Nat → Shared → Prop)
    (turn : ∀ (W : Flow → Shared → Prop) (D : Shared → Prop) (X : Value → Shared → Prop) (n : Nat) (s : Shared), (∀ f s', turned R I n f s' → W f s') → (∀ s', R (.ok .next) s' → D s') → (∀ e s', notedBy (model prog w) A env (fun e s' => R (.error e) s') e s' → X e s') → I n s →
      wpAny (model prog w) A (pyNext it) (fun r s₁ => match r with
        | none => D s₁
        | some v => wpAny (model prog w) A (assign target env v) (fun _ s₂ => wpAny (model prog w) A (execs body env) W X s₂) X s₁) X s)
    (n : Nat) (h : I n s) (ht : ∀ v, letOwnedTupleGo target it v = pure () := by intro _; rfl) : codeAny (model prog w) A (.forLoop target it body [] env) R s :=
  codeAny_forLoop I (fun n s hI => wpAny_mono (turn (fun f s₃ => match f with
      | .next | .cont => ∃ m, m < n ∧ I m s₃
      | .brk => R (.ok .next) s₃
      | .ret v => R (.ok (.ret v)) s₃) _ _ n s (fun f _ hq => by cases f <;> exact hq) (fun _ hq => wpAny_execs_nil hq) (fun _ _ q => q) hI) (fun r _ hr => by cases r <;> exact hr) fun _ _ q => q) n h ht
theorem aForT {target : Expr} {it : Value} {body : List Stmt} (I : Nat → Shared → Prop)
    (turn : ∀ (W : Flow → Shared → Prop) (D : Shared → Prop) (X : Value → Shared → Prop) (n : Nat) (s : Shared), (∀ f s', turned R I n f s' → W f s') → (∀ s', R (.ok .next) s' → D s') → (∀ e s', notedBy (model prog w) A env (fun e s' => R (.error e) s') e s' → X e s') → I n s →
      wpAny (model prog w) A (pyNext it) (fun r s₁ => match r with
        | none => D s₁
        | some v => wpAny (model prog w) A (letOwnedTupleGo target it v) (fun _ s₂ => wpAny (model prog w) A (assign target env v) (fun _ s₂ => wpAny (model prog w) A (execs body env) W X s₂) X s₂) X s₁) X s)
    (n : Nat) (h : I n s) : codeAny (model prog w) A (.forLoop target it body [] env) R s :=
  codeAny_forLoop_any I (fun n s hI => wpAny_mono (turn (fun f s₃ => match f with
      | .next | .cont => ∃ m, m < n ∧ I m s₃
      | .brk => R (.ok .next) s₃
      | .ret v => R (.ok (.ret v)) s₃) _ _ n s (fun f _ hq => by cases f <;> exact hq) (fun _ hq => wpAny_execs_nil hq) (fun _ _ q => q) hI) (fun r _ hr => by cases r <;> exact hr) fun _ _ q => q) n h
theorem aWhile {test : Expr} {body : List Stmt} (I : Nat → Shared → Prop)
    (turn : ∀ (W : Flow → Shared → Prop) (D : Shared → Prop) (X : Value → Shared → Prop) (n : Nat) (s : Shared), (∀ f s', turned R I n f s' → W f s') → (∀ s', R (.ok .next) s' → D s') → I n s →
      wpAny (model prog w) A (isTrue test env (eval test env)) (fun b s₂ => if b = true then wpAny (model prog w) A (execs body env) W X s₂ else D s₂) X s)
    (n : Nat) (h : I n s) : codeAny (model prog w) A (.whileLoop test body [] env) R s :=
  codeAny_whileLoop I (fun n s hI => wpAny_mono (turn (fun f s₃ => match f with
      | .next | .cont => ∃ m, m < n ∧ I m s₃
      | .brk => R (.ok .next) s₃
      | .ret v => R (.ok (.ret v)) s₃) _ _ n s (fun f _ hq => by cases f <;> exact hq) (fun _ hq => wpAny_execs_nil hq) hI) (fun b _ hb => by cases b <;> exact hb) fun _ _ q => q) n h
end
end Mine
namespace Mine
open PySem PySem.Calls PyProof.Rows PySem.W

/-! ## ints, lists in a frame -/
section
variable {prog : Program} {w : World} {A : Around} {E : Value → Shared → Prop} {s : Shared} {c : Cx} {m : Str → Option Value} {ℓ : List (Addr × Kn)} {x y : Int} {t u : Tok} {Q : Value → Shared → Prop}
theorem iAdd (F : Fx c m ℓ s) (h : ∀ t' s', Fx c m ℓ s' → Q (.int (x + y) t') s') : wpAny (model prog w) A (binaryOp .Add (.int x t) (.int y u)) Q E s := PyProof.Rows.add_int (h _ _ (F.toks _))
theorem iSub (F : Fx c m ℓ s) (h : ∀ t' s', Fx c m ℓ s' → Q (.int (x - y) t') s') : wpAny (model prog w) A (binaryOp .Sub (.int x t) (.int y u)) Q E s := PyProof.Rows.sub_int (h _ _ (F.toks _))
theorem iMod (F : Fx c m ℓ s) (hy : y ≠ 0) (h : ∀ t' s', Fx c m ℓ s' → Q (.int (x.fmod y) t') s') : wpAny (model prog w) A (binaryOp .Mod (.int x t) (.int y u)) Q E s := PyProof.Rows.mod_int hy (h _ _ (F.toks _))
theorem iMul (F : Fx c m ℓ s) (hm : IntMulOk x y) (h : ∀ t' s', Fx c m ℓ s' → Q (.int (x * y) t') s') : wpAny (model prog w) A (binaryOp .Mult (.int x t) (.int y u)) Q E s := PyProof.Rows.mul_int (h _ _ (F.toks _)) hm
theorem iDiv (F : Fx c m ℓ s) (hy : y ≠ 0) (hp : Builtin.divisionGoesByPylong x y = false) (h : ∀ t' s', Fx c m ℓ s' → Q (.int (x.fdiv y) t') s') : wpAny (model prog w) A (binaryOp .FloorDiv (.int x t) (.int y u)) Q E s := PyProof.Rows.floordiv_int hy (h _ _ (F.toks _)) (.inl hp)
theorem iShr (F : Fx c m ℓ s) (h0 : 0 ≤ x) (h : ∀ t' s', Fx c m ℓ s' → Q (.int (x / 2) t') s') : wpAny (model prog w) A (binaryOp .RShift (.int x t) (.int 1 u)) Q E s := wpAny_rshift1_int h0 (h _ _ (F.toks _))
theorem iNeg (F : Fx c m ℓ s) (h : ∀ t' s', Fx c m ℓ s' → Q (.int (-x) t') s') : wpAny (model prog w) A (unaryOp .USub (.int x t)) Q E s := PyProof.Rows.neg_int (h _ _ (F.toks _))
/-- an item of a list -/
theorem subL {value slice : Expr} {l : Addr} {its : Array Value} {k : Int} {v : Value} (F : Fx c m ℓ s) (hl : (l, Kn.sq "list" its) ∈ ℓ) (h0 : 0 ≤ k) (hi : k < 2 ^ 63) (hx : its[k.toNat]? = some v) (h : Q v s)
    (hs : subscripted slice false (.ref l) (.int k u) = operate [.ref l, .int k u] (getItem (.ref l) (.int k u)) := by with_unfolding_all rfl) :
    wpAny (model prog w) A (subscriptTail value slice (.ref l) (.int k u)) Q E s :=
  tail_any (F.at hl).isList.typeIs slot_list_getitem.lookup (wpAny_getItem_list (F.at hl).isList h0 hi hx h) hs
theorem setL {l : Addr} {its : Array Value} {k : Int} {v : Value} {Q : Unit → Shared → Prop} (F : Fx c m ((l, Kn.sq "list" its) :: ℓ) s) (ow : Own c l) (h0 : 0 ≤ k) (hi : k < 2 ^ 63) (hn : k < its.size)
    (h : ∀ s', Fx c m ((l, Kn.sq "list" (its.setIfInBounds k.toNat v)) :: ℓ) s' → Q () s') : wpAny (model prog w) A (setItem (.ref l) (.int k u) v) Q E s :=
  wpAny_setItem_list (F.at (.head _)).isList h0 hi hn fun _ hl hs => h _ (F.turn ow hs.extBut hl)
theorem lenL {l : Addr} {its : Array Value} (F : Fx c m ℓ s) (hl : (l, Kn.sq "list" its) ∈ ℓ) (hz : its.size < 2 ^ 60) (h : ∀ t s', Fx c m ℓ s' → Q (.int its.size t) s') : wpAny (model prog w) A (call (.builtin "len") [.ref l]) Q E s :=
  len_list (F.at hl).isList (by exact om130 hz) (h _ _ (F.toks _))
/-- a call of one of the text's defs, its arguments -/
theorem callF {i : Nat} {f cd : Addr} {dV : Value} {pos : Pos} {e : Expr} {rest : List Expr} {env : Env} (hf : FnIs c.G i f cd dV)
    (h : wpAny (model prog w) A (spliced (backTo pos (starEach (e :: rest) env))) (fun vs s₁ => c.G.StaysIn s₁.heap ∧ wpAny (model prog w) A (call (.ref f) vs) Q E s₁) E s)
    (he : starEach (e :: rest) env = (false, eval e env) :: starEach rest env := by rfl) :
    wpAny (model prog w) A (callWith pos (.ref f) [] (backTo pos (starEach (e :: rest) env)) []) Q E s := by
  obtain ⟨o, doc, pm, an, ct, ho, hd, _⟩ := hf
  exact callWith_def hd (wpAny_mono h (fun vs s₁ h₁ => ⟨h₁.1 _ _ ho, h₁.2⟩) fun _ _ x => x) he
end

/-! ## arrays -/
theorem getElem?_int {a : Array Value} {k : Nat} (h : k < a.size) : a[((k : Nat) : Int).toNat]? = some (a.getD k .none) := by
  rw [Int.toNat_natCast, Array.getD_eq_getD_getElem?, Array.getElem?_eq_getElem h]; rfl
theorem getD_mem {a : Array Value} {k : Nat} (h : k < a.size) : a.getD k .none ∈ a.toList := by
  have := getElem?_int h
  rw [Int.toNat_natCast] at this
  exact Array.mem_toList_iff.mpr (Array.mem_of_getElem? this)
theorem mem_set {a : Array Value} {k : Nat} {v x : Value} (h : x ∈ (a.setIfInBounds k v).toList) : x ∈ a.toList ∨ x = v := by
  rw [Array.toList_setIfInBounds] at h
  exact List.mem_or_eq_of_mem_set h

/-! ## the heap's steps, plainly -/
def sdLoop (lt : Value → Value → Bool) (x : Value) (sp : Nat) : Nat → Array Value → Nat → Array Value × Nat
  | 0, a, p => (a, p)
  | n + 1, a, p => if sp < p then (if lt x (a.getD ((p - 1) / 2) .none) then sdLoop lt x sp n (a.setIfInBounds p (a.getD ((p - 1) / 2) .none)) ((p - 1) / 2) else (a, p)) else (a, p)
def siftdown (lt : Value → Value → Bool) (a : Array Value) (sp p : Nat) : Array Value :=
  (sdLoop lt (a.getD p .none) sp p a p).1.setIfInBounds (sdLoop lt (a.getD p .none) sp p a p).2 (a.getD p .none)
theorem sdLoop_fuel (lt : Value → Value → Bool) (x : Value) (sp : Nat) : ∀ n m (a : Array Value) p, p ≤ n → p ≤ m → sdLoop lt x sp n a p = sdLoop lt x sp m a p
  | 0, 0, _, _, _, _ => rfl
  | 0, m + 1, a, p, h, _ => by
    have : p = 0 := by exact om131 h
    subst this; unfold sdLoop; rw [if_neg (by exact om132)]
  | n + 1, 0, a, p, _, h => by
    have : p = 0 := by exact om131 h
    subst this; unfold sdLoop; rw [if_neg (by exact om132)]
  | n + 1, m + 1, a, p, h1, h2 => by
    unfold sdLoop
    by_cases h : sp < p
    · rw [if_pos h, if_pos h, sdLoop_fuel lt x sp n m _ _ (by exact om133 h1) (by exact om133 h2)]
    · rw [if_neg h, if_neg h]
def suChild (lt : Value → Value → Bool) (a : Array Value) (p : Nat) : Nat :=
  if 2 * p + 2 < a.size ∧ lt (a.getD (2 * p + 1) .none) (a.getD (2 * p + 2) .none) = false then 2 * p + 2 else 2 * p + 1
def suLoop (lt : Value → Value → Bool) : Nat → Array Value → Nat → Array Value × Nat
  | 0, a, p => (a, p)
  | n + 1, a, p => if 2 * p + 1 < a.size then suLoop lt n (a.setIfInBounds p (a.getD (suChild lt a p) .none)) (suChild lt a p) else (a, p)
def siftup (lt : Value → Value → Bool) (a : Array Value) (p : Nat) : Array Value :=
  siftdown lt ((suLoop lt a.size a p).1.setIfInBounds (suLoop lt a.size a p).2 (a.getD p .none)) p (suLoop lt a.size a p).2
theorem suChild_ge (lt : Value → Value → Bool) (a : Array Value) (p : Nat) : 2 * p + 1 ≤ suChild lt a p := by
  unfold suChild
  by_cases q : (2 * p + 2 < a.size ∧ lt (a.getD (2 * p + 1) .none) (a.getD (2 * p + 2) .none) = false)
  · rw [if_pos q]; exact om134
  · rw [if_neg q]; exact Nat.le_refl _
theorem suChild_lt {lt : Value → Value → Bool} {a : Array Value} {p : Nat} (h : 2 * p + 1 < a.size) : suChild lt a p < a.size := by
  unfold suChild
  by_cases q : (2 * p + 2 < a.size ∧ lt (a.getD (2 * p + 1) .none) (a.getD (2 * p + 2) .none) = false)
  · rw [if_pos q]; exact q.1
  · rw [if_neg q]; exact h
theorem suLoop_fuel (lt : Value → Value → Bool) : ∀ n m (a : Array Value) p, a.size ≤ n + p → a.size ≤ m + p → suLoop lt n a p = suLoop lt m a p
  | 0, 0, _, _, _, _ => rfl
  | 0, m + 1, a, p, h, _ => by unfold suLoop; rw [if_neg (by exact om135 h)]
  | n + 1, 0, a, p, _, h => by unfold suLoop; rw [if_neg (by exact om135 h)]
  | n + 1, m + 1, a, p, h1, h2 => by
    unfold suLoop
    by_cases h : 2 * p + 1 < a.size
    · have := suChild_ge lt a p
      rw [if_pos h, if_pos h, suLoop_fuel lt n m _ _ (by rw [Array.size_setIfInBounds]; exact om136 h1 this) (by rw [Array.size_setIfInBounds]; exact om136 h2 this)]
    · rw [if_neg h, if_neg h]
theorem sdLoop_size (lt : Value → Value → Bool) (x : Value) (sp : Nat) : ∀ n (a : Array Value) p, (sdLoop lt x sp n a p).1.size = a.size
  | 0, _, _ => rfl
  | n + 1, a, p => by
    unfold sdLoop
    by_cases h : sp < p
    · rw [if_pos h]
      by_cases h2 : lt x (a.getD ((p - 1) / 2) .none) = true
      · rw [if_pos h2, sdLoop_size, Array.size_setIfInBounds]
      · rw [if_neg h2]
    · rw [if_neg h]
theorem sdLoop_mem {lt : Value → Value → Bool} {x : Value} {sp : Nat} {v : Value} : ∀ {n : Nat} {a : Array Value} {p : Nat}, p < a.size → v ∈ (sdLoop lt x sp n a p).1.toList → v ∈ a.toList
  | 0, _, _, _, h => h
  | n + 1, a, p, hp, h => by
    unfold sdLoop at h
    by_cases h1 : sp < p
    · rw [if_pos h1] at h
      by_cases h2 : lt x (a.getD ((p - 1) / 2) .none) = true
      · rw [if_pos h2] at h
        rcases mem_set (sdLoop_mem (by rw [Array.size_setIfInBounds]; exact om137 hp) h) with h | rfl
        · exact h
        · exact getD_mem (by exact om137 hp)
      · rw [if_neg h2] at h; exact h
    · rw [if_neg h1] at h; exact h
theorem siftdown_size (lt : Value → Value → Bool) (a : Array Value) (sp p : Nat) : (siftdown lt a sp p).size = a.size := by unfold siftdown; rw [Array.size_setIfInBounds, sdLoop_size]
theorem siftdown_mem {lt : Value → Value → Bool} {a : Array Value} {sp p : Nat} {v : Value} (hp : p < a.size) (h : v ∈ (siftdown lt a sp p).toList) : v ∈ a.toList := by
  rcases mem_set h with h | rfl
  · exact sdLoop_mem hp h
  · exact getD_mem hp
theorem suLoop_size (lt : Value → Value → Bool) : ∀ n (a : Array Value) p, (suLoop lt n a p).1.size = a.size
  | 0, _, _ => rfl
  | n + 1, a, p => by
    unfold suLoop
    by_cases h : 2 * p + 1 < a.size
    · rw [if_pos h, suLoop_size, Array.size_setIfInBounds]
    · rw [if_neg h]
theorem suLoop_lt {lt : Value → Value → Bool} : ∀ {n : Nat} {a : Array Value} {p : Nat}, p < a.size → (suLoop lt n a p).2 < a.size
  | 0, _, _, h => h
  | n + 1, a, p, hp => by
    unfold suLoop
    by_cases h : 2 * p + 1 < a.size
    · rw [if_pos h]
      have := suLoop_lt (lt := lt) (n := n) (a := a.setIfInBounds p (a.getD (suChild lt a p) .none)) (p := suChild lt a p) (by rw [Array.size_setIfInBounds]; exact suChild_lt h)
      rw [Array.size_setIfInBounds] at this; exact this
    · rw [if_neg h]; exact hp
theorem suLoop_mem {lt : Value → Value → Bool} {v : Value} : ∀ {n : Nat} {a : Array Value} {p : Nat}, v ∈ (suLoop lt n a p).1.toList → v ∈ a.toList
  | 0, _, _, h => h
  | n + 1, a, p, h => by
    unfold suLoop at h
    by_cases h1 : 2 * p + 1 < a.size
    · rw [if_pos h1] at h
      rcases mem_set (suLoop_mem h) with h | rfl
      · exact h
      · exact getD_mem (suChild_lt h1)
    · rw [if_neg h1] at h; exact h
theorem siftup_size (lt : Value → Value → Bool) (a : Array Value) (p : Nat) : (siftup lt a p).size = a.size := by unfold siftup; rw [siftdown_size, Array.size_setIfInBounds, suLoop_size]
theorem siftup_mem {lt : Value → Value → Bool} {a : Array Value} {p : Nat} {v : Value} (hp : p < a.size) (h : v ∈ (siftup lt a p).toList) : v ∈ a.toList := by
  have := siftdown_mem (by rw [Array.size_setIfInBounds, suLoop_size]; exact suLoop_lt hp) h
  rcases mem_set this with h | rfl
  · exact suLoop_mem h
  · exact getD_mem hp
def hfLoop (lt : Value → Value → Bool) : Nat → Array Value → Array Value
  | 0, a => a
  | k + 1, a => hfLoop lt k (siftup lt a k)
def heapify (lt : Value → Value → Bool) (a : Array Value) : Array Value := hfLoop lt (a.size / 2) a
end Mine
namespace Mine
open PySem PySem.Calls PyProof.Rows PySem.W

/-! ## ranges -/
section
variable {prog : Program} {w : World} {A : Around} {E : Value → Shared → Prop} {s : Shared} {c : Cx} {m : Str → Option Value} {ℓ : List (Addr × Kn)} {x y z : Int} {t u v : Tok} {Q : Value → Shared → Prop}
theorem range1 (F : Fx c m ℓ s) (h : ∀ r t1 t2 s', Fx c m ((r, .rng 0 x 1 t1 t t2) :: ℓ) s' → Fresh c r → Q (.ref r) s') : wpAny (model prog w) A (call (.type "range") [.int x t]) Q E s :=
  call_range_1 (h _ _ _ _ (F.pushE _) F.new)
theorem range3 (F : Fx c m ℓ s) (hz : z ≠ 0) (hp : Builtin.divisionGoesByPylong (y - x) z = false) (h : ∀ r s', Fx c m ((r, .rng x y z t u v) :: ℓ) s' → Fresh c r → Q (.ref r) s') :
    wpAny (model prog w) A (call (.type "range") [.int x t, .int y u, .int z v]) Q E s :=
  call_range_3 hz (h _ _ (F.pushE _) F.new) (.inl hp)
theorem iterRange {r : Addr} (F : Fx c m ℓ s) (hr : (r, .rng x y z t u v) ∈ ℓ) (hs : Builtin.Range.small x y z = true) (h : ∀ it s', Fx c m ((it, .riter x (Builtin.Range.rangeSize x y z) z) :: ℓ) s' → Fresh c it → Q (.ref it) s') :
    wpAny (model prog w) A (pyIter (.ref r)) Q E s :=
  wpAny_pyIter_range (F.at hr).get hs (h _ _ (F.pushE _) F.new)
theorem iterRiter {it : Addr} (F : Fx c m ℓ s) (hr : (it, .riter x y z) ∈ ℓ) (h : Q (.ref it) s) : wpAny (model prog w) A (pyIter (.ref it)) Q E s :=
  wpAny_pyIter_rangeiter (F.at hr).get h
theorem nextR {it : Addr} {Q : Option Value → Shared → Prop} (F : Fx c m ((it, .riter x y z) :: ℓ) s) (fr : Fresh c it) (hh : A.handled = none)
    (h1 : 0 < y → ∀ t s', Fx c m ((it, .riter (x + z) (y - 1) z) :: ℓ) s' → Q (some (.int x t)) s') (h2 : y ≤ 0 → ∀ s', Fx c m ℓ s' → Q none s') : wpAny (model prog w) A (pyNext (.ref it)) Q E s := by
  by_cases hy : 0 < y
  · exact wpAny_pyNext_range_item (F.at (.head _)).get hy fun h' e hs => h1 hy _ _ (F.turn fr.own hs.extBut (At.of e))
  · exact wpAny_pyNext_range_end hh (F.at (.head _)).get (by exact om77 hy) fun h' hs => h2 (by exact om77 hy) _ (F.drop1 fr hs)
end

section
variable {prog : Program} {w : World} {M : Model} {A : Around} {E : Value → Shared → Prop} {s : Shared} {r : Addr} {a b z : Int} {t u v : Tok}
theorem sub_ri_reversed : isSubtype (.type "range_iterator") (.type "reversed") = pure false := by rw [isSubtype_type]; kernel_rfl
abbrev revSmall (a b z : Int) : Bool := Builtin.Range.rangeFitsLong a && Builtin.Range.rangeFitsLong b && Builtin.Range.rangeFitsLong z && Builtin.Range.rangeFitsLong (-z) && Builtin.Range.rangeFitsLong (a - z) && Builtin.Range.rangeFitsLong (Builtin.Range.rangeSize a b z)
abbrev revIt (a b z : Int) : Obj := { cls := .type "range_iterator", data := .fields #[rawInt (a + (Builtin.Range.rangeSize a b z - 1) * z), rawInt (Builtin.Range.rangeSize a b z), rawInt (-z)] }
theorem revOfRange {Q : Value → Shared → Prop} (hr : IsRange s.heap r a b z t u v) (hs : revSmall a b z = true) (h : Q (.ref s.heap.objs.size) { s with heap := s.heap.push (revIt a b z) }) :
    wpAny (model prog w) A (call (.builtin "range.__reversed__") [.ref r]) Q E s := by
  refine wpAny_call_entry F.slot_range_reversed ⟨_, hr, rfl⟩ F.entry_range_reversed ?_ (F.args_range_reversed_1 _)
  unfold Builtin.«range.__reversed__» Builtin.Range.rangeFields
  repeat (any_goals (first | assumption | exact wpAny_field hr rfl rfl (by assumption) | wp_step))
  rw [if_pos hs]
  exact ⟨_, rfl, h⟩
/-- reversed(x), where the type of x says how -/
theorem revBy {T id : String} {x : Value} {Q : Value → Shared → Prop} (sl : Slot T "__reversed__" id) (hT : s.TypeIs x T) (h : wpAny (model prog w) A (call (.builtin id) [x]) Q E s) :
    wpAny (model prog w) A (Builtin.«reversed.__new__» ⟨[.type "reversed", x], []⟩) (fun fin s' => ∃ v, fin = .done (.ret v) ∧ Q v s') E s := by
  have h' : wpAny (model prog w) A (runValue (.call (.builtin id) ⟨[x], []⟩) >>= fun v => ret v) (fun fin s' => ∃ v, fin = .done (.ret v) ∧ Q v s') E s := wpAny_bind (wpAny_mono h (fun v _ hq => wpAny_pure ⟨v, rfl, hq⟩) fun _ _ q => q)
  have f1 := newClass_reversed x
  have f2 := sl.lookup
  have f3 := sl.bind x
  unfold Builtin.«reversed.__new__»
  repeat (any_goals (first | assumption | wp_step))
theorem revCall {T id U : String} {x : Value} {Q : Value → Shared → Prop} (sl : Slot T "__reversed__" id) (hT : s.TypeIs x T) (hU : isSubtype (.type U) (.type "reversed") = pure false)
    (h : wpAny (model prog w) A.in1.in1 (call (.builtin id) [x]) (fun v s' => s'.TypeIs v U ∧ Q v s') E s) : wpAny (model prog w) A (call (.type "reversed") [x]) Q E s := by
  refine callType_other (Q₁ := fun v s' => s'.TypeIs v U ∧ Q v s') (by decide +kernel) F.create_reversed ⟨_, _, F.mro_reversed⟩ F.made_reversed hU (F.typeCall_reversed_1 _) (codeAny_of_tree (wpAny_bind (wpAny_of_eq (F.newCall_reversed_1 _) (wpAny_pure ⟨plainId_quiet F.plain_reversed_new _, codeAny_builtin F.entry_reversed_new ?_⟩)))) fun _ _ q => q
  rw [Around.under_plainId F.plain_reversed_new _]
  refine wpAny_mono (revBy sl hT h) (fun fin s' hq => ?_) fun _ _ q => q
  obtain ⟨v, rfl, hq⟩ := hq
  exact hq
end
theorem revSize (k : Nat) : Builtin.Range.rangeSize 0 (k : Int) 1 = k := by
  unfold Builtin.Range.rangeSize
  rw [if_pos (by decide)]
  by_cases h : (0 : Int) < k
  · rw [if_pos h]; exact om224
  · rw [if_neg h]; exact om225 h
theorem fitsLong_of {x : Int} (h1 : -(2 ^ 62) ≤ x) (h2 : x < 2 ^ 62) : Builtin.Range.rangeFitsLong x = true := by
  unfold Builtin.Range.rangeFitsLong
  simp only [Bool.and_eq_true, decide_eq_true_eq]
  exact om226 h1 h2
theorem revSmall_of {k : Nat} (h : k < 2 ^ 61) : revSmall 0 (k : Int) 1 = true := by
  unfold revSmall
  rw [revSize, fitsLong_of (by exact om236) (by exact om235), fitsLong_of (x := k) (by exact om234) (by exact om233 h), fitsLong_of (x := 1) (by exact om232) (by exact om231), fitsLong_of (x := -1) (by exact om230) (by exact om229), fitsLong_of (x := 0 - 1) (by exact om228) (by exact om227)]
  rfl
theorem revRange {prog : Program} {w : World} {A : Around} {E : Value → Shared → Prop} {s : Shared} {c : Cx} {m : Str → Option Value} {ℓ : List (Addr × Kn)} {t u v : Tok} {Q : Value → Shared → Prop} {r : Addr} {k : Nat} (F : Fx c m ℓ s) (hr : (r, .rng 0 k 1 t u v) ∈ ℓ) (hk : k < 2 ^ 61)
    (h : ∀ it s', Fx c m ((it, .riter ((k : Int) - 1) k (-1)) :: ℓ) s' → Fresh c it → Q (.ref it) s') : wpAny (model prog w) A (call (.type "reversed") [.ref r]) Q E s := by
  refine revCall PySem.F.slot_range_reversed ⟨_, (F.at hr).get, rfl⟩ sub_ri_reversed (revOfRange (F.at hr).get (revSmall_of hk) ⟨⟨_, Heap.get?_push_size _ rfl, rfl⟩, ?_⟩)
  have e : revIt 0 (k : Int) 1 = { cls := .type "range_iterator", data := .fields #[rawInt ((k : Int) - 1), rawInt k, rawInt (-1)] } := by
    unfold revIt
    rw [revSize, Int.mul_one, Int.zero_add]
  rw [e]
  exact h _ _ (F.pushE _) F.new
end Mine
namespace Mine
open PySem PySem.Calls PyProof.Rows PySem.W

/-! ## a raised exception on its way -/
def frsOf (fr : List Env) : List Addr := fr.filterMap (·.frame)
def Frs (h : Heap) (fr : List Env) : Prop := ∀ env ∈ fr, env.scope.kind ≠ .module ∧ ∃ L o es ep, env.frame = some L ∧ h.get? L = some o ∧ o.data = .dict es ep
theorem Frs.ext {S : List Addr} {h h' : Heap} {fr : List Env} (f : Frs h fr) (x : Ext S h h') (hS : ∀ a ∈ frsOf fr, a ∉ S) : Frs h' fr := fun env he => by
  obtain ⟨hk, L, o, es, ep, hf, ho, hd⟩ := f env he
  obtain ⟨o', ho', sl, rfl, _⟩ := x L o (hS L (List.mem_filterMap.mpr ⟨env, he, hf⟩)) ho
  exact ⟨hk, L, _, es, ep, hf, ho', hd⟩
theorem Frs.ext0 {h h' : Heap} {fr : List Env} (f : Frs h fr) (x : Ext [] h h') : Frs h' fr := f.ext x fun _ _ q => nomatch q
theorem Frs.cons {h : Heap} {fr : List Env} {env : Env} {L : Addr} {m : Str → Option Value} (f : Frs h fr) (hk : env.scope.kind ≠ .module) (hf : env.frame = some L) (hn : h.Ns L m) : Frs h (env :: fr) := fun e he => by
  rcases List.mem_cons.mp he with rfl | he
  · obtain ⟨o, es, ep, ho, hd, _⟩ := hn
    exact ⟨hk, L, o, es, ep, hf, ho, hd⟩
  · exact f e he
theorem Frs.tail {h : Heap} {fr : List Env} {env : Env} (f : Frs h (env :: fr)) : Frs h fr := fun e he => f e (.tail _ he)
theorem Frs.fun {h base : Heap} : ∀ {fr : List Env}, Frs h fr → (∀ a ∈ frsOf fr, base.get? a = none) → h.FunFrames base fr
  | [], _, _ => trivial
  | env :: fr, f, hb => by
    obtain ⟨hk, L, o, es, ep, hf, ho, hd⟩ := f env (.head _)
    refine ⟨hk, ⟨L, o, hf, hb L (List.mem_filterMap.mpr ⟨env, .head _, hf⟩), ho, fun vs q => by rw [hd] at q; cases q⟩, Frs.fun f.tail fun a ha => hb a ?_⟩
    obtain ⟨e, he, hl⟩ := List.mem_filterMap.mp ha
    exact List.mem_filterMap.mpr ⟨e, .tail _ he, hl⟩
theorem Frs.dict {h : Heap} {fr : List Env} (f : Frs h fr) {a : Addr} (ha : a ∈ frsOf fr) : ∃ o es ep, h.get? a = some o ∧ o.data = .dict es ep := by
  obtain ⟨env, he, hl⟩ := List.mem_filterMap.mp ha
  obtain ⟨_, L, o, es, ep, hf, ho, hd⟩ := f env he
  rw [hf] at hl
  injection hl with hl
  rw [← hl]
  exact ⟨o, es, ep, ho, hd⟩

inductive XSt where
  | new
  | at (fl : Value)
def XTr (base h : Heap) (e : Addr) (cls : String) : XSt → Prop
  | .new => ∃ oe vs a0, h.get? e = some oe ∧ oe.cls = .type cls ∧ oe.data = .fields vs ∧ vs[0]? = some a0 ∧ vs[1]? = some .none
  | .at fl => ∃ a0, h.TracedAtW base e (.type cls) a0 fl
/-- e, of the class cls, was raised at hR, in frames that stood there; what stands of them (fr) it has still to leave -/
structure Exc (G hR : Heap) (fr : List Env) (e : Addr) (cls : String) (st : XSt) (h : Heap) : Prop where
  x : ∃ base, (∀ b o, hR.get? b = some o → ndOb o = true → base.get? b = some o) ∧ G.StaysIn base ∧ base.StaysIn h ∧ base.get? e = none ∧ h.FunFrames base fr ∧ XTr base h e cls st
  up : hR.UpToSlots h
section
variable {G hR h : Heap} {fr : List Env} {e : Addr} {cls : String} {st : XSt}
theorem Exc.ext (x : Exc G hR fr e cls st h) : Ext [] hR h := fun b o _ ho => by
  obtain ⟨base, h1, _, h2, _⟩ := x.x
  cases q : ndOb o with
  | true => exact ⟨o, h2 _ _ (h1 b o ho q), .refl o⟩
  | false =>
    obtain ⟨sl, hs⟩ := x.up b o ho fun vs r => by unfold ndOb at q; rw [r] at q; cases q
    exact ⟨_, hs, sl, rfl, fun r => by rw [q] at r; cases r⟩
theorem Exc.kg (x : Exc G hR fr e cls st h) : G.StaysIn h := fun b o ho => by
  obtain ⟨base, _, h1, h2, _⟩ := x.x
  exact h2 _ _ (h1 b o ho)
theorem Exc.ofNew (f : Frs hR fr) (kg : G.StaysIn hR) (hg : ∀ a ∈ frsOf fr, G.get? a = none) (hx : Heap.NewExc hR h e cls) : Exc G hR fr e cls .new h := by
  have key : ∀ b o, hR.get? b = some o → ndOb o = true → b ∉ frsOf fr := fun b o ho hn q => by
    obtain ⟨o', es, ep, ho', hd⟩ := f.dict q
    rw [ho] at ho'; injection ho' with ho'; subst ho'
    unfold ndOb at hn; rw [hd] at hn; cases hn
  refine ⟨⟨hideAll hR (frsOf fr), fun b o ho hn => hideAll_get _ ho (key b o ho hn), fun b o ho => hideAll_get _ (kg b o ho) (fun q => by rw [hg b q] at ho; cases ho), fun b o ho => hx.keeps b o (of_hideAll _ ho), ?_, ?_, ?_⟩, .of_keeps hx.keeps⟩
  · cases q : (hideAll hR (frsOf fr)).get? e with
    | none => rfl
    | some o => have := of_hideAll _ q; rw [hx.new] at this; cases this
  · exact Frs.fun (f.ext0 (Ext.of_keeps hx.keeps)) fun a ha => hideAll_none _ ha
  · obtain ⟨ob, t, h1, h2, h3⟩ := hx.there
    exact ⟨ob, _, t, h1, h2, h3, rfl, rfl⟩
end
section
variable {M : Model} {A : Around} {E : Value → Shared → Prop} {s : Shared} {G hR : Heap} {env : Env} {fr : List Env} {L e : Addr} {cls : String} {st : XSt} {Q : Unit → Shared → Prop}
/-- a station of the way in the frame L -/
def XHere (L : Addr) : XSt → Prop
  | .new => True
  | .at fl => fl = .none ∨ fl = rawInt L
theorem exc_note (hA : A.frames = some (env :: fr)) (hf : env.frame = some L) (x : Exc G hR (env :: fr) e cls st s.heap) (hs : XHere L st)
    (h : ∀ h', Exc G hR (env :: fr) e cls (.at (rawInt L)) h' → Q () { s with heap := h' }) : wpAny M A (noteFrame (.ref e) env) Q E s := by
  obtain ⟨⟨base, h1, h2, h3, h4, h5, h6⟩, up⟩ := x
  cases st with
  | new =>
    obtain ⟨oe, vs, a0, he, hc, hd, h0, h1'⟩ := h6
    unfold noteFrame
    simp only [hf]
    refine wpAny_bind (wpAny_field he hd h1' ?_)
    rw [if_neg (by decide)]
    refine wpAny_entryW hA h5 hf he h3 h4 hd (Array.getElem?_eq_some_iff.mp h1').1 h0 fun h' hN => ?_
    obtain ⟨k1, k2, k3, k4⟩ := hN
    rw [hc] at k3
    exact h h' ⟨⟨base, h1, h2, k1, h4, k2, a0, k3⟩, up.trans k4⟩
  | «at» fl =>
    obtain ⟨a0, tr⟩ := h6
    rcases hs with rfl | rfl
    · exact wpAny_noteFrame_onW hA h5 hf tr h3 h4 fun h' hN => h h' ⟨⟨base, h1, h2, hN.1, h4, hN.2.1, a0, hN.2.2.1⟩, up.trans hN.2.2.2⟩
    · exact wpAny_noteFrame_againW hf tr (h _ ⟨⟨base, h1, h2, h3, h4, h5, a0, tr⟩, up⟩)
theorem exc_leave (hA : A.frames = some (env :: fr)) (hf : env.frame = some L) (x : Exc G hR (env :: fr) e cls st s.heap) (hs : XHere L st)
    (h : ∀ h', Exc G hR fr e cls (.at .none) h' → Q () { s with heap := h' }) : wpAny M A (leaving env (.ref e)) Q E s := by
  unfold leaving
  refine wpAny_bind (exc_note hA hf x hs fun h₁ x₁ => ?_)
  obtain ⟨⟨base, h1, h2, h3, h4, h5, a0, h6⟩, up⟩ := x₁
  refine wpAny_landsW (base := base) (l := env :: fr) (L := L) (a0 := a0) (cls := .type cls) ⟨h3, h4, h5, h6⟩ fun h' hF k => ?_
  obtain ⟨k1, k2, ⟨_, _, k3⟩, k4⟩ := hF
  exact h h' ⟨⟨base, h1, h2, k1, k2, k3, a0, k4⟩, up.trans k⟩
/-- the station of an exception on its way is a slot of a record of its own: it may be written anew -/
theorem Exc.write {fl : Value} {h : Heap} (x : Exc G hR fr e cls (.at fl) h) : ∃ oe vs T oT ts, h.get? e = some oe ∧ oe.data = .fields vs ∧ vs[1]? = some (.ref T) ∧ h.get? T = some oT ∧ oT.data = .fields ts ∧ 3 < ts.size ∧ ∀ v, Exc G hR fr e cls (.at v) (h.update T (Obj.mapFields (·.setIfInBounds 3 v))) := by
  obtain ⟨⟨base, b1, b2, b3, b4, b5, a0, oe, vs, T, oT, ts, he, hcls, hd, hv, hnT, hTe, hT, hdT, hx⟩, up⟩ := x
  have h3 : 3 < ts.size := (Array.getElem?_eq_some_iff.mp hx).1
  refine ⟨oe, vs, T, oT, ts, he, hd, hv, hT, hdT, h3, fun v => ?_⟩
  have old : ∀ {b o}, base.get? b = some o → T ≠ b := by
    rintro b o q rfl
    rw [hnT] at q; cases q
  have noRec : ∀ {b o}, h.get? b = some o → (∀ ws, o.data ≠ .fields ws) → T ≠ b := by
    rintro b o q r rfl
    rw [hT] at q; cases q
    exact r _ hdT
  have same : ∀ {b}, T ≠ b → (h.update T (Obj.mapFields (·.setIfInBounds 3 v))).get? b = h.get? b := Heap.get?_update_other _ _
  have ff := b5.of_keeps fun b o q r => ⟨o, (same (noRec q r)).trans q, rfl⟩
  have tr := Obj.data_mapFields hdT (·.setIfInBounds 3 v)
  refine ⟨⟨base, b1, b2, fun b o q => (same (old q)).trans (b3 b o q), b4, ff, a0, ?_⟩, up.trans fun b o q r => ⟨o.slots, (same (noRec q r)).trans q⟩⟩
  exact ⟨oe, vs, T, _, _, (same hTe).trans he, hcls, hd, hv, hnT, hTe, Heap.get?_update_self _ hT (Obj.isFreed_of_fields tr), tr, by simp [h3]⟩
theorem exc_flight {fl : Value} {o : Option Addr} (x : Exc G hR fr e cls (.at fl) s.heap) (h : ∀ h', Exc G hR fr e cls (.at (o.elim .none fun f => rawInt f)) h' → Q () { s with heap := h' }) : wpAny M A (setFlight (.ref e) o) Q E s := by
  obtain ⟨oe, vs, T, oT, ts, he, hd, hv, hT, hdT, h3, key⟩ := x.write
  unfold setFlight
  refine wpAny_bind (wpAny_field he hd hv ?_)
  rw [if_pos (by simp)]
  exact wpAny_setField hT hdT h3 (h _ (key _))
theorem exc_back {Ex : Value → Shared → Prop} (hf : env.frame = some L) {fl : Value} (x : Exc G hR (env :: fr) e cls (.at fl) s.heap) (h : ∀ h', Exc G hR (env :: fr) e cls (.at (rawInt L)) h' → Ex (.ref e) { s with heap := h' }) :
    cameBackBy M A env Ex (.ref e) s := by
  obtain ⟨oe, vs, T, _, _, he, hd, hv, _⟩ := x.write
  unfold cameBackBy
  refine wpAny_bind (wpAny_field he hd hv ?_)
  rw [if_neg (by simp), hf]
  exact exc_flight x h
/-- the exceptional end of a frame: raised at a heap of which P tells -/
def EX (sE : Shared) (G : Heap) (env : Env) (fr : List Env) (L : Addr) (P : String → Heap → Prop) (v : Value) (s' : Shared) : Prop :=
  ∃ e hR st cls, v = .ref e ∧ P cls hR ∧ (∃ h tk, s' = { sE with heap := h, toks := tk }) ∧ Exc G hR (env :: fr) e cls st s'.heap ∧ XHere L st
theorem EX.passes {sE : Shared} {P : String → Heap → Prop} (hA : A.frames = some (env :: fr)) (hf : env.frame = some L) : PassesOwn M A env (EX sE G env fr L P) := by
  rintro v s' ⟨e, hR, st, cls, rfl, hP, ⟨h, tk, rfl⟩, x, hs⟩
  exact exc_note hA hf x hs fun h₁ x₁ => exc_back hf x₁ fun h₂ x₂ => ⟨e, hR, _, cls, rfl, hP, ⟨h₂, tk, rfl⟩, x₂, .inr rfl⟩
theorem EX.leave {sE : Shared} {P : String → Heap → Prop} {v : Value} (hA : A.frames = some (env :: fr)) (hf : env.frame = some L) (x : EX sE G env fr L P v s) {E' : Value → Shared → Prop}
    (h : ∀ e cls hR s', v = .ref e → P cls hR → (∃ h tk, s' = { sE with heap := h, toks := tk }) → Exc G hR fr e cls (.at .none) s'.heap → E' v s') : wpAny M A (leaving env v) (fun _ s'' => E' v s'') E s := by
  obtain ⟨e, hR, st, cls, rfl, hP, ⟨h₀, tk, rfl⟩, x, hs⟩ := x
  exact exc_leave hA hf x hs fun h₁ x₁ => h e cls hR _ rfl hP ⟨h₁, tk, rfl⟩ x₁
end
end Mine
namespace Mine
open PySem PySem.Calls PyProof.Rows PySem.W
open Sem (wp)

/-! ## clean stacks: no code on the stack holds a bytearray -/
def holdIds : List String := ["bytearray.__contains__", "bytearray.__mod__", "bytearray.__rmod__", "_struct.pack_into.held", "bytearray.find.held"] ++ Builtin.Bytes.decodersThatHold
def holdsBa : Code → Bool
  | .builtin id _ => holdIds.contains id
  | _ => false
def Clean (Γ : Ctx) : Prop := holdsBa Γ.code = false ∧ ∀ x ∈ Γ.below, holdsBa x.1 = false
def wpS {α : Type} (M : Model) (A : Around) (t : Sem α) (Q : α → Shared → Prop) (E : Value → Shared → Prop) (s : Shared) : Prop :=
  ∀ Γ p, Γ.In A → Clean Γ → wp M Γ t (fun a _ s' => Q a s') (fun e _ s' => E e s') p s
def codeS (M : Model) (A : Around) (c : Code) (R : Result → Shared → Prop) (s : Shared) : Prop :=
  ∀ Γ p, Γ.code = c → Γ.Below A → Clean Γ → wpCode M Γ R p s
section
variable {α β : Type} {M : Model} {A : Around} {E : Value → Shared → Prop} {s : Shared}
theorem toS {t : Sem α} {Q : α → Shared → Prop} (h : wpAny M A t Q E s) : wpS M A t Q E s := fun Γ p hΓ _ => h Γ p hΓ
theorem codeToS {c : Code} {R : Result → Shared → Prop} (h : codeAny M A c R s) : codeS M A c R s := fun Γ p hc hΓ _ => h Γ p hc hΓ
theorem sPure {a : α} {Q : α → Shared → Prop} (h : Q a s) : wpS M A (pure a) Q E s := fun _ _ _ _ => h
theorem sMono {t : Sem α} {Q Q' : α → Shared → Prop} {E' : Value → Shared → Prop} (h : wpS M A t Q E s) (hQ : ∀ a s, Q a s → Q' a s) (hE : ∀ e s, E e s → E' e s) : wpS M A t Q' E' s :=
  fun Γ p hΓ cl => Sem.wp_mono M Γ t (fun a _ s => hQ a s) (fun e _ s => hE e s) p s (h Γ p hΓ cl)
theorem sBind {m : Sem α} {f : α → Sem β} {Q : β → Shared → Prop} (h : wpS M A m (fun a s' => wpS M A (f a) Q E s') E s) : wpS M A (m >>= f) Q E s := fun Γ p hΓ cl => by
  rw [Sem.wp_bind']
  exact Sem.wp_mono M Γ m (fun a p' s' h' => h' Γ p' hΓ cl) (fun _ _ _ h' => h') p s (h Γ p hΓ cl)
theorem sAttempt {m : Sem α} {Q : Except Value α → Shared → Prop} (h : wpS M A m (fun a => Q (.ok a)) (fun e => Q (.error e)) s) : wpS M A m.attempt Q E s := fun Γ p hΓ cl => by
  rw [Sem.wp_attempt]; exact h Γ p hΓ cl
theorem sHolding {vs : List Value} {m : Sem α} {Q : α → Shared → Prop} (h : wpS M A m Q E s) : wpS M A (holding vs m) Q E s := fun Γ p hΓ cl => by rw [Sem.wp_holding]; exact h Γ p hΓ cl
theorem sKeep {vs : List Value} {m : Sem α} {Q : α → Shared → Prop} (h : wpS M A m Q E s) : wpS M A (m.keep vs) Q E s := fun Γ p hΓ cl => by rw [Sem.wp_keep]; exact h Γ p hΓ cl
theorem sOnRaise {m : Sem α} {k : Value → Sem Unit} {Q : α → Shared → Prop} (h : wpS M A m Q (fun e s' => wpS M A (k e) (fun _ s'' => E e s'') E s') s) : wpS M A (m.onRaise k) Q E s := fun Γ p hΓ cl => by
  rw [Sem.wp_onRaise]
  exact Sem.wp_mono M Γ m (fun _ _ _ h' => h') (fun e p' s' h' => h' Γ p' hΓ cl) p s (h Γ p hΓ cl)
theorem sTryCatch {m : Sem α} {k : Value → Sem α} {Q : α → Shared → Prop} (h : wpS M A m Q (fun e s' => wpS M A (k e) Q E s') s) : wpS M A (tryCatch m k) Q E s := fun Γ p hΓ cl => by
  rw [Sem.wp_tryCatch']
  exact Sem.wp_mono M Γ m (fun _ _ _ h' => h') (fun e p' s' h' => h' Γ p' hΓ cl) p s (h Γ p hΓ cl)
theorem Clean.enter {Γ : Ctx} (cl : Clean Γ) {c : Code} (hc : holdsBa c = false) (h : Option Value) (p : Pos) : Clean (Γ.enter c h p) := ⟨hc, fun x hx => by
  rcases List.mem_cons.mp hx with rfl | hx
  · exact cl.1
  · exact cl.2 x hx⟩
theorem sRun {c : Code} {h : Option Value} {Q : Flow → Shared → Prop} (hc : codeS M (A.mark h) c (fun r s' => match r with | .ok f => Q f s' | .error e => E e s') s) (hb : holdsBa c = false := by rfl)
    (hnb : h ≠ some byPass := by intro x; cases x) : wpS M A (run c h) Q E s := fun Γ p hΓ cl => by
  rw [Sem.wp_run]; exact hc _ p rfl (hΓ.enter c h p hnb) (cl.enter hb h p)
theorem sRunValue {c : Code} {Q : Value → Shared → Prop} (hc : codeS M A c (fun r s' => match r with | .ok (.ret v) => Q v s' | .ok _ => False | .error e => E e s') s) (hb : holdsBa c = false := by rfl) : wpS M A (runValue c) Q E s := fun Γ p hΓ cl => by
  rw [Sem.wp_runValue]; exact hc _ p rfl (hΓ.enter c none p (by intro x; cases x)) (cl.enter hb none p)
theorem sCall {f : Value} {pos : List Value} {kw : List (Str × Value)} {Q : Value → Shared → Prop}
    (hc : codeS M A (.call f ⟨pos, kw⟩) (fun r s' => match r with | .ok (.ret v) => Q v s' | .ok _ => False | .error e => E e s') s) : wpS M A (call f pos kw) Q E s := sRunValue hc
theorem codeSMono {c : Code} {R R' : Result → Shared → Prop} (h : codeS M A c R s) (hR : ∀ r s, R r s → R' r s) : codeS M A c R' s := fun Γ p hc hΓ cl => wpCode_mono hR (h Γ p hc hΓ cl)
theorem codeSTree {c : Code} {R : Result → Shared → Prop}
    (h : wpS M (A.under c) (M.den c) (fun fin s' => match fin with | .done f => R (.ok f) s' | .again c' => c'.quiet = true ∧ holdsBa c' = false ∧ codeS M A c' R s') (fun e s' => R (.error e) s') s) : codeS M A c R s := fun Γ p hc hΓ cl => by
  rw [wpCode_iff_wp, hc]
  refine Sem.wp_mono M Γ _ (fun fin p' s' h' => ?_) (fun _ _ _ h' => h') p s (h Γ p (hc ▸ hΓ.in) cl)
  cases fin with
  | done f => exact h'
  | again c' => exact ⟨h'.1, h'.2.2 (Γ.goto c') p' rfl (hΓ.goto c') ⟨h'.2.1, cl.2⟩⟩
theorem codeSLoop {c : Code} {R : Result → Shared → Prop} (hq : c.quiet = true) (hb : holdsBa c = false) (I : Nat → Shared → Prop)
    (turn : ∀ n s, I n s → wpS M (A.under c) (M.den c) (fun fin s' => match fin with | .done f => R (.ok f) s' | .again c' => c' = c ∧ ∃ m, m < n ∧ I m s') (fun e s' => R (.error e) s') s)
    (n : Nat) (h : I n s) : codeS M A c R s := by
  induction n using Nat.strongRecOn generalizing s with
  | ind n ih =>
    refine codeSTree (sMono (turn n s h) (fun fin s' hf => ?_) fun _ _ h' => h')
    cases fin with
    | done f => exact hf
    | again c' => obtain ⟨rfl, m, hm, hI⟩ := hf; exact ⟨hq, hb, ih m hm hI⟩
/-- on a clean stack no bytearray is held -/
theorem sExported {v : Value} {Q : Bool → Shared → Prop} (h : Q false s) : wpS M A (Builtin.Bytes.exported v) Q E s := fun Γ p _ cl => by
  have all : ∀ x ∈ (Γ.code, p) :: Γ.below, holdsBa x.1 = false := allc cl.1 cl.2
  unfold Builtin.Bytes.exported
  show Q (((Γ.code, p) :: Γ.below).any _) s
  refine Eq.mpr (congrArg (fun b => Q b s) (List.any_eq_false.mpr fun x hx => ?_)) h
  have hc := all x hx
  obtain ⟨c, q⟩ := x
  cases c with
  | builtin id args =>
    simp only [holdsBa, holdIds, List.contains_eq_mem, List.mem_append, decide_eq_false_iff_not, not_or] at hc
    obtain ⟨h1, h2⟩ := hc
    have h2' : Builtin.Bytes.decodersThatHold.contains id = false := by simpa using h2
    clear h2 all hx h
    obtain ⟨ps, kw⟩ := args
    delta Builtin.Bytes.exported.match_1
    have n : ∀ x ∈ (["bytearray.__contains__", "bytearray.__mod__", "bytearray.__rmod__", "_struct.pack_into.held", "bytearray.find.held"] : List String), id ≠ x := fun x hx q => h1 (q ▸ hx)
    delta Builtin.Bytes.exported._sparseCasesOn_1 Builtin.Bytes.exported._sparseCasesOn_2
    dsimp only
    rw [dif_neg (n _ (.head _)), dif_neg (n _ (.tail _ (.head _))), dif_neg (n _ (.tail _ (.tail _ (.head _)))), dif_neg (n _ (.tail _ (.tail _ (.tail _ (.head _))))), dif_neg (n _ (.tail _ (.tail _ (.tail _ (.tail _ (.head _))))))]
    cases ps with
    | nil => exact Bool.false_ne_true
    | cons a l =>
      show ¬ ((_ && Builtin.Bytes.decodersThatHold.contains id) = true)
      rw [h2', Bool.and_false]
      exact Bool.false_ne_true
  | _ => exact Bool.false_ne_true
end
end Mine
namespace Mine
open PySem PySem.Calls PyProof.Rows PySem.W
open Sem (wp)
/-! ## statements and expressions on clean stacks -/
section
variable {α : Type} {M : Model} {A : Around} {E : Value → Shared → Prop} {s : Shared} {env : Env}
theorem sStand {pos : Pos} {Q : Unit → Shared → Prop} (h : Q () s) : wpS M A (standAt pos) Q E s := toS (wpAny_standAt h)
/-- what stands behind a statement, on clean stacks -/
def andThenS (M : Model) (A : Around) (rest : List Stmt) (env : Env) (Q : Flow → Shared → Prop) (E : Value → Shared → Prop) (f : Flow) (s : Shared) : Prop := match f with
  | .next => wpS M A (execs rest env) Q E s
  | f => Q f s
theorem sExecs {st : Stmt} {rest : List Stmt} {Q : Flow → Shared → Prop} (h : wpS M A (exec st env) (andThenS M A rest env Q E) E s) : wpS M A (execs (st :: rest) env) Q E s := by
  rw [execs_cons]
  refine sBind (sMono h (fun f s' h' => ?_) fun _ _ x => x)
  cases f with
  | next => exact h'
  | _ => exact sPure h'
theorem sIf {test : Expr} {body orelse : List Stmt} {pos : Pos} {Q : Flow → Shared → Prop}
    (h : wpS M A (isTrue test env (eval test env)) (fun b s₂ => if b then wpS M A (execs body env) Q E s₂ else wpS M A (execs orelse env) Q E s₂) E s) : wpS M A (exec (.If test body orelse pos) env) Q E s := by
  rw [arm_exec_If]
  refine sBind (sStand (sBind (sMono h (fun b s' h' => ?_) fun _ _ x => x)))
  cases b <;> exact h'
theorem sReturn {e : Expr} {pos : Pos} {Q : Flow → Shared → Prop} (h : wpS M A (eval e env) (fun v => Q (.ret v)) E s) : wpS M A (exec (.Return (some e) pos) env) Q E s := by
  rw [exec_Return_some]
  exact sBind (sStand (sBind (sMono h (fun v s' h' => sPure h') fun _ _ x => x)))
theorem sAssign {x : Str} {pos' pos : Pos} {value : Expr} {Q : Flow → Shared → Prop} (h : wpS M A (eval value env) (fun v s₁ => wpAny M A (storeName env x v) (fun _ => Q .next) E s₁) E s)
    (hs : swapsWith value (some (.Name x pos')) pos.line env = pure false := by rfl) : wpS M A (exec (.Assign [.Name x pos'] value pos) env) Q E s := fun Γ p hΓ cl => by
  have key := fun (v : Value) (s₁ : Shared) (h₁ : wpAny M A (storeName env x v) (fun _ => Q .next) E s₁) (p₁ : Pos) => h₁ Γ p₁ hΓ
  simp only [exec_Assign_Name env x pos' value pos hs, Sem.wp_bind', Sem.wp_cmd_standAt, Sem.wp_holding, Sem.wp_bindName, Sem.wp_pure']
  exact Sem.wp_mono M Γ _ (fun v p₁ s₁ h₁ => key v s₁ h₁ _) (fun _ _ _ x => x) _ _ (h Γ _ hΓ cl)
end
end Mine
namespace Mine
open PySem PySem.Calls PyProof.Rows PySem.W
open Sem (wp)
/-! ## a call of one of the text's defs on a clean stack -/
section
variable {prog : Program} {w : World} {A : Around} {E : Value → Shared → Prop} {s : Shared} {R : Result → Shared → Prop}
theorem sFunc {body : List Stmt} {env : Env} (h : wpS (model prog w) (A.deeper env) (execs body env) (fun f s' => R (.ok (.ret (flv f))) s')
    (fun e s' => wpAny (model prog w) (A.deeper env) (leaving env e) (fun _ s'' => R (.error e) s'') (fun e' s'' => R (.error e') s'') s') s) : codeS (model prog w) A (.func body env) R s := by
  refine codeSTree ?_
  refine sBind (toS (wpAny_point ?_))
  refine sBind (sOnRaise (sMono h (fun f s' h' => ?_) fun e s' h' => toS h'))
  cases f <;> exact sPure h'
/-- the way from a call to the def's body: what is asked on it is told by rules of the library -/
theorem sCallDef {f : Addr} {o : Obj} {fd : FuncData} {body : List Stmt} {args : Args} {binds : List (Str × Value)} (hroom : A.depth < recursionLimit) (ho : s.heap.get? f = some o) (hd : o.data = .func fd) (hlim : s.heap.NoLimit)
    (hcd : s.heap.CodeRec fd.code fd.qualname) (hbody : fd.body = .stmts body) (hbind : BindsTo s fd args binds) (hcell : ∀ x ∈ fd.scope.names, x.2 ≠ .cell) (hloc : ∀ x ∈ binds, fd.scope.names.lookup x.1 = some .local)
    (h : ∀ h₀, h₀.Ns s.heap.objs.size (fun x => binds.reverse.lookup x) → (∀ b o, s.heap.get? b = some o → h₀.get? b = some o) →
      wpS (model prog w) (A.deeper (callEnv fd s.heap.objs.size f)) (execs body (callEnv fd s.heap.objs.size f)) (fun fl s' => R (.ok (.ret (flv fl))) s')
        (fun e s' => wpAny (model prog w) (A.deeper (callEnv fd s.heap.objs.size f)) (leaving (callEnv fd s.heap.objs.size f) e) (fun _ s'' => R (.error e) s'') (fun e' s'' => R (.error e') s'') s') { s with heap := h₀, toks := s.toks + binds.length })
    (hco : fd.scope.isCoroutine = false) (hgen : fd.scope.isGenerator = false) (hk : fd.scope.kind = .function) : codeS (model prog w) A (.call (.ref f) args) R s := by
  obtain ⟨c, oc, vs, tq, hc, hoc, hdc, hq⟩ := hcd
  refine codeSTree ?_
  show wpS _ A.in1 (callAny (.ref f) args) _ _ s
  simp only [callAny]
  refine sBind (toS (wpAny_load ho ?_))
  simp only [hd, callFunction, hco, hgen, hbody, hc]
  refine sBind (toS (wpAny_field hoc hdc hq ?_))
  refine sBind (sPure (sBind (toS (hbind _ _ _ _ ?_))))
  refine sBind (toS (wpAny_newFunctionEnv hcell hloc (fun h₀ hns hsb => ?_) hk))
  refine sBind (toS (wpAny_enterFrame (hlim.fresh _ hsb) hroom (sPure ⟨rfl, rfl, ?_⟩)))
  rw [← hc]
  exact sFunc (h h₀ hns fun b o e => hsb.extBut b o (Nat.ne_of_lt (Heap.lt_size e)) (Heap.get?_push_of_some _ e))
theorem sEnter {G : Heap} {Q : Value → Shared → Prop} {i : Nat} {f cd : Addr} {dV : Value} {args : Args} {binds : List (Str × Value)} {k : Nat} (B : Base G) (kg : G.StaysIn s.heap) (hf : FnIs G i f cd dV) (rm : Rm A (k + 1)) (S : List Addr)
    (hS : ∀ a ∈ S, G.get? a = none ∧ ∃ o, s.heap.get? a = some o) (ℓ : List (Addr × Kn)) (nd : (ℓ.map (·.1)).Nodup) (hℓ : ∀ p ∈ ℓ, At s.heap p.1 p.2) (hbind : ∀ doc pm an ct, BindsTo s (fdX i dV doc pm an cd ct) args binds)
    (h : ∀ (L : Addr) (A' : Around) (Z : Flow → Shared → Prop) (X : Value → Shared → Prop) (s₁ : Shared), Rm A' k → A' = A.deeper (envI i L f cd) → (∀ fl s', Q (flv fl) s' → Z fl s') → (∀ e s', wpAny (model prog w) A' (leaving (envI i L f cd) e) (fun _ s'' => E e s'') E s' → X e s') → Fx ⟨G, L, S, s⟩ (fun x => binds.reverse.lookup x) ℓ s₁ →
      wpS (model prog w) A' (execs (fdAt i).body (envI i L f cd)) Z X s₁)
    (hloc : (binds.all fun x => decide ((fdAt i).scope.names.lookup x.1 = some .local)) = true := by rfl) (hcell : ∀ x ∈ (fdAt i).scope.names, x.2 ≠ .cell := by decide)
    (hco : (fdAt i).scope.isCoroutine = false := by rfl) (hgen : (fdAt i).scope.isGenerator = false := by rfl) (hk : (fdAt i).scope.kind = .function := by rfl) :
    wpS (model prog w) A (call (.ref f) args.pos args.kw) Q E s := by
  obtain ⟨o, doc, pm, an, ct, ho, hd, hcd⟩ := hf
  refine sCall (sCallDef (fd := fdX i dV doc pm an cd ct) rm.room (kg _ _ ho) hd (B.lim.keeps kg) (hcd.keeps kg) rfl (hbind doc pm an ct) hcell (locs hloc) (fun h₁ hns hk₁ => ?_) hco hgen hk)
  refine h s.heap.objs.size _ _ _ { s with heap := h₁, toks := s.toks + binds.length } (rm.deeper _) rfl (fun _ _ q => q) (fun _ _ q => q) ⟨⟨h₁, _, rfl⟩, fun b o e => hk₁ b o (kg b o e), hns, nd, fun p hp => ?_, Ext.of_keeps hk₁, fun a ha => ?_, ?_, get?_size _⟩
  · obtain ⟨o', e', q⟩ := hℓ p hp
    exact ⟨Nat.ne_of_lt (Heap.lt_size e'), o', hk₁ _ _ e', q⟩
  · obtain ⟨o', e'⟩ := (hS a ha).2; exact ⟨o', hk₁ _ _ e'⟩
  · show G.get? s.heap.objs.size = none
    cases q : G.get? s.heap.objs.size with
    | none => rfl
    | some o => exact absurd (Heap.lt_size (kg _ _ q)) (Nat.lt_irrefl _)
end
end Mine
namespace Mine
open PySem PySem.Calls PyProof.Rows PySem.W
open Sem (wp)
/-! ## bytearray: ground facts -/
namespace BA
theorem mro : mroOf (.type "bytearray") = pure [.type "bytearray", .type "object"] := by rw [mroOf_type]; kernel_rfl
theorem lookupNew : typeLookup (.type "bytearray") "__new__" = pure (some (.builtin "bytearray.__new__")) := by rw [typeLookup_type, builtinLookup_eq_fast]; kernel_rfl
theorem made : Bind.madeBy (.type "bytearray") = pure (some "bytearray.__new__") := madeBy_type mro lookupNew (by decide +kernel)
theorem sub : isSubtype (.type "bytearray") (.type "bytearray") = pure true := by rw [isSubtype_type]; kernel_rfl
theorem lookupInit : typeLookup (.type "bytearray") "__init__" = pure (some (.builtin "bytearray.__init__")) := by rw [typeLookup_type, builtinLookup_eq_fast]; kernel_rfl
theorem lookupSet : typeLookup (.type "bytearray") "__setitem__" = pure (some (.builtin "bytearray.__setitem__")) := by rw [typeLookup_type, builtinLookup_eq_fast]; kernel_rfl
theorem lookupRel : typeLookup (.type "bytearray") "__release_buffer__" = pure (some (.builtin "bytearray.__release_buffer__")) := by rw [typeLookup_type, builtinLookup_eq_fast]; kernel_rfl
theorem slotInit : Slot "bytearray" "__init__" "bytearray.__init__" := .of (owner := "bytearray") (n := "__init__") lookupInit (by decide +kernel) (by decide +kernel) (by decide +kernel) (by first | exact .inl (by decide +kernel) | exact .inr (by decide +kernel)) sub
theorem slotSet : Slot "bytearray" "__setitem__" "bytearray.__setitem__" := .of (owner := "bytearray") (n := "__setitem__") lookupSet (by decide +kernel) (by decide +kernel) (by decide +kernel) (by first | exact .inl (by decide +kernel) | exact .inr (by decide +kernel)) sub
theorem typeCall (a : Value) : checkTypeCall "bytearray" ⟨[a], []⟩ = pure () := by kernel_rfl
theorem newCall (a : Value) : checkBuiltinCall "bytearray.__new__" ⟨[.type "bytearray", a], []⟩ = pure () := by kernel_rfl
theorem initCall (a b : Value) : argsOk "bytearray.__init__" ⟨[a, b], []⟩ := by unfold argsOk; kernel_rfl
theorem plainNew : plainId "bytearray.__new__" = true := by decide +kernel
theorem plainInit : plainId "bytearray.__init__" = true := by decide +kernel
theorem entryNew : entryFor table "bytearray.__new__" = some Builtin.«list.__new__» :=
  entryFor_alias (id' := "list.__new__") (by kernel_rfl) (by first | rfl | decide +kernel) (by decide +kernel) (by kernel_rfl)
theorem entryInit : entryFor table "bytearray.__init__" = some Builtin.«bytearray.__init__» := entryFor_of_tree (by kernel_rfl)
theorem entrySet : entryFor table "bytearray.__setitem__" = some Builtin.«bytearray.__setitem__» := entryFor_of_tree (by kernel_rfl)
theorem owner : ("bytearray.__new__".splitOn ".__new__").headD "" = "bytearray" := by simp +decide [String.splitOn, String.splitOnAux]
end BA
section
variable {prog : Program} {w : World} {A : Around} {E : Value → Shared → Prop} {s : Shared}
abbrev baObj (b : Array UInt8) : Obj := { cls := .type "bytearray", data := .bytearray b }
theorem ba_new (a : Value) {Q : Value → Shared → Prop} (h : Q (.ref s.heap.objs.size) { s with heap := s.heap.push (baObj #[]) }) : wpAny (model prog w) A (call (.builtin "bytearray.__new__") [.type "bytearray", a]) Q E s := by
  refine wpAny_call (codeAny_of_tree ?_)
  refine wpAny_bind (wpAny_of_eq (BA.newCall a) (wpAny_pure ⟨plainId_quiet BA.plainNew _, codeAny_builtin_stack BA.entryNew rfl fun p st => ?_⟩))
  rw [Around.under_plainId BA.plainNew _]
  have hsub := BA.sub
  simp only [BA.owner]
  refine wpAny_bind (wpAny_of_eq (a := true) rfl ?_)
  refine wpAny_bind (wpAny_of_eq hsub ?_)
  refine wpAny_bind (wpAny_of_eq (a := Data.bytearray #[]) rfl ?_)
  exact wpAny_bind (wpAny_newObj_type (wpAny_pure h))
theorem ba_rel {M : Model} {a : Addr} {b : Array UInt8} {Q : Bool → Shared → Prop} (ha : s.heap.get? a = some (baObj b)) (h : Q false s) : wpAny M A (Builtin.Bytes.ownRelease (.ref a)) Q E s := by
  unfold Builtin.Bytes.ownRelease
  refine wpAny_bind ?_
  unfold Builtin.Bytes.slotIsOwn
  refine wpAny_bind (wpAny_specialOf (T := "bytearray") ⟨_, ha, rfl⟩ BA.lookupRel ?_)
  dsimp only
  rw [if_neg (by decide +kernel)]
  refine wpAny_isInstance (T := "bytearray") (b := true) ⟨_, ha, rfl⟩ (by rw [show (("bytearray.__release_buffer__" : String).dropRight ("__release_buffer__".length + 1)) = "bytearray" from by decide +kernel]; exact BA.sub) ?_
  exact wpAny_pure h
theorem ba_write {M : Model} {a : Addr} {b : Array UInt8} {f : Array UInt8 → Array UInt8} {Q : Unit → Shared → Prop} (ha : s.heap.get? a = some (baObj b)) (hz : (f b).size ≤ sizeLine)
    (h : ∀ h', Heap.SameBut a s.heap h' → h'.get? a = some (baObj (f b)) → Q () { s with heap := h' }) : wpAny M A (Builtin.Bytes.write (.ref a) f) Q E s := by
  have hu : (s.heap.update a (Obj.mapBytearray f)).get? a = some (baObj (f b)) := Heap.get?_update_self _ ha rfl
  refine wpAny_bind (wpAny_load ha ?_)
  refine wpAny_bind (wpAny_update ha ?_)
  refine wpAny_lookBehind hu ?_ (h _ (Heap.SameBut.update ..) hu)
  show (if (f b).size > sizeLine then some "bytearray:memory" else none) = none
  rw [if_neg (Nat.not_lt.mpr hz)]
theorem ba_init {a : Addr} {n : Int} {t : Tok} {Q : Fin → Shared → Prop} (ha : s.heap.get? a = some (baObj #[])) (hn : 0 ≤ n) (hz : n ≤ 2 ^ 20)
    (h : ∀ h', Heap.SameBut a s.heap h' → h'.get? a = some (baObj (Array.replicate n.toNat 0)) → Q (.done (.ret .none)) { s with heap := h' }) : wpS (model prog w) A (Builtin.«bytearray.__init__» ⟨[.ref a, .int n t], []⟩) Q E s := by
  unfold Builtin.«bytearray.__init__»
  dsimp only
  refine sBind (toS (ba_rel ha ?_))
  rw [if_neg Bool.false_ne_true]
  refine sBind (toS (wpAny_of_eq (a := [some (.int n t), none, none]) (by kernel_rfl) ?_))
  dsimp only
  refine sBind (toS (wpAny_of_eq (a := ()) rfl ?_))
  refine sBind (toS (wpAny_of_eq (a := ()) rfl ?_))
  refine sBind (sBind (sExported ?_))
  refine sMono (Q := fun b s' => b = false ∧ s' = s) (E := fun _ _ => False) ?_ ?_ fun _ _ x => x.elim
  · exact toS (wpAny_bind (wpAny_bind (wpAny_load ha (wpAny_pure (wpAny_pure ⟨rfl, rfl⟩)))))
  rintro _ _ ⟨rfl, rfl⟩
  rw [if_neg (by decide)]
  refine sBind (toS (ba_write ha (Nat.zero_le _) fun h₁ s₁ a₁ => ?_))
  have fit : Builtin.Bytes.fitsIndex n = true := by
    unfold Builtin.Bytes.fitsIndex
    simp only [Bool.and_eq_true, decide_eq_true_eq]
    exact om10 hn hz
  refine toS (wpAny_bind (wpAny_of_eq (a := none) rfl ?_))
  rw [if_neg (by decide)]
  refine wpAny_bind (wpAny_of_eq (a := ()) rfl ?_)
  refine wpAny_bind (wpAny_specialOf (typeIs_int _ n t) F.slot_int_index.lookup ?_)
  rw [if_pos (by rfl)]
  refine wpAny_bind (wpAny_attempt (wpAny_of_eq (a := n) rfl ?_))
  dsimp only
  rw [fit, if_neg (by decide), if_neg (by exact om13 hn), if_neg (by simp only [beq_iff_eq]; exact om12 hz), if_neg (by unfold Builtin.Bytes.tooLong; simp only [decide_eq_true_eq, sizeLine_eq]; exact om11 hz)]
  refine wpAny_bind (wpAny_rule ?_)
  by_cases h0 : n > 0
  · rw [if_pos h0]
    refine wpAny_bind (ba_write a₁ (by rw [Array.size_replicate, sizeLine_eq]; exact om14 hz) fun h₂ s₂ a₂ => wpAny_pure (h h₂ (s₁.trans s₂) a₂))
  · rw [if_neg h0]
    have e : n.toNat = 0 := by exact om15 h0
    rw [e] at h
    exact wpAny_pure (h h₁ s₁ a₁)
theorem codeSBuiltin {R : Result → Shared → Prop} {id : String} {args : Args} {b : Builtin} (hb : entryFor table id = some b)
    (h : wpS (model prog w) (A.under (.builtin id args)) (b args) (fun fin s' => match fin with | .done f => R (.ok f) s' | .again c' => c'.quiet = true ∧ holdsBa c' = false ∧ codeS (model prog w) A c' R s') (fun e s' => R (.error e) s') s) :
    codeS (model prog w) A (.builtin id args) R s := by
  have e : (model prog w).den (.builtin id args) = b args := by
    show denote table (.builtin id args) = b args
    delta denote
    dsimp only
    rw [hb]
  refine codeSTree ?_
  rw [e]
  exact h
/-- bytearray(n) -/
theorem ba_call {n : Int} {t : Tok} {Q : Value → Shared → Prop} (hn : 0 ≤ n) (hz : n ≤ 2 ^ 20)
    (h : ∀ h', (∀ b o, s.heap.get? b = some o → h'.get? b = some o) → h'.get? s.heap.objs.size = some (baObj (Array.replicate n.toNat 0)) → Q (.ref s.heap.objs.size) { s with heap := h' }) : wpS (model prog w) A (call (.type "bytearray") [.int n t]) Q E s := by
  refine sCall (codeSTree ?_)
  refine sPure ⟨Code.quiet_builtin _ (by decide +kernel), show holdIds.contains "type.__call__" = false by decide +kernel, codeSBuiltin F.entry_type_call ?_⟩
  rw [Around.under_plain (weight_type_call_type "bytearray" [.int n t] []) rfl]
  unfold Builtin.«type.__call__»
  dsimp only
  rw [if_neg (by decide +kernel)]
  rw [if_neg (by decide +kernel)]
  refine sBind (toS (wpAny_of_eq (BA.typeCall _) ?_))
  refine sBind (toS (wpAny_of_eq BA.mro ?_))
  rw [if_neg (by decide)]
  refine sBind (toS (wpAny_of_eq BA.made ?_))
  dsimp only
  refine sBind (sPure (sBind (sHolding (toS (ba_new _ ?_)))))
  have hb : (s.heap.push (baObj #[])).get? s.heap.objs.size = some (baObj #[]) := Heap.get?_push_size _ rfl
  refine sBind (toS (wpAny_isInstance (T := "bytearray") (b := true) ⟨_, hb, rfl⟩ BA.sub ?_))
  rw [if_neg (by decide)]
  refine sBind (sHolding ?_)
  unfold callSpecial?
  refine sBind (toS (wpAny_specialOf (T := "bytearray") ⟨_, hb, rfl⟩ BA.lookupInit ?_))
  dsimp only
  refine sHolding (sBind (toS (wpAny_of_eq (BA.slotInit.bind _) ?_)))
  dsimp only
  refine sBind (sCall (codeSTree ?_))
  refine sBind (toS (BA.slotInit.check _ _ _ _ _ _ _ _ ⟨_, hb, rfl⟩ (BA.initCall _ _) ?_))
  refine sPure ⟨plainId_quiet BA.plainInit _, show holdIds.contains "bytearray.__init__" = false by decide +kernel, codeSBuiltin BA.entryInit ?_⟩
  refine ba_init hb hn hz fun h' hs hb' => ?_
  refine sPure ?_
  dsimp only
  rw [if_neg (by decide)]
  exact sPure (h h' (fun b o e => hs.extBut b o (Nat.ne_of_lt (Heap.lt_size e)) (Heap.get?_push_of_some _ e)) hb')
end
end Mine
namespace Mine
open PySem PySem.Calls PyProof.Rows PySem.W
open Sem (wp)
namespace BA
theorem noBytes : typeLookup (.type "bytearray") "__bytes__" = pure none := by rw [typeLookup_type, builtinLookup_eq_fast]; kernel_rfl
theorem noIndex : typeLookup (.type "bytearray") "__index__" = pure none := by rw [typeLookup_type, builtinLookup_eq_fast]; kernel_rfl
theorem lookupBuf : typeLookup (.type "bytearray") "__buffer__" = pure (some (.builtin "bytearray.__buffer__")) := by rw [typeLookup_type, builtinLookup_eq_fast]; kernel_rfl
theorem setCall (a b c : Value) : argsOk "bytearray.__setitem__" ⟨[a, b, c], []⟩ := by unfold argsOk; kernel_rfl
end BA
section
variable {prog : Program} {w : World} {A : Around} {E : Value → Shared → Prop} {s : Shared}
theorem ba_setItem {a : Addr} {b : Array UInt8} {k x : Int} {t u : Tok} {Q : Unit → Shared → Prop} (ha : s.heap.get? a = some (baObj b)) (h0 : 0 ≤ k) (hk : k < 2 ^ 20) (hx : 0 ≤ x ∧ x < 256) (hz : b.size ≤ 2 ^ 20) (hh : A.handled = none)
    (hin : k < b.size → ∀ h', Heap.SameBut a s.heap h' → h'.get? a = some (baObj (b.setIfInBounds k.toNat x.toNat.toUInt8)) → Q () { s with heap := h' })
    (hout : b.size ≤ k → ∀ h' tk e, Heap.NewExc s.heap h' e "IndexError" → E (.ref e) { s with heap := h', toks := tk }) : wpAny (model prog w) A (setItem (.ref a) (.int k t) (.int x u)) Q E s := by
  have hT : s.TypeIs (.ref a) "bytearray" := ⟨_, ha, rfl⟩
  have fit : Builtin.Bytes.fitsIndex k = true := by
    unfold Builtin.Bytes.fitsIndex
    simp only [Bool.and_eq_true, decide_eq_true_eq]
    exact om16 h0 hk
  unfold setItem
  refine wpAny_holding (wpAny_bind (wpAny_sequenceKey hT (by decide) ?_))
  refine wpAny_bind (wpAny_callSpecial?_slot (name := Str.ofString "__setitem__") hT BA.slotSet (wpAny_call_entry BA.slotSet hT BA.entrySet ?_ (BA.setCall _ _ _)))
  unfold Builtin.«bytearray.__setitem__»
  dsimp only
  rw [if_neg (by decide)]
  refine wpAny_bind ?_
  unfold Builtin.Bytes.subscript?
  refine wpAny_bind (wpAny_specialOf (typeIs_int _ k t) F.slot_int_index.lookup ?_)
  rw [if_neg (by decide)]
  refine wpAny_bind (wpAny_of_eq (a := k) rfl ?_)
  rw [if_neg (by rw [fit]; decide)]
  refine wpAny_pure ?_
  dsimp only
  refine wpAny_bind ?_
  unfold Builtin.Bytes.byteValue
  refine wpAny_bind (wpAny_of_eq (a := x) rfl ?_)
  rw [if_neg (by simp only [Bool.or_eq_true, decide_eq_true_eq]; exact om17 hx)]
  refine wpAny_pure ?_
  refine wpAny_bind ?_
  unfold Builtin.Bytes.payload Builtin.Bytes.payload?
  refine wpAny_bind (wpAny_bind (wpAny_load ha (wpAny_pure (wpAny_pure ?_))))
  by_cases q : k < b.size
  · have e : seqIndex? k b.size = some k.toNat := by
      have hn : ¬ k < 0 := by exact om13 h0
      simp [seqIndex?, hn, h0, q]
    rw [e]
    dsimp only
    refine wpAny_bind (ba_write ha ?_ fun h' hs hb => ?_)
    · rw [Array.size_setIfInBounds, sizeLine_eq]; exact om18 hz
    · exact wpAny_pure ⟨_, rfl, wpAny_pure (hin q h' hs hb)⟩
  · have e : seqIndex? k b.size = none := by
      have hn : ¬ k < 0 := by exact om13 h0
      simp [seqIndex?, hn, h0, q]
    rw [e]
    dsimp only
    exact wpAny_bind (wpAny_bind (wpAny_rule (wpAny_raiseErrorWords (msg := "bytearray index out of range") plainExc_IndexError hh (hout (by exact om19 q)))))
theorem ba_bytes {a : Addr} {b : Array UInt8} {Q : Value → Shared → Prop} (ha : s.heap.get? a = some (baObj b)) (hz : b.size ≤ 2 ^ 20) (h : ∀ t k, Q (.bytes b t) { s with toks := k }) : wpAny (model prog w) A (call (.type "bytes") [.ref a]) Q E s := by
  have hT : s.TypeIs (.ref a) "bytearray" := ⟨_, ha, rfl⟩
  refine callType_codes (Q₁ := fun obj s₁ => s₁.TypeIs obj "bytes" ∧ Q obj s₁) F.bm_called (F.bm_typeCall _) F.entry_object_init ?_ fun obj s₁ h₁ => ?_
  · refine codeAny_of_tree ?_
    refine wpAny_bind (wpAny_of_eq (F.bm_newCall _) (wpAny_pure ⟨plainId_quiet F.bm_plain _, codeAny_builtin F.bm_entry ?_⟩))
    rw [Around.under_plainId F.bm_plain _]
    unfold Builtin.«bytes.__new__»
    dsimp only
    refine wpAny_bind (wpAny_of_eq (a := true) rfl ?_)
    rw [if_neg (by decide)]
    refine wpAny_bind (wpAny_of_eq F.bm_sub ?_)
    rw [if_neg (by decide)]
    refine wpAny_bind (wpAny_of_eq (F.bm_bind _) ?_)
    dsimp only
    refine wpAny_bind (wpAny_of_eq (a := ()) rfl (wpAny_bind (wpAny_of_eq (a := ()) rfl ?_)))
    rw [if_neg (by decide)]
    refine wpAny_bind (wpAny_specialOf hT BA.noBytes ?_)
    dsimp only
    refine wpAny_bind (wpAny_bind (wpAny_bind (wpAny_load ha (wpAny_pure (wpAny_pure ?_)))))
    rw [if_neg (by decide)]
    refine wpAny_bind (wpAny_specialOf hT BA.noIndex ?_)
    rw [if_pos (by rfl)]
    show wpAny _ _ (Builtin.Bytes.buffer? "bytes.__new__" (.ref a) true >>= _) _ _ _
    refine wpAny_bind ?_
    unfold Builtin.Bytes.buffer?
    refine wpAny_bind (wpAny_specialOf hT BA.lookupBuf ?_)
    dsimp only
    refine wpAny_bind ?_
    unfold Builtin.Bytes.slotIsOwn
    refine wpAny_bind (wpAny_specialOf hT BA.lookupBuf ?_)
    dsimp only
    rw [if_neg (by decide +kernel)]
    refine wpAny_isInstance (T := "bytearray") (b := true) hT (by rw [show (("bytearray.__buffer__" : String).dropRight ("__buffer__".length + 1)) = "bytearray" from by decide +kernel]; exact BA.sub) ?_
    rw [if_neg (by decide)]
    refine wpAny_bind (wpAny_specialOf hT BA.lookupBuf ?_)
    refine wpAny_bind (ba_rel ha ?_)
    rw [if_neg (by decide)]
    refine wpAny_bind ?_
    unfold Builtin.Bytes.payload Builtin.Bytes.payload?
    refine wpAny_bind (wpAny_bind (wpAny_load ha (wpAny_pure (wpAny_pure (wpAny_pure ?_)))))
    refine wpAny_bind (wpAny_rule ?_)
    refine wpAny_bind ?_
    refine wpAny_mkBytes ?_ (by rw [sizeLine_eq]; exact om18 hz)
    exact fun _ _ _ => ⟨PySem.W.typeIs_bytes _ _ _, h _ _⟩
  · exact ⟨h₁.1, F.args_object_init_2 obj _, object_init_meets F.bm_called.init.lookup F.bm_called.made (by decide) prog w A.in1 _ s₁ ⟨h₁.1, rfl, h₁.2⟩⟩
end
end Mine
namespace Mine
open PySem PySem.Calls PyProof.Rows PySem.W
open Sem (wp)
/-! ## more of statements and calls on clean stacks -/
section
variable {α : Type} {M : Model} {A : Around} {E : Value → Shared → Prop} {s : Shared} {env : Env}
theorem sTail {t : Sem Value} {Q : Value → Shared → Prop} (h : wpS M A t Q E s) : wpS M A (t >>= fun r => holding [r] point >>= fun _ => pure r) Q E s :=
  sBind (sMono h (fun _ _ hr => toS (wpAny_bind (wpAny_holding (wpAny_point (wpAny_pure hr))))) fun _ _ x => x)
/-- a call of something of the machine's own -/
theorem sCallM {pos : Pos} {f : Value} {args : List (Bool × Sem Value)} {kws : List (Option Str × Sem Value)} {Q : Value → Shared → Prop} (hf : keeperOf f = pure .machine) (hp : (args.any (·.1) || kws.any (·.1.isNone)) = false)
    (h : wpAny M A (evalArgs f true args kws) (fun a s₁ => wpS M A (call f a.pos a.kw) Q E s₁) E s) : wpS M A (callWith pos f [] args kws) Q E s := by
  unfold callWith
  refine sBind (sHolding (sMono (toS h) (fun a s₁ h₁ => ?_) fun _ _ x => x))
  refine sBind (sStand ?_)
  rw [hp]
  exact sBind (toS (wpAny_of_eq hf (sTail h₁)))
/-- a call of a function -/
theorem sCallFn {pos : Pos} {f : Addr} {args : List (Bool × Sem Value)} {kws : List (Option Str × Sem Value)} {Q : Value → Shared → Prop} (hp : (args.any (·.1) || kws.any (·.1.isNone)) = false)
    (h : wpAny M A (evalArgs (.ref f) true args kws) (fun a s₁ => (∃ o fd, s₁.heap.get? f = some o ∧ o.data = .func fd) ∧ wpS M A (call (.ref f) a.pos a.kw) Q E s₁) E s) : wpS M A (callWith pos (.ref f) [] args kws) Q E s := by
  unfold callWith
  refine sBind (sHolding (sMono (toS h) (fun a s₁ h₁ => ?_) fun _ _ x => x))
  obtain ⟨⟨o, fd, ho, hd⟩, h₁⟩ := h₁
  refine sBind (sStand ?_)
  rw [hp]
  refine sBind (toS (wpAny_bind (wpAny_load ho ?_)))
  rw [hd]
  refine wpAny_pure ?_
  dsimp only
  by_cases q : args.length + 2 * kws.length > 30
  · rw [if_pos q]; exact sTail h₁
  · rw [if_neg q]; exact sTail (sKeep h₁)
theorem sEvalCall {func : Expr} {args : List Expr} {kws : List Keyword} {pos : Pos} {Q : Value → Shared → Prop}
    (h : wpAny M A (eval func env) (fun f s₁ => wpS M A (callWith pos f [] (backTo pos (starEach args env)) (backToKw pos (keywordEach kws env))) Q E s₁) E s)
    (he : eval (.Call func args kws pos) env = (do callWith pos (← eval func env) [] (backTo pos (starEach args env)) (backToKw pos (keywordEach kws env))) := by rfl) :
    wpS M A (eval (.Call func args kws pos) env) Q E s := by
  rw [he]; exact sBind (toS h)
theorem sRunOwn {c : Code} {h : Option Value} {Q : Flow → Shared → Prop}
    (hc : codeS M (A.mark h) c (fun r s' => match r with | .ok f => Q f s' | .error e => cameBackBy M A env E e s') s) (hb : holdsBa c = false := by rfl) (hnb : h ≠ some byPass := by intro x; cases x) :
    wpS M A (runOwn c env h) Q E s := by
  unfold runOwn
  refine sOnRaise (sMono (sRun hc hb hnb) (fun _ _ x => x) fun _ _ x => toS x)
theorem sNoted {m : Sem α} {Q : α → Shared → Prop} (h : wpS M A m Q (notedBy M A env E) s) : wpS M A (m.onRaise fun x => do noteFrame x env; theTreesLotGoes x) Q E s :=
  sOnRaise (sMono h (fun _ _ q => q) fun _ _ hx => toS (wpAny_bind (wpAny_mono hx (fun _ _ e => wpAny_theTreesLotGoes e) fun _ _ e => e)))
theorem sPassesOwn {t : Sem α} {Q : α → Shared → Prop} (hE : PassesOwn M A env E) (h : wpS M A t Q E s) : wpS M A t Q (notedBy M A env (cameBackBy M A env E)) s := sMono h (fun _ _ x => x) hE
theorem sFor {target iter body orelse pos} {Q : Flow → Shared → Prop}
    (h : wpAny M A (eval iter env) (fun x s₁ => wpAny M A (pyIter x) (fun it s₂ =>
      codeS M A (.forLoop target it body orelse env) (fun r s' => match r with | .ok f => Q f s' | .error e => cameBackBy M A env E e s') s₂) E s₁) E s)
    (hs : ∀ x, foldedSetIterable iter env x = pure x := by intro _; rfl) : wpS M A (exec (.For target iter body orelse pos) env) Q E s := by
  rw [exec_For]
  exact sBind (sStand (sBind (sMono (toS h) (fun x s₁ h₁ => sBind (toS (wpAny_of_eq (hs x) (sBind (sStand (sBind (sHolding (sMono (toS h₁) (fun it s₂ h₂ => sRunOwn h₂) fun _ _ x => x)))))))) fun _ _ x => x)))
/-- a try whose body runs on a clean stack; what it raised is taken up by wpAny -/
theorem sTry {body orelse : List Stmt} {hd : ExceptHandler} {hds : List ExceptHandler} {pos : Pos} {Q : Flow → Shared → Prop}
    (h : wpS M A (execs body env) (fun f s₁ => match f with | .next => wpS M A (execs orelse env) Q E s₁ | f => Q f s₁)
      (fun e s₁ => wpAny M A (do noteFrame e env; setFlight e none; handleBy e env (hd :: hds)) Q E s₁) s) : wpS M A (exec (.Try body (hd :: hds) orelse [] pos) env) Q E s := by
  rw [arm_exec_Try]
  refine sBind (sStand ?_)
  unfold tryStmt
  dsimp only
  rw [if_pos (by rfl)]
  refine sBind (sAttempt (sMono h (fun f s₁ h₁ => ?_) fun e s₁ h₁ => ?_))
  · cases f with
    | next => exact h₁
    | _ => exact sPure h₁
  · exact toS h₁
end
section
variable {prog : Program} {w : World} {A : Around} {E : Value → Shared → Prop} {s : Shared}
theorem codeSBlock {R : Result → Shared → Prop} {body : List Stmt} {env : Env} (h : wpAny (model prog w) A (execs body env) (fun f s₃ => R (.ok f) s₃) (notedBy (model prog w) A env fun e s' => R (.error e) s') s) : codeS (model prog w) A (.block body env) R s := codeToS (codeAny_block h)
theorem codeSFor0 {R : Result → Shared → Prop} {target it body orelse env} (I : Nat → Shared → Prop)
    (turn : ∀ n s, I n s → wpS (model prog w) A (pyNext it) (fun r s₁ => match r with
      | none => wpAny (model prog w) A (execs orelse env) (fun f s₃ => R (.ok f) s₃) (notedBy (model prog w) A env fun e s' => R (.error e) s') s₁
      | some v => wpAny (model prog w) A (assign target env v) (fun _ s₂ => wpS (model prog w) A (execs body env) (fun f s₃ => match f with
          | .next | .cont => ∃ m, m < n ∧ I m s₃
          | .brk => R (.ok .next) s₃
          | .ret v => R (.ok (.ret v)) s₃) (notedBy (model prog w) A env fun e s' => R (.error e) s') s₂) (notedBy (model prog w) A env fun e s' => R (.error e) s') s₁) (notedBy (model prog w) A env fun e s' => R (.error e) s') s)
    (n : Nat) (h : I n s) (ht : ∀ v, letOwnedTupleGo target it v = pure () := by intro _; rfl) : codeS (model prog w) A (.forLoop target it body orelse env) R s := by
  induction n using Nat.strongRecOn generalizing s with
  | ind n ih =>
    refine codeSTree ?_
    show wpS _ _ ((forTurn target it body orelse env).onRaise (fun x => do noteFrame x env; theTreesLotGoes x)) _ _ s
    refine sNoted ?_
    simp only [forTurn]
    refine sBind (sStand (sBind (sOnRaise (sMono (turn n s h) (fun r s₁ h₁ => ?_) fun _ _ h' => toS (wpAny_standAt h')))))
    cases r with
    | none => exact sPure ⟨rfl, rfl, codeSBlock h₁⟩
    | some v =>
      refine sBind (toS (wpAny_of_eq (ht v) ?_))
      refine sBind (sMono (toS h₁) (fun _ s₂ h₂ => sBind (sMono h₂ (fun f s₃ h₃ => ?_) fun _ _ h' => h')) fun _ _ h' => h')
      cases f with
      | next => obtain ⟨m, hm, hI⟩ := h₃; exact sPure ⟨rfl, rfl, ih m hm hI⟩
      | cont => obtain ⟨m, hm, hI⟩ := h₃; exact sPure ⟨rfl, rfl, ih m hm hI⟩
      | brk => exact sPure h₃
      | ret v => exact sPure h₃
theorem codeSFor {R : Result → Shared → Prop} {target : Expr} {it : Value} {body : List Stmt} {env : Env} (I : Nat → Shared → Prop)
    (turn : ∀ (W : Flow → Shared → Prop) (D : Shared → Prop) (X : Value → Shared → Prop) (n : Nat) (s : Shared), (∀ f s', turned R I n f s' → W f s') → (∀ s', R (.ok .next) s' → D s') → (∀ e s', notedBy (model prog w) A env (fun e s' => R (.error e) s') e s' → X e s') → I n s →
      wpS (model prog w) A (pyNext it) (fun r s₁ => match r with
        | none => D s₁
        | some v => wpAny (model prog w) A (assign target env v) (fun _ s₂ => wpS (model prog w) A (execs body env) W X s₂) X s₁) X s)
    (n : Nat) (h : I n s) (ht : ∀ v, letOwnedTupleGo target it v = pure () := by intro _; rfl) : codeS (model prog w) A (.forLoop target it body [] env) R s :=
  codeSFor0 I (fun n s hI => sMono (turn (fun f s₃ => match f with
      | .next | .cont => ∃ m, m < n ∧ I m s₃
      | .brk => R (.ok .next) s₃
      | .ret v => R (.ok (.ret v)) s₃) _ _ n s (fun f _ hq => by cases f <;> exact hq) (fun _ hq => wpAny_execs_nil hq) (fun _ _ q => q) hI) (fun r _ hr => by cases r <;> exact hr) fun _ _ q => q) n h ht
end
end Mine
namespace Mine
open PySem PySem.Calls PyProof.Rows PySem.W
open Sem (wp)
/-! ## raising in a frame -/
section
variable {c : Cx} {m : Str → Option Value} {ℓ : List (Addr × Kn)} {s : Shared} {env : Env} {fr : List Env}
theorem Fx.frs (F : Fx c m ℓ s) (hf : Frs c.sE.heap fr) (hg : ∀ a ∈ frsOf fr, c.G.get? a = none ∧ a ∉ c.S) (hk : env.scope.kind ≠ .module) (hL : env.frame = some c.L) : Frs s.heap (env :: fr) ∧ ∀ a ∈ frsOf (env :: fr), c.G.get? a = none := by
  refine ⟨(hf.ext F.post.ext fun a ha => (hg a ha).2).cons hk hL F.ns, fun a ha => ?_⟩
  obtain ⟨e, he, hl⟩ := List.mem_filterMap.mp ha
  rcases List.mem_cons.mp he with rfl | he
  · rw [hL] at hl; injection hl with hl; rw [← hl]; exact F.gl
  · exact (hg a (List.mem_filterMap.mpr ⟨e, he, hl⟩)).1
theorem Fx.ofEq {ℓ' : List (Addr × Kn)} (F : Fx c m ℓ s) (h : ℓ = ℓ') : Fx c m ℓ' s := h ▸ F
theorem Fx.raise (F : Fx c m ℓ s) (hf : Frs c.sE.heap fr) (hg : ∀ a ∈ frsOf fr, c.G.get? a = none ∧ a ∉ c.S) (hk : env.scope.kind ≠ .module) (hL : env.frame = some c.L) {h' : Heap} {e : Addr} {cls : String} {tk : Nat} (hx : Heap.NewExc s.heap h' e cls)
    {P : String → Heap → Prop} (hP : P cls s.heap) : EX c.sE c.G env fr c.L P (.ref e) { s with heap := h', toks := tk } := by
  obtain ⟨f1, f2⟩ := F.frs hf hg hk hL
  obtain ⟨h₀, k₀, e₀⟩ := F.sh
  exact ⟨e, s.heap, .new, cls, rfl, hP, ⟨h', tk, by rw [e₀]⟩, Exc.ofNew f1 F.kg f2 hx, trivial⟩
/-- a call that raised: it comes through -/
theorem Fx.relay (F : Fx c m ℓ s) {s' : Shared} {hR : Heap} {e : Addr} {cls : String} (hs : ∃ h tk, s' = { s with heap := h, toks := tk }) (x : Exc c.G hR (env :: fr) e cls (.at .none) s'.heap) {P : String → Heap → Prop} (hP : P cls hR) :
    EX c.sE c.G env fr c.L P (.ref e) s' := by
  obtain ⟨h₀, k₀, e₀⟩ := F.sh
  obtain ⟨h₁, k₁, e₁⟩ := hs
  exact ⟨e, hR, _, cls, rfl, hP, ⟨h₁, k₁, by rw [e₁, e₀]⟩, x, .inl rfl⟩
theorem Fx.grown (F : Fx c m ℓ s) {h' : Heap} {k : Kn} {tk : Nat} (hk : ∀ b o, s.heap.get? b = some o → h'.get? b = some o) (ha : At h' s.heap.objs.size k) :
    Fx c m ((s.heap.objs.size, k) :: ℓ) { s with heap := h', toks := tk } ∧ Fresh c s.heap.objs.size := by
  have F' : Fx c m ℓ { s with heap := h', toks := tk } := F.after0 ⟨⟨h', tk, rfl⟩, fun b o e => hk b o (F.kg b o e), Ext.of_keeps hk, fun _ q => nomatch q⟩
  exact F'.add F (get?_size _) F.alive ha
end
/-! ## _byteswap -/
def bswErr (width : Int) (n : Nat) : Option String := if width = 0 then some "ValueError" else if 0 < width ∧ n % width.toNat ≠ 0 then some "IndexError" else none
def bswAt (w : Nat) (row : List UInt8) (p : Nat) : UInt8 := row.getD (p / w * w + (w - 1 - p % w)) 0
def bswOut (width : Int) (row : List UInt8) : List UInt8 := if width ≤ 0 then List.replicate row.length 0 else (List.range row.length).map (bswAt width.toNat row)
theorem small_of {x y z : Int} (hx : -(2 ^ 40) ≤ x ∧ x ≤ 2 ^ 40) (hy : -(2 ^ 40) ≤ y ∧ y ≤ 2 ^ 40) (hz : -(2 ^ 40) ≤ z ∧ z ≤ 2 ^ 40) (h0 : z ≠ 0) : Builtin.Range.small x y z = true := by
  have hb : -(2 ^ 62) ≤ Builtin.Range.rangeSize x y z ∧ Builtin.Range.rangeSize x y z < 2 ^ 62 := by
    unfold Builtin.Range.rangeSize
    split
    · split
      · have h1 := Int.ediv_le_self (a := y - x - 1) z (by omega)
        have h2 := Int.ediv_nonneg (a := y - x - 1) (b := z) (by omega) (by omega)
        omega
      · exact om20
    · split
      · have h1 := Int.ediv_le_self (a := x - y - 1) (-z) (by omega)
        have h2 := Int.ediv_nonneg (a := x - y - 1) (b := -z) (by omega) (by omega)
        omega
      · exact om20
  unfold Builtin.Range.small
  rw [fitsLong_of (by exact om22 hx) (by exact om21 hx), fitsLong_of (x := y) (by exact om22 hy) (by exact om21 hy), fitsLong_of (x := z) (by exact om22 hz) (by exact om21 hz), fitsLong_of hb.1 hb.2]
  simp only [Bool.true_and, Bool.or_eq_true]
  refine .inr ?_
  split <;> exact fitsLong_of (by omega) (by omega)
section
variable {prog : Program} {w : World} {A : Around} {E : Value → Shared → Prop} {s : Shared} {c : Cx} {m : Str → Option Value} {ℓ : List (Addr × Kn)} {Q : Value → Shared → Prop}
theorem range3_zero {x y z : Int} {t u v : Tok} (hz : z = 0) (hh : A.handled = none) (h : ∀ h' tk e, Heap.NewExc s.heap h' e "ValueError" → E (.ref e) { s with heap := h', toks := tk }) :
    wpAny (model prog w) A (call (.type "range") [.int x t, .int y u, .int z v]) Q E s := by
  subst hz
  exact callType_new F.called_range (by decide) (F.typeCall_range_3 _ _ _) (F.newCall_range_3 _ _ _) (fun obj => F.initArgs_range_3 obj _ _ _) F.entry_range_new
    (AutoRange.range___new___type_int_int_int_0 x y 0 t u v F.called_range.sub (by decide)) ⟨hh, h⟩
theorem plain2 {env : Env} {pos : Pos} {e₁ e₂ : Expr} (h1 : starEach [e₁, e₂] env = (false, eval e₁ env) :: starEach [e₂] env := by rfl) (h2 : starEach [e₂] env = [(false, eval e₂ env)] := by rfl) : (backTo pos (starEach [e₁, e₂] env)).any (·.1) = false := by
  rw [h1, h2]; rfl
theorem lenB {l : List UInt8} {t : Tok} (F : Fx c m ℓ s) (hz : l.length ≤ 2 ^ 20) (h : ∀ t s', Fx c m ℓ s' → Q (.int l.length t) s') : wpAny (model prog w) A (call (.builtin "len") [.bytes l.toArray t]) Q E s :=
  len_bytes (by rw [List.size_toArray]; exact om23 hz) (by rw [List.size_toArray]; exact h _ _ (F.toks _))
theorem subB {value slice : Expr} {l : List UInt8} {i : Int} {t u : Tok} (F : Fx c m ℓ s) (hz : l.length ≤ 2 ^ 20) (h0 : 0 ≤ i) (h1 : i < l.length) (h : ∀ t s', Fx c m ℓ s' → Q (.int (l.getD i.toNat 0).toNat t) s')
    (hs : subscripted slice false (.bytes l.toArray t) (.int i u) = operate [.bytes l.toArray t, .int i u] (getItem (.bytes l.toArray t) (.int i u)) := by with_unfolding_all rfl) :
    wpAny (model prog w) A (subscriptTail value slice (.bytes l.toArray t) (.int i u)) Q E s :=
  tail_any (typeIs_bytes _ _ _) FB.slot_bytes_getitem.lookup (getItem_bytes (by exact om23 hz) h0 h1 (h _ _ (F.toks _))) hs
theorem setB {a : Addr} {b : Array UInt8} {k x : Int} {t u : Tok} {Q : Unit → Shared → Prop} (F : Fx c m ((a, .ex (baObj b)) :: ℓ) s) (ow : Own c a) (h0 : 0 ≤ k) (hk : k < 2 ^ 20) (hx : 0 ≤ x ∧ x < 256) (hz : b.size ≤ 2 ^ 20) (hh : A.handled = none)
    (hin : k < b.size → ∀ s', Fx c m ((a, .ex (baObj (b.setIfInBounds k.toNat x.toNat.toUInt8))) :: ℓ) s' → Q () s')
    (hout : b.size ≤ k → ∀ h' tk e, Heap.NewExc s.heap h' e "IndexError" → E (.ref e) { s with heap := h', toks := tk }) : wpAny (model prog w) A (setItem (.ref a) (.int k t) (.int x u)) Q E s :=
  ba_setItem (F.at (.head _)).get h0 hk hx hz hh (fun q h' hs e => hin q _ (F.turn ow hs.extBut (At.of e))) hout
set_option maxHeartbeats 1000000 in
theorem byteswap_spec {G : Heap} {fr : List Env} {row : List UInt8} {width : Int} {td tw : Tok} (B : Base G) (kg : G.StaysIn s.heap) (rm : Rm A 4) (hA : A.frames = some fr) (hf : Frs s.heap fr) (hg : ∀ a ∈ frsOf fr, G.get? a = none)
    (hn : row.length ≤ 1000) (hw : -2 ≤ width ∧ width ≤ 4)
    (h : bswErr width row.length = none → ∀ t s', Post G [] s s' → Q (.bytes (bswOut width row).toArray t) s')
    (hE : ∀ cls, bswErr width row.length = some cls → ∀ e hR s', (∃ h tk, s' = { s with heap := h, toks := tk }) → Ext [] s.heap hR → Exc G hR fr e cls (.at .none) s'.heap → E (.ref e) s') :
    wpS (model prog w) A (call (.ref 89) [.bytes row.toArray td, .int width tw]) Q E s := by
  refine sEnter (i := 12) (cd := 88) (args := ⟨[.bytes row.toArray td, .int width tw], []⟩) (binds := [("data", .bytes row.toArray td), ("width", .int width tw)]) B kg (B.fn (12, 89, 88, .none) (by decide)) rm [] (fun _ q => nomatch q) [] .nil (fun _ q => nomatch q) (fun doc pm an ct => BindsTo.of_eq rfl) ?_
  intro L A' Z X s₁ rm' hAe hZ hX F
  have hA' : A'.frames = some (envI 12 L 89 88 :: fr) := by rw [hAe]; show A.frames.map _ = _; rw [hA]; rfl
  have hg' : ∀ a ∈ frsOf fr, G.get? a = none ∧ a ∉ ([] : List Addr) := fun a ha => ⟨hg a ha, fun q => nomatch q⟩
  obtain ⟨Y, hY, hpass⟩ : ∃ Y : Value → Shared → Prop, (∀ v s', EX s G (envI 12 L 89 88) fr L (fun cls hR => bswErr width row.length = some cls ∧ Ext [] s.heap hR) v s' ↔ Y v s') ∧ PassesOwn (model prog w) A' (envI 12 L 89 88) Y := ⟨_, fun _ _ => Iff.rfl, EX.passes hA' rfl⟩
  refine sMono (Q := Z) (E := Y) ?_ (fun _ _ x => x) fun v s' x => hX _ _ (EX.leave hA' rfl ((hY _ _).mpr x) fun e cls hR s'' hv hP hs hx => ?_)
  rotate_left
  · rw [hv]; exact hE cls hP.1 e hR s'' hs hP.2 hx
  have hkind : (envI 12 L 89 88).scope.kind ≠ .module := show (fdAt 12).scope.kind ≠ .module by decide
  have hh : A'.handled = none := rm'.hh
  refine sExecs (sAssign (sEvalCall (nmB B F rfl (sCallM rfl rfl (evalArgs_plain (args_cons (Call_ (nmB B F rfl (callWith_builtin1 (args_cons (nmL F rfl (args_nil (lenB F (by exact om24 hn) fun t₁ s₂ F => args_nil ?_)))))))))))))
  refine ba_call (by exact om26) (by exact om25 hn) fun h' hk' hb' => ?_
  obtain ⟨F, frs⟩ := F.grown (tk := s₂.toks) hk' (At.of hb')
  refine stL F fun s₃ F => ?_
  clear hk' hb'
  generalize s₂.heap.objs.size = sd at F frs
  rw [Int.toNat_natCast] at F
  refine toS (ec (wpAny_For (Call_ (nmB B F rfl (PyProof.Rows.callWith_type1 (hplain := plain2) (args_cons (ci F fun _ _ F => args_cons (Call_ (nmB B F rfl (callWith_builtin1 (args_cons (nmL F rfl (args_nil (lenB F (by exact om24 hn) fun _ s₄ F => args_cons (nmL F rfl (args_nil ?_))))))))))))))))
  by_cases hz : width = 0
  · exact range3_zero hz hh fun h' tk e hx => (hY _ _).mp (F.raise hf hg' hkind rfl hx ⟨by unfold bswErr; rw [if_pos hz], F.post.ext⟩)
  refine range3 F hz (PyProof.noPylong_small (by exact om30 hw)) fun r s₅ F _ => iterRange F (.head _) (small_of (by exact om29) (by exact om28 hn) (by exact om27 hw) hz) fun it s₆ F fi => ?_
  have F := (F.sublist (((List.Sublist.refl _).cons _).cons₂ _)).swap
  have hT0 : 0 ≤ Builtin.Range.rangeSize 0 row.length width := by
    unfold Builtin.Range.rangeSize
    split
    · split
      · have h2 := Int.ediv_nonneg (a := (row.length : Int) - 0 - 1) (b := width) (by omega) (by omega)
        exact om31 h2
      · exact om32
    · split
      · omega
      · exact om32
  have hTk : ∀ k : Nat, (k : Int) < Builtin.Range.rangeSize 0 row.length width ↔ 0 < width ∧ (k : Int) * width < row.length := fun k => by
    unfold Builtin.Range.rangeSize
    split
    · rename_i hp
      split
      · have h2 := Int.le_ediv_iff_mul_le (a := (k : Int)) (b := (row.length : Int) - 0 - 1) (c := width) hp
        constructor
        · intro q; have := h2.mp (by exact om34 q); exact ⟨hp, by exact om33 this⟩
        · intro q; have := h2.mpr (by exact om36 q); exact om35 this
      · constructor
        · intro q; exact om37 q
        · rintro ⟨_, q⟩; have := Int.mul_nonneg (a := (k : Int)) (b := width) (by exact om26) (by exact om38 hp); omega
    · split
      · omega
      · constructor
        · intro q; exact om37 q
        · rintro ⟨q, _⟩; omega
  obtain ⟨T, hT⟩ := Int.eq_ofNat_of_zero_le hT0
  rw [hT] at F
  simp only [hT] at hTk
  clear hT hT0
  refine aFor (fun n s' => ∃ (b : Array UInt8) (k : Nat) (m' : Str → Option Value), Fx ⟨G, L, [], s⟩ m' ((sd, .ex (baObj b)) :: (it, .riter ((k : Int) * width) ((T : Int) - k) width) :: []) s' ∧ m' "data" = some (.bytes row.toArray td) ∧ m' "width" = some (.int width tw) ∧
    m' "swapped_data" = some (.ref sd) ∧ b.size = row.length ∧ k ≤ T ∧ (0 < width → (k : Int) * width ≤ row.length) ∧ (∀ p : Nat, (p : Int) < k * width → b.getD p 0 = bswAt width.toNat row p) ∧ (width < 0 → b = Array.replicate row.length 0) ∧ n = T - k) ?_ T
    ⟨_, 0, _, by rw [show ((0 : Nat) : Int) * width = 0 from Int.zero_mul _, show (T : Int) - ((0 : Nat) : Int) = T from Int.sub_zero _]; exact F, rfl, rfl, rfl, by rw [Array.size_replicate], Nat.zero_le _, fun _ => by rw [show ((0 : Nat) : Int) * width = 0 from Int.zero_mul _]; exact om26, fun p hp => by rw [show ((0 : Nat) : Int) * width = 0 from Int.zero_mul _] at hp; exact (om39 hp).elim, fun _ => rfl, rfl⟩
  rintro W D X2 n s₇ hW hD hX2 ⟨b, k, m', F, m1, m2, m3, hbs, hkT, hkN, hpre, hneg, rfl⟩
  refine nextR F.swap fi hh (fun h0 ti s₈ F => ?_) fun h0 s₈ F => ?_
  · obtain ⟨hwp, hkN'⟩ := (hTk k).mp (by exact om40 h0)
    obtain ⟨v, rfl⟩ := Int.eq_ofNat_of_zero_le (Int.le_of_lt hwp)
    rw [Int.toNat_natCast] at hpre
    have hkv : k * v < row.length := by exact_mod_cast hkN'
    have hkv1 : (k + 1) * v = k * v + v := Nat.succ_mul k v
    have hv4 : 0 < v := by exact om41 hwp
    refine wpAny_assign_Name (stL F fun s₉ F => wpAny_mono (E := Y) ?_ (fun _ _ q => q) fun _ _ q => hX2 _ _ (hpass _ _ q))
    rw [show (k : Int) * (v : Int) = ((k * v : Nat) : Int) from by push_cast; rfl] at F
    have F := F.swap
    refine ec (wpAny_For (Call_ (nmB B F rfl (PyProof.Rows.callWith_type1 (args_cons (nmL F m2 (args_nil (range1 F fun r _ _ s₁₀ F _ => iterRange F (.head _) (small_of (by exact om29) (by exact om43 hw) (by exact om42) (by decide)) fun jt s₁₁ F fj => ?_))))))))
    rw [revSize] at F
    have F := (F.sublist (((List.Sublist.refl _).cons _).cons₂ _)).swap
    refine aFor (fun n s' => ∃ (b : Array UInt8) (j : Nat) (m' : Str → Option Value), Fx ⟨G, L, [], s⟩ m' ((sd, .ex (baObj b)) :: (jt, .riter j ((v : Int) - j) 1) :: (it, .riter (((k * v : Nat) : Int) + v) ((T : Int) - k - 1) v) :: []) s' ∧ m' "data" = some (.bytes row.toArray td) ∧ m' "width" = some (.int v tw) ∧
      m' "swapped_data" = some (.ref sd) ∧ m' "i" = some (.int ((k * v : Nat) : Int) ti) ∧ b.size = row.length ∧ j ≤ v ∧ (∀ p : Nat, p < k * v → b.getD p 0 = bswAt v row p) ∧ (∀ p : Nat, k * v + v - j ≤ p → p < k * v + v → b.getD p 0 = bswAt v row p) ∧ (0 < j → k * v + v ≤ row.length) ∧ n = v - j) ?_ v
      ⟨b, 0, _, F.ofEq (by rw [show (v : Int) - ((0 : Nat) : Int) = v from Int.sub_zero _]; rfl), m1, m2, m3, rfl, hbs, Nat.zero_le _, fun p hp => hpre p (by exact_mod_cast hp), fun p h1 h2 => by exact (om45 h1 h2).elim, fun q => by exact om44 q, rfl⟩
    clear F m1 m2 m3 hpre hneg hbs
    rintro W3 D3 X3 n s₁₂ hW3 hD3 hX3 ⟨b, j, m', F, m1, m2, m3, m4, hbs, hj, hpre, hdone, hfit, rfl⟩
    refine nextR F.swap fj hh (fun h0 tj s₁₃ F => ?_) fun h0 s₁₃ F => ?_
    · have F := F.swap
      refine wpAny_assign_Name (stL F fun s₁₄ F => wpAny_mono (E := Y) ?_ (fun _ _ q => q) fun _ _ q => hX3 _ _ (hpass _ _ q))
      have hjN : k * v + j < row.length := by
        rcases Nat.eq_zero_or_pos j with q | q
        · omega
        · have := hfit q; exact om46 h0 this
      have hkj : ((k * v : Nat) : Int) + (j : Int) = ((k * v + j : Nat) : Int) := by push_cast; rfl
      have hkt : ((k * v : Nat) : Int) + (v : Int) - 1 - (j : Int) = ((k * v + v - 1 - j : Nat) : Int) := by exact om47 h0
      refine ec (wpAny_Assign_Subscript (Subscript_ (nmL F m1 (wpAny_BinOp (nmL F m4 (nmL F rfl (iAdd F fun _ _ F => subB F (by exact om24 hn) (by exact om49) (by exact om48 hjN) fun tx _ F => nmL F m3 (wpAny_BinOp (wpAny_BinOp (wpAny_BinOp (nmL F m4 (nmL F m2 (iAdd F fun _ _ F => ci F fun _ _ F => iSub F fun _ _ F => nmL F rfl (iSub F fun _ s₁₅ F => ?_))))))))))))))
      rw [hkj, hkt, Int.toNat_natCast]
      refine setB F frs.own (by exact om52) (by omega) ⟨by exact om26, by have := (row.getD (k * v + j) 0).toNat_lt; exact om51 this⟩ (by exact om50 hn hbs) hh (fun hin s₁₆ F => ?_) fun hout h' tk e hx => ?_
      · refine wpAny_execs_nil (hW3 .next _ ⟨v - (j + 1), by exact om55 h0, _, j + 1, _, F.ofEq (by rw [show ((j + 1 : Nat) : Int) = (j : Int) + 1 from by push_cast; rfl, show (v : Int) - ((j : Int) + 1) = (v : Int) - j - 1 from by exact om54]), m1, m2, m3, m4, ?_, by exact om53 h0, ?_, ?_, fun _ => ?_, rfl⟩)
        · rw [Array.size_setIfInBounds]; exact hbs
        · intro p hp
          rw [← hpre p hp, Int.toNat_natCast]
          simp only [Array.getD_eq_getD_getElem?]
          rw [Array.getElem?_setIfInBounds_ne (by exact om56 h0 hp)]
        · intro p h1 h2
          rw [Int.toNat_natCast]
          simp only [Array.getD_eq_getD_getElem?]
          by_cases q : k * v + v - 1 - j = p
          · rw [q, Array.getElem?_setIfInBounds_self_of_lt (by exact om57 hin q)]
            unfold bswAt
            have e1 : p / v = k := by
              rw [show p = (v - 1 - j) + k * v from by exact om60 h0 q, Nat.add_mul_div_right _ _ hv4, Nat.div_eq_of_lt (by exact om59 h0)]; exact om58
            have e2 : p % v = v - 1 - j := by
              rw [show p = (v - 1 - j) + k * v from by exact om60 h0 q, Nat.add_mul_mod_self_right, Nat.mod_eq_of_lt (by exact om59 h0)]
            rw [e1, e2, show k * v + (v - 1 - (v - 1 - j)) = k * v + j from by exact om61 h0, Option.getD_some, Int.toNat_natCast]
            exact UInt8.ofNat_toNat
          · rw [Array.getElem?_setIfInBounds_ne q, ← Array.getD_eq_getD_getElem?]
            exact hdone p (by exact om62 h1 q) h2
        · rcases Nat.eq_zero_or_pos j with q | q
          · exact om63 hbs hin q
          · exact hfit q
      · refine (hY _ _).mp (F.raise hf hg' hkind rfl hx ⟨?_, F.post.ext⟩)
        have hj0 : j = 0 := by
          rcases Nat.eq_zero_or_pos j with q | q
          · exact q
          · have := hfit q; exact om64 hbs hkt hout this
        have hne : row.length % v ≠ 0 := fun q => by
          obtain ⟨d, hd⟩ := Nat.dvd_of_mod_eq_zero q
          have h3 : k < d := by
            refine Nat.lt_of_mul_lt_mul_left (a := v) ?_
            rw [← hd, Nat.mul_comm]; exact hkv
          have h4 : v * (k + 1) ≤ v * d := Nat.mul_le_mul_left v h3
          rw [← hd, Nat.mul_comm, hkv1] at h4
          exact om65 hbs hkt hout h4
        unfold bswErr
        rw [if_neg hz, if_pos ⟨hwp, by rw [Int.toNat_natCast]; exact hne⟩]
    · have hjv : j = v := by exact om66 hj h0
      have hfit' := hfit (by exact om67 hwp h0)
      refine hD3 _ (wpAny_execs_nil (hW .next _ ⟨T - (k + 1), by omega, b, k + 1, _, F.ofEq (by rw [show ((k + 1 : Nat) : Int) * (v : Int) = ((k * v : Nat) : Int) + v from by push_cast; rw [Int.add_mul]; exact om69, show (T : Int) - ((k + 1 : Nat) : Int) = (T : Int) - k - 1 from by exact om68]), m1, m2, m3, hbs, by omega, fun _ => ?_, fun p hp => ?_, fun q => by exact (om39 q).elim, rfl⟩))
      · have : ((k + 1 : Nat) : Int) * (v : Int) = ((k * v + v : Nat) : Int) := by rw [← hkv1]; push_cast; rfl
        rw [this]; exact om70 hfit'
      · have : ((k + 1 : Nat) : Int) * (v : Int) = ((k * v + v : Nat) : Int) := by rw [← hkv1]; push_cast; rfl
        rw [this] at hp
        rw [Int.toNat_natCast]
        by_cases q : p < k * v
        · exact hpre p q
        · exact hdone p (by exact om72 h0 q) (by exact om71 hp)
  · refine hD _ (ec (wpAny_Return_some (Call_ (nmB B F rfl (callWith_type1 (args_cons (nmL F m3 (args_nil (ba_bytes (F.at (.head _)).get (by exact om50 hn hbs) fun t tk => ?_)))))))))
    have hNk : ¬ (0 < width ∧ (k : Int) * width < row.length) := fun q => by have := (hTk k).mpr q; exact om73 h0 this
    have hnone : bswErr width row.length = none := by
      unfold bswErr
      rw [if_neg hz, if_neg]
      rintro ⟨q1, q2⟩
      have e1 := hkN q1
      have e2 : (k : Int) * width = row.length := by have := fun q => hNk ⟨q1, q⟩; exact om74 hNk q1 e1
      obtain ⟨v, rfl⟩ := Int.eq_ofNat_of_zero_le (Int.le_of_lt q1)
      have e3 : k * v = row.length := by exact_mod_cast e2
      rw [Int.toNat_natCast, ← e3] at q2
      exact q2 (Nat.mul_mod_left _ _)
    have hout : b = (bswOut width row).toArray := by
      unfold bswOut
      by_cases q : 0 < width
      · rw [if_neg (by exact om75 q)]
        refine Array.ext (by simp [hbs]) fun i h1 h2 => ?_
        have e2 : (k : Int) * width = row.length := by have := fun q' => hNk ⟨q, q'⟩; have := hkN q; omega
        have e3 := hpre i (by exact om76 hbs h1 e2)
        have e4 : b.getD i 0 = b[i] := by simp [Array.getD, h1]
        rw [← e4, e3]
        simp
      · rw [if_pos (by exact om77 q), hneg (by omega)]
        simp
    rw [hout]
    exact hZ _ _ (h hnone t _ (F.toks tk).post)
end
end Mine
namespace Mine
open PySem PySem.Calls PyProof.Rows PySem.W
open Sem (wp)
/-! ## functions with cells -/
def cellsAt (i : Nat) : List (Str × Nat) := cellsFrom 0 (fdAt i).scope.names []
abbrev shiftC (n : Nat) (l : List (Str × Nat)) : List (Str × Addr) := l.map fun p => (p.1, n + p.2)
theorem cellsFrom_shift (n : Nat) : ∀ (names : List (Str × NameKind)) (k : Nat) (acc : List (Str × Nat)), cellsFrom (n + k) names (shiftC n acc) = shiftC n (cellsFrom k names acc)
  | [], _, _ => rfl
  | (x, kind) :: r, k, acc => by
    unfold cellsFrom
    split
    · exact cellsFrom_shift n r (k + 1) ((x, k) :: acc)
    · exact cellsFrom_shift n r k acc
theorem cellsFrom_at (n : Nat) (names : List (Str × NameKind)) : cellsFrom n names [] = shiftC n (cellsFrom 0 names []) := cellsFrom_shift n names 0 []
theorem lookup_shift (n : Nat) (x : Str) : ∀ l : List (Str × Nat), (shiftC n l).lookup x = (l.lookup x).map (n + ·)
  | [] => rfl
  | (y, k) :: r => by
    have ih := lookup_shift n x r
    simp only [shiftC, List.map_cons, List.lookup_cons] at ih ⊢
    split
    · rfl
    · exact ih
abbrev envC (i : Nat) (L f cd : Addr) : Env := envX (fdAt i).name (fdAt i).scope L f (.ref cd) (shiftC (L + 1) (cellsAt i))
abbrev cellLed (i : Nat) (L : Addr) (cm : Str → Option Value) : List (Addr × Kn) := (cellsAt i).map fun p => (L + 1 + p.2, Kn.cell (cm p.1))
theorem Fx.cells {G : Heap} {s s' : Shared} {S : List Addr} {ℓ : List (Addr × Kn)} {L : Addr} {m cm : Str → Option Value} {cs : List (Str × Nat)} (x : InCallC s L m (shiftC (L + 1) cs) cm s') (hL : L = s.heap.objs.size) (kg : G.StaysIn s.heap) (hS : ∀ a ∈ S, G.get? a = none ∧ ∃ o, s.heap.get? a = some o)
    (nd : (ℓ.map (·.1)).Nodup) (hℓ : ∀ p ∈ ℓ, At s.heap p.1 p.2) (hcs : ∀ p ∈ cs, cs.lookup p.1 = some p.2) : Fx ⟨G, L, S, s⟩ m ((cs.map fun p => (L + 1 + p.2, Kn.cell (cm p.1))) ++ ℓ) s' := by
  have hlt : ∀ {a o}, s.heap.get? a = some o → a < L := fun e => by rw [hL]; exact Heap.lt_size e
  have hk := x.toInCall.keep
  have hled : ∀ p ∈ ℓ, p.1 < L := fun p hp => let ⟨_, e, _⟩ := hℓ p hp; hlt e
  refine ⟨x.toInCall.same, fun b o e => hk b o (kg b o e), x.toInCall.ns, ?_, fun p hp => ?_, Ext.of_keeps hk, fun a ha => ?_, ?_, ?_⟩
  · rw [List.map_append]
    refine List.nodup_append.mpr ⟨?_, nd, fun a ha b hb q => ?_⟩
    · have := x.apart
      rw [List.pairwise_map] at this
      rw [List.map_map]
      exact List.pairwise_map.mpr this
    · obtain ⟨p, hp, rfl⟩ := List.mem_map.mp hb
      rw [List.map_map] at ha
      obtain ⟨p', _, e⟩ := List.mem_map.mp ha
      have h1 := hled p hp
      have h2 : L + 1 + p'.2 = a := e
      rw [← q, ← h2] at h1
      exact absurd h1 (Nat.not_lt.mpr (Nat.le_trans (Nat.le_add_right L 1) (Nat.le_add_right _ _)))
  · rcases List.mem_append.mp hp with hp | hp
    · obtain ⟨p', hp', rfl⟩ := List.mem_map.mp hp
      refine ⟨Nat.ne_of_gt (Nat.lt_of_lt_of_le (Nat.lt_succ_self L) (Nat.le_add_right (L + 1) p'.2)), x.cell p'.1 _ ?_⟩
      rw [lookup_shift, hcs p' hp']; rfl
    · obtain ⟨o, e, q⟩ := hℓ p hp
      exact ⟨Nat.ne_of_lt (hlt e), o, hk _ _ e, q⟩
  · obtain ⟨o, e⟩ := (hS a ha).2; exact ⟨o, hk _ _ e⟩
  · cases q : G.get? L with
    | none => rfl
    | some o => exact absurd (hlt (kg _ _ q)) (Nat.lt_irrefl _)
  · show s.heap.get? L = none
    rw [hL]; exact get?_size _
section
variable {prog : Program} {w : World} {A : Around} {E : Value → Shared → Prop} {s : Shared} {R : Result → Shared → Prop}
theorem sCallCells {f : Addr} {o : Obj} {fd : FuncData} {body : List Stmt} {args : Args} {binds : List (Str × Value)} (hroom : A.depth < recursionLimit) (ho : s.heap.get? f = some o) (hd : o.data = .func fd) (hlim : s.heap.NoLimit)
    (hcd : s.heap.CodeRec fd.code fd.qualname) (hbody : fd.body = .stmts body) (hbind : BindsTo s fd args binds) (hclo : fd.closure = [])
    (hkind : ∀ x ∈ binds, fd.scope.names.lookup x.1 = some .local ∨ (fd.scope.names.lookup x.1 = some .cell ∧ ((cellsFrom (s.heap.objs.size + 1) fd.scope.names []).lookup x.1).isSome = true))
    (h : ∀ s₁, InCallC s (callEnvC fd s.heap.objs.size f).locals (bindL (callEnvC fd s.heap.objs.size f).kindOf binds fun _ => none) (callEnvC fd s.heap.objs.size f).cells (bindC (callEnvC fd s.heap.objs.size f).kindOf binds fun _ => none) s₁ →
      wpS (model prog w) (A.deeper (callEnvC fd s.heap.objs.size f)) (execs body (callEnvC fd s.heap.objs.size f)) (fun fl s' => R (.ok (.ret (flv fl))) s')
        (fun e s' => wpAny (model prog w) (A.deeper (callEnvC fd s.heap.objs.size f)) (leaving (callEnvC fd s.heap.objs.size f) e) (fun _ s'' => R (.error e) s'') (fun e' s'' => R (.error e') s'') s') s₁)
    (hco : fd.scope.isCoroutine = false) (hgen : fd.scope.isGenerator = false) (hk : fd.scope.kind = .function) : codeS (model prog w) A (.call (.ref f) args) R s := by
  obtain ⟨c, oc, vs, tq, hc, hoc, hdc, hq⟩ := hcd
  refine codeSTree ?_
  show wpS _ A.in1 (callAny (.ref f) args) _ _ s
  simp only [callAny]
  refine sBind (toS (wpAny_load ho ?_))
  simp only [hd, callFunction, hco, hgen, hbody, hc, hclo]
  refine sBind (toS (wpAny_field hoc hdc hq ?_))
  refine sBind (sPure (sBind (toS (hbind _ _ _ _ ?_))))
  refine sBind (toS (wpAny_newFunctionEnv_cells hk hkind fun env he s' x => ?_))
  subst he
  refine sBind (toS (wpAny_enterFrame (hlim.keeps x.toInCall.keep) hroom (sPure ⟨rfl, rfl, ?_⟩)))
  rw [← hc] at x ⊢
  exact sFunc (h s' x)
/-- where the binds go: all are names of the text, local or cell -/
def bindsOk (i : Nat) (binds : List (Str × Value)) : Bool := (binds.map (·.1)).all fun x => decide ((fdAt i).scope.names.lookup x = some .local) || (decide ((fdAt i).scope.names.lookup x = some .cell) && ((cellsAt i).lookup x).isSome)
theorem bindsOk_kind {i n : Nat} {binds : List (Str × Value)} (h : bindsOk i binds = true) : ∀ x ∈ binds, (fdAt i).scope.names.lookup x.1 = some .local ∨ ((fdAt i).scope.names.lookup x.1 = some .cell ∧ ((cellsFrom n (fdAt i).scope.names []).lookup x.1).isSome = true) := fun x hx => by
  have := List.all_eq_true.mp h x.1 (List.mem_map.mpr ⟨x, hx, rfl⟩)
  simp only [Bool.or_eq_true, Bool.and_eq_true, decide_eq_true_eq] at this
  rcases this with q | ⟨q, r⟩
  · exact .inl q
  · refine .inr ⟨q, ?_⟩
    rw [cellsFrom_at, lookup_shift, Option.isSome_map]; exact r
theorem freshCell {G : Heap} {s : Shared} {S : List Addr} (kg : G.StaysIn s.heap) (hS : ∀ a ∈ S, G.get? a = none ∧ ∃ o, s.heap.get? a = some o) (j : Nat) : Fresh ⟨G, s.heap.objs.size, S, s⟩ (s.heap.objs.size + 1 + j) := by
  have no : s.heap.get? (s.heap.objs.size + 1 + j) = none := Heap.get?_none_of_le (by exact om78)
  refine ⟨⟨no, fun q => ?_⟩, ?_⟩
  · obtain ⟨o, e⟩ := (hS _ q).2
    rw [no] at e; cases e
  · cases q : G.get? (s.heap.objs.size + 1 + j) with
    | none => rfl
    | some o => rw [kg _ _ q] at no; cases no
theorem sEnterC {G : Heap} {Q : Value → Shared → Prop} {i : Nat} {f cd : Addr} {dV : Value} {args : Args} {binds : List (Str × Value)} {k : Nat} (B : Base G) (kg : G.StaysIn s.heap) (hf : FnIs G i f cd dV) (rm : Rm A (k + 1)) (S : List Addr)
    (hS : ∀ a ∈ S, G.get? a = none ∧ ∃ o, s.heap.get? a = some o) (ℓ : List (Addr × Kn)) (nd : (ℓ.map (·.1)).Nodup) (hℓ : ∀ p ∈ ℓ, At s.heap p.1 p.2) (hbind : ∀ doc pm an ct, BindsTo s (fdX i dV doc pm an cd ct) args binds)
    (h : ∀ (L : Addr) (A' : Around) (Z : Flow → Shared → Prop) (X : Value → Shared → Prop) (s₁ : Shared), Rm A' k → A' = A.deeper (envC i L f cd) → (∀ j, Fresh ⟨G, L, S, s⟩ (L + 1 + j)) → (∀ fl s', Q (flv fl) s' → Z fl s') → (∀ e s', wpAny (model prog w) A' (leaving (envC i L f cd) e) (fun _ s'' => E e s'') E s' → X e s') → Fx ⟨G, L, S, s⟩ (bindL (envC i L f cd).kindOf binds fun _ => none) (cellLed i L (bindC (envC i L f cd).kindOf binds fun _ => none) ++ ℓ) s₁ →
      wpS (model prog w) A' (execs (fdAt i).body (envC i L f cd)) Z X s₁)
    (hok : bindsOk i binds = true := by rfl) (hcs : ∀ p ∈ cellsAt i, (cellsAt i).lookup p.1 = some p.2 := by decide)
    (hco : (fdAt i).scope.isCoroutine = false := by rfl) (hgen : (fdAt i).scope.isGenerator = false := by rfl) (hk : (fdAt i).scope.kind = .function := by rfl) :
    wpS (model prog w) A (call (.ref f) args.pos args.kw) Q E s := by
  obtain ⟨o, doc, pm, an, ct, ho, hd, hcd⟩ := hf
  have he : callEnvC (fdX i dV doc pm an cd ct) s.heap.objs.size f = envC i s.heap.objs.size f cd := by
    unfold callEnvC
    rw [show cellsFrom (s.heap.objs.size + 1) (fdX i dV doc pm an cd ct).scope.names [] = shiftC (s.heap.objs.size + 1) (cellsAt i) from cellsFrom_at _ _]
    rfl
  refine sCall (sCallCells (fd := fdX i dV doc pm an cd ct) rm.room (kg _ _ ho) hd (B.lim.keeps kg) (hcd.keeps kg) rfl (hbind doc pm an ct) rfl (bindsOk_kind hok) (fun s₁ x => ?_) hco hgen hk)
  rw [he] at x ⊢
  exact h _ _ _ _ s₁ (rm.deeper _) rfl (freshCell kg hS) (fun _ _ q => q) (fun _ _ q => q) (Fx.cells x rfl kg hS nd hℓ hcs)
theorem enterC {G : Heap} {Q : Value → Shared → Prop} {i : Nat} {f cd : Addr} {dV : Value} {vals : List Value} {binds : List (Str × Value)} {k : Nat} (B : Base G) (kg : G.StaysIn s.heap) (hf : FnIs G i f cd dV) (rm : Rm A (k + 1)) (S : List Addr)
    (hS : ∀ a ∈ S, G.get? a = none ∧ ∃ o, s.heap.get? a = some o) (ℓ : List (Addr × Kn)) (nd : (ℓ.map (·.1)).Nodup) (hℓ : ∀ p ∈ ℓ, At s.heap p.1 p.2) (hbind : ∀ doc pm an ct, bindArgs (fdX i dV doc pm an cd ct) ⟨vals, []⟩ = pure binds)
    (h : ∀ (L : Addr) (A' : Around) (Z : Flow → Shared → Prop) (X : Value → Shared → Prop) (s₁ : Shared), Rm A' k → (∀ j, Fresh ⟨G, L, S, s⟩ (L + 1 + j)) → (∀ fl s', Q (flv fl) s' → Z fl s') → Fx ⟨G, L, S, s⟩ (bindL (envC i L f cd).kindOf binds fun _ => none) (cellLed i L (bindC (envC i L f cd).kindOf binds fun _ => none) ++ ℓ) s₁ →
      wpAny (model prog w) A' (execs (fdAt i).body (envC i L f cd)) Z X s₁)
    (hok : bindsOk i binds = true := by rfl) (hcs : ∀ p ∈ cellsAt i, (cellsAt i).lookup p.1 = some p.2 := by decide)
    (hco : (fdAt i).scope.isCoroutine = false := by rfl) (hgen : (fdAt i).scope.isGenerator = false := by rfl) (hk : (fdAt i).scope.kind = .function := by rfl) :
    wpAny (model prog w) A (call (.ref f) vals) Q E s := by
  obtain ⟨o, doc, pm, an, ct, ho, hd, hcd⟩ := hf
  have he : callEnvC (fdX i dV doc pm an cd ct) s.heap.objs.size f = envC i s.heap.objs.size f cd := by
    unfold callEnvC
    rw [show cellsFrom (s.heap.objs.size + 1) (fdX i dV doc pm an cd ct).scope.names [] = shiftC (s.heap.objs.size + 1) (cellsAt i) from cellsFrom_at _ _]
    rfl
  refine wpAny_call (codeAny_call_cells (fd := fdX i dV doc pm an cd ct) rm.room (kg _ _ ho) hd (B.lim.keeps kg) (hcd.keeps kg) rfl (hbind doc pm an ct) rfl (bindsOk_kind hok) (fun s₁ x => ?_) hco hgen hk)
  rw [he] at x ⊢
  refine h _ _ _ _ s₁ (rm.deeper _) (freshCell kg hS) (fun fl s' hq => ?_) (Fx.cells x rfl kg hS nd hℓ hcs)
  cases fl <;> exact hq
end
end Mine
namespace Mine
open PySem PySem.Calls PyProof.Rows PySem.W
open Sem (wp)
/-! ## the lambdas of _law_asked -/
structure LamD where
  params : Arguments
  body : Expr
  scope : Scope
  pos : Pos
def lamIn : Stmt → Option LamD
  | .Return (some (.Call _ _ [⟨_, .Lambda p b sc pos, _⟩] _)) _ => some ⟨p, b, sc, pos⟩
  | _ => none
def lamAll : List Stmt → List LamD
  | [.Try [.If _ [r₁] _ _, r₂] _ _ _ _] => [r₁, r₂].filterMap lamIn
  | _ => []
/-- true: the one handed to nlargest -/
def lamOf (g : Bool) : LamD := (lamAll (fdAt 15).body).getD (if g then 0 else 1) ⟨⟨[], [], none, [], [], none, []⟩, .Constant .none 0 ⟨0, 0, 0, 0⟩, ⟨.function, [], false, false, []⟩, ⟨0, 0, 0, 0⟩⟩
def lamQ : Str := (fdAt 15).name ++ ".<locals>." ++ "<lambda>"
abbrev lamObj (g : Bool) (wc : Addr) (pm : Value) (c' : Addr) (ctv : Value) : Obj := kla_obj "<lambda>" lamQ (lamOf g).params (lamOf g).body (lamOf g).scope [("width", wc)] pm c' ctv
abbrev lamEnv (g : Bool) (L f c' wc : Addr) : Env := envX lamQ (lamOf g).scope L f (.ref c') [("width", wc)]
example : (lamAll (fdAt 15).body).length = 2 := by decide
section
variable {prog : Program} {w : World} {A : Around} {E : Value → Shared → Prop} {s : Shared} {R : Result → Shared → Prop}
theorem FnIs.isFn {G : Heap} {i : Nat} {f cd : Addr} {dV : Value} {s : Shared} (hf : FnIs G i f cd dV) (kg : G.StaysIn s.heap) : ∃ o fd, s.heap.get? f = some o ∧ o.data = .func fd :=
  let ⟨o, _, _, _, _, ho, hd, _⟩ := hf; ⟨o, _, kg _ _ ho, hd⟩
theorem sExprCode {e : Expr} {env : Env} (h : wpS (model prog w) (A.deeper env) (eval e env) (fun v s' => R (.ok (.ret v)) s')
      (fun e' s' => wpAny (model prog w) (A.deeper env) (leaving env e') (fun _ s'' => R (.error e') s'') (fun e'' s'' => R (.error e'') s'') s') s) : codeS (model prog w) A (.expr e env) R s := by
  refine codeSTree ?_
  refine sBind (toS (wpAny_point ?_))
  exact sBind (sOnRaise (sMono h (fun v s' h' => sPure h') fun _ _ h' => toS h'))
theorem sCallExpr {f : Addr} {o : Obj} {fd : FuncData} {body : Expr} {args : Args} {binds : List (Str × Value)} (hroom : A.depth < recursionLimit) (ho : s.heap.get? f = some o) (hd : o.data = .func fd) (hlim : s.heap.NoLimit)
    (hcd : s.heap.CodeRec fd.code fd.qualname) (hbody : fd.body = .expr body) (hbind : BindsTo s fd args binds) (hcell : ∀ x ∈ fd.scope.names, x.2 ≠ .cell) (hloc : ∀ x ∈ binds, fd.scope.names.lookup x.1 = some .local)
    (h : ∀ h₀, h₀.Ns s.heap.objs.size (fun x => binds.reverse.lookup x) → (∀ b o, s.heap.get? b = some o → h₀.get? b = some o) →
      wpS (model prog w) (A.deeper (callEnv fd s.heap.objs.size f)) (eval body (callEnv fd s.heap.objs.size f)) (fun v s' => R (.ok (.ret v)) s')
        (fun e s' => wpAny (model prog w) (A.deeper (callEnv fd s.heap.objs.size f)) (leaving (callEnv fd s.heap.objs.size f) e) (fun _ s'' => R (.error e) s'') (fun e' s'' => R (.error e') s'') s') { s with heap := h₀, toks := s.toks + binds.length })
    (hco : fd.scope.isCoroutine = false) (hgen : fd.scope.isGenerator = false) (hk : fd.scope.kind = .function) : codeS (model prog w) A (.call (.ref f) args) R s := by
  obtain ⟨c, oc, vs, tq, hc, hoc, hdc, hq⟩ := hcd
  refine codeSTree ?_
  show wpS _ A.in1 (callAny (.ref f) args) _ _ s
  simp only [callAny]
  refine sBind (toS (wpAny_load ho ?_))
  simp only [hd, callFunction, hco, hgen, hbody, hc]
  refine sBind (toS (wpAny_field hoc hdc hq ?_))
  refine sBind (sPure (sBind (toS (hbind _ _ _ _ ?_))))
  refine sBind (toS (wpAny_newFunctionEnv hcell hloc (fun h₀ hns hsb => ?_) hk))
  refine sBind (toS (wpAny_enterFrame (hlim.fresh _ hsb) hroom (sPure ⟨rfl, rfl, ?_⟩)))
  rw [← hc]
  exact sExprCode (h h₀ hns fun b o e => hsb.extBut b o (Nat.ne_of_lt (Heap.lt_size e)) (Heap.get?_push_of_some _ e))
theorem subT {c : Cx} {m : Str → Option Value} {ℓ : List (Addr × Kn)} {Q : Value → Shared → Prop} {value slice : Expr} {l : Addr} {its : Array Value} {k : Int} {u : Tok} {v : Value} (F : Fx c m ℓ s) (hl : (l, Kn.sq "tuple" its) ∈ ℓ) (h0 : 0 ≤ k) (hi : k < 2 ^ 63) (hx : its[k.toNat]? = some v) (h : Q v s)
    (hs : subscripted slice false (.ref l) (.int k u) = operate [.ref l, .int k u] (getItem (.ref l) (.int k u)) := by with_unfolding_all rfl) :
    wpAny (model prog w) A (subscriptTail value slice (.ref l) (.int k u)) Q E s := by
  refine tail_any (F.at hl).isTuple.typeIs slot_tuple_getitem.lookup (getItem_tuple (j := k.toNat) (F.at hl).isTup (by exact om79 h0) hi ?_ hx h) hs
  have h1 : k.toNat < its.size := (Array.getElem?_eq_some_iff.mp hx).1
  have hn : ¬ k < 0 := by exact om13 h0
  have h2 : k < its.size := by exact om80 h1
  simp [seqIndex?, hn, h0, h2]
set_option maxHeartbeats 1000000 in
theorem lam_spec {Q : Value → Shared → Prop} {G : Heap} {fr : List Env} {row : List UInt8} {width : Int} {td tw : Tok} {g : Bool} {f wc c' item : Addr} {pm ctv pv : Value} (B : Base G) (kg : G.StaysIn s.heap) (rm : Rm A 6) (hA : A.frames = some fr) (hf : Frs s.heap fr) (hg : ∀ a ∈ frsOf fr, G.get? a = none)
    (hn : row.length ≤ 1000) (hw : -2 ≤ width ∧ width ≤ 4) (k1 : At s.heap f (.ex (lamObj g wc pm c' ctv))) (k2 : s.heap.CodeRec (.ref c') lamQ) (k3 : At s.heap wc (.cell (some (.int width tw)))) (k4 : At s.heap item (.tup [pv, .bytes row.toArray td])) (k5 : wc ≠ item)
    (h : bswErr width row.length = none → ∀ t s', Post G [] s s' → Q (.bytes (bswOut width row).toArray t) s')
    (hE : ∀ cls, bswErr width row.length = some cls → ∀ e hR s', (∃ h tk, s' = { s with heap := h, toks := tk }) → Ext [] s.heap hR → Exc G hR fr e cls (.at .none) s'.heap → E (.ref e) s') :
    wpS (model prog w) A (call (.ref f) [.ref item]) Q E s := by
  refine sCall (sCallExpr (fd := kla_fn "<lambda>" lamQ (lamOf g).params (lamOf g).body (lamOf g).scope [("width", wc)] pm (.ref c') ctv) (binds := [("item", .ref item)]) rm.room k1.get rfl (B.lim.keeps kg) k2 rfl ?_ ?_ ?_ (fun h₁ hns hk₁ => ?_) ?_ ?_ ?_)
  · cases g <;> exact BindsTo.of_eq rfl
  · cases g
    · show ∀ x ∈ (lamOf false).scope.names, x.2 ≠ .cell; decide
    · show ∀ x ∈ (lamOf true).scope.names, x.2 ≠ .cell; decide
  · cases g <;> (intro x hx; rw [List.mem_singleton.mp hx]; rfl)
  · have F : Fx ⟨G, s.heap.objs.size, [], s⟩ (fun x => ([("item", Value.ref item)] : List (Str × Value)).reverse.lookup x) [(wc, .cell (some (.int width tw))), (item, .tup [pv, .bytes row.toArray td])] { s with heap := h₁, toks := s.toks + 1 } := by
      refine ⟨⟨h₁, _, rfl⟩, fun b o e => hk₁ b o (kg b o e), hns, ?_, fun p hp => ?_, Ext.of_keeps hk₁, (fun a ha => nomatch ha), ?_, get?_size _⟩
      · simp [k5]
      · have hp' : At s.heap p.1 p.2 := by
          rcases List.mem_cons.mp hp with rfl | hp
          · exact k3
          · rw [List.mem_singleton.mp hp]; exact k4
        obtain ⟨o', e', q⟩ := hp'
        exact ⟨Nat.ne_of_lt (Heap.lt_size e'), o', hk₁ _ _ e', q⟩
      · show G.get? s.heap.objs.size = none
        cases q : G.get? s.heap.objs.size with
        | none => rfl
        | some o => exact absurd (Heap.lt_size (kg _ _ q)) (Nat.lt_irrefl _)
    show wpS _ (A.deeper (lamEnv g s.heap.objs.size f c' wc)) (eval (lamOf g).body (lamEnv g s.heap.objs.size f c' wc)) _ _ _
    have rm' := rm.deeper (lamEnv g s.heap.objs.size f c' wc)
    have hA' : (A.deeper (lamEnv g s.heap.objs.size f c' wc)).frames = some (lamEnv g s.heap.objs.size f c' wc :: fr) := by show A.frames.map _ = _; rw [hA]; rfl
    have hkind : (lamEnv g s.heap.objs.size f c' wc).scope.kind ≠ .module := by cases g <;> exact show (lamOf _).scope.kind ≠ .module by decide
    refine sMono (Q := Q) (E := EX s G (lamEnv g s.heap.objs.size f c' wc) fr s.heap.objs.size fun cls hR => bswErr width row.length = some cls ∧ Ext [] s.heap hR) ?_ (fun _ _ x => x) fun v s' x => ?_
    rotate_left
    · refine EX.leave hA' rfl x fun e cls hR s'' hv hP hs hx => ?_
      rw [hv]; exact hE cls hP.1 e hR s'' hs hP.2 hx
    obtain ⟨f1, f2⟩ := F.frs hf (fun a ha => ⟨hg a ha, fun q => nomatch q⟩) hkind rfl
    have fin : ∀ {s₂ : Shared}, Fx ⟨G, s.heap.objs.size, [], s⟩ (fun x => ([("item", Value.ref item)] : List (Str × Value)).reverse.lookup x) [(wc, .cell (some (.int width tw))), (item, .tup [pv, .bytes row.toArray td])] s₂ →
        wpS (model prog w) (A.deeper (lamEnv g s.heap.objs.size f c' wc)) (call (.ref 89) [.bytes row.toArray td, .int width tw]) Q (EX s G (lamEnv g s.heap.objs.size f c' wc) fr s.heap.objs.size fun cls hR => bswErr width row.length = some cls ∧ Ext [] s.heap hR) s₂ := by
      intro s₂ F
      obtain ⟨f1, f2⟩ := F.frs hf (fun a ha => ⟨hg a ha, fun q => nomatch q⟩) hkind rfl
      refine byteswap_spec B F.kg (rm'.le (by exact om81)) hA' f1 f2 hn hw (fun he t s' P => h he t s' ?_) fun cls he e hR s' hs hx hX => ?_
      · exact (F.after0 P).post
      · exact F.relay hs hX ⟨he, F.post.ext.trans hx⟩
    have hfn := B.fn (12, 89, 88, .none) (by decide)
    cases g
    all_goals exact sEvalCall (nmG B F rfl (sCallFn (by rfl) (evalArgs_plain (args_cons (Subscript_ (nmL F rfl (ci F fun _ _ F => subT F (.tail _ (.head _)) (by decide) (by decide) rfl (args_cons (nmF F rfl (.head _) (args_nil ⟨hfn.isFn F.kg, fin F⟩))))))))))
  all_goals cases g <;> rfl
end
end Mine
namespace Mine
open PySem PySem.Calls PyProof.Rows PySem.W
open Sem (wp)
/-! ## list comprehensions -/
section
variable {prog : Program} {w : World} {A : Around} {E : Value → Shared → Prop} {s : Shared}
theorem agS {R : Result → Shared → Prop} {c : Code} (h : codeS (model prog w) A c R s) (hq : c.quiet = true := by rfl) (hb : holdsBa c = false := by rfl) : c.quiet = true ∧ holdsBa c = false ∧ codeS (model prog w) A c R s := ⟨hq, hb, h⟩
theorem agA {R : Result → Shared → Prop} {c : Code} (h : codeAny (model prog w) A c R s) (hq : c.quiet = true := by rfl) : c.quiet = true ∧ codeAny (model prog w) A c R s := ⟨hq, h⟩

/-- the loop of a list comprehension with one clause, on every stack -/
theorem aLoop {R : Result → Shared → Prop} {elt target iter : Expr} {ifs : List Expr} {scope : Scope} {pos : Pos} {it acc : Value} {env : Env} (I : Nat → Shared → Prop)
    (turn : ∀ (W D : Shared → Prop) (X : Value → Shared → Prop) (n : Nat) (s : Shared), (∀ s', (∃ m, m < n ∧ I m s') → W s') → (∀ s', R (.ok .next) s' → D s') → (∀ e s', notedBy (model prog w) A env (fun e s' => R (.error e) s') e s' → X e s') → I n s → wpAny (model prog w) A (pyNext it) (fun r s₁ => match r with
      | none => D s₁
      | some v => wpAny (model prog w) A (letOwnedTupleGo target it v) (fun _ s₁ => wpAny (model prog w) A (assign target env v) (fun _ s₂ =>
          wpAny (model prog w) A (forIn ifs true fun c r => if r = true then do let ok ← isTrue c env (eval c env); pure (ForInStep.yield ok) else pure (ForInStep.yield r)) (fun ok s₃ =>
            if ok = true then wpAny (model prog w) A (eval elt env) (fun x s₄ => wpAny (model prog w) A (call (.builtin "list.append") [acc, x]) (fun _ s₅ => W s₅) X s₄) X s₃
            else W s₃) X s₂) X s₁) X s₁) X s)
    (n : Nat) (h : I n s) : codeAny (model prog w) A (.compLoop (.ListComp elt [⟨target, iter, ifs, 0⟩] scope pos) 0 it acc env) R s := by
  induction n using Nat.strongRecOn generalizing s with
  | ind n ih =>
    refine codeAny_of_tree ?_
    show wpAny _ A ((compTurn (.ListComp elt [⟨target, iter, ifs, 0⟩] scope pos) 0 it acc env).onRaise (fun x => do noteFrame x env; theTreesLotGoes x)) _ _ s
    refine wpAny_noted ?_
    rw [compTurn_list]
    refine wpAny_bind (id (wpAny_standAt (wpAny_bind (wpAny_mono (id (turn _ _ _ n s (fun _ q => q) (fun _ q => q) (fun _ _ q => q) h)) (fun r s₁ h₁ => ?_) fun _ _ h' => h'))))
    cases r with
    | none => exact wpAny_pure h₁
    | some v =>
      refine wpAny_bind (wpAny_mono (id h₁) (fun _ s₁ h₁ => ?_) fun _ _ h' => h')
      refine wpAny_bind (wpAny_mono (id h₁) (fun _ s₂ h₂ => ?_) fun _ _ h' => h')
      refine wpAny_bind (wpAny_mono (id h₂) (fun ok s₃ h₃ => ?_) fun _ _ h' => h')
      cases ok with
      | true =>
        rw [if_pos rfl] at h₃
        rw [if_pos rfl]
        refine wpAny_bind (wpAny_bind (wpAny_mono h₃ (fun x s₄ h₄ => wpAny_bind (wpAny_mono (id h₄) (fun _ s₅ h₅ => wpAny_pure ?_) fun _ _ h' => h')) fun _ _ h' => h'))
        obtain ⟨m, hm, hI⟩ := h₅
        exact wpAny_pure ⟨rfl, ih m hm hI⟩
      | false =>
        rw [if_neg (by decide)] at h₃
        rw [if_neg (by decide)]
        obtain ⟨m, hm, hI⟩ := h₃
        exact wpAny_pure ⟨rfl, ih m hm hI⟩
theorem aStart {R : Result → Shared → Prop} {elt target iter : Expr} {ifs : List Expr} {scope : Scope} {pos : Pos} {it acc : Value} {env : Env}
    (hself : ∀ {Q' : Value → Shared → Prop} {E' : Value → Shared → Prop}, Q' it s → wpAny (model prog w) A (pyIter it) Q' E' s)
    (h : codeAny (model prog w) A (.compLoop (.ListComp elt [⟨target, iter, ifs, 0⟩] scope pos) 0 it acc env) R s) : codeAny (model prog w) A (.compStart (.ListComp elt [⟨target, iter, ifs, 0⟩] scope pos) 0 it acc env) R s := by
  refine codeAny_of_tree ?_
  show wpAny _ _ ((compStart (.ListComp elt [⟨target, iter, ifs, 0⟩] scope pos) 0 it acc env).onRaise (fun x => do noteFrame x env; standAt theWindowsPlace)) _ _ s
  refine wpAny_onRaise (wpAny_mono (E := fun _ _ => False) ?_ (fun _ _ q => q) fun _ _ x => x.elim)
  unfold compStart
  show wpAny _ _ (ask >>= _) _ _ s
  refine wpAny_bind (id (wpAny_askSetting ?_))
  split
  · exact wpAny_pure (agA h)
  · refine wpAny_bind (id (wpAny_rule ?_))
    refine wpAny_bind (id (wpAny_standAt ?_))
    exact wpAny_bind (id (hself (wpAny_pure (agA h))))
/-- the whole comprehension -/
theorem aComp {elt target iter : Expr} {ifs : List Expr} {scope : Scope} {pos : Pos} {cl : List (Str × Addr)} {env : Env} {Q : Value → Shared → Prop} (hclos : closureFor scope env = pure cl) (hkind : scope.kind = .function) (hcell : ∀ x ∈ scope.names, x.2 ≠ .cell)
    (hnames : ∀ x ∈ scope.names, x.2 = .local → scope.names.lookup x.1 = some .local)
    (h : wpAny (model prog w) A (eval iter env) (fun x s₁ => wpAny (model prog w) A (pyIter x) (fun it s₂ => ∀ h₁, h₁.Ns (s₂.heap.objs.size + 1) (fun _ => none) → (∀ b o, s₂.heap.get? b = some o → h₁.get? b = some o) → At h₁ s₂.heap.objs.size (.list []) →
      (∀ {Q' : Value → Shared → Prop} {E' : Value → Shared → Prop}, Q' it { s₂ with heap := h₁ } → wpAny (model prog w) A (pyIter it) Q' E' { s₂ with heap := h₁ }) ∧
      codeAny (model prog w) A (.compLoop (.ListComp elt [⟨target, iter, ifs, 0⟩] scope pos) 0 it (.ref s₂.heap.objs.size) (compEnvC scope cl (s₂.heap.objs.size + 1) env)) (fun r s' => (∃ m, s'.heap.Ns (s₂.heap.objs.size + 1) m) ∧ ∀ h', Heap.SameBut (s₂.heap.objs.size + 1) s'.heap h' → match r with
        | .ok _ => Q (.ref s₂.heap.objs.size) { s' with heap := h' }
        | .error x => wpAny (model prog w) A (passOn "comprehension.variables-let-go" x (compEnvC scope cl (s₂.heap.objs.size + 1) env) : Sem Value) (fun _ _ => False) E { s' with heap := h' }) { s₂ with heap := h₁ }) E s₁) E s)
    (hs : ∀ x, foldedSetIterable iter env x = pure x := by intro _; rfl) : wpAny (model prog w) A (eval (.ListComp elt [⟨target, iter, ifs, 0⟩] scope pos) env) Q E s := by
  rw [arm_eval_ListComp]
  show wpAny _ A (comprehension _ scope env _ (newList []) false (eval iter env) none) Q E s
  unfold comprehension
  rw [hclos]
  refine wpAny_bind (wpAny_mono (id h) (fun x s₁ h₁ => ?_) fun _ _ x => x)
  refine wpAny_bind (id (wpAny_standAt ?_))
  refine wpAny_bind (id (wpAny_of_eq (hs x) ?_))
  refine wpAny_bind (wpAny_holding (wpAny_mono (id h₁) (fun it s₂ h₂ => ?_) fun _ _ x => x))
  refine wpAny_bind (id (wpAny_newObj_type ?_))
  refine wpAny_bind (wpAny_pure (wpAny_bind (id (wpAny_newFunctionEnv hcell (fun _ q => nomatch q) (fun h₁ hns hsb => ?_) hkind))))
  have hsz : (s₂.heap.push { cls := .type "list", data := .seq ([] : List Value).toArray }).objs.size = s₂.heap.objs.size + 1 := Heap.size_push _ _
  dsimp only at hns hsb ⊢
  rw [hsz] at hns hsb ⊢
  have old : ∀ b o, s₂.heap.get? b = some o → h₁.get? b = some o := fun b o e => hsb.extBut b o (Nat.ne_of_lt (Nat.lt_succ_of_lt (Heap.lt_size e))) (Heap.get?_push_of_some _ (Heap.get?_push_of_some _ e))
  have hacc : At h₁ s₂.heap.objs.size (.list []) := ⟨_, hsb.extBut _ _ (Nat.ne_of_lt (Nat.lt_succ_self _)) (Heap.get?_push_of_some _ (Heap.get?_push_size _ rfl)), rfl, _, rfl⟩
  obtain ⟨hself, h₃⟩ := h₂ h₁ hns old hacc
  have hv : ∀ x ∈ (scope.names.filter fun x => (x.2 == .local || x.2 == .cell) && x.1 != (".0" : Str)).reverse, x.2 = .local → Env.kindOf (compEnvC scope cl (s₂.heap.objs.size + 1) env) x.1 = some .local :=
    fun x hx hl => lookup_relabel_local (hnames x (List.mem_filter.mp (List.mem_reverse.mp hx)).1 hl)
  have hk' : (compEnvC scope cl (s₂.heap.objs.size + 1) env).scope.kind = .function := hkind
  refine wpAny_holding (wpAny_bind (wpAny_attempt (wpAny_holding (wpAny_run (codeAny_mono (aStart hself h₃) fun r s' hr => ?_)))))
  obtain ⟨⟨m, hn⟩, hr⟩ := hr
  cases r with
  | ok f => exact wpAny_bind (id (wpAny_holding (wpAny_comp_letGo (cenv := compEnvC scope cl (s₂.heap.objs.size + 1) env) hk' _ s' m hv hn fun h' m' _ hs' => wpAny_pure (hr h' hs'))))
  | error x => exact wpAny_bind (id (wpAny_holding (wpAny_comp_letGo (cenv := compEnvC scope cl (s₂.heap.objs.size + 1) env) hk' _ s' m hv hn fun h' m' _ hs' => wpAny_mono (id (hr h' hs')) (fun _ _ q => q.elim) fun _ _ y => y)))

/-- the loop of a list comprehension with one clause, on clean stacks -/
theorem sLoop {R : Result → Shared → Prop} {elt target iter : Expr} {ifs : List Expr} {scope : Scope} {pos : Pos} {it acc : Value} {env : Env} (I : Nat → Shared → Prop)
    (turn : ∀ (W D : Shared → Prop) (X : Value → Shared → Prop) (n : Nat) (s : Shared), (∀ s', (∃ m, m < n ∧ I m s') → W s') → (∀ s', R (.ok .next) s' → D s') → (∀ e s', notedBy (model prog w) A env (fun e s' => R (.error e) s') e s' → X e s') → I n s → wpAny (model prog w) A (pyNext it) (fun r s₁ => match r with
      | none => D s₁
      | some v => wpAny (model prog w) A (letOwnedTupleGo target it v) (fun _ s₁ => wpAny (model prog w) A (assign target env v) (fun _ s₂ =>
          wpAny (model prog w) A (forIn ifs true fun c r => if r = true then do let ok ← isTrue c env (eval c env); pure (ForInStep.yield ok) else pure (ForInStep.yield r)) (fun ok s₃ =>
            if ok = true then wpS (model prog w) A (eval elt env) (fun x s₄ => wpAny (model prog w) A (call (.builtin "list.append") [acc, x]) (fun _ s₅ => W s₅) X s₄) X s₃
            else W s₃) X s₂) X s₁) X s₁) X s)
    (n : Nat) (h : I n s) : codeS (model prog w) A (.compLoop (.ListComp elt [⟨target, iter, ifs, 0⟩] scope pos) 0 it acc env) R s := by
  induction n using Nat.strongRecOn generalizing s with
  | ind n ih =>
    refine codeSTree ?_
    show wpS _ A ((compTurn (.ListComp elt [⟨target, iter, ifs, 0⟩] scope pos) 0 it acc env).onRaise (fun x => do noteFrame x env; theTreesLotGoes x)) _ _ s
    refine sNoted ?_
    rw [compTurn_list]
    refine sBind (toS (wpAny_standAt (sBind (sMono (toS (turn _ _ _ n s (fun _ q => q) (fun _ q => q) (fun _ _ q => q) h)) (fun r s₁ h₁ => ?_) fun _ _ h' => h'))))
    cases r with
    | none => exact sPure h₁
    | some v =>
      refine sBind (sMono (toS h₁) (fun _ s₁ h₁ => ?_) fun _ _ h' => h')
      refine sBind (sMono (toS h₁) (fun _ s₂ h₂ => ?_) fun _ _ h' => h')
      refine sBind (sMono (toS h₂) (fun ok s₃ h₃ => ?_) fun _ _ h' => h')
      cases ok with
      | true =>
        rw [if_pos rfl] at h₃
        rw [if_pos rfl]
        refine sBind (sBind (sMono h₃ (fun x s₄ h₄ => sBind (sMono (toS h₄) (fun _ s₅ h₅ => sPure ?_) fun _ _ h' => h')) fun _ _ h' => h'))
        obtain ⟨m, hm, hI⟩ := h₅
        exact sPure ⟨rfl, rfl, ih m hm hI⟩
      | false =>
        rw [if_neg (by decide)] at h₃
        rw [if_neg (by decide)]
        obtain ⟨m, hm, hI⟩ := h₃
        exact sPure ⟨rfl, rfl, ih m hm hI⟩
theorem sStart {R : Result → Shared → Prop} {elt target iter : Expr} {ifs : List Expr} {scope : Scope} {pos : Pos} {it acc : Value} {env : Env}
    (hself : ∀ {Q' : Value → Shared → Prop} {E' : Value → Shared → Prop}, Q' it s → wpAny (model prog w) A (pyIter it) Q' E' s)
    (h : codeS (model prog w) A (.compLoop (.ListComp elt [⟨target, iter, ifs, 0⟩] scope pos) 0 it acc env) R s) : codeS (model prog w) A (.compStart (.ListComp elt [⟨target, iter, ifs, 0⟩] scope pos) 0 it acc env) R s := by
  refine codeSTree ?_
  show wpS _ _ ((compStart (.ListComp elt [⟨target, iter, ifs, 0⟩] scope pos) 0 it acc env).onRaise (fun x => do noteFrame x env; standAt theWindowsPlace)) _ _ s
  refine sOnRaise (sMono (E := fun _ _ => False) ?_ (fun _ _ q => q) fun _ _ x => x.elim)
  unfold compStart
  show wpS _ _ (ask >>= _) _ _ s
  refine sBind (toS (wpAny_askSetting ?_))
  split
  · exact sPure (agS h)
  · refine sBind (toS (wpAny_rule ?_))
    refine sBind (toS (wpAny_standAt ?_))
    exact sBind (toS (hself (sPure (agS h))))
/-- the whole comprehension -/
theorem sComp {elt target iter : Expr} {ifs : List Expr} {scope : Scope} {pos : Pos} {cl : List (Str × Addr)} {env : Env} {Q : Value → Shared → Prop} (hclos : closureFor scope env = pure cl) (hkind : scope.kind = .function) (hcell : ∀ x ∈ scope.names, x.2 ≠ .cell)
    (hnames : ∀ x ∈ scope.names, x.2 = .local → scope.names.lookup x.1 = some .local)
    (h : wpAny (model prog w) A (eval iter env) (fun x s₁ => wpAny (model prog w) A (pyIter x) (fun it s₂ => ∀ h₁, h₁.Ns (s₂.heap.objs.size + 1) (fun _ => none) → (∀ b o, s₂.heap.get? b = some o → h₁.get? b = some o) → At h₁ s₂.heap.objs.size (.list []) →
      (∀ {Q' : Value → Shared → Prop} {E' : Value → Shared → Prop}, Q' it { s₂ with heap := h₁ } → wpAny (model prog w) A (pyIter it) Q' E' { s₂ with heap := h₁ }) ∧
      codeS (model prog w) A (.compLoop (.ListComp elt [⟨target, iter, ifs, 0⟩] scope pos) 0 it (.ref s₂.heap.objs.size) (compEnvC scope cl (s₂.heap.objs.size + 1) env)) (fun r s' => (∃ m, s'.heap.Ns (s₂.heap.objs.size + 1) m) ∧ ∀ h', Heap.SameBut (s₂.heap.objs.size + 1) s'.heap h' → match r with
        | .ok _ => Q (.ref s₂.heap.objs.size) { s' with heap := h' }
        | .error x => wpAny (model prog w) A (passOn "comprehension.variables-let-go" x (compEnvC scope cl (s₂.heap.objs.size + 1) env) : Sem Value) (fun _ _ => False) E { s' with heap := h' }) { s₂ with heap := h₁ }) E s₁) E s)
    (hs : ∀ x, foldedSetIterable iter env x = pure x := by intro _; rfl) : wpS (model prog w) A (eval (.ListComp elt [⟨target, iter, ifs, 0⟩] scope pos) env) Q E s := by
  rw [arm_eval_ListComp]
  show wpS _ A (comprehension _ scope env _ (newList []) false (eval iter env) none) Q E s
  unfold comprehension
  rw [hclos]
  refine sBind (sMono (toS h) (fun x s₁ h₁ => ?_) fun _ _ x => x)
  refine sBind (toS (wpAny_standAt ?_))
  refine sBind (toS (wpAny_of_eq (hs x) ?_))
  refine sBind (sHolding (sMono (toS h₁) (fun it s₂ h₂ => ?_) fun _ _ x => x))
  refine sBind (toS (wpAny_newObj_type ?_))
  refine sBind (sPure (sBind (toS (wpAny_newFunctionEnv hcell (fun _ q => nomatch q) (fun h₁ hns hsb => ?_) hkind))))
  have hsz : (s₂.heap.push { cls := .type "list", data := .seq ([] : List Value).toArray }).objs.size = s₂.heap.objs.size + 1 := Heap.size_push _ _
  dsimp only at hns hsb ⊢
  rw [hsz] at hns hsb ⊢
  have old : ∀ b o, s₂.heap.get? b = some o → h₁.get? b = some o := fun b o e => hsb.extBut b o (Nat.ne_of_lt (Nat.lt_succ_of_lt (Heap.lt_size e))) (Heap.get?_push_of_some _ (Heap.get?_push_of_some _ e))
  have hacc : At h₁ s₂.heap.objs.size (.list []) := ⟨_, hsb.extBut _ _ (Nat.ne_of_lt (Nat.lt_succ_self _)) (Heap.get?_push_of_some _ (Heap.get?_push_size _ rfl)), rfl, _, rfl⟩
  obtain ⟨hself, h₃⟩ := h₂ h₁ hns old hacc
  have hv : ∀ x ∈ (scope.names.filter fun x => (x.2 == .local || x.2 == .cell) && x.1 != (".0" : Str)).reverse, x.2 = .local → Env.kindOf (compEnvC scope cl (s₂.heap.objs.size + 1) env) x.1 = some .local :=
    fun x hx hl => lookup_relabel_local (hnames x (List.mem_filter.mp (List.mem_reverse.mp hx)).1 hl)
  have hk' : (compEnvC scope cl (s₂.heap.objs.size + 1) env).scope.kind = .function := hkind
  refine sHolding (sBind (sAttempt (sHolding (sRun (codeSMono (sStart hself h₃) fun r s' hr => ?_)))))
  obtain ⟨⟨m, hn⟩, hr⟩ := hr
  cases r with
  | ok f => exact sBind (toS (wpAny_holding (wpAny_comp_letGo (cenv := compEnvC scope cl (s₂.heap.objs.size + 1) env) hk' _ s' m hv hn fun h' m' _ hs' => sPure (hr h' hs'))))
  | error x => exact sBind (toS (wpAny_holding (wpAny_comp_letGo (cenv := compEnvC scope cl (s₂.heap.objs.size + 1) env) hk' _ s' m hv hn fun h' m' _ hs' => sMono (toS (hr h' hs')) (fun _ _ q => q.elim) fun _ _ y => y)))
end
end Mine
namespace Mine
open PySem PySem.Calls PyProof.Rows PySem.W
open Sem (wp)
/-! ## frames of comprehensions, loops over lists and enumerations -/
theorem At.notNs {h : Heap} {a L : Addr} {k : Kn} {m : Str → Option Value} (e : At h a k) (n : h.Ns L m) : a ≠ L := fun q => by
  obtain ⟨o, ho, hk⟩ := e
  obtain ⟨o', es, ep, ho', hd, _⟩ := n
  rw [q, ho'] at ho; injection ho with ho; subst ho
  cases k with
  | sq c its => obtain ⟨_, _, hd'⟩ := hk; rw [hd] at hd'; cases hd'
  | ex o₀ => obtain ⟨rfl, hn⟩ := hk; unfold ndOb at hn; rw [hd] at hn; cases hn
  | cell v => have hd' : _ = _ := hk; rw [hd] at hd'; cases hd'
  | fd c vs => have hd' := hk.2; rw [hd] at hd'; cases hd'
section
variable {c : Cx} {m : Str → Option Value} {ℓ : List (Addr × Kn)} {s : Shared}
theorem Fx.keep (F : Fx c m ℓ s) {h' : Heap} {tk : Nat} (hk : ∀ b o, s.heap.get? b = some o → h'.get? b = some o) : Fx c m ℓ { s with heap := h', toks := tk } :=
  F.after0 ⟨⟨h', tk, rfl⟩, fun b o e => hk b o (F.kg b o e), Ext.of_keeps hk, fun _ q => nomatch q⟩
/-- the frame of a comprehension, laid over the function's -/
theorem Fx.comp (F : Fx c m ℓ s) (S : List Addr) (hS : ∀ a ∈ S, c.G.get? a = none ∧ ∃ o, s.heap.get? a = some o) {h₁ : Heap} (hns : h₁.Ns (s.heap.objs.size + 1) (fun _ => none)) (hk : ∀ b o, s.heap.get? b = some o → h₁.get? b = some o) (hacc : At h₁ s.heap.objs.size (.list [])) :
    Fx ⟨c.G, s.heap.objs.size + 1, S, s⟩ (fun _ => none) ((s.heap.objs.size, .list []) :: ℓ) { s with heap := h₁ } := by
  have hno : s.heap.get? (s.heap.objs.size + 1) = none := Heap.get?_none_of_le (Nat.le_succ _)
  refine ⟨⟨h₁, _, rfl⟩, fun b o e => hk b o (F.kg b o e), hns, ?_, fun p hp => ?_, Ext.of_keeps hk, fun a ha => ?_, F.freshG_of hno, hno⟩
  · rw [List.map_cons, List.nodup_cons]
    refine ⟨fun q => ?_, F.nd⟩
    obtain ⟨p, hp, e⟩ := List.mem_map.mp q
    have := (F.led p hp).2.lt
    rw [e] at this; exact Nat.lt_irrefl _ this
  · have hat : At h₁ p.1 p.2 := by
      rcases List.mem_cons.mp hp with rfl | hp
      · exact hacc
      · obtain ⟨o, e, q⟩ := (F.led p hp).2; exact ⟨o, hk _ _ e, q⟩
    exact ⟨hat.notNs hns, hat⟩
  · obtain ⟨o, e⟩ := (hS a ha).2; exact ⟨o, hk _ _ e⟩
/-- back in the function's frame -/
theorem Fx.back {C : Addr} {S : List Addr} {m' : Str → Option Value} {ℓ' : List (Addr × Kn)} {s' : Shared} (F : Fx c m ℓ s) (F' : Fx ⟨c.G, C, S, s⟩ m' ℓ' s') (own : ∀ a ∈ S, Own c a ∧ a ≠ c.L) (hCS : C ∉ S) {h' : Heap} (hs : Heap.SameBut C s'.heap h') : Fx c m ℓ' { s' with heap := h' } := by
  have P := F'.post
  have hC : s.heap.get? C = none := F'.el
  have x' : Ext S s.heap h' := by
    have x1 : Ext (C :: S) s.heap h' := F'.ext.trans ((Ext.of_same hs).mono fun a ha => by rw [List.mem_singleton.mp ha]; exact .head _)
    exact x1.drop hC
  obtain ⟨h₀, k₀, e₀⟩ := F'.sh
  have hLS : c.L ∉ S := fun q => (own _ q).2 rfl
  have hnsL := x'.ns hLS F.ns
  have led : ∀ p ∈ ℓ', At h' p.1 p.2 := fun p hp => by
    obtain ⟨o, e, q⟩ := (F'.led p hp).2
    exact ⟨o, (hs.2 p.1 (F'.led p hp).1).trans e, q⟩
  refine F.turnS (S := S) own ⟨h', k₀, by rw [e₀]⟩ x' (fun b o e => ?_) (fun a ha _ => ?_) F'.nd fun p hp => .inr ⟨(led p hp).notNs hnsL, led p hp⟩
  · refine (hs.2 b fun q => ?_).trans (F'.kg b o e)
    rw [q] at e
    have : c.G.get? C = none := F'.gl
    rw [this] at e; cases e
  · obtain ⟨o, e⟩ := F'.sal a ha
    exact ⟨o, (hs.2 a fun q => hCS (q ▸ ha)).trans e⟩
end
/-! names in any frame of a function or a comprehension -/
structure EnvOk (c : Cx) (env : Env) : Prop where
  loc : env.locals = c.L
  glob : env.globals = mainGlobals
  blt : env.builtins = builtinsNs
  kind : env.scope.kind = .function
theorem useEnv {prog : Program} {w : World} {A : Around} {R : Result → Shared → Prop} {s : Shared} {c : Cx} {e : Expr} {k : Nat} {it acc : Value} {env : Env} (O : EnvOk c env) (h : EnvOk c env → codeAny (model prog w) A (.compLoop e k it acc env) R s) : codeAny (model prog w) A (.compLoop e k it acc env) R s := h O
section
variable {M : Model} {A : Around} {E : Value → Shared → Prop} {s : Shared} {c : Cx} {m : Str → Option Value} {ℓ : List (Addr × Kn)} {env : Env} {x : Str} {pos : Pos} {v : Value} {Q : Value → Shared → Prop}
theorem gnL (O : EnvOk c env) (F : Fx c m ℓ s) (hv : m x = some v) (h : Q v s) (hx : env.kindOf x = some .local := by rfl) (hd : (x == ("__debug__" : Str)) = false := by decide) : wpAny M A (eval (.Name x pos) env) Q E s :=
  wpAny_Name (wpAny_loadName_local O.kind hx (by rw [O.loc]; exact F.ns) hv h) hd
theorem gnG (O : EnvOk c env) (B : Base c.G) (F : Fx c m ℓ s) (hv : globs.lookup x = some v) (h : Q v s) (hx : env.kindOf x = some .globalImplicit := by rfl) (hd : (x == ("__debug__" : Str)) = false := by decide) : wpAny M A (eval (.Name x pos) env) Q E s :=
  let ⟨_, hg, h1, _⟩ := B.g
  Name_function_global O.kind hx (loadGlobal_global (by rw [O.glob]; exact hg.keeps F.kg) (h1 x v hv) h) hd
theorem gnB (O : EnvOk c env) (B : Base c.G) (F : Fx c m ℓ s) (hv : bootBuiltins x = some v) (h : Q v s) (hb : bins.contains x = true := by decide) (hx : env.kindOf x = some .globalImplicit := by rfl) (hd : (x == ("__debug__" : Str)) = false := by decide) : wpAny M A (eval (.Name x pos) env) Q E s :=
  let ⟨_, hg, _, h2⟩ := B.g
  let ⟨_, hbn, h3⟩ := B.b
  Name_function_global O.kind hx (loadGlobal_builtin (by rw [O.glob]; exact hg.keeps F.kg) (h2 x hb) (by rw [O.blt]; exact hbn.keeps F.kg) ((h3 x hb).trans hv) h) hd
theorem gnC {a : Addr} (O : EnvOk c env) (F : Fx c m ℓ s) (hc : env.cells.lookup x = some a) (hm : (a, Kn.cell (some v)) ∈ ℓ) (h : Q v s) (hx : env.kindOf x = some .cell := by rfl) (hd : (x == ("__debug__" : Str)) = false := by decide) : wpAny M A (eval (.Name x pos) env) Q E s :=
  wpAny_Name (wpAny_loadName_cell O.kind hx hc (F.at hm).isCell h) hd
theorem gnF {a : Addr} (O : EnvOk c env) (F : Fx c m ℓ s) (hc : env.cells.lookup x = some a) (hm : (a, Kn.cell (some v)) ∈ ℓ) (h : Q v s) (hx : env.kindOf x = some .free := by rfl) (hd : (x == ("__debug__" : Str)) = false := by decide)
    (hn : (x == ("__classdict__" : Str)) = false := by decide) : wpAny M A (eval (.Name x pos) env) Q E s :=
  wpAny_Name (wpAny_loadName_free O.kind hx hc (F.at hm).isCell h hn) hd
theorem gst {Q : Unit → Shared → Prop} (O : EnvOk c env) (F : Fx c m ℓ s) (h : ∀ s', Fx c (fun y => if y = x then some v else m y) ℓ s' → Q () s') (hx : env.kindOf x = some .local := by rfl) : wpAny M A (storeName env x v) Q E s :=
  wpAny_storeName_local hx (by rw [O.loc]; exact F.ns) (fun _ hn hs => by rw [O.loc] at hn hs; exact h _ (F.setL hn hs)) (by rw [O.kind]; rfl)
end
section
variable {prog : Program} {w : World} {A : Around} {E : Value → Shared → Prop} {s : Shared} {c : Cx} {m : Str → Option Value} {ℓ : List (Addr × Kn)}
abbrev Kn.enum (it : Addr) (i : Int) (old : Value) : Kn := .fl "enumerate" #[.none, .bool false, .ref it, rawInt i, .none, old]
abbrev Kn.enumOut (it : Addr) (i : Int) (item : Value) (a : Addr) : Kn := .fl "enumerate" #[rawInt a, .bool false, .ref it, rawInt i, .none, item]
theorem enumNew {l : Addr} {its : Array Value} {Q : Value → Shared → Prop} (F : Fx c m ℓ s) (hl : (l, Kn.sq "list" its) ∈ ℓ) (h : ∀ e it s', Fx c m ((e, .enum it 0 .none) :: (it, .liter l 0) :: ℓ) s' → Fresh c e → Fresh c it → Q (.ref e) s') : wpAny (model prog w) A (call (.type "enumerate") [.ref l]) Q E s :=
  call_enumerate_list (F.at hl).isList fun h' he hit hz hk => by
    obtain ⟨F1, f1⟩ := (F.keep (tk := s.toks) hk).add F (get?_size _) F.alive (At.ofIter hit)
    have hno : s.heap.get? (s.heap.objs.size + 1) = none := Heap.get?_none_of_le (Nat.le_succ _)
    have hne : s.heap.objs.size + 1 ≠ s.heap.objs.size := Nat.succ_ne_self _
    have he' : At h' (s.heap.objs.size + 1) (.enum s.heap.objs.size 0 .none) := At.of he
    refine h _ _ _ ⟨F1.sh, F1.kg, F1.ns, ?_, fun p hp => ?_, F1.ext, F1.sal, F1.gl, F1.el⟩ (F.new_of hno) f1
    · rw [List.map_cons, List.nodup_cons]
      refine ⟨fun q => ?_, F1.nd⟩
      rcases List.mem_cons.mp q with q | q
      · exact hne q
      · obtain ⟨p, hp, e⟩ := List.mem_map.mp q
        obtain ⟨o, ho⟩ := F.alive p hp
        rw [e, hno] at ho; cases ho
    · rcases List.mem_cons.mp hp with rfl | hp
      · exact ⟨he'.notNs F1.ns, he'⟩
      · exact F1.led p hp
theorem enumIter {e it : Addr} {i : Int} {old : Value} {Q : Value → Shared → Prop} (F : Fx c m ((e, .enum it i old) :: ℓ) s) (h : Q (.ref e) s) : wpAny (model prog w) A (pyIter (.ref e)) Q E s := wpAny_pyIter_enum (F.at (.head _)).get h
/-- two own things turned at once -/
theorem Fx.turn2 {a b : Addr} {k k' j j' : Kn} (F : Fx c m ((a, k) :: (b, j) :: ℓ) s) (wa : Own c a) (wb : Own c b) {h' : Heap} {tk : Nat} (hs : ∀ x o, x ≠ a → x ≠ b → s.heap.get? x = some o → h'.get? x = some o) (ha : At h' a k') (hb : At h' b j') :
    Fx c m ((a, k') :: (b, j') :: ℓ) { s with heap := h', toks := tk } := by
  have nd := F.nd
  simp only [List.map_cons, List.nodup_cons, List.mem_cons, not_or] at nd
  refine F.turnS (S := [a, b]) (fun x hx => ?_) ⟨h', tk, rfl⟩ (Ext.of_S fun x o hx e => hs x o (fun q => hx (q ▸ .head _)) (fun q => hx (q ▸ .tail _ (.head _))) e) (fun x o e => hs x o (fun q => ?_) (fun q => ?_) (F.kg x o e)) (fun x hx _ => ?_) F.nd fun p hp => ?_
  · rcases List.mem_cons.mp hx with rfl | hx
    · exact ⟨wa, F.neL (.head _)⟩
    · rw [List.mem_singleton.mp hx]; exact ⟨wb, F.neL (.tail _ (.head _))⟩
  · rw [q, wa.off] at e; cases e
  · rw [q, wb.off] at e; cases e
  · rcases List.mem_cons.mp hx with rfl | hx
    · obtain ⟨o, e, _⟩ := ha; exact ⟨o, e⟩
    · rw [List.mem_singleton.mp hx]; obtain ⟨o, e, _⟩ := hb; exact ⟨o, e⟩
  · rcases List.mem_cons.mp hp with rfl | hp
    · exact .inr ⟨F.neL (.head _), ha⟩
    · rcases List.mem_cons.mp hp with rfl | hp
      · exact .inr ⟨F.neL (.tail _ (.head _)), hb⟩
      · refine .inl ⟨.tail _ (.tail _ hp), fun q => ?_⟩
        rcases List.mem_cons.mp q with q | q
        · exact nd.1.2 (List.mem_map.mpr ⟨p, hp, q⟩)
        · exact nd.2.1 (List.mem_map.mpr ⟨p, hp, List.mem_singleton.mp q⟩)
/-- an item of an enumeration -/
theorem enumItem {e it l : Addr} {its : Array Value} {i : Nat} {old x : Value} {Q : Option Value → Shared → Prop} (F : Fx c m ((e, .enum it i old) :: (it, .liter l i) :: ℓ) s) (hl : (l, Kn.sq "list" its) ∈ ℓ) (we : Own c e) (wi : Own c it) (hx : its[i]? = some x)
    (h1 : ∀ t a s', Fx c m ((a, .tup [.int i t, x]) :: (e, .enumOut it ((i : Int) + 1) x a) :: (it, .liter l (i + 1)) :: ℓ) s' → Fresh c a → Q (some (.ref a)) s') : wpAny (model prog w) A (pyNext (.ref e)) Q E s := by
  have nd := F.nd
  simp only [List.map_cons, List.nodup_cons, List.mem_cons, not_or] at nd
  refine wpAny_pyNext_enum_item (F.at (.head _)).get (F.at (.tail _ (.head _))).isIter (F.at (.tail _ (.tail _ hl))).isList hx nd.1.1 fun h' k1 k2 k3 _ k5 => ?_
  have F1 := F.turn2 we wi (tk := s.toks + 1) k5 (At.of k1) (At.ofIter k2)
  have hal : ∀ p ∈ (e, Kn.enumOut it ((i : Int) + 1) x s.heap.objs.size) :: (it, Kn.liter l (i + 1)) :: ℓ, ∃ o, s.heap.get? p.1 = some o := fun p hp => by
    rcases List.mem_cons.mp hp with rfl | hp
    · exact F.alive (e, .enum it i old) (.head _)
    · rcases List.mem_cons.mp hp with rfl | hp
      · exact F.alive (it, .liter l i) (.tail _ (.head _))
      · exact F.alive _ (.tail _ (.tail _ hp))
  obtain ⟨F2, fa⟩ := F1.add F (a := s.heap.objs.size) (k := .tup [.int i s.toks, x]) (get?_size _) hal ⟨_, k3, rfl, _, rfl⟩
  exact h1 _ _ _ F2 fa
theorem enumOwned {elts : List Expr} {x1} {pos : Pos} {e it a : Addr} {i : Int} {item : Value} {Q : Unit → Shared → Prop} (F : Fx c m ((e, .enumOut it i item a) :: ℓ) s) (we : Own c e) (h : ∀ s', Fx c m ((e, .enum it i item) :: ℓ) s' → Q () s') :
    wpAny (model prog w) A (letOwnedTupleGo (.Tuple elts x1 pos) (.ref e) (.ref a)) Q E s := wpAny_letOwnedTupleGo_enum (F.at (.head _)).get fun h' k hs => h _ (F.turn we hs.extBut (At.of k))
theorem unpackT {env : Env} {elts : List Expr} {x1} {pos : Pos} {t : Addr} {its : List Value} {Q : Unit → Shared → Prop} (F : Fx c m ℓ s) (ht : (t, Kn.tup its) ∈ ℓ) (hh : A.handled = none) (hn : (assignEach elts env).length = its.toArray.size) (hstar : (assignEach elts env).findIdx? (·.1) = none)
    (h : ∀ s', Fx c m ℓ s' → wpAny (model prog w) A (assignInOrder ((assignEach elts env).map (·.2)) its) Q E s') : wpAny (model prog w) A (assign (.Tuple elts x1 pos) env (.ref t)) Q E s :=
  wpAny_assign_Tuple hh (F.at ht).isTuple hn hstar fun h' k => h _ (F.keep (tk := s.toks) fun b o e => k b o (Nat.ne_of_lt (Heap.lt_size e)) e)
theorem appL {l : Addr} {its : List Value} {x : Value} {Q : Value → Shared → Prop} (F : Fx c m ((l, .list its) :: ℓ) s) (ow : Own c l) (hz : its.length < 2 ^ 20) (h : ∀ s', Fx c m ((l, .list (its ++ [x])) :: ℓ) s' → Q .none s') : wpAny (model prog w) A (call (.builtin "list.append") [.ref l, x]) Q E s :=
  wpAny_list_append (F.at (.head _)).isList (fun h' k hs => h _ (F.turn ow hs.extBut (k' := .list (its ++ [x])) (by show At h' l (.sq "list" (its ++ [x]).toArray); rw [← List.push_toArray]; exact k))) (by rw [List.size_toArray, sizeLine_eq]; exact om82 hz)
end
end Mine
namespace Mine
open PySem PySem.Calls PyProof.Rows PySem.W
open Sem (wp)
/-! ## drawing from iterators: what is left of them is told -/
abbrev Kn.lidone (i : Nat) : Kn := .fd "list_iterator" #[.none, .int i 0]
def StopAt (h : Heap) (e : Addr) : Prop := ∃ o, h.get? e = some o ∧ o.cls = .type "StopIteration"
section
variable {prog : Program} {w : World} {A : Around} {E : Value → Shared → Prop} {s : Shared} {c : Cx} {m : Str → Option Value} {ℓ : List (Addr × Kn)}
theorem stopRule {α : Type} {M : Model} {Q : α → Shared → Prop} (hh : A.handled = none) (h : ∀ h' e, (∀ b o, s.heap.get? b = some o → h'.get? b = some o) → StopAt h' e → E (.ref e) { s with heap := h' }) : wpAny M A (Builtin.SmallTypes.stopIteration : Sem α) Q E s := by
  unfold Builtin.SmallTypes.stopIteration newExc newTuple raiseNew
  refine wpAny_bind (wpAny_bind (wpAny_newObj_type ?_ (by size_fits)))
  refine wpAny_bind (wpAny_of_eq (a := Value.none) (by rfl) ?_)
  refine wpAny_newObj_type ?_ (by size_fits)
  refine wpAny_bind (wpAny_handled ?_)
  rw [hh]
  refine wpAny_bind (wpAny_pure (wpAny_throw (h _ _ (fun b o e => Heap.get?_push_of_some _ (Heap.get?_push_of_some _ e)) ⟨_, Heap.get?_push_size _ rfl, rfl⟩)))
theorem drawLi {l it : Addr} {its : Array Value} {i : Nat} {Q : Option Value → Shared → Prop} (F : Fx c m ((it, .liter l i) :: ℓ) s) (hl : (l, Kn.sq "list" its) ∈ ℓ) (ow : Own c it) (hh : A.handled = none)
    (h1 : ∀ x, its[i]? = some x → ∀ s', Fx c m ((it, .liter l (i + 1)) :: ℓ) s' → Q (some x) s') (h2 : its[i]? = none → ∀ e s', Fx c m ((it, .lidone i) :: ℓ) s' → StopAt s'.heap e → E (.ref e) s') :
    wpAny (model prog w) A (callSpecial? (.ref it) (Str.ofString "__next__")) Q E s := by
  obtain ⟨o, ho, hc, hd⟩ := F.at (.head _)
  obtain ⟨ol, hol, _, nl, hdl⟩ := F.at (.tail _ hl)
  have hT : s.TypeIs (.ref it) "list_iterator" := ⟨o, ho, hc⟩
  have upd : ∀ (k : Nat) (v : Value) (vs : Array Value), (#[.ref l, .int i 0] : Array Value).setIfInBounds k v = vs → At (s.heap.update it (Obj.mapFields (·.setIfInBounds k v))) it (.fd "list_iterator" vs) := fun k v vs e =>
    ⟨_, Heap.get?_update_self _ ho (Obj.isFreed_of_fields (Obj.data_mapFields hd _)), (Obj.cls_mapFields ..).trans hc, by rw [Obj.data_mapFields hd, e]⟩
  refine wpAny_callSpecial?_slot (name := Str.ofString "__next__") hT slot_listiter_next (wpAny_call_entry slot_listiter_next hT entry_listiter_next ?_ (args_listiter_next _))
  show wpAny _ _ (field (.ref it) 0 >>= _) _ _ s
  refine wpAny_bind (wpAny_field ho hd (x := .ref l) rfl ?_)
  rw [if_neg (show ¬ ((Value.ref l == Value.none) = true) from Bool.false_ne_true)]
  refine wpAny_bind (wpAny_field ho hd (x := .int i 0) rfl ?_)
  refine wpAny_bind (wpAny_seqItems hol hdl ?_)
  simp only [Int.toNat_natCast]
  cases hx : its[i]? with
  | some x => exact wpAny_bind (wpAny_setField ho hd (by simp) (wpAny_pure ⟨x, rfl, h1 x hx _ (F.turn ow (Heap.SameBut.update ..).extBut (upd 1 _ _ rfl))⟩))
  | none =>
    refine wpAny_bind (wpAny_rule (wpAny_bind (wpAny_setField ho hd (by simp) ?_)))
    exact stopRule hh fun h' e hk hs => h2 hx e _ ((F.turn (tk := s.toks) ow (Heap.SameBut.update ..).extBut (upd 0 _ _ rfl)).keep (tk := s.toks) hk) hs
/-- an iterator that is through -/
theorem drawDone {it : Addr} {i : Nat} {Q : Option Value → Shared → Prop} (F : Fx c m ℓ s) (hi : (it, .lidone i) ∈ ℓ) (hh : A.handled = none) (h2 : ∀ e s', Fx c m ℓ s' → StopAt s'.heap e → E (.ref e) s') :
    wpAny (model prog w) A (callSpecial? (.ref it) (Str.ofString "__next__")) Q E s := by
  obtain ⟨o, ho, hc, hd⟩ := F.at hi
  have hT : s.TypeIs (.ref it) "list_iterator" := ⟨o, ho, hc⟩
  refine wpAny_callSpecial?_slot (name := Str.ofString "__next__") hT slot_listiter_next (wpAny_call_entry slot_listiter_next hT entry_listiter_next ?_ (args_listiter_next _))
  show wpAny _ _ (field (.ref it) 0 >>= _) _ _ s
  refine wpAny_bind (wpAny_field ho hd (x := .none) rfl ?_)
  rw [if_pos (by rfl)]
  refine wpAny_bind (wpAny_rule (wpAny_bind ?_))
  exact stopRule hh fun h' e hk hs => h2 e _ (F.keep (tk := s.toks) hk) hs
/-- pyNext, out of a draw -/
theorem nextBy {it : Value} {Q : Option Value → Shared → Prop} (h : ∀ (Q' : Option Value → Shared → Prop) (E' : Value → Shared → Prop), (∀ x s', Q (some x) s' → Q' (some x) s') → (∀ e s', StopAt s'.heap e → Q none s' → E' (.ref e) s') → wpAny (model prog w) A (callSpecial? it (Str.ofString "__next__")) Q' E' s) :
    wpAny (model prog w) A (pyNext it) Q E s := by
  unfold pyNext
  refine wpAny_bind (wpAny_attempt (h _ _ (fun x s' hq => wpAny_pure hq) fun e s' hs hq => ?_))
  obtain ⟨o, ho, hc⟩ := hs
  refine wpAny_bind (wpAny_isInstance (T := "StopIteration") (b := true) ⟨o, ho, hc⟩ isSubtype_stop ?_)
  exact wpAny_pure hq
theorem nextL {l it : Addr} {its : Array Value} {i : Nat} {Q : Option Value → Shared → Prop} (F : Fx c m ((it, .liter l i) :: ℓ) s) (hl : (l, Kn.sq "list" its) ∈ ℓ) (ow : Own c it) (hh : A.handled = none)
    (h1 : ∀ x, its[i]? = some x → ∀ s', Fx c m ((it, .liter l (i + 1)) :: ℓ) s' → Q (some x) s') (h2 : its[i]? = none → ∀ s', Fx c m ((it, .lidone i) :: ℓ) s' → Q none s') : wpAny (model prog w) A (pyNext (.ref it)) Q E s :=
  nextBy fun _ _ k1 k2 => drawLi F hl ow hh (fun x hx s' F => k1 x s' (h1 x hx s' F)) fun hx e s' F hs => k2 e s' hs (h2 hx s' F)
theorem drawRi {it : Addr} {x y z : Int} {Q : Option Value → Shared → Prop} (F₀ : Fx c m ((it, .riter x y z) :: ℓ) s) (ow : Own c it) (hh : A.handled = none) (h1 : 0 < y → ∀ t s', Fx c m ((it, .riter (x + z) (y - 1) z) :: ℓ) s' → Q (some (.int x t)) s')
    (h2 : y ≤ 0 → ∀ e s', Fx c m ((it, .riter x y z) :: ℓ) s' → StopAt s'.heap e → E (.ref e) s') : wpAny (model prog w) A (callSpecial? (.ref it) (Str.ofString "__next__")) Q E s := by
  have hit := (F₀.at (.head _)).get
  have hT : s.TypeIs (.ref it) "range_iterator" := ⟨_, hit, rfl⟩
  by_cases hy : 0 < y
  · refine wpAny_callSpecial?_slot (name := Str.ofString "__next__") hT F.slot_range_iterator_next (call_meets F.slot_range_iterator_next hT F.entry_range_iterator_next (F.args_range_iterator_next_1 _) (AutoRange.range_iterator___next___range_iterator_1 it x y z (by exact om75 hy)) ⟨hit, ?_⟩)
    exact h1 hy _ _ (F₀.turn ow ((Heap.SameBut.update ..).trans (Heap.SameBut.update ..)).extBut (At.of (Heap.get?_update_self _ (Heap.get?_update_self _ hit rfl) rfl)))
  · refine wpAny_callSpecial?_slot (name := Str.ofString "__next__") hT F.slot_range_iterator_next (wpAny_call_entry F.slot_range_iterator_next hT F.entry_range_iterator_next ?_ (F.args_range_iterator_next_1 _))
    show wpAny _ _ (field (.ref it) 0 >>= _) _ _ s
    refine wpAny_bind (wpAny_field hit rfl (x := rawInt x) rfl (wpAny_bind (wpAny_field hit rfl (x := rawInt y) rfl (wpAny_bind (wpAny_field hit rfl (x := rawInt z) rfl ?_)))))
    show wpAny _ _ (if y ≤ 0 then _ else _) _ _ s
    rw [if_pos (by exact om77 hy)]
    exact wpAny_bind (wpAny_rule (wpAny_bind (stopRule hh fun h' e hk hs => h2 (by exact om77 hy) e _ (F₀.keep (tk := s.toks) hk) hs)))
theorem nextRo {it : Addr} {x y z : Int} {Q : Option Value → Shared → Prop} (F : Fx c m ((it, .riter x y z) :: ℓ) s) (ow : Own c it) (hh : A.handled = none) (h1 : 0 < y → ∀ t s', Fx c m ((it, .riter (x + z) (y - 1) z) :: ℓ) s' → Q (some (.int x t)) s')
    (h2 : y ≤ 0 → ∀ s', Fx c m ((it, .riter x y z) :: ℓ) s' → Q none s') : wpAny (model prog w) A (pyNext (.ref it)) Q E s :=
  nextBy fun _ _ k1 k2 => drawRi F ow hh (fun hy t s' F => k1 _ s' (h1 hy t s' F)) fun hy e s' F hs => k2 e s' hs (h2 hy s' F)
theorem nextDone {it : Addr} {i : Nat} {Q : Option Value → Shared → Prop} (F : Fx c m ℓ s) (hi : (it, .lidone i) ∈ ℓ) (hh : A.handled = none) (h2 : ∀ s', Fx c m ℓ s' → Q none s') : wpAny (model prog w) A (pyNext (.ref it)) Q E s :=
  nextBy fun _ _ _ k2 => drawDone F hi hh fun e s' F hs => k2 e s' hs (h2 s' F)
/-- the end of an enumeration -/
theorem enumEnd {e it l : Addr} {its : Array Value} {i : Nat} {old : Value} {Q : Option Value → Shared → Prop} (F : Fx c m ((e, .enum it i old) :: (it, .liter l i) :: ℓ) s) (hl : (l, Kn.sq "list" its) ∈ ℓ) (wi : Own c it) (hh : A.handled = none) (hx : its[i]? = none)
    (h2 : ∀ s', Fx c m ((e, .enum it i old) :: (it, .lidone i) :: ℓ) s' → Q none s') : wpAny (model prog w) A (pyNext (.ref e)) Q E s := by
  have he := (F.at (.head _)).get
  have hT : s.TypeIs (.ref e) "enumerate" := ⟨_, he, rfl⟩
  refine nextBy fun _ _ _ k2 => wpAny_callSpecial?_slot (name := Str.ofString "__next__") hT PySem.F.slot_enumerate_next (wpAny_call_entry PySem.F.slot_enumerate_next hT PySem.F.entry_enumerate_next ?_ (PySem.F.args_enumerate_next_1 _))
  show wpAny _ _ (field (.ref e) 2 >>= _) _ _ _
  refine wpAny_bind (wpAny_field he rfl (x := .ref it) rfl ?_)
  refine wpAny_bind (wpAny_bind ?_)
  refine drawLi F.swap (.tail _ hl) wi hh (fun x hx' => by rw [hx] at hx'; cases hx') fun _ e' s' F' hs => k2 e' s' hs (h2 s' F'.swap)
theorem enumStep {e it l : Addr} {its : Array Value} {i : Nat} {old : Value} {Q : Option Value → Shared → Prop} (F : Fx c m ((e, .enum it i old) :: (it, .liter l i) :: ℓ) s) (hl : (l, Kn.sq "list" its) ∈ ℓ) (we : Own c e) (wi : Own c it) (hh : A.handled = none)
    (h1 : ∀ x, its[i]? = some x → ∀ t a s', Fx c m ((a, .tup [.int i t, x]) :: (e, .enumOut it ((i : Int) + 1) x a) :: (it, .liter l (i + 1)) :: ℓ) s' → Fresh c a → Q (some (.ref a)) s')
    (h2 : its[i]? = none → ∀ s', Fx c m ((e, .enum it i old) :: (it, .lidone i) :: ℓ) s' → Q none s') : wpAny (model prog w) A (pyNext (.ref e)) Q E s := by
  cases hx : its[i]? with
  | some x => exact enumItem F hl we wi hx (h1 x hx)
  | none => exact enumEnd F hl wi hh hx (h2 hx)
end
end Mine
namespace Mine
open PySem PySem.Calls PyProof.Rows PySem.W
open Sem (wp)
/-! ## _law_pairs -/
section
variable {c : Cx} {m : Str → Option Value} {ℓ : List (Addr × Kn)} {s : Shared}
/-- what a call has made comes into the caller's ledger -/
theorem Fx.grow (F : Fx c m ℓ s) {s' : Shared} (P : Post c.G [] s s') {new : List (Addr × Kn)} (nd : (new.map (·.1)).Nodup) (hat : ∀ p ∈ new, At s'.heap p.1 p.2) (hno : ∀ p ∈ new, s.heap.get? p.1 = none) : Fx c m (new ++ ℓ) s' ∧ ∀ p ∈ new, Fresh c p.1 := by
  have F' := F.after0 P
  refine ⟨⟨F'.sh, F'.kg, F'.ns, ?_, fun p hp => ?_, F'.ext, F'.sal, F'.gl, F'.el⟩, fun p hp => F.new_of (hno p hp)⟩
  · rw [List.map_append]
    refine List.nodup_append.mpr ⟨nd, F'.nd, fun a ha b hb q => ?_⟩
    obtain ⟨p, hp, rfl⟩ := List.mem_map.mp ha
    obtain ⟨p', hp', rfl⟩ := List.mem_map.mp hb
    obtain ⟨o, ho⟩ := F.alive p' hp'
    rw [← q, hno p hp] at ho; cases ho
  · rcases List.mem_append.mp hp with hp | hp
    · exact ⟨(hat p hp).notNs F'.ns, hat p hp⟩
    · exact F'.led p hp
end
section
variable {c : Cx} {m : Str → Option Value} {s : Shared}
/-- bring the third, the fourth, the fifth to the front -/
theorem Fx.br2 {a b p : Addr × Kn} {ℓ : List (Addr × Kn)} (F : Fx c m (a :: b :: p :: ℓ) s) : Fx c m (p :: a :: b :: ℓ) s := F.perm (List.perm_middle (l₁ := [a, b])).symm
theorem Fx.br3 {a b d p : Addr × Kn} {ℓ : List (Addr × Kn)} (F : Fx c m (a :: b :: d :: p :: ℓ) s) : Fx c m (p :: a :: b :: d :: ℓ) s := F.perm (List.perm_middle (l₁ := [a, b, d])).symm
theorem Fx.br4 {a b d e p : Addr × Kn} {ℓ : List (Addr × Kn)} (F : Fx c m (a :: b :: d :: e :: p :: ℓ) s) : Fx c m (p :: a :: b :: d :: e :: ℓ) s := F.perm (List.perm_middle (l₁ := [a, b, d, e])).symm
/-- put the first third, fourth -/
theorem Fx.to2 {a b p : Addr × Kn} {ℓ : List (Addr × Kn)} (F : Fx c m (p :: a :: b :: ℓ) s) : Fx c m (a :: b :: p :: ℓ) s := F.perm (List.perm_middle (l₁ := [a, b]))
theorem Fx.to3 {a b d p : Addr × Kn} {ℓ : List (Addr × Kn)} (F : Fx c m (p :: a :: b :: d :: ℓ) s) : Fx c m (a :: b :: d :: p :: ℓ) s := F.perm (List.perm_middle (l₁ := [a, b, d]))
theorem Fx.drop2nd {a b : Addr × Kn} {ℓ : List (Addr × Kn)} (F : Fx c m (a :: b :: ℓ) s) : Fx c m (a :: ℓ) s := F.sublist ((List.sublist_cons_self _ _).cons₂ _)
end
abbrev pairKn (g : Bool) (i : Nat) (t : Tok) (row : Value) : Kn := .tup [.int (if g then (i : Int) else -(i : Int)) t, row]
def pl (g : Bool) (rows : List Value) : Nat → List (Addr × Tok) → List (Addr × Kn)
  | _, [] => []
  | k, (a, t) :: r => (a, pairKn g k t (rows.getD k .none)) :: pl g rows (k + 1) r
theorem pl_snoc (g : Bool) (rows : List Value) (a : Addr) (t : Tok) : ∀ (k : Nat) (as : List (Addr × Tok)), pl g rows k (as ++ [(a, t)]) = pl g rows k as ++ [(a, pairKn g (k + as.length) t (rows.getD (k + as.length) .none))]
  | _, [] => rfl
  | k, x :: r => by
    show _ :: pl g rows (k + 1) (r ++ [(a, t)]) = _ :: (pl g rows (k + 1) r ++ _)
    rw [pl_snoc g rows a t (k + 1) r, List.length_cons, Nat.add_right_comm k 1 r.length, Nat.add_assoc k r.length 1]
abbrev refsOf (as : List (Addr × Tok)) : List Value := as.map fun p => .ref p.1
section
variable {prog : Program} {w : World} {A : Around} {E : Value → Shared → Prop} {s : Shared} {Q : Value → Shared → Prop}
set_option maxHeartbeats 1000000 in
theorem pairs_spec {G : Heap} {rows : List Value} {rl : Addr} {g : Bool} (B : Base G) (kg : G.StaysIn s.heap) (rm : Rm A 3) (hr : At s.heap rl (.list rows)) (hz : rows.length ≤ 64)
    (h : ∀ l as s', Post G [] s s' → as.length = rows.length → (((l, Kn.list (refsOf as)) :: pl g rows 0 as).map (·.1)).Nodup → (∀ p ∈ (l, Kn.list (refsOf as)) :: pl g rows 0 as, At s'.heap p.1 p.2) → (∀ p ∈ (l, Kn.list (refsOf as)) :: pl g rows 0 as, s.heap.get? p.1 = none) → Q (.ref l) s') :
    wpAny (model prog w) A (call (.ref 111) [.bool g, .ref rl]) Q E s := by
  refine enterC (i := 17) (cd := 110) (vals := [.bool g, .ref rl]) (binds := [("greatest", .bool g), ("rows", .ref rl)]) B kg (B.fn (17, 111, 110, .none) (by decide)) rm [] (fun _ q => nomatch q) [(rl, .list rows)] (by simp) (fun p hp => by rw [List.mem_singleton.mp hp]; exact hr) (fun doc pm an ct => rfl) ?_
  intro L A' Z X₀ s₁ rm' hfc hZ F
  have hh : A'.handled = none := rm'.hh
  have F : Fx ⟨G, L, [], s⟩ _ [(L + 1 + 0, .cell (some (.bool g))), (rl, .list rows)] s₁ := F
  refine ec (wpAny_Return_some ?_)
  refine aComp (cl := [("greatest", L + 1 + 0)]) (by rfl) (by rfl) (by decide) (by decide) (Call_ (nmB B F rfl (PyProof.Rows.callWith_type1 (args_cons (nmL F rfl (args_nil (enumNew F (.tail _ (.head _)) fun e it s₂ F fe fi => enumIter F ?_)))))))
  intro h₁ hns hk hacc
  have nd := F.nd
  simp only [List.map_cons, List.nodup_cons, List.mem_cons, not_or] at nd
  have hG : ∀ a ∈ [e, it], G.get? a = none ∧ ∃ o, s₂.heap.get? a = some o := fun a ha => by
    rcases List.mem_cons.mp ha with rfl | ha
    · exact ⟨fe.off, F.alive _ (.head _)⟩
    · rw [List.mem_singleton.mp ha]; exact ⟨fi.off, F.alive _ (.tail _ (.head _))⟩
  have F' := F.comp [e, it] hG hns hk hacc
  have ac : Fresh ⟨G, s₂.heap.objs.size + 1, [e, it], s₂⟩ s₂.heap.objs.size := ⟨⟨get?_size _, fun q => by
    rcases List.mem_cons.mp q with q | q
    · obtain ⟨o, ho⟩ := F.alive _ (.head _); rw [← q, get?_size] at ho; cases ho
    · obtain ⟨o, ho⟩ := F.alive _ (.tail _ (.head _)); rw [← List.mem_singleton.mp q, get?_size] at ho; cases ho⟩, F.freshG_of (get?_size _)⟩
  have we : Own ⟨G, s₂.heap.objs.size + 1, [e, it], s₂⟩ e := ⟨.inl (.head _), fe.off⟩
  have wi : Own ⟨G, s₂.heap.objs.size + 1, [e, it], s₂⟩ it := ⟨.inl (.tail _ (.head _)), fi.off⟩
  refine ⟨fun hq => enumIter F'.tail hq, ?_⟩
  have F0 := F
  have O : EnvOk ⟨G, s₂.heap.objs.size + 1, [e, it], s₂⟩ (compEnvC ⟨.function, [(".0", .local), ("place", .local), ("row", .local), ("greatest", .free)], false, false, []⟩ [("greatest", L + 1 + 0)] (s₂.heap.objs.size + 1) (envC 17 L 111 110)) := ⟨rfl, rfl, rfl, rfl⟩
  refine aLoop (fun n s' => ∃ (i : Nat) (as : List (Addr × Tok)) (old : Value) (m' : Str → Option Value), Fx ⟨G, s₂.heap.objs.size + 1, [e, it], s₂⟩ m' ((s₂.heap.objs.size, .list (refsOf as)) :: (e, .enum it i old) :: (it, .liter rl i) :: (pl g rows 0 as ++ [(L + 1 + 0, .cell (some (.bool g))), (rl, .list rows)])) s' ∧
    as.length = i ∧ i ≤ rows.length ∧ (∀ p ∈ pl g rows 0 as, s₂.heap.get? p.1 = none) ∧ n = rows.length - i) ?_ rows.length ⟨0, [], .none, _, F', rfl, Nat.zero_le _, (fun _ q => nomatch q), rfl⟩
  clear F F'
  rintro W D X n s₃ hW hD - ⟨i, as, old, m', F, has, hi, hfr, rfl⟩
  have hrl : ∀ {k : Kn}, (rl, Kn.list rows) ∈ (s₂.heap.objs.size, k) :: (pl g rows 0 as ++ [(L + 1 + 0, .cell (some (.bool g))), (rl, .list rows)]) := .tail _ (List.mem_append_right _ (.tail _ (.head _)))
  refine enumStep F.to2 hrl we wi hh (fun x hx t a s₄ F fa => ?_) fun hx s₄ F => ?_
  · refine enumOwned F.swap we fun s₅ F => ?_
    refine unpackT F (.tail _ (.head _)) hh rfl rfl fun s₆ F => ?_
    refine assignInOrder_cons (wpAny_assign_Name (gst O F fun s₇ F => assignInOrder_cons (wpAny_assign_Name (gst O F fun s₈ F => assignInOrder_nil ?_))))
    refine wpAny_pure ?_
    rw [if_pos rfl]
    have hxr : rows.getD i .none = x := by
      rw [List.getElem?_toArray] at hx
      rw [List.getD_eq_getElem?_getD, hx]; rfl
    have hil : i < rows.length := by
      rw [List.getElem?_toArray] at hx
      exact (List.getElem?_eq_some_iff.mp hx).1
    have fin : ∀ (t' : Tok) {s₉ : Shared} {m₉ : Str → Option Value}, Fx ⟨G, s₂.heap.objs.size + 1, [e, it], s₂⟩ m₉ ((e, .enum it ((i : Int) + 1) x) :: (a, .tup [.int i t, x]) :: (it, .liter rl (i + 1)) :: (s₂.heap.objs.size, .list (refsOf as)) :: (pl g rows 0 as ++ [(L + 1 + 0, .cell (some (.bool g))), (rl, .list rows)])) s₉ →
        ∀ (Q' : Value → Shared → Prop) (E' : Value → Shared → Prop), (∀ (v : Value) s', (∃ b, v = .ref b ∧ s₂.heap.get? b = none ∧ Fx ⟨G, s₂.heap.objs.size + 1, [e, it], s₂⟩ m₉ ((b, pairKn g i t' x) :: (e, .enum it ((i : Int) + 1) x) :: (it, .liter rl (i + 1)) :: (s₂.heap.objs.size, .list (refsOf as)) :: (pl g rows 0 as ++ [(L + 1 + 0, .cell (some (.bool g))), (rl, .list rows)])) s') → Q' v s') →
        wpAny (model prog w) A' (newTuple [.int (if g then (i : Int) else -(i : Int)) t', x]) Q' E' s₉ := fun t' s₉ m₉ F Q' E' hq => by
      have F2 := F.swap.tail
      refine wpAny_newObj_type (hq _ _ ⟨_, rfl, ?_, F2.pushS "tuple" _⟩) (by size_fits)
      exact F2.fresh_of (get?_size _)
    have done : ∀ (t' : Tok) {s' : Shared} {v : Value} {m₉ : Str → Option Value} {Eq : Value → Shared → Prop}, (∃ b, v = .ref b ∧ s₂.heap.get? b = none ∧ Fx ⟨G, s₂.heap.objs.size + 1, [e, it], s₂⟩ m₉ ((b, pairKn g i t' x) :: (e, .enum it ((i : Int) + 1) x) :: (it, .liter rl (i + 1)) :: (s₂.heap.objs.size, .list (refsOf as)) :: (pl g rows 0 as ++ [(L + 1 + 0, .cell (some (.bool g))), (rl, .list rows)])) s') →
        wpAny (model prog w) A' (call (.builtin "list.append") [.ref s₂.heap.objs.size, v]) (fun _ s₅ => W s₅) Eq s' := by
      rintro t' s' v m₉ Eq ⟨b, rfl, hb, F⟩
      refine appL F.br3 ac.own (by rw [List.length_map]; exact om83 hz has hil) fun s₅ F => ?_
      refine hW _ ⟨rows.length - (i + 1), by exact om85 hil, i + 1, as ++ [(b, t')], x, m₉, ?_, by rw [List.length_append, has]; rfl, by exact om84 hil, fun p hp => ?_, rfl⟩
      · rw [pl_snoc, Nat.zero_add, has, hxr]
        have e1 : refsOf (as ++ [(b, t')]) = refsOf as ++ [.ref b] := by simp [refsOf]
        rw [e1, List.append_assoc]
        refine F.perm (List.Perm.cons _ ?_)
        refine (List.perm_middle (l₁ := (e, Kn.enum it ((i + 1 : Nat) : Int) x) :: (it, .liter rl (i + 1)) :: pl g rows 0 as)).trans ?_
        exact List.Perm.refl _
      · rw [pl_snoc] at hp
        rcases List.mem_append.mp hp with hp | hp
        · exact hfr p hp
        · rw [List.mem_singleton.mp hp]; exact hb
    cases g
    · refine Tuple_ (args_cons (IfExp_ (wpAny_isTrue_value (gnC (v := .bool false) O F rfl (.tail _ (.tail _ (.tail _ (.tail _ (List.mem_append_right _ (.head _)))))) (wpAny_truthy_bool ?_)))))
      rw [if_neg Bool.false_ne_true]
      exact UnaryOp_ (gnL O F rfl (iNeg F fun t' _ F => args_cons (gnL O F rfl (args_nil (fin t' F _ _ fun v s' hv => done t' hv)))))
    · refine Tuple_ (args_cons (IfExp_ (wpAny_isTrue_value (gnC (v := .bool true) O F rfl (.tail _ (.tail _ (.tail _ (.tail _ (List.mem_append_right _ (.head _)))))) (wpAny_truthy_bool ?_)))))
      rw [if_pos rfl]
      exact gnL O F rfl (args_cons (gnL O F rfl (args_nil (fin t F _ _ fun v s' hv => done t hv))))
  · have hil : i = rows.length := by
      rw [List.getElem?_toArray] at hx
      have := List.getElem?_eq_none_iff.mp hx
      exact om86 hi this
    refine hD _ ⟨⟨_, F.ns⟩, fun h' hs => ?_⟩
    have Fb := F0.back F (fun a ha => ?_) (fun q => ?_) hs
    · have Fb := Fb.tail.tail
      have Fb := Fb.sublist (List.Sublist.cons₂ _ (List.sublist_append_left _ _))
      refine hZ _ _ (h s₂.heap.objs.size as _ Fb.post (by exact om87 has hil) Fb.nd (fun p hp => (Fb.led p hp).2) fun p hp => F0.fresh_of ?_)
      rcases List.mem_cons.mp hp with rfl | hp
      · exact get?_size _
      · exact hfr p hp
    · rcases List.mem_cons.mp ha with rfl | ha
      · exact ⟨fe.own, F0.neL (.head _)⟩
      · rw [List.mem_singleton.mp ha]; exact ⟨fi.own, F0.neL (.tail _ (.head _))⟩
    · have hno : s₂.heap.get? (s₂.heap.objs.size + 1) = none := Heap.get?_none_of_le (Nat.le_succ _)
      rcases List.mem_cons.mp q with q | q
      · obtain ⟨o, ho⟩ := F0.alive _ (.head _); rw [← q, hno] at ho; cases ho
      · obtain ⟨o, ho⟩ := F0.alive _ (.tail _ (.head _)); rw [← List.mem_singleton.mp q, hno] at ho; cases ho
end
end Mine
namespace Mine
open PySem PySem.Calls PyProof.Rows PySem.W
open Sem (wp)
section
variable {c : Cx} {m : Str → Option Value} {ℓ : List (Addr × Kn)} {s : Shared}
/-- all that a comprehension's frame needs, at once -/
theorem Fx.compKit (F : Fx c m ℓ s) (S : List (Addr × Kn)) (hS : ∀ p ∈ S, p ∈ ℓ) (own : ∀ p ∈ S, Own c p.1) {h₁ : Heap} (hns : h₁.Ns (s.heap.objs.size + 1) (fun _ => none)) (hk : ∀ b o, s.heap.get? b = some o → h₁.get? b = some o) (hacc : At h₁ s.heap.objs.size (.list [])) :
    Fx ⟨c.G, s.heap.objs.size + 1, S.map (·.1), s⟩ (fun _ => none) ((s.heap.objs.size, .list []) :: ℓ) { s with heap := h₁ } ∧ Fresh ⟨c.G, s.heap.objs.size + 1, S.map (·.1), s⟩ s.heap.objs.size ∧ (∀ p ∈ S, Own ⟨c.G, s.heap.objs.size + 1, S.map (·.1), s⟩ p.1) ∧
    ∀ {m' : Str → Option Value} {ℓ' : List (Addr × Kn)} {s' : Shared} {h' : Heap}, Fx ⟨c.G, s.heap.objs.size + 1, S.map (·.1), s⟩ m' ℓ' s' → Heap.SameBut (s.heap.objs.size + 1) s'.heap h' → Fx c m ℓ' { s' with heap := h' } := by
  have al : ∀ a ∈ S.map (·.1), c.G.get? a = none ∧ ∃ o, s.heap.get? a = some o := fun a ha => by
    obtain ⟨p, hp, rfl⟩ := List.mem_map.mp ha
    exact ⟨(own p hp).off, F.alive p (hS p hp)⟩
  have no : ∀ k, s.heap.objs.size ≤ k → k ∉ S.map (·.1) := fun k hk q => by
    obtain ⟨o, ho⟩ := (al k q).2
    exact absurd (Heap.lt_size ho) (Nat.not_lt.mpr hk)
  refine ⟨F.comp _ al hns hk hacc, ⟨⟨get?_size _, no _ (Nat.le_refl _)⟩, F.freshG_of (get?_size _)⟩, fun p hp => ⟨.inl (List.mem_map.mpr ⟨p, hp, rfl⟩), (own p hp).off⟩, fun F' hs => F.back F' (fun a ha => ?_) (no _ (Nat.le_succ _)) hs⟩
  obtain ⟨p, hp, rfl⟩ := List.mem_map.mp ha
  exact ⟨own p hp, F.neL (hS p hp)⟩
end
abbrev Kn.lst (its : List Value) (n : Nat) : Kn := .ex { cls := .type "list", data := .seq its.toArray n }
theorem iterL {prog : Program} {w : World} {A : Around} {E : Value → Shared → Prop} {s : Shared} {c : Cx} {m : Str → Option Value} {ℓ : List (Addr × Kn)} {l : Addr} {its : Array Value} {Q : Value → Shared → Prop} (F : Fx c m ℓ s) (hl : (l, Kn.sq "list" its) ∈ ℓ) (h : ∀ it s', Fx c m ((it, .liter l 0) :: ℓ) s' → Fresh c it → Q (.ref it) s') :
    wpAny (model prog w) A (pyIter (.ref l)) Q E s := wpAny_pyIter_list (F.at hl).isList (h _ _ (F.push _ (.liter l 0) ⟨rfl, rfl⟩) F.new)
theorem appX {prog : Program} {w : World} {A : Around} {E : Value → Shared → Prop} {s : Shared} {c : Cx} {m : Str → Option Value} {ℓ : List (Addr × Kn)} {l : Addr} {its : List Value} {n : Nat} {x : Value} {Q : Value → Shared → Prop} (F : Fx c m ((l, .lst its n) :: ℓ) s) (ow : Own c l) (hz : its.length < 2 ^ 20)
    (h : ∀ s', Fx c m ((l, .lst (its ++ [x]) (n + 1)) :: ℓ) s' → Q .none s') : wpAny (model prog w) A (call (.builtin "list.append") [.ref l, x]) Q E s :=
  append_at (F.at (.head _)).get (fun h' hs e => h _ (F.turn ow hs.extBut (At.of (by rw [← List.push_toArray]; exact e)))) (by rw [List.size_toArray, sizeLine_eq]; exact om82 hz)
theorem lstL {h : Heap} {l : Addr} {its : List Value} {n : Nat} (e : At h l (.lst its n)) : At h l (.list its) := ⟨_, e.get, rfl, _, rfl⟩
theorem plain1 {env : Env} {pos : Pos} {e : Expr} (h2 : starEach [e] env = [(false, eval e env)] := by rfl) : (backTo pos (starEach [e] env)).any (·.1) = false := by
  rw [h2]; rfl
def forBody (i k : Nat) : List Stmt := match (fdAt i).body[k]? with
  | some (.For _ _ b _ _) => b
  | _ => []
/-! ## _law_rows -/
def rowLen (width n : Int) : Nat := ((max 1 width.natAbs : Nat) * (n.fmod 3).toNat) + (if (n.fdiv 3).fmod 16 = 15 then 1 else 0)
def rowAt (n : Int) (p : Nat) : Int := (((n.fdiv 24) * 77).fdiv (256 ^ p)).fmod 256
def rowOf (width n : Int) : List UInt8 := (List.range (rowLen width n)).map fun p => (rowAt n p).toNat.toUInt8
section
variable {prog : Program} {w : World} {A : Around} {E : Value → Shared → Prop} {s : Shared} {Q : Value → Shared → Prop}
abbrev intsOf (ns : List (Int × Tok)) : List Value := ns.map fun p => .int p.1 p.2
abbrev rowsOf (rs : List (List UInt8 × Tok)) : List Value := rs.map fun p => .bytes p.1.toArray p.2
set_option maxHeartbeats 1000000 in
theorem rows_spec {G : Heap} {ns : List (Int × Tok)} {nl : Addr} {width : Int} {tw : Tok} (B : Base G) (kg : G.StaysIn s.heap) (rm : Rm A 3) (hr : At s.heap nl (.list (intsOf ns))) (hz : ns.length ≤ 64) (hw : -2 ≤ width ∧ width ≤ 4)
    (h : ∀ l ts s', Post G [] s s' → ts.length = ns.length → At s'.heap l (.list (rowsOf ((ns.map fun n => rowOf width n.1).zip ts))) → s.heap.get? l = none → Q (.ref l) s') :
    wpAny (model prog w) A (call (.ref 94) [.ref nl, .int width tw]) Q E s := by
  refine enterC (i := 14) (cd := 93) (vals := [.ref nl, .int width tw]) (binds := [("numbers", .ref nl), ("width", .int width tw)]) B kg (B.fn (14, 94, 93, .none) (by decide)) rm [] (fun _ q => nomatch q) [(nl, .list (intsOf ns))] (by simp) (fun p hp => by rw [List.mem_singleton.mp hp]; exact hr) (fun doc pm an ct => rfl) ?_
  intro L A' Z X₀ s₁ rm' hfc hZ F
  have hh : A'.handled = none := rm'.hh
  have F : Fx ⟨G, L, [], s⟩ _ [(L + 1 + 0, .cell none), (nl, .list (intsOf ns))] s₁ := F
  refine ec (wpAny_Assign_Name (Call_ (nmB B F rfl (PyProof.Rows.callWith_builtin1 (hplain := plain1) (args_cons (ci F fun t1 _ F => args_cons (Call_ (nmB B F rfl (callWith_builtin1 (args_cons (nmL F rfl (args_nil (call_abs_int fun t2 tk => args_nil (max_two_ints hh fun h' tk' hk => ?_))))))))))))))
  have F := (F.toks tk).keep (tk := tk') hk
  obtain ⟨tu, hu⟩ : ∃ tu, (if (if width < 0 then -width else width) > 1 then Value.int (if width < 0 then -width else width) t2 else Value.int 1 t1) = .int ((max 1 width.natAbs : Nat) : Int) tu := by
    by_cases q : (if width < 0 then -width else width) > 1
    · refine ⟨t2, ?_⟩
      rw [if_pos q]
      congr 1
      split at q <;> split <;> omega
    · refine ⟨t1, ?_⟩
      rw [if_neg q]
      congr 1
      split at q <;> omega
  rw [hu]
  have hub : Builtin.Int.intBits ((max 1 width.natAbs : Nat) : Int) ≤ 64 := by
    have : max 1 width.natAbs = 1 ∨ max 1 width.natAbs = 2 ∨ max 1 width.natAbs = 3 ∨ max 1 width.natAbs = 4 := by exact om88 hw
    rcases this with q | q | q | q <;> rw [q] <;> decide
  have hul : max 1 width.natAbs ≤ 4 := by exact om89 hw
  refine stL F fun s₂ F => ?_
  have frl := F.new
  have fce := hfc 0
  refine ec (wpAny_Assign_Name (List_ (args_nil (wpAny_newList (stL (F.pushE _) fun s₃ F => ?_)))))
  generalize s₂.heap.objs.size = rl at F frl
  refine ec (wpAny_For (nmL F rfl (iterL F (.tail _ (.tail _ (.head _))) fun it s₄ F fi => ?_)))
  refine aFor (fun n s' => ∃ (i : Nat) (ts : List Tok) (v₀ : Option Value) (m' : Str → Option Value), Fx ⟨G, L, [], s⟩ m' ((L + 1 + 0, .cell v₀) :: (rl, .lst (rowsOf (((ns.take i).map fun n => rowOf width n.1).zip ts)) i) :: (it, .liter nl i) :: (nl, .list (intsOf ns)) :: []) s' ∧
    m' "unit" = some (.int ((max 1 width.natAbs : Nat) : Int) tu) ∧ m' "rows" = some (.ref rl) ∧ i ≤ ns.length ∧ ts.length = i ∧ n = ns.length - i) ?_ ns.length ⟨0, [], none, _, F.br2.to2.swap.br2, rfl, rfl, Nat.zero_le _, rfl, rfl⟩
  clear F
  rintro W D X n s₅ hW hD - ⟨i, ts, v₀, m', F, m1, m2, hi, hts, rfl⟩
  refine nextL F.br2 (.tail _ (.tail _ (.head _))) fi.own hh (fun x hx s₆ F => ?_) fun hx s₆ F => ?_
  · obtain ⟨hin, rfl⟩ : ∃ h : i < ns.length, x = .int ns[i].1 ns[i].2 := by
      rw [List.getElem?_toArray, List.getElem?_map] at hx
      cases q : ns[i]? with
      | none => rw [q] at hx; cases hx
      | some p => rw [q] at hx; obtain ⟨h, e⟩ := List.getElem?_eq_some_iff.mp q; refine ⟨h, ?_⟩; rw [e]; injection hx with hx; exact hx.symm
    refine wpAny_assign_Name (stC F.swap fce.own rfl fun s₇ F => ?_)
    generalize hnn : ns[i].1 = nn at F
    generalize ns[i].2 = tn at F
    have rest : ∀ {tl : Tok} {s₈ : Shared} {m₈ : Str → Option Value}, Fx ⟨G, L, [], s⟩ m₈ ((L + 1 + 0, .cell (some (.int nn tn))) :: (it, .liter nl (i + 1)) :: (rl, .lst (rowsOf (((ns.take i).map fun n => rowOf width n.1).zip ts)) i) :: (nl, .list (intsOf ns)) :: []) s₈ → m₈ "unit" = some (.int ((max 1 width.natAbs : Nat) : Int) tu) → m₈ "rows" = some (.ref rl) →
        m₈ "length" = some (.int (rowLen width nn : Nat) tl) → wpAny (model prog w) A' (execs (forBody 14 2 |>.drop 2) (envC 14 L 94 93)) W X s₈ := by
      intro tl s₈ m₈ F k1 k2 k3
      have hlen : rowLen width nn ≤ 9 := by
        unfold rowLen
        have h1 : (nn.fmod 3).toNat ≤ 2 := by have := Int.fmod_lt_of_pos nn (b := 3) (by decide); exact om90 this
        have h2 := Nat.mul_le_mul hul h1
        split <;> omega
      refine ec (wpAny_Expr_any (wpAny_Call_append rfl rfl rfl rfl (nmL F k2 ⟨rl, _, rfl, ⟨_, _, (F.at (.tail _ (.tail _ (.head _)))).get, rfl, rfl, rfl⟩, Call_ (nmB B F rfl (PyProof.Rows.callWith_type1 (args_cons (aComp (cl := [("number", L + 1 + 0)]) (by rfl) (by rfl) (by decide) (by decide) (Call_ (nmB B F rfl (PyProof.Rows.callWith_type1 (args_cons (nmL F k3 (args_nil (range1 F fun r _ _ s₉ F _ => iterRange F (.head _) (small_of (by exact om29) (by exact om91 hlen) (by exact om42) (by decide)) fun jt s₁₀ F fj => ?_)))))))))))⟩)))
      rw [revSize] at F
      have F := F.drop2nd
      intro h₁ hns hk hacc
      obtain ⟨F', ac, ow, bk⟩ := F.compKit [(jt, .riter 0 (rowLen width nn : Nat) 1)] (fun p hp => by rw [List.mem_singleton.mp hp]; exact .head _) (fun p hp => by rw [List.mem_singleton.mp hp]; exact fj.own) hns hk hacc
      have oj := ow _ (.head _)
      refine ⟨fun hq => iterRiter F' (.tail _ (.head _)) hq, ?_⟩
      refine useEnv (c := ⟨G, s₁₀.heap.objs.size + 1, [jt], s₁₀⟩) ⟨rfl, rfl, rfl, rfl⟩ fun O => ?_
      refine aLoop (fun n s' => ∃ (p : Nat) (vs : List Value) (m' : Str → Option Value), Fx ⟨G, s₁₀.heap.objs.size + 1, [jt], s₁₀⟩ m' ((s₁₀.heap.objs.size, .list vs) :: (jt, .riter p ((rowLen width nn : Nat) - p) 1) :: (L + 1 + 0, .cell (some (.int nn tn))) :: (it, .liter nl (i + 1)) :: (rl, .lst (rowsOf (((ns.take i).map fun n => rowOf width n.1).zip ts)) i) :: (nl, .list (intsOf ns)) :: []) s' ∧
        IntsAre vs ((List.range p).map (rowAt nn)) ∧ p ≤ rowLen width nn ∧ n = rowLen width nn - p) ?_ (rowLen width nn) ⟨0, [], _, F'.ofEq (by rw [show ((rowLen width nn : Nat) : Int) - ((0 : Nat) : Int) = (rowLen width nn : Nat) from Int.sub_zero _]; rfl), .nil, Nat.zero_le _, rfl⟩
      clear F'
      rintro W' D' X' n s₁₁ hW' hD' - ⟨p, vs, m', F', hvs, hp, rfl⟩
      have hvl : vs.length = p := by have := hvs.length; simpa using this
      refine nextRo F'.swap oj hh (fun h0 tp s₁₂ F' => ?_) fun h0 s₁₂ F' => ?_
      · have h0' : p < rowLen width nn := by exact om92 h0
        refine wpAny_pure (wpAny_assign_Name (gst O F' fun s₁₃ F' => wpAny_pure ?_))
        rw [if_pos rfl]
        have hp8 : (2 : Nat) ^ 8 = 256 := by decide
        have h256 : ((256 : Int) ^ ((p : Nat) : Int).toNat) = 256 ^ p := by rw [Int.toNat_natCast]
        have hne : ((256 : Int) ^ p) ≠ 0 := Int.pow_ne_zero (by decide)
        refine wpAny_BinOp (wpAny_BinOp (wpAny_BinOp (wpAny_BinOp (gnC O F' rfl (.tail _ (.tail _ (.head _))) (ci F' fun _ _ F' => iDiv F' (by decide) (PyProof.noPylong_small (by decide)) fun _ _ F' => ci F' fun _ _ F' => iMul F' (IntMulOk.of_right (by decide)) fun _ _ F' => wpAny_BinOp (ci F' fun _ _ F' => gnL O F' rfl (pow_int_small (by exact om26) (by exact om93 hlen h0) (by decide) ?_)))))))
        rw [h256]
        have hlog : (((256 : Int) ^ p).natAbs).log2 < 9000 := by
          have e : ((256 : Int) ^ p).natAbs = 256 ^ p := by rw [Int.natAbs_pow]; rfl
          rw [e, Nat.log2_lt (Nat.ne_of_gt (Nat.pow_pos (by decide)))]
          exact Nat.lt_of_le_of_lt (Nat.pow_le_pow_right (by decide) (show p ≤ 9 by exact om94 hlen h0)) (by decide +kernel)
        refine iDiv (F'.toks _) hne (PyProof.noPylong_of_log2 hlog) fun _ _ F' => ci F' fun _ _ F' => iMod F' (by decide) fun tz _ F' => appL F'.swap ac.own (by exact om95 hlen hvl h0) fun s₁₄ F' => ?_
        refine hW' _ ⟨rowLen width nn - (p + 1), by exact om55 h0, p + 1, vs ++ [.int (rowAt nn p) tz], _, F'.ofEq (by rw [show ((p + 1 : Nat) : Int) = (p : Int) + 1 from by push_cast; rfl, show ((rowLen width nn : Nat) : Int) - ((p : Int) + 1) = ((rowLen width nn : Nat) : Int) - p - 1 from by exact om54]; rfl), ?_, by exact om53 h0, rfl⟩
        rw [List.range_succ, List.map_append]
        exact ksk_snoc hvs
      · refine hD' _ ⟨⟨_, F'.ns⟩, fun h' hs => ?_⟩
        have F := bk F' hs
        have hpl : p = rowLen width nn := by exact om66 hp h0
        subst hpl
        refine args_nil (call_bytes_ints (F.at (.tail _ (.head _))).isList hvs (fun n hn => ?_) (by rw [sizeLine_eq]; exact om96 hlen hvl) hh fun h'' t k hk => ?_)
        · obtain ⟨q, _, rfl⟩ := List.mem_map.mp hn
          exact ⟨Int.fmod_nonneg_of_pos _ (by decide), Int.fmod_lt_of_pos _ (by decide)⟩
        · have F := (F.keep (tk := k) hk).tail.tail
          refine appX F.br2 frl.own (by rw [List.length_map, List.length_zip, List.length_map, List.length_take]; exact om97 hz) fun s₁₃ F => wpAny_execs_nil ?_
          refine hW .next _ ⟨ns.length - (i + 1), by exact om85 hin, i + 1, ts ++ [t], some (.int nn tn), m₈, F.swap.ofEq ?_, k1, k2, by exact om84 hin, by rw [List.length_append, hts]; rfl, rfl⟩
          have e1 : (ns.take (i + 1)).map (fun n => rowOf width n.1) = (ns.take i).map (fun n => rowOf width n.1) ++ [rowOf width nn] := by
            rw [List.take_add_one, List.getElem?_eq_getElem hin, List.map_append, ← hnn]; rfl
          have e2 : byteArr ((List.range (rowLen width nn)).map (rowAt nn)) = (rowOf width nn).toArray := by
            unfold byteArr rowOf
            rw [List.map_map]; rfl
          rw [e1, List.zip_append (by rw [List.length_map, List.length_take, hts]; exact om98 hin), e2]
          show _ = [_, (rl, Kn.lst (List.map _ (_ ++ _)) _), _, _]
          rw [List.map_append]
          rfl
    refine ec (wpAny_Assign_Name (wpAny_BinOp (nmL F m1 (wpAny_BinOp (nmC F rfl (.head _) (ci F fun _ _ F => iMod F (by decide) fun _ _ F => iMul F (IntMulOk.of_left hub) fun tl _ F => stL F fun s₈ F => ?_))))))
    have hm3 : 0 ≤ nn.fmod 3 ∧ nn.fmod 3 < 3 := ⟨Int.fmod_nonneg_of_pos _ (by decide), Int.fmod_lt_of_pos _ (by decide)⟩
    refine ec (wpAny_If (wpAny_isTrue_Compare1 (wpAny_BinOp (wpAny_BinOp (nmC F rfl (.head _) (ci F fun _ _ F => iDiv F (by decide) (PyProof.noPylong_small (by decide)) fun _ _ F => ci F fun _ _ F => iMod F (by decide) fun _ _ F => ci F fun _ _ F => PyProof.Rows.eq_int (wpAny_truthy_bool (split_bool (fun hb => ?_) fun hb => ?_))))))))
    · refine ec (wpAny_Assign_Name (wpAny_BinOp (nmL F rfl (ci F fun _ _ F => iAdd F fun tl' _ F => stL F fun s₉ F => wpAny_execs_nil ?_))))
      have hl : ((max 1 width.natAbs : Nat) : Int) * nn.fmod 3 + 1 = (rowLen width nn : Nat) := by
        unfold rowLen
        rw [if_pos (by simpa using hb)]
        have : ((nn.fmod 3).toNat : Int) = nn.fmod 3 := Int.toNat_of_nonneg hm3.1
        push_cast
        rw [this]
      rw [hl] at F
      exact rest F m1 m2 rfl
    · refine wpAny_execs_nil ?_
      have hl : ((max 1 width.natAbs : Nat) : Int) * nn.fmod 3 = (rowLen width nn : Nat) := by
        unfold rowLen
        rw [if_neg (by simpa using hb)]
        have : ((nn.fmod 3).toNat : Int) = nn.fmod 3 := Int.toNat_of_nonneg hm3.1
        push_cast
        rw [this]
        exact om99
      rw [hl] at F
      exact rest F m1 m2 rfl
  · have hil : i = ns.length := by
      rw [List.getElem?_toArray, List.getElem?_map] at hx
      have := List.getElem?_eq_none_iff.mp (Option.map_eq_none_iff.mp hx)
      exact om86 hi this
    subst hil
    have F := F.br2
    refine hD _ (ec (wpAny_Return_some (nmL F m2 ?_)))
    refine hZ _ _ (h rl ts _ F.post hts ?_ (frl.may.1))
    have := lstL (F.at (.head _))
    rw [List.take_length] at this
    exact this
end
end Mine
namespace Mine
open PySem PySem.Calls PyProof.Rows PySem.W
open Sem (wp)
/-! ## a comprehension with one cell of its own; _law_numbers -/
section
variable {prog : Program} {w : World} {A : Around} {E : Value → Shared → Prop} {s : Shared}
theorem aCompC {x : Str} {elt target iter : Expr} {ifs : List Expr} {scope : Scope} {pos : Pos} {cl : List (Str × Addr)} {env : Env} {Q : Value → Shared → Prop} (hclos : closureFor scope env = pure cl) (hkind : scope.kind = .function)
    (hcf : ∀ n, cellsFrom n scope.names cl = (x, n) :: cl) (hpc : ∀ h, pushCells h scope.names = h.push { cls := .type "cell", data := .cell none })
    (hnames : ∀ x ∈ scope.names, x.2 = .local → scope.names.lookup x.1 = some .local)
    (h : wpAny (model prog w) A (eval iter env) (fun y s₁ => wpAny (model prog w) A (pyIter y) (fun it s₂ => ∀ h₁, h₁.Ns (s₂.heap.objs.size + 1) (fun _ => none) → (∀ b o, s₂.heap.get? b = some o → h₁.get? b = some o) → At h₁ s₂.heap.objs.size (.list []) → At h₁ (s₂.heap.objs.size + 2) (.cell none) →
      (∀ {Q' : Value → Shared → Prop} {E' : Value → Shared → Prop}, Q' it { s₂ with heap := h₁ } → wpAny (model prog w) A (pyIter it) Q' E' { s₂ with heap := h₁ }) ∧
      codeAny (model prog w) A (.compLoop (.ListComp elt [⟨target, iter, ifs, 0⟩] scope pos) 0 it (.ref s₂.heap.objs.size) (compEnvC scope ((x, s₂.heap.objs.size + 2) :: cl) (s₂.heap.objs.size + 1) env)) (fun r s' => (∃ m, s'.heap.Ns (s₂.heap.objs.size + 1) m) ∧ ∀ h', Heap.SameBut (s₂.heap.objs.size + 1) s'.heap h' → match r with
        | .ok _ => Q (.ref s₂.heap.objs.size) { s' with heap := h' }
        | .error _ => False) { s₂ with heap := h₁ }) E s₁) E s)
    (hs : ∀ x, foldedSetIterable iter env x = pure x := by intro _; rfl) : wpAny (model prog w) A (eval (.ListComp elt [⟨target, iter, ifs, 0⟩] scope pos) env) Q E s := by
  rw [arm_eval_ListComp]
  show wpAny _ A (comprehension _ scope env _ (newList []) false (eval iter env) none) Q E s
  unfold comprehension
  rw [hclos]
  refine wpAny_bind (wpAny_mono h (fun y s₁ h₁ => ?_) fun _ _ x => x)
  refine wpAny_bind (wpAny_standAt (wpAny_bind (wpAny_of_eq (hs y) ?_)))
  refine wpAny_bind (wpAny_holding (wpAny_mono h₁ (fun it s₂ h₂ => ?_) fun _ _ x => x))
  refine wpAny_bind (wpAny_newObj_type (wpAny_bind (wpAny_pure (wpAny_bind ?_))))
  simp only [newFunctionEnv, Option.isSome_some, if_true]
  refine wpAny_bind (wpAny_alloc ?_)
  refine wpAny_bind (wpAny_layCells _ (fun name kind cells => by cases hkc : kind == NameKind.cell <;> simp [hkc]) _ _ _ _ ?_)
  have hsz : (s₂.heap.push { cls := .type "list", data := .seq ([] : List Value).toArray }).objs.size = s₂.heap.objs.size + 1 := Heap.size_push _ _
  have hsz2 : ((s₂.heap.push { cls := .type "list", data := .seq ([] : List Value).toArray }).push { cls := .type "dict", data := .dict #[] }).objs.size = s₂.heap.objs.size + 2 := by rw [Heap.size_push, hsz]
  rw [hcf, hpc]
  dsimp only
  rw [hsz2, hsz]
  refine wpAny_bind (wpAny_pure (wpAny_pure ?_))
  have hns₀ := ((Heap.Ns.new (s₂.heap.push { cls := .type "list", data := .seq ([] : List Value).toArray }) (.type "dict")).push { cls := .type "cell", data := .cell none })
  rw [hsz] at hns₀
  have old : ∀ b o, s₂.heap.get? b = some o → (((s₂.heap.push { cls := .type "list", data := .seq ([] : List Value).toArray }).push { cls := .type "dict", data := .dict #[] }).push { cls := .type "cell", data := .cell none }).get? b = some o :=
    fun b o e => Heap.get?_push_of_some _ (Heap.get?_push_of_some _ (Heap.get?_push_of_some _ e))
  have hacc : At (((s₂.heap.push { cls := .type "list", data := .seq ([] : List Value).toArray }).push { cls := .type "dict", data := .dict #[] }).push { cls := .type "cell", data := .cell none }) s₂.heap.objs.size (.list []) :=
    ⟨_, Heap.get?_push_of_some _ (Heap.get?_push_of_some _ (Heap.get?_push_size _ rfl)), rfl, _, rfl⟩
  have hcel : At (((s₂.heap.push { cls := .type "list", data := .seq ([] : List Value).toArray }).push { cls := .type "dict", data := .dict #[] }).push { cls := .type "cell", data := .cell none }) (s₂.heap.objs.size + 2) (.cell none) := by
    refine ⟨{ cls := .type "cell", data := .cell none }, ?_, rfl⟩
    rw [← hsz2]; exact Heap.get?_push_size _ rfl
  obtain ⟨hself, h₃⟩ := h₂ _ hns₀ old hacc hcel
  have hv : ∀ y ∈ (scope.names.filter fun x => (x.2 == .local || x.2 == .cell) && x.1 != (".0" : Str)).reverse, y.2 = .local → Env.kindOf (compEnvC scope ((x, s₂.heap.objs.size + 2) :: cl) (s₂.heap.objs.size + 1) env) y.1 = some .local :=
    fun x hx hl => lookup_relabel_local (hnames x (List.mem_filter.mp (List.mem_reverse.mp hx)).1 hl)
  have hk' : (compEnvC scope ((x, s₂.heap.objs.size + 2) :: cl) (s₂.heap.objs.size + 1) env).scope.kind = .function := hkind
  refine wpAny_holding (wpAny_bind (wpAny_attempt (wpAny_holding (wpAny_run (codeAny_mono (aStart hself h₃) fun r s' hr => ?_)))))
  obtain ⟨⟨m, hn⟩, hr⟩ := hr
  cases r with
  | ok f => exact wpAny_bind (wpAny_holding (wpAny_comp_letGo (cenv := compEnvC scope ((x, s₂.heap.objs.size + 2) :: cl) (s₂.heap.objs.size + 1) env) hk' _ s' m hv hn fun h' m' _ hs' => wpAny_pure (hr h' hs')))
  | error e => exact (hr s'.heap (.refl ..)).elim
end
section
variable {c : Cx} {m : Str → Option Value} {ℓ : List (Addr × Kn)} {s : Shared}
theorem Fx.compKitC (F : Fx c m ℓ s) (S : List (Addr × Kn)) (hS : ∀ p ∈ S, p ∈ ℓ) (own : ∀ p ∈ S, Own c p.1) {h₁ : Heap} (hns : h₁.Ns (s.heap.objs.size + 1) (fun _ => none)) (hk : ∀ b o, s.heap.get? b = some o → h₁.get? b = some o) (hacc : At h₁ s.heap.objs.size (.list [])) (hcel : At h₁ (s.heap.objs.size + 2) (.cell none)) :
    Fx ⟨c.G, s.heap.objs.size + 1, S.map (·.1), s⟩ (fun _ => none) ((s.heap.objs.size + 2, .cell none) :: (s.heap.objs.size, .list []) :: ℓ) { s with heap := h₁ } ∧ Fresh ⟨c.G, s.heap.objs.size + 1, S.map (·.1), s⟩ s.heap.objs.size ∧ Fresh ⟨c.G, s.heap.objs.size + 1, S.map (·.1), s⟩ (s.heap.objs.size + 2) ∧ (∀ p ∈ S, Own ⟨c.G, s.heap.objs.size + 1, S.map (·.1), s⟩ p.1) ∧
    ∀ {m' : Str → Option Value} {ℓ' : List (Addr × Kn)} {s' : Shared} {h' : Heap}, Fx ⟨c.G, s.heap.objs.size + 1, S.map (·.1), s⟩ m' ℓ' s' → Heap.SameBut (s.heap.objs.size + 1) s'.heap h' → Fx c m ℓ' { s' with heap := h' } := by
  obtain ⟨F', ac, ow, bk⟩ := F.compKit S hS own hns hk hacc
  have hno : s.heap.get? (s.heap.objs.size + 2) = none := Heap.get?_none_of_le (Nat.le_add_right _ _)
  refine ⟨⟨F'.sh, F'.kg, F'.ns, ?_, fun p hp => ?_, F'.ext, F'.sal, F'.gl, F'.el⟩, ac, ⟨⟨hno, fun q => ?_⟩, F.freshG_of hno⟩, ow, bk⟩
  · rw [List.map_cons, List.nodup_cons]
    refine ⟨fun q => ?_, F'.nd⟩
    rcases List.mem_cons.mp q with q | q
    · exact absurd q (Nat.ne_of_gt (Nat.lt_add_of_pos_right (by decide)))
    · obtain ⟨p, hp, e⟩ := List.mem_map.mp q
      obtain ⟨o, ho⟩ := F.alive p hp
      rw [e, hno] at ho; cases ho
  · rcases List.mem_cons.mp hp with rfl | hp
    · exact ⟨hcel.notNs F'.ns, hcel⟩
    · exact F'.led p hp
  · obtain ⟨p, hp, e⟩ := List.mem_map.mp q
    obtain ⟨o, ho⟩ := F.alive p (hS p hp)
    rw [e, hno] at ho; cases ho
theorem gstC {M : Model} {A : Around} {E : Value → Shared → Prop} {env : Env} {x : Str} {v : Value} {a : Addr} {v₀ : Option Value} {Q : Unit → Shared → Prop} (O : EnvOk c env) (F : Fx c m ((a, Kn.cell v₀) :: ℓ) s) (w : Own c a) (hc : env.cells.lookup x = some a) (h : ∀ s', Fx c m ((a, Kn.cell (some v)) :: ℓ) s' → Q () s') (hx : env.kindOf x = some .cell := by rfl) :
    wpAny M A (storeName env x v) Q E s := wpAny_storeName_cell O.kind hx hc (F.at (.head _)).isCell fun _ hv hs => h _ (F.turn w hs.extBut hv)
end
theorem intsOf_snoc (xs : List (Int × Tok)) (a : Int) (t : Tok) : intsOf (xs ++ [(a, t)]) = intsOf xs ++ [.int a t] := by simp [intsOf]
theorem bits_small {x : Int} (h : x.natAbs < 2 ^ 64) : Builtin.Int.intBits x ≤ 64 := by
  unfold Builtin.Int.intBits
  split
  · exact Nat.zero_le _
  · rename_i h0
    have hne : x.natAbs ≠ 0 := fun q => h0 (by rw [Int.natAbs_eq_zero.mp q]; rfl)
    exact (Nat.log2_lt hne).mpr h
def numW (w : Nat) (row : List UInt8) (q : Nat) : Int := ((List.range w).map fun p => ((row.getD (q * w + p) 0).toNat : Int) * 256 ^ p).sum
def numsOf (width : Int) (row : List UInt8) : List Int := if width < 0 then [(row.length : Int)] else (List.range (row.length / width.toNat)).map (numW width.toNat row)
section
variable {prog : Program} {w : World} {A : Around} {E : Value → Shared → Prop} {s : Shared} {Q : Value → Shared → Prop}
set_option maxHeartbeats 1000000 in
theorem numbers_spec {G : Heap} {row : List UInt8} {td tw : Tok} {width : Int} (B : Base G) (kg : G.StaysIn s.heap) (rm : Rm A 3) (hn : row.length ≤ 1000) (hw : -2 ≤ width ∧ width ≤ 4) (hok : bswErr width row.length = none)
    (h : ∀ l vs s', Post G [] s s' → IntsAre vs (numsOf width row) → At s'.heap l (.list vs) → s.heap.get? l = none → Q (.ref l) s') :
    wpAny (model prog w) A (call (.ref 106) [.bytes row.toArray td, .int width tw]) Q E s := by
  refine enterC (i := 16) (cd := 105) (vals := [.bytes row.toArray td, .int width tw]) (binds := [("row", .bytes row.toArray td), ("width", .int width tw)]) B kg (B.fn (16, 106, 105, .none) (by decide)) rm [] (fun _ q => nomatch q) [] .nil (fun _ q => nomatch q) (fun doc pm an ct => rfl) ?_
  intro L A' Z X₀ s₁ rm' hfc hZ F
  have hh : A'.handled = none := rm'.hh
  have F : Fx ⟨G, L, [], s⟩ _ [(L + 1 + 1, .cell (some (.int width tw))), (L + 1 + 0, .cell (some (.bytes row.toArray td)))] s₁ := F
  refine ec (wpAny_If (wpAny_isTrue_Compare1 (nmC F rfl (.head _) (ci F fun _ _ F => PyProof.Rows.lt_int (wpAny_truthy_bool (split_bool (fun hb => ?_) fun hb => ?_))))))
  · have hb' : width < 0 := of_decide_eq_true hb
    refine ec (wpAny_Return_some (List_ (args_cons (Call_ (nmB B F rfl (callWith_builtin1 (args_cons (nmC F rfl (.tail _ (.head _)) (args_nil (lenB F (by omega) fun t s₂ F => args_nil (wpAny_newList ?_)))))))))))
    refine hZ _ _ (h _ [.int row.length t] _ (F.pushS "list" _).post ?_ ((F.pushS "list" _).at (.head _)) (F.fresh_of (get?_size _)))
    unfold numsOf
    rw [if_pos hb']
    exact .cons _ _ .nil
  · have hb' : ¬ width < 0 := of_decide_eq_false hb
    refine wpAny_execs_nil (ec (wpAny_Return_some ?_))
    refine aCompC (x := "start") (cl := [("width", L + 1 + 1), ("row", L + 1 + 0)]) (by rfl) (by rfl) (fun _ => by rfl) (fun _ => by rfl) (by decide) (Call_ (nmB B F rfl (PyProof.Rows.callWith_type1 (hplain := plain2) (args_cons (ci F fun _ _ F => args_cons (Call_ (nmB B F rfl (callWith_builtin1 (args_cons (nmC F rfl (.tail _ (.head _)) (args_nil (lenB F (by exact om24 hn) fun _ s₂ F => args_cons (nmC F rfl (.head _) (args_nil ?_))))))))))))))
    have hz : width ≠ 0 := fun q => by unfold bswErr at hok; rw [if_pos q] at hok; cases hok
    obtain ⟨v, rfl⟩ := Int.eq_ofNat_of_zero_le (show 0 ≤ width by exact om100 hb')
    have hv : 0 < v := by exact om101 hz
    have hdiv : row.length % v = 0 := by
      unfold bswErr at hok
      rw [if_neg hz] at hok
      by_cases q : row.length % v = 0
      · exact q
      · rw [if_pos ⟨by exact om102 hv, by rw [Int.toNat_natCast]; exact q⟩] at hok; cases hok
    have hT : Builtin.Range.rangeSize 0 (row.length : Int) (v : Int) = ((row.length / v : Nat) : Int) := by
      unfold Builtin.Range.rangeSize
      rw [if_pos (by exact om103 hv)]
      obtain ⟨d, hd⟩ := Nat.dvd_of_mod_eq_zero hdiv
      rw [hd, Nat.mul_div_cancel_left _ hv]
      rcases Nat.eq_zero_or_pos d with q | q
      · subst q; rw [if_neg (by simp)]; rfl
      · have hpos : 0 < v * d := Nat.mul_pos hv q
        rw [if_pos (by exact om102 hpos)]
        obtain ⟨d', rfl⟩ : ∃ d', d = d' + 1 := ⟨d - 1, by exact om104 q⟩
        have e1 : ((v * (d' + 1) : Nat) : Int) - 0 - 1 = ((v : Int) - 1) + (v : Int) * (d' : Int) := by push_cast; rw [Int.mul_add]; exact om105
        rw [e1, Int.add_mul_ediv_left _ _ (by exact om108 hz), Int.ediv_eq_zero_of_lt (by exact om107 hv) (by exact om106)]
        push_cast; exact om109
    refine range3 F hz (PyProof.noPylong_small (by exact om110 hw)) fun r s₅ F _ => iterRange F (.head _) (small_of (by exact om29) (by exact om28 hn) (by exact om43 hw) hz) fun it s₆ F fi => ?_
    rw [hT] at F
    have F := F.drop2nd
    have F0 := F
    intro h₁ hns hk hacc hcel
    obtain ⟨F', ac, acc', ow, bk⟩ := F.compKitC [(it, .riter 0 (row.length / v : Nat) v)] (fun p hp => by rw [List.mem_singleton.mp hp]; exact .head _) (fun p hp => by rw [List.mem_singleton.mp hp]; exact fi.own) hns hk hacc hcel
    have oi := ow _ (.head _)
    refine ⟨fun hq => iterRiter F' (.tail _ (.tail _ (.head _))) hq, ?_⟩
    refine useEnv (c := ⟨G, s₆.heap.objs.size + 1, [it], s₆⟩) ⟨rfl, rfl, rfl, rfl⟩ fun O => ?_
    refine aLoop (fun n s' => ∃ (k : Nat) (vs : List Value) (v₀ : Option Value) (m' : Str → Option Value), Fx ⟨G, s₆.heap.objs.size + 1, [it], s₆⟩ m' ((s₆.heap.objs.size + 2, .cell v₀) :: (s₆.heap.objs.size, .list vs) :: (it, .riter ((k * v : Nat) : Int) ((row.length / v : Nat) - k) v) :: (L + 1 + 1, .cell (some (.int v tw))) :: (L + 1 + 0, .cell (some (.bytes row.toArray td))) :: []) s' ∧
      IntsAre vs ((List.range k).map (numW v row)) ∧ k ≤ row.length / v ∧ n = row.length / v - k) ?_ (row.length / v) ⟨0, [], none, _, F'.ofEq (by rw [show ((row.length / v : Nat) : Int) - ((0 : Nat) : Int) = (row.length / v : Nat) from Int.sub_zero _, Nat.zero_mul]; rfl), .nil, Nat.zero_le _, rfl⟩
    clear F'
    rintro W D X n s₇ hW hD - ⟨k, vs, v₀, m', F', hvs, hkN, rfl⟩
    have hvl : vs.length = k := by have := hvs.length; simpa using this
    refine nextRo F'.br2 oi hh (fun h0 tp s₈ F' => ?_) fun h0 s₈ F' => ?_
    · have hkl : k < row.length / v := by exact om92 h0
      have hkv : k * v + v ≤ row.length := by
        have h1 := Nat.mul_le_mul_right v (show k + 1 ≤ row.length / v from hkl)
        have h2 := Nat.div_mul_le_self row.length v
        rw [Nat.succ_mul] at h1
        exact om111 h1 h2
      refine wpAny_pure (wpAny_assign_Name (gstC O F'.swap acc'.own rfl fun s₉ F' => wpAny_pure ?_))
      rw [if_pos rfl]
      refine Call_ (gnB O B F' rfl (callWith_builtin1 (args_cons (aComp (cl := [("start", s₆.heap.objs.size + 2), ("row", L + 1 + 0)]) (by rfl) (by rfl) (by decide) (by decide) (Call_ (gnB O B F' rfl (PyProof.Rows.callWith_type1 (args_cons (gnC O F' rfl (.tail _ (.tail _ (.tail _ (.head _)))) (args_nil (range1 F' fun r _ _ s₁₀ F' _ => iterRange F' (.head _) (small_of (by exact om29) (by exact om43 hw) (by exact om42) (by decide)) fun jt s₁₁ F' fj => ?_)))))))))))
      rw [revSize] at F'
      have F' := F'.drop2nd
      have F0' := F'
      intro h₂ hns₂ hk₂ hacc₂
      obtain ⟨F₂, ac₂, ow₂, bk₂⟩ := F'.compKit [(jt, .riter 0 (v : Nat) 1)] (fun p hp => by rw [List.mem_singleton.mp hp]; exact .head _) (fun p hp => by rw [List.mem_singleton.mp hp]; exact fj.own) hns₂ hk₂ hacc₂
      have oj := ow₂ _ (.head _)
      refine ⟨fun hq => iterRiter F₂ (.tail _ (.head _)) hq, ?_⟩
      refine useEnv (c := ⟨G, s₁₁.heap.objs.size + 1, [jt], s₁₁⟩) ⟨rfl, rfl, rfl, rfl⟩ fun O₂ => ?_
      refine aLoop (fun n s' => ∃ (p : Nat) (xs : List (Int × Tok)) (m' : Str → Option Value), Fx ⟨G, s₁₁.heap.objs.size + 1, [jt], s₁₁⟩ m' ((s₁₁.heap.objs.size, .list (intsOf xs)) :: (jt, .riter p ((v : Nat) - p) 1) :: (s₆.heap.objs.size + 2, .cell (some (.int ((k * v : Nat) : Int) tp))) :: (it, .riter (((k * v : Nat) : Int) + v) ((row.length / v : Nat) - k - 1) v) :: (s₆.heap.objs.size, .list vs) ::
          (L + 1 + 1, .cell (some (.int v tw))) :: (L + 1 + 0, .cell (some (.bytes row.toArray td))) :: []) s' ∧ xs.map (·.1) = (List.range p).map (fun p => ((row.getD (k * v + p) 0).toNat : Int) * 256 ^ p) ∧ p ≤ v ∧ n = v - p) ?_ v
        ⟨0, [], _, F₂.ofEq (by rw [show ((v : Nat) : Int) - ((0 : Nat) : Int) = (v : Nat) from Int.sub_zero _]; rfl), rfl, Nat.zero_le _, rfl⟩
      clear F₂
      rintro W' D' X' n s₁₂ hW' hD' - ⟨p, xs, m'', F₂, hxs, hpv, rfl⟩
      have hxl : xs.length = p := by have := congrArg List.length hxs; simpa using this
      refine nextRo F₂.swap oj hh (fun h0 tq s₁₃ F₂ => ?_) fun h0 s₁₃ F₂ => ?_
      · have hp' : p < v := by exact om92 h0
        refine wpAny_pure (wpAny_assign_Name (gst O₂ F₂ fun s₁₄ F₂ => wpAny_pure ?_))
        rw [if_pos rfl]
        have hidx : ((k * v : Nat) : Int) + (p : Int) = ((k * v + p : Nat) : Int) := by push_cast; rfl
        have h256 : ((256 : Int) ^ ((p : Nat) : Int).toNat) = 256 ^ p := by rw [Int.toNat_natCast]
        refine wpAny_BinOp (Subscript_ (gnC O₂ F₂ rfl (.tail _ (.tail _ (.tail _ (.tail _ (.tail _ (.tail _ (.head _))))))) (wpAny_BinOp (gnC O₂ F₂ rfl (.tail _ (.tail _ (.head _))) (gnL O₂ F₂ rfl (iAdd F₂ fun _ _ F₂ => subB F₂ (by exact om24 hn) (by exact om49) (by exact om113 hkv h0) fun tb _ F₂ => wpAny_BinOp (ci F₂ fun _ _ F₂ => gnL O₂ F₂ rfl (pow_int_small (by exact om26) (by exact om112 hw h0) (by decide) ?_))))))))
        rw [h256, hidx, Int.toNat_natCast]
        refine iMul (F₂.toks _) (IntMulOk.of_left (bits_small ?_)) fun tz _ F₂ => appL F₂.swap ac₂.own (by rw [List.length_map]; exact om114 hw hxl h0) fun s₁₅ F₂ => ?_
        · have := (row.getD (k * v + p) 0).toNat_lt
          rw [Int.natAbs_natCast]
          exact om115 this
        refine hW' _ ⟨v - (p + 1), by exact om55 h0, p + 1, xs ++ [(((row.getD (k * v + p) 0).toNat : Int) * 256 ^ p, tz)], _, F₂.ofEq (by rw [show ((p + 1 : Nat) : Int) = (p : Int) + 1 from by push_cast; rfl, show (v : Int) - ((p : Int) + 1) = (v : Int) - p - 1 from by exact om54, intsOf_snoc]), ?_, by exact om53 h0, rfl⟩
        rw [List.range_succ, List.map_append, List.map_append, hxs]
        rfl
      · refine hD' _ ⟨⟨_, F₂.ns⟩, fun h₃ hs₃ => ?_⟩
        have F' := bk₂ F₂ hs₃
        have hpl : p = v := by exact om66 hpv h0
        subst hpl
        refine args_nil (sum_intListG (xs := xs.toArray) hh (by have := (F'.at (.tail _ (.head _))).isList; simpa [intItems] using this) fun h₄ tk t' hk₄ => ?_)
        rw [PySem.preSum_eq]
        have hsum : ((xs.toArray.toList.map (·.1)).take xs.toArray.size).sum = numW p row k := by
          unfold numW
          rw [List.toList_toArray, hxs, List.take_of_length_le (by simp [hxl])]
        rw [hsum]
        have F' := (F'.keep (tk := tk) hk₄).tail.tail
        refine appL F'.br2 ac.own (by have := Nat.div_le_self row.length p; omega) fun s₁₄ F' => ?_
        refine hW _ ⟨row.length / p - (k + 1), by omega, k + 1, vs ++ [.int (numW p row k) t'], _, m', F'.swap.ofEq (by rw [show ((((k + 1) * p : Nat)) : Int) = ((k * p : Nat) : Int) + p from by rw [Nat.succ_mul]; push_cast; rfl, show ((row.length / p : Nat) : Int) - ((k + 1 : Nat) : Int) = ((row.length / p : Nat) : Int) - k - 1 from by exact om68]), ?_, by omega, rfl⟩
        rw [List.range_succ, List.map_append]
        exact ksk_snoc hvs
    · refine hD _ ⟨⟨_, F'.ns⟩, fun h' hs => ?_⟩
      have F := bk F' hs
      have hkl : k = row.length / v := by exact om66 hkN h0
      subst hkl
      refine hZ _ _ (h _ vs _ F.post ?_ (F.at (.tail _ (.tail _ (.head _)))) (F0.fresh_of (get?_size _)))
      unfold numsOf
      rw [if_neg hb', Int.toNat_natCast]
      exact hvs
end
end Mine
namespace Mine
open PySem PySem.Calls PyProof.Rows PySem.W
open Sem (wp)
/-! ## making the lambdas -/
structure BaseL (G : Heap) : Prop where
  hd : CodeHd G 100 96
  no : G.get? 96 = none
  bl : ∃ mg, G.Ns mainGlobals mg ∧ G.BuiltinsAt mg 96
/-- the table of the code of _law_asked: what it holds are codes of lambdas -/
structure TabOk (h : Heap) (ps : Array Value) : Prop where
  tri : TriplesOk ps.toList
  codes : ∀ pos cv, codeAmong pos ps.toList = some cv → h.CodeRec cv lamQ
theorem triples_snoc {a b : Int} {t u : Tok} {v : Value} (l : List Value) (h : TriplesOk l) : TriplesOk (l ++ [.int a t, .int b u, v]) := by
  fun_induction TriplesOk l with
  | case1 => exact trivial
  | case2 _ _ _ _ _ rest ih => exact ih h
  | case3 => exact h.elim
theorem among_snoc {pos : Pos} {a b : Int} {t u : Tok} {v cv : Value} (l : List Value) (h : TriplesOk l) (e : codeAmong pos (l ++ [.int a t, .int b u, v]) = some cv) : codeAmong pos l = some cv ∨ cv = v := by
  fun_induction TriplesOk l with
  | case1 =>
    simp only [List.nil_append, codeAmong] at e
    split at e
    · injection e with e; exact .inr e.symm
    · cases e
  | case2 _ _ _ _ _ rest ih =>
    simp only [List.cons_append, codeAmong] at e ⊢
    split at e
    · rename_i q; rw [if_pos q]; exact .inl e
    · rename_i q; rw [if_neg q]; exact ih h e
  | case3 => exact h.elim
theorem triples_one {l : List Value} (h : TriplesOk l) (q : Str) (t : Tok) : l[1]? ≠ some (.str q t) := fun e => by
  match l, h, e with
  | [], _, e => cases e
  | .int _ _ :: .int _ _ :: _ :: _, _, e => simp at e
section
variable {M : Model} {A : Around} {E : Value → Shared → Prop} {s : Shared} {c : Cx} {m : Str → Option Value} {ℓ : List (Addr × Kn)} {Q : Value → Shared → Prop}
theorem mkLam {g : Bool} {ps : Array Value} {f : Addr} {wc : Addr} (BL : BaseL c.G) (F : Fx c m ((96, .ex (tabObj ps)) :: ℓ) s) (ow : Own c 96) (T : TabOk s.heap ps)
    (h : ∀ fa c' pm ctv ps' s', Fx c m ((fa, .ex (lamObj g wc pm c' ctv)) :: (96, .ex (tabObj ps')) :: ℓ) s' → Fresh c fa → s'.heap.CodeRec (.ref c') lamQ → TabOk s'.heap ps' → Q (.ref fa) s') :
    wpAny M A (eval (.Lambda (lamOf g).params (lamOf g).body (lamOf g).scope (lamOf g).pos) (envX (fdAt 15).name (fdAt 15).scope c.L f (.ref 100) [("width", wc)])) Q E s := by
  obtain ⟨mg, hg, hb⟩ := BL.bl
  refine kla_eval (by cases g <;> rfl) ?_
  cases q : codeAmong (lamOf g).pos ps.toList with
  | none =>
    refine kla_makeFunction (clos := [("width", wc)]) (by cases g <;> rfl) rfl (hg.keeps F.kg) rfl (BL.hd.keeps F.kg) (F.at (.head _)).get T.tri q (by decide) (hb.keeps F.kg) fun c' ctv h' tk hx hge hlt hrec htab => ?_
    have F1 := F.turn (tk := s.toks) ow hx (At.of htab)
    have F2 := F1.pushE (tk := tk) (lamObj g wc ((mg "__name__").getD .none) c' ctv)
    refine h _ c' _ ctv _ _ F2 F1.new (hrec.push _) ⟨?_, fun pos cv e => ?_⟩
    · rw [Array.toList_append]; exact triples_snoc _ T.tri
    · rw [Array.toList_append] at e
      rcases among_snoc _ T.tri e with e | e
      · obtain ⟨d, o, vs, t, e1, e2, e3, e4⟩ := T.codes pos cv e
        refine Heap.CodeRec.push ⟨d, o, vs, t, e1, hx d o (fun r => ?_) e2, e3, e4⟩ _
        rw [r, (F.at (.head _)).get] at e2
        injection e2 with e2
        rw [← e2] at e3
        injection e3 with e3
        rw [← e3] at e4
        exact triples_one T.tri _ _ (by rw [← Array.getElem?_toList] at e4; exact e4)
      · rw [e]; exact hrec.push _
  | some cv =>
    refine kla_makeFunctionHit (clos := [("width", wc)]) (by cases g <;> rfl) rfl (hg.keeps F.kg) rfl (BL.hd.keeps F.kg) (F.at (.head _)).get T.tri q (hb.keeps F.kg) fun ctv h' tk hk hz => ?_
    obtain ⟨c', o, vs, t, rfl, e2, e3, e4⟩ := T.codes _ _ q
    have F1 := F.keep (tk := s.toks) hk
    have F2 := F1.pushE (tk := tk) (lamObj g wc ((mg "__name__").getD .none) c' ctv)
    refine h _ c' _ ctv _ _ F2 F1.new ⟨c', o, vs, t, rfl, Heap.get?_push_of_some _ (hk _ _ e2), e3, e4⟩ ⟨T.tri, fun pos cv e => (T.codes pos cv e).keeps fun b o e => Heap.get?_push_of_some _ (hk b o e)⟩
end
end Mine
namespace Mine
open PySem PySem.Calls PyProof.Rows PySem.W
/-! ## what the run of the top leaves -/
def viewQ : Program := { PySem.Challenge.pw_nq0137_01 with main := { PySem.Challenge.pw_nq0137_01.main with body := [1, 2, 3, 4, 5, 6, 7, 8, 12, 14, 15, 16, 17, 18, 19].filterMap fun i => PySem.Challenge.pw_nq0137_01.main.body[i]? } }
def looseN : List Str := ["nsmallest", "nlargest"]
def lookF (h : Heap) (f : Addr) : Option (Str × Str × Arguments × FuncBody × Scope × Addr × List (Str × Addr) × Value × Value × Value × Addr) := (h.get? f).bind fun (o : Obj) => match o.data with
  | .func fd => some (fd.name, fd.qualname, fd.params, fd.body, fd.scope, fd.globals, fd.closure, fd.defaults, fd.kwdefaults, fd.code, fd.builtins)
  | _ => none
def dueF (i : Nat) (cd : Addr) (dV : Value) : Option (Str × Str × Arguments × FuncBody × Scope × Addr × List (Str × Addr) × Value × Value × Value × Addr) :=
  some ((fdAt i).name, (fdAt i).name, (fdAt i).params, .stmts (fdAt i).body, (fdAt i).scope, mainGlobals, [], dV, .none, .ref cd, builtinsNs)
def lookC (h : Heap) (cd : Addr) : Option Str := (h.get? cd).bind fun (o : Obj) => match o.data with
  | .fields vs => (match (vs[1]? : Option Value) with | some (Value.str q _) => some q | _ => none)
  | _ => none
def lookT (h : Heap) (a : Addr) : Option (Value × Array Value) := (h.get? a).bind fun (o : Obj) => match o.data with
  | .seq its _ => some (o.cls, its)
  | _ => none
def isS : Value → Bool
  | .str _ _ => true
  | _ => false
def isI : Value → Bool
  | .int _ _ => true
  | _ => false
def isB : Value → Bool
  | .bool _ => true
  | _ => false
def lookHd (h : Heap) (c : Addr) : Option (Value × Option Value × Value × Bool) := (h.get? c).bind fun (o : Obj) => match o.data with
  | .fields vs => some (o.cls, vs[11]?, vs.getD 11 .none, isS (vs.getD 18 .none) && isI (vs.getD 7 .none) && isB (vs.getD 9 .none) && isI (vs.getD 10 .none))
  | _ => none
def allFns : List (Nat × Addr × Addr × Value) := (19, 123, 122, .none) :: fnTab
abbrev Obs := List (Option Value) × List (Option Value) × List (Option (Str × Str × Arguments × FuncBody × Scope × Addr × List (Str × Addr) × Value × Value × Value × Addr) × Option Str) × (Option (Value × Array Value) × Option (Value × Array Value)) × Option (Value × Option Value × Value × Bool) × Option Obj
def obs (s : Shared) : Obs :=
  (((("law" : Str), Value.ref 123) :: globs).map fun x => s.heap.nsMap mainGlobals x.1, bins.map (s.heap.nsMap mainGlobals), allFns.map fun e => (lookF s.heap e.2.1, lookC s.heap e.2.2.1), (lookT s.heap 71, lookT s.heap 77), lookHd s.heap 100, s.heap.get? 96)
def due : Obs :=
  (((("law" : Str), Value.ref 123) :: globs).map fun x => some x.2, bins.map fun _ => none, allFns.map fun e => (dueF e.1 e.2.2.1 e.2.2.2, some (fdAt e.1).name), (some (.type "tuple", #[.none]), some (.type "tuple", #[.none])), some (.type "code", some (.ref 96), .ref 96, true), some (tabObj #[]))
set_option maxHeartbeats 4000000 in
theorem left : LeftO PySem.Challenge.pw_nq0137_01 viewQ looseN (fun _ => true) obs (fun _ => due) 1228 := by intro w; kernel_rfl
end Mine
namespace Mine
open PySem PySem.Calls PyProof.Rows PySem.W
open Sem (wp)
/-! ## the head: from the run of the law on the one clean stack to the claim -/
def LawSpec : Prop := ∀ (w : World) (G : Heap) (s : Shared) (sl : Addr) (ns : List (Int × Tok)), Base G → BaseL G → FnIs G 19 123 122 .none → G.StaysIn s.heap → At s.heap 96 (.ex (tabObj #[])) → At s.heap sl (.list (intsOf ns)) → sl ≠ 96 → ns.length ≤ 63 →
  wpS (model PySem.Challenge.pw_nq0137_01 w) callerA (call (.ref 123) [.ref sl]) (fun v s' => v = .bool true ∧ Post G [96] s s' ∧ ∃ ps, At s'.heap 96 (.ex (tabObj ps))) (fun _ _ => False) s

theorem of_lookF {h : Heap} {f : Addr} {i : Nat} {cd : Addr} {dV : Value} (e : lookF h f = dueF i cd dV) : ∃ o doc pm an ct, h.get? f = some o ∧ o.data = .func (fdX i dV doc pm an cd ct) := by
  unfold lookF dueF at e
  obtain ⟨o, ho, e⟩ := Option.bind_eq_some_iff.mp e
  cases hd : o.data with
  | func fd =>
    rw [hd] at e
    simp only [Option.some.injEq, Prod.mk.injEq] at e
    obtain ⟨e1, e2, e3, e4, e5, e6, e7, e8, e9, e10, e11⟩ := e
    refine ⟨o, fd.doc, fd.pyModule, fd.annotations, fd.closureTuple, ho, ?_⟩
    cases fd
    simp only at e1 e2 e3 e4 e5 e6 e7 e8 e9 e10 e11
    subst e1 e2 e3 e4 e5 e6 e7 e8 e9 e10 e11
    rw [hd]
  | _ => rw [hd] at e; cases e
theorem of_lookC {h : Heap} {cd : Addr} {q : Str} (e : lookC h cd = some q) : h.CodeRec (.ref cd) q := by
  unfold lookC at e
  obtain ⟨o, ho, e⟩ := Option.bind_eq_some_iff.mp e
  cases hd : o.data with
  | fields vs =>
    rw [hd] at e
    dsimp only at e
    split at e
    · rename_i q' t hq
      injection e with e
      exact ⟨cd, o, vs, t, rfl, ho, hd, by rw [← e]; exact hq⟩
    · cases e
  | _ => rw [hd] at e; cases e
theorem of_lookT {h : Heap} {a : Addr} {its : List Value} (e : lookT h a = some (.type "tuple", its.toArray)) : At h a (.tup its) := by
  unfold lookT at e
  obtain ⟨o, ho, e⟩ := Option.bind_eq_some_iff.mp e
  cases hd : o.data with
  | seq its' n =>
    rw [hd] at e
    simp only [Option.some.injEq, Prod.mk.injEq] at e
    exact ⟨o, ho, e.1, n, by rw [hd, e.2]⟩
  | _ => rw [hd] at e; cases e
theorem isS_of {v : Value} (h : isS v = true) : ∃ a b, v = .str a b := by
  cases v <;> first | exact ⟨_, _, rfl⟩ | cases h
theorem isI_of {v : Value} (h : isI v = true) : ∃ a b, v = .int a b := by
  cases v <;> first | exact ⟨_, _, rfl⟩ | cases h
theorem isB_of {v : Value} (h : isB v = true) : ∃ a, v = .bool a := by
  cases v <;> first | exact ⟨_, rfl⟩ | cases h
theorem of_lookHd {h : Heap} {c P : Addr} (e : lookHd h c = some (.type "code", some (.ref P), .ref P, true)) (hne : c ≠ P) : CodeHd h c P := by
  unfold lookHd at e
  obtain ⟨o, ho, e⟩ := Option.bind_eq_some_iff.mp e
  cases hd : o.data with
  | fields vs =>
    rw [hd] at e
    simp only [Option.some.injEq, Prod.mk.injEq] at e
    obtain ⟨e1, e2, e3, e4⟩ := e
    simp only [Bool.and_eq_true] at e4
    obtain ⟨⟨⟨e5, e6⟩, e7⟩, e8⟩ := e4
    obtain ⟨_, _, q1⟩ := isS_of e5
    obtain ⟨_, _, q2⟩ := isI_of e6
    obtain ⟨_, q3⟩ := isB_of e7
    obtain ⟨_, _, q4⟩ := isI_of e8
    exact ⟨o, vs, _, _, _, _, _, _, _, ho, e1, hd, e2, e3, q1, q2, q3, q4, hne⟩
  | _ => rw [hd] at e; cases e
/-- a run on the caller's own stack -/
theorem thread_clean {prog : Program} {w : World} {t : Sem Fin} {s : Shared} {R : Result → Shared → Prop} (hreg : s.asleep)
    (h : wpS (model prog w) callerA t (fun fin s' => ∃ f, fin = .done f ∧ (R (.ok f) s' ∧ leftWithCleanup s'.gens = false)) (fun e s' => R (.error e) s' ∧ leftWithCleanup s'.gens = false) s) :
    ∃ n r s' s'', schedN (denote table) prog w n (.single s ⟨t, .builtin "claim.caller" {}, default, []⟩) = .halted (outcomeOf r) s'' ∧
      PySem.runN (denote table) prog w n s ⟨t, .builtin "claim.caller" {}, default, []⟩ = .halted (outcomeOf r) s'' ∧ s''.forget = s'.forget ∧ R r s' := by
  have cl : Clean ⟨.builtin "claim.caller" {}, none, none, [], none⟩ := ⟨by show holdIds.contains "claim.caller" = false; decide +kernel, fun x hx => nomatch hx⟩
  refine wp_halts_full (M := model prog w) (R := R) hreg (Sem.wp_mono _ _ _ (fun fin p' s' h' => ?_) (fun _ _ _ h' => h') default s (h _ default caller_in cl))
  obtain ⟨f, rfl, hf⟩ := h'
  exact hf
theorem ints_of {cl : Str → Option Addr} {h : Heap} : ∀ {vs : List Value} {xs : List WData} {as : List Addr}, ReadsAllW [] cl h vs xs as → (∀ x ∈ xs, WShape.has [] x .int = true) → ∃ ns : List (Int × Tok), vs = intsOf ns ∧ ns.length = xs.length
  | _, _, _, .nil, _ => ⟨[], rfl, rfl⟩
  | _, _, _, .cons (d := d) r1 r2, hx => by
    obtain ⟨ns, e1, e2⟩ := ints_of r2 fun x hx' => hx x (.tail _ hx')
    have h1 := hx d (.head _)
    cases r1 with
    | int i t => exact ⟨(i, t) :: ns, by rw [e1]; rfl, by rw [List.length_cons, List.length_cons, e2]⟩
    | _ => exact absurd (show false = true from h1) Bool.false_ne_true
end Mine
namespace Mine
open PySem PySem.Calls PyProof.Rows PySem.W
open Sem (wp)
theorem map_eq_at {α β : Type} {f g : α → β} {l : List α} (e : l.map f = l.map g) {x : α} (hx : x ∈ l) : f x = g x := by
  induction l with
  | nil => cases hx
  | cons a r ih =>
    simp only [List.map_cons, List.cons.injEq] at e
    rcases List.mem_cons.mp hx with rfl | hx
    · exact e.1
    · exact ih e.2 hx
theorem lookup_mem {l : List (Str × Value)} {x : Str} {v : Value} (h : l.lookup x = some v) : (x, v) ∈ l := by
  induction l with
  | nil => cases h
  | cons p r ih =>
    obtain ⟨y, u⟩ := p
    rw [List.lookup_cons] at h
    split at h
    · rename_i q
      injection h with h
      rw [← h, eq_of_beq q]; exact .head _
    · exact .tail _ (ih h)
structure TopIs (h : Heap) (mg : Str → Option Value) : Prop where
  b : Base h
  hd : CodeHd h 100 96
  tab : At h 96 (.ex (tabObj #[]))
  law : FnIs h 19 123 122 .none
  name : mg "law" = some (.ref 123)
  blt : h.BuiltinsAt mg 96
  g : h.Ns mainGlobals mg
theorem FnIs.keeps {h h' : Heap} {i : Nat} {f cd : Addr} {dV : Value} (x : FnIs h i f cd dV) (k : ∀ b o, h.get? b = some o → b ≠ 96 → h'.get? b = some o) (hf : f ≠ 96) (hc : cd ≠ 96) : FnIs h' i f cd dV := by
  obtain ⟨o, doc, pm, an, ct, ho, hd, c, oc, vs, t, e1, e2, e3, e4⟩ := x
  injection e1 with e1
  subst e1
  exact ⟨o, doc, pm, an, ct, k _ _ ho hf, hd, cd, oc, vs, t, rfl, k _ _ e2 hc, e3, e4⟩
theorem Ns.keeps' {h h' : Heap} {a : Addr} {m : Str → Option Value} (x : h.Ns a m) (k : ∀ b o, h.get? b = some o → b ≠ 96 → h'.get? b = some o) (ha : a ≠ 96) : h'.Ns a m :=
  let ⟨o, es, ep, e, r⟩ := x; ⟨o, es, ep, k _ _ e ha, r⟩
theorem At.keeps' {h h' : Heap} {a : Addr} {q : Kn} (x : At h a q) (k : ∀ b o, h.get? b = some o → b ≠ 96 → h'.get? b = some o) (ha : a ≠ 96) : At h' a q :=
  let ⟨o, e, r⟩ := x; ⟨o, k _ _ e ha, r⟩
theorem Base.keeps' {h h' : Heap} (x : Base h) (k : ∀ b o, h.get? b = some o → b ≠ 96 → h'.get? b = some o) : Base h' where
  g := let ⟨mg, a, b⟩ := x.g; ⟨mg, Ns.keeps' a k (by decide), b⟩
  b := let ⟨mg, a, b⟩ := x.b; ⟨mg, Ns.keeps' a k (by decide), b⟩
  lim := let ⟨mc, a, b⟩ := x.lim; ⟨mc, Ns.keeps' a k (by decide), b⟩
  fn := fun e he => (x.fn e he).keeps k ((show ∀ e ∈ fnTab, e.2.1 ≠ 96 by decide) e he) ((show ∀ e ∈ fnTab, e.2.2.1 ≠ 96 by decide) e he)
  dflt := ⟨x.dflt.1.keeps' k (by decide), x.dflt.2.keeps' k (by decide)⟩
theorem topIs {w : World} {s : Shared} (hg : s.heap.isNs mainGlobals = true) (G : Ground viewQ looseN [] (fun _ _ => True) w s (s.heap.nsMap mainGlobals) (s.heap.nsMap builtinsNs) s.heap) (y : obs s = due) : TopIs s.heap (s.heap.nsMap mainGlobals) := by
  unfold obs due at y
  simp only [Prod.mk.injEq] at y
  obtain ⟨y1, y2, y3, ⟨y4, y5⟩, y6, y7⟩ := y
  have fns : ∀ e ∈ allFns, FnIs s.heap e.1 e.2.1 e.2.2.1 e.2.2.2 := fun e he => by
    have := map_eq_at y3 he
    simp only [Prod.mk.injEq] at this
    obtain ⟨o, doc, pm, an, ct, h1, h2⟩ := of_lookF this.1
    exact ⟨o, doc, pm, an, ct, h1, h2, of_lookC this.2⟩
  obtain ⟨bm, ob, b1, b2, b3, b4, b5, b6⟩ := G.T.bmain
  have gns := Heap.Ns.of_isNs hg
  refine ⟨⟨⟨_, gns, fun x v hx => ?_, fun x hx => ?_⟩, ⟨_, G.T.b, fun x hx => G.T.builtins x fun q => ?_⟩, G.T.nolimit, fun e he => fns e (.tail _ he), of_lookT y4, of_lookT y5⟩, of_lookHd y6 (by decide), At.of y7, fns _ (.head _), map_eq_at y1 (.head _), ⟨bm, ob, b1, b2, fun q => ?_, fun q => ?_, b3, b4, b5, b6⟩, gns⟩
  · exact map_eq_at y1 (x := (x, v)) (.tail _ (lookup_mem hx))
  · exact map_eq_at y2 (List.contains_iff_mem.mp hx)
  · subst q; exact absurd hx (by decide)
  · obtain ⟨o, es, ep, ho, hd, _⟩ := gns
    rw [q, ho] at b3
    injection b3 with b3
    rw [b3, b6] at hd; cases hd
  · rw [q, y7] at b3
    injection b3 with b3
    rw [← b3] at b4
    cases b4
end Mine
namespace Mine
open PySem PySem.Calls PyProof.Rows PySem.W
/-! ## lists known to the letter -/
abbrev Kn.sqn (n : Nat) (its : Array Value) : Kn := .ex { cls := .type "list", data := .seq its n }
theorem At.sqn {h : Heap} {a : Addr} {n : Nat} {its : Array Value} (e : At h a (.sqn n its)) : At h a (.sq "list" its) := ⟨_, e.get, rfl, n, rfl⟩
section
variable {prog : Program} {w : World} {A : Around} {E : Value → Shared → Prop} {s : Shared} {c : Cx} {m : Str → Option Value} {ℓ : List (Addr × Kn)} {u : Tok} {nn : Nat}
theorem setItem_at {l : Addr} {its : Array Value} {k : Int} {v : Value} {Q : Unit → Shared → Prop} (ho : s.heap.get? l = some { cls := .type "list", data := .seq its nn }) (h0 : 0 ≤ k) (hfit : k < 2 ^ 63) (hn : k < its.size)
    (hQ : ∀ h', h'.get? l = some { cls := .type "list", data := .seq (its.setIfInBounds k.toNat v) nn } → Heap.SameBut l s.heap h' → Q () { s with heap := h' }) : wpAny (model prog w) A (setItem (.ref l) (.int k u) v) Q E s := by
  have hT : s.TypeIs (.ref l) "list" := ⟨_, ho, rfl⟩
  unfold setItem
  refine wpAny_holding (wpAny_bind (wpAny_sequenceKey hT (by decide) ?_))
  refine wpAny_bind (wpAny_callSpecial?_slot (name := Str.ofString "__setitem__") hT slot_list_setitem (wpAny_call_entry slot_list_setitem hT entry_list_setitem ?_ (args_list_setitem _ _ _)))
  show wpAny _ _ (Builtin.List.listSubscript? (.int k u) >>= _) _ _ s
  refine wpAny_bind (wpAny_listSubscript_int (fitsIndex_of h0 hfit) ?_)
  clear hfit
  obtain ⟨j, rfl⟩ := Int.eq_ofNat_of_zero_le h0
  have hj : j < its.size := by exact om151 hn
  show wpAny _ _ ((seqItemAt l j >>= fun r => pure (r.map (j, ·))) >>= _) _ _ s
  refine wpAny_bind (wpAny_bind (wpAny_seqItemAt ho rfl (wpAny_pure ?_)))
  rw [Array.getElem?_eq_getElem hj]
  show wpAny _ _ (setSeqItemAt l j v >>= _) _ _ s
  have e := get?_update_seq (c := "list") ho (·.setIfInBounds j v)
  rw [if_pos (by simp)] at e
  refine wpAny_bind (wpAny_setSeqItemAt ho rfl (wpAny_pure ⟨.none, rfl, wpAny_pure (hQ _ e (Heap.SameBut.update ..))⟩))
theorem subLx {value slice : Expr} {l : Addr} {its : Array Value} {k : Int} {v : Value} {Q : Value → Shared → Prop} (F : Fx c m ℓ s) (hl : (l, Kn.sqn nn its) ∈ ℓ) (h0 : 0 ≤ k) (hi : k < 2 ^ 63) (hx : its[k.toNat]? = some v) (h : Q v s)
    (hs : subscripted slice false (.ref l) (.int k u) = operate [.ref l, .int k u] (getItem (.ref l) (.int k u)) := by with_unfolding_all rfl) :
    wpAny (model prog w) A (subscriptTail value slice (.ref l) (.int k u)) Q E s :=
  tail_any (F.at hl).sqn.isList.typeIs slot_list_getitem.lookup (wpAny_getItem_list (F.at hl).sqn.isList h0 hi hx h) hs
theorem setLx {l : Addr} {its : Array Value} {k : Int} {v : Value} {Q : Unit → Shared → Prop} (F : Fx c m ((l, Kn.sqn nn its) :: ℓ) s) (ow : Own c l) (h0 : 0 ≤ k) (hi : k < 2 ^ 63) (hn : k < its.size)
    (h : ∀ s', Fx c m ((l, Kn.sqn nn (its.setIfInBounds k.toNat v)) :: ℓ) s' → Q () s') : wpAny (model prog w) A (setItem (.ref l) (.int k u) v) Q E s :=
  setItem_at (F.at (.head _)).get h0 hi hn fun _ hl hs => h _ (F.turn ow hs.extBut (At.of hl))
theorem lenLx {l : Addr} {its : Array Value} {Q : Value → Shared → Prop} (F : Fx c m ℓ s) (hl : (l, Kn.sqn nn its) ∈ ℓ) (hz : its.size < 2 ^ 60) (h : ∀ t s', Fx c m ℓ s' → Q (.int its.size t) s') : wpAny (model prog w) A (call (.builtin "len") [.ref l]) Q E s :=
  len_list (F.at hl).sqn.isList (by exact om130 hz) (h _ _ (F.toks _))
end
end Mine
namespace Mine
open PySem PySem.Calls PyProof.Rows PySem.W
section
variable {prog : Program} {w : World} {G : Heap} {A : Around} {s : Shared} {Q : Value → Shared → Prop} {E : Value → Shared → Prop} {l : Addr} {its : Array Value} {K : List (Addr × Kn)} {t u : Tok} {nn : Nat}

theorem siftdown_spec (lt : Value → Value → Bool) (B : Base G) (kg : G.StaysIn s.heap) (rm : Rm A 5)
    (nd : ((((l, Kn.sqn nn its) :: K : List (Addr × Kn))).map (·.1)).Nodup) (hK : ∀ p ∈ (l, Kn.sqn nn its) :: K, At s.heap p.1 p.2) (hl : G.get? l = none) (hc : CmpOn prog w lt its.toList K)
    {sp p : Nat} (hp : p < its.size) (hz : its.size < 2 ^ 60) (h : ∀ s', Post G [l] s s' → At s'.heap l (.sqn nn (siftdown lt its sp p)) → Q .none s') :
    wpAny (model prog w) A (call (.ref 49) [.ref l, .int sp t, .int p u]) Q E s := by
  refine enter (i := 5) (cd := 48) (args := ⟨[.ref l, .int sp t, .int p u], []⟩) (binds := [("heap", .ref l), ("startpos", .int sp t), ("pos", .int p u)]) B kg (B.fn (5, 49, 48, .none) (by decide)) rm [l] ?_ _ nd hK (fun doc pm an ct => BindsTo.of_eq rfl) ?_
  · intro a ha; rw [List.mem_singleton.mp ha]; exact ⟨hl, let ⟨o, e, _⟩ := hK _ (.head _); ⟨o, e⟩⟩
  · intro L A' Z E' s₁ rm' hZ F
    have own : Own ⟨G, L, [l], s⟩ l := ⟨.inl (.head _), hl⟩
    have hx := getD_mem hp
    refine ec (wpAny_Assign_Name (Subscript_ (nmL F rfl (nmL F rfl (subLx F (.head _) (by exact om26) (by exact om152 hp hz) (getElem?_int hp) (stL F fun s₂ F => ?_))))))
    refine ec (wpAny_While ?_)
    refine aWhile (fun n s' => ∃ a q tq m', Fx ⟨G, L, [l], s⟩ m' ((l, Kn.sqn nn a) :: K) s' ∧ m' "heap" = some (.ref l) ∧ m' "startpos" = some (.int sp t) ∧ m' "pos" = some (.int (q : Nat) tq) ∧
      m' "newitem" = some (its.getD p .none) ∧ a.size = its.size ∧ q < its.size ∧ (∀ v ∈ a.toList, v ∈ its.toList) ∧ sdLoop lt (its.getD p .none) sp q a q = sdLoop lt (its.getD p .none) sp p its p ∧ n = q) ?_ p
      ⟨its, p, u, _, F, rfl, rfl, rfl, rfl, rfl, hp, fun _ e => e, rfl, rfl⟩
    rintro W D X n s₃ hW hD ⟨a, q, tq, m', F, m1, m2, m3, m4, hsz, hq, hin, hlp, rfl⟩
    have stop : (¬ sp < n ∨ lt (its.getD p .none) (a.getD ((n - 1) / 2) .none) = false) → sdLoop lt (its.getD p .none) sp n a n = (a, n) := fun hs => by
      cases n with
      | zero => rfl
      | succ k =>
        unfold sdLoop
        by_cases h1 : sp < k + 1
        · rw [if_pos h1]; rw [if_neg fun q => Bool.noConfusion ((hs.resolve_left fun q' => q' h1).symm.trans q)]
        · rw [if_neg h1]
    have fin : ∀ {s₄ : Shared} {m₂ : Str → Option Value}, Fx ⟨G, L, [l], s⟩ m₂ ((l, Kn.sqn nn a) :: K) s₄ → m₂ "heap" = some (.ref l) → m₂ "pos" = some (.int (n : Nat) tq) → m₂ "newitem" = some (its.getD p .none) →
        (¬ sp < n ∨ lt (its.getD p .none) (a.getD ((n - 1) / 2) .none) = false) →
        wpAny (model prog w) A' (execs ((fdAt 5).body.drop 2) (envI 5 L 49 48)) Z E' s₄ := by
      intro s₄ m₂ F k1 k2 k3 hs
      refine ec (wpAny_Assign_Subscript (nmL F k3 (nmL F k1 (nmL F k2 (setLx F own (by exact om26) (by exact om154 hz hq) (by exact om153 hsz hq) fun s₅ F => ?_)))))
      refine wpAny_execs_nil (hZ _ _ (h _ F.post ?_))
      have := F.at (.head _)
      rw [Int.toNat_natCast] at this
      unfold siftdown
      rw [← hlp, stop hs]
      exact this
    refine wpAny_isTrue_Compare1 (nmL F m3 (nmL F m2 (PyProof.Rows.gt_int (wpAny_truthy_bool (split_bool (fun hb => ?_) fun hb => ?_)))))
    · have hb' : (sp : Int) < n := of_decide_eq_true hb
      have hpp : ((n : Int) - 1) / 2 = (((n - 1) / 2 : Nat) : Int) := by exact om155 hb'
      refine ec (wpAny_Assign_Name (wpAny_BinOp (wpAny_BinOp (nmL F m3 (ci F fun _ _ F => iSub F fun _ _ F => ci F fun _ _ F => iShr F (by exact om156 hb') fun t₄ _ F => stL F fun s₄ F => ?_)))))
      rw [hpp] at F
      have hgq := getElem?_int (a := a) (k := (n - 1) / 2) (by exact om157 hsz hq)
      have hm1 : a.getD ((n - 1) / 2) .none ∈ its.toList := hin _ (getD_mem (by exact om157 hsz hq))
      refine ec (wpAny_Assign_Name (Subscript_ (nmL F m1 (nmL F rfl (subLx F (.head _) (by exact om159) (by exact om158 hz hq) hgq (stL F fun s₅ F => ?_))))))
      refine ec (wpAny_If (wpAny_isTrue_Compare1 (nmL F m4 (nmL F rfl (hc _ hx _ hm1 _ _ _ _ (rm'.le (by exact om160)) (fun q hq => F.at (.tail _ hq)) (wpAny_truthy_bool (split_bool (fun hc => ?_) fun hc => ?_)))))))
      · refine ec (wpAny_Assign_Subscript (nmL F rfl (nmL F m1 (nmL F m3 (setLx F own (by exact om26) (by exact om154 hz hq) (by exact om153 hsz hq) fun s₆ F => ?_)))))
        refine ec (wpAny_Assign_Name (nmL F rfl (stL F fun s₇ F => ?_)))
        refine ec (SiftDown.continue_ ?_)
        refine hW .cont _ ⟨(n - 1) / 2, by exact om161 hpp, _, (n - 1) / 2, t₄, _, F, m1, m2, rfl, m4, ?_, by exact om137 hq, ?_, ?_, rfl⟩
        · rw [Array.size_setIfInBounds]; exact hsz
        · intro v hv
          rcases mem_set hv with hv | rfl
          · exact hin v hv
          · exact hm1
        · rw [Int.toNat_natCast, ← hlp]
          cases n with
          | zero => exact (om162 hb').elim
          | succ k =>
            conv => rhs; unfold sdLoop
            rw [if_pos (by exact om163 hb'), if_pos hc]
            exact sdLoop_fuel _ _ _ _ _ _ _ (by exact om165) (by exact om164)
      · refine wpAny_execs_nil ?_
        refine ec (SiftDown.break_ ?_)
        exact hW .brk _ (fin F m1 m3 m4 (.inr hc))
    · exact hD _ (fin F m1 m3 m4 (.inl (by have := of_decide_eq_false hb; exact om166 this)))

set_option maxHeartbeats 1000000 in
theorem siftup_spec (lt : Value → Value → Bool) (B : Base G) (kg : G.StaysIn s.heap) (rm : Rm A 8)
    (nd : ((((l, Kn.sqn nn its) :: K : List (Addr × Kn))).map (·.1)).Nodup) (hK : ∀ p ∈ (l, Kn.sqn nn its) :: K, At s.heap p.1 p.2) (hl : G.get? l = none) (hc : CmpOn prog w lt its.toList K)
    {p : Nat} (hp : p < its.size) (hz : its.size < 2 ^ 60) (h : ∀ s', Post G [l] s s' → At s'.heap l (.sqn nn (siftup lt its p)) → Q .none s') :
    wpAny (model prog w) A (call (.ref 56) [.ref l, .int p u]) Q E s := by
  refine enter (i := 6) (cd := 55) (args := ⟨[.ref l, .int p u], []⟩) (binds := [("heap", .ref l), ("pos", .int p u)]) B kg (B.fn (6, 56, 55, .none) (by decide)) rm [l] ?_ _ nd hK (fun doc pm an ct => BindsTo.of_eq rfl) ?_
  · intro a ha; rw [List.mem_singleton.mp ha]; exact ⟨hl, let ⟨o, e, _⟩ := hK _ (.head _); ⟨o, e⟩⟩
  · intro L A' Z E' s₁ rm' hZ F
    have own : Own ⟨G, L, [l], s⟩ l := ⟨.inl (.head _), hl⟩
    have hx := getD_mem hp
    refine ec (wpAny_Assign_Name (Call_ (nmB B F rfl (callWith_builtin1 (args_cons (nmL F rfl (args_nil (lenLx F (.head _) hz fun te _ F => stL F fun s₂ F => ?_))))))))
    refine ec (wpAny_Assign_Name (nmL F rfl (stL F fun s₂ F => ?_)))
    refine ec (wpAny_Assign_Name (Subscript_ (nmL F rfl (nmL F rfl (subLx F (.head _) (by exact om26) (by exact om152 hp hz) (getElem?_int hp) (stL F fun s₂ F => ?_))))))
    refine ec (wpAny_Assign_Name (wpAny_BinOp (wpAny_BinOp (ci F fun _ _ F => nmL F rfl (iMul F (IntMulOk.of_left (by decide)) fun _ _ F => ci F fun _ _ F => iAdd F fun tc _ F => stL F fun s₃ F => ?_)))))
    refine ec (wpAny_While ?_)
    refine aWhile (fun n s' => ∃ a q tq tc m', Fx ⟨G, L, [l], s⟩ m' ((l, Kn.sqn nn a) :: K) s' ∧ m' "heap" = some (.ref l) ∧ m' "startpos" = some (.int p u) ∧ m' "pos" = some (.int (q : Nat) tq) ∧
      m' "newitem" = some (its.getD p .none) ∧ m' "endpos" = some (.int its.size te) ∧ m' "childpos" = some (.int (2 * (q : Int) + 1) tc) ∧ a.size = its.size ∧ q < its.size ∧ (∀ v ∈ a.toList, v ∈ its.toList) ∧
      suLoop lt its.size a q = suLoop lt its.size its p ∧ n = its.size - q) ?_ (its.size - p)
      ⟨its, p, u, tc, _, F, rfl, rfl, rfl, rfl, rfl, rfl, rfl, hp, fun _ e => e, rfl, rfl⟩
    rintro W D X n s₃ hW hD ⟨a, q, tq, tc, m', F, m1, m2, m3, m4, m5, m6, hsz, hq, hin, hlp, rfl⟩
    refine wpAny_isTrue_Compare1 (nmL F m6 (nmL F m5 (PyProof.Rows.lt_int (wpAny_truthy_bool (split_bool (fun hb => ?_) fun hb => ?_)))))
    · have hb' : 2 * (q : Int) + 1 < its.size := of_decide_eq_true hb
      refine ec (wpAny_Assign_Name (wpAny_BinOp (nmL F m6 (ci F fun _ _ F => iAdd F fun t₄ _ F => stL F fun s₄ F => ?_))))
      have e1 : 2 * (q : Int) + 1 = ((2 * q + 1 : Nat) : Int) := by exact om167
      have e2 : 2 * (q : Int) + 1 + 1 = ((2 * q + 2 : Nat) : Int) := by exact om168
      rw [e1] at m6
      rw [e2] at F
      have hg1 := getElem?_int (a := a) (k := 2 * q + 1) (by exact om169 hsz hb')
      refine ec (wpAny_mono (Q := fun f s' => f = .next ∧ ∃ tc m', Fx ⟨G, L, [l], s⟩ m' ((l, Kn.sqn nn a) :: K) s' ∧ m' "heap" = some (.ref l) ∧ m' "startpos" = some (.int p u) ∧ m' "pos" = some (.int (q : Nat) tq) ∧
        m' "newitem" = some (its.getD p .none) ∧ m' "endpos" = some (.int its.size te) ∧ m' "childpos" = some (.int (suChild lt a q : Nat) tc)) (E := fun _ _ => False) ?_ ?_ (fun _ _ x => x.elim))
      · refine wpAny_If (wpAny_isTrue_BoolOp (wpAny_allTrue_And_cons (wpAny_isTrue_Compare1 (nmL F rfl (nmL F m5 (PyProof.Rows.lt_int (wpAny_truthy_bool (split_bool (fun hr => ?_) fun hr => ?_))))))))
        · have hr' : ((2 * q + 2 : Nat) : Int) < its.size := of_decide_eq_true hr
          have hg2 := getElem?_int (a := a) (k := 2 * q + 2) (by exact om170 hsz hr')
          have i1 : a.getD (2 * q + 1) .none ∈ its.toList := hin _ (getD_mem (by exact om171 hsz hr'))
          have i2 : a.getD (2 * q + 2) .none ∈ its.toList := hin _ (getD_mem (by exact om170 hsz hr'))
          refine wpAny_allTrue_And_cons (wpAny_isTrue_Not (wpAny_isTrue_Compare1 (Subscript_ (nmL F m1 (nmL F m6 (subLx F (.head _) (by exact om176) (by exact om175 hz hr') hg1 (Subscript_ (nmL F m1 (nmL F rfl (subLx F (.head _) (by exact om174) (by exact om173 hz hr') hg2 (hc _ i1 _ i2 _ _ _ _ (rm'.le (by exact om172)) (fun q hq => F.at (.tail _ hq)) (wpAny_truthy_bool (split_bool (fun hn => ?_) fun hn => ?_)))))))))))))
          · refine wpAny_allTrue_And_nil (ec (wpAny_Assign_Name (nmL F rfl (stL F fun s₅ F => wpAny_execs_nil ⟨rfl, t₄, _, F, m1, m2, m3, m4, m5, ?_⟩))))
            have e : suChild lt a q = 2 * q + 2 := if_pos ⟨by exact om170 hsz hr', by simpa using hn⟩
            rw [e]; rfl
          · refine wpAny_execs_nil ⟨rfl, tc, _, F, m1, m2, m3, m4, m5, ?_⟩
            have e : suChild lt a q = 2 * q + 1 := if_neg fun x => absurd (hn.symm.trans (congrArg not x.2)) (by decide)
            rw [e]; exact m6
        · refine wpAny_execs_nil ⟨rfl, tc, _, F, m1, m2, m3, m4, m5, ?_⟩
          have hr' : ¬ ((2 * q + 2 : Nat) : Int) < its.size := of_decide_eq_false hr
          have e : suChild lt a q = 2 * q + 1 := if_neg fun x => by omega
          rw [e]; exact m6
      · rintro f s₅ ⟨rfl, tc, m', F, m1, m2, m3, m4, m5, m6⟩
        have hch : suChild lt a q < a.size := suChild_lt (by exact om169 hsz hb')
        have hch' := suChild_ge lt a q
        refine ec (wpAny_Assign_Subscript (Subscript_ (nmL F m1 (nmL F m6 (subLx F (.head _) (by exact om26) (by exact om178 hz hsz hch) (getElem?_int hch) (nmL F m1 (nmL F m3 (setLx F own (by exact om26) (by exact om177 hz hb') (by exact om153 hsz hq) fun s₆ F => ?_))))))))
        refine ec (wpAny_Assign_Name (nmL F m6 (stL F fun s₇ F => ?_)))
        refine ec (wpAny_Assign_Name (wpAny_BinOp (wpAny_BinOp (ci F fun _ _ F => nmL F rfl (iMul F (IntMulOk.of_left (by decide)) fun _ _ F => ci F fun _ _ F => iAdd F fun tc' _ F => stL F fun s₈ F => ?_)))))
        refine wpAny_execs_nil ?_
        refine hW .next _ ⟨its.size - suChild lt a q, by exact om179 hq hch', _, suChild lt a q, tc, tc', _, F, m1, m2, rfl, m4, m5, rfl, ?_, by exact om146 hsz hch, ?_, ?_, rfl⟩
        · rw [Array.size_setIfInBounds]; exact hsz
        · intro v hv
          rcases mem_set hv with hv | rfl
          · exact hin v hv
          · exact hin _ (getD_mem hch)
        · rw [Int.toNat_natCast, ← hlp]
          obtain ⟨k, hk⟩ : ∃ k, its.size = k + 1 := ⟨its.size - 1, by exact om180 hb'⟩
          rw [hk]
          conv => rhs; unfold suLoop
          rw [if_pos (by exact om169 hsz hb')]
          exact suLoop_fuel _ _ _ _ _ (by rw [Array.size_setIfInBounds]; exact om182 hsz hk) (by rw [Array.size_setIfInBounds]; exact om181 hsz hch' hk)
    · have hb' : ¬ 2 * (q : Int) + 1 < its.size := of_decide_eq_false hb
      have hstop : suLoop lt its.size a q = (a, q) := by
        obtain ⟨k, hk⟩ : ∃ k, its.size = k + 1 := ⟨its.size - 1, by exact om183 hq⟩
        rw [hk]; unfold suLoop; rw [if_neg (by exact om184 hsz hb')]
      refine hD _ (ec (wpAny_Assign_Subscript (nmL F m4 (nmL F m1 (nmL F m3 (setLx F own (by exact om26) (by exact om154 hz hq) (by exact om153 hsz hq) fun s₄ F => ?_))))))
      rw [Int.toNat_natCast] at F
      refine ec (wpAny_Expr_any (Call_ (nmG B F rfl (callF (B.fn (5, 49, 48, .none) (by decide)) (args_cons (nmL F m1 (args_cons (nmL F m2 (args_cons (nmL F m3 (args_nil ⟨F.kg, ?_⟩)))))))))))
      refine siftdown_spec lt B F.kg (rm'.le (by exact om186)) F.nd (fun q hq => F.at hq) hl (fun x hx' y hy' => ?_) (by rw [Array.size_setIfInBounds]; exact om118 hsz hq) (by rw [Array.size_setIfInBounds]; exact om185 hz hsz) fun s₅ P hs => wpAny_execs_nil (hZ _ _ (h _ (F.after1 own P hs).post ?_))
      · have ok : ∀ v ∈ (a.setIfInBounds q (its.getD p .none)).toList, v ∈ its.toList := fun v hv => by
          rcases mem_set hv with hv | rfl
          · exact hin v hv
          · exact hx
        exact hc x (ok x hx') y (ok y hy')
      · unfold siftup
        rw [← hlp, hstop]
        exact hs

set_option maxHeartbeats 1000000 in
theorem heapreplace_spec (lt : Value → Value → Bool) (B : Base G) (kg : G.StaysIn s.heap) (rm : Rm A 10) {v : Value}
    (nd : ((((l, Kn.sqn nn its) :: K : List (Addr × Kn))).map (·.1)).Nodup) (hK : ∀ p ∈ (l, Kn.sqn nn its) :: K, At s.heap p.1 p.2) (hl : G.get? l = none) (hc : CmpOn prog w lt (v :: its.toList) K)
    (hp : 0 < its.size) (hz : its.size < 2 ^ 60) (h : ∀ r s', Post G [l] s s' → At s'.heap l (.sqn nn (siftup lt (its.setIfInBounds 0 v) 0)) → Q r s') :
    wpAny (model prog w) A (call (.ref 21) [.ref l, v]) Q E s := by
  refine enter (i := 1) (cd := 20) (args := ⟨[.ref l, v], []⟩) (binds := [("heap", .ref l), ("item", v)]) B kg (B.fn (1, 21, 20, .none) (by decide)) rm [l] ?_ _ nd hK (fun doc pm an ct => BindsTo.of_eq rfl) ?_
  · intro a ha; rw [List.mem_singleton.mp ha]; exact ⟨hl, let ⟨o, e, _⟩ := hK _ (.head _); ⟨o, e⟩⟩
  · intro L A' Z E' s₁ rm' hZ F
    have own : Own ⟨G, L, [l], s⟩ l := ⟨.inl (.head _), hl⟩
    refine ec (wpAny_Assign_Name (Subscript_ (nmL F rfl (ci F fun _ _ F => subLx F (.head _) (by exact om32) (by exact om187) (getElem?_int hp) (stL F fun s₂ F => ?_)))))
    refine ec (wpAny_Assign_Subscript (nmL F rfl (nmL F rfl (ci F fun _ _ F => setLx F own (by exact om32) (by exact om187) (by exact om102 hp) fun s₃ F => ?_))))
    refine ec (wpAny_Expr_any (Call_ (nmG B F rfl (callF (B.fn (6, 56, 55, .none) (by decide)) (args_cons (nmL F rfl (args_cons (ci F fun t₀ _ F => args_nil ⟨F.kg, ?_⟩))))))))
    refine siftup_spec (p := 0) lt B F.kg (rm'.le (by exact om188)) F.nd (fun q hq => F.at hq) hl (fun x hx y hy => hc x ?_ y ?_) (by rw [Array.size_setIfInBounds]; exact hp) (by rw [Array.size_setIfInBounds]; exact hz) fun s₅ P hs => ?_
    · rcases mem_set hx with q | rfl
      · exact .tail _ q
      · exact .head _
    · rcases mem_set hy with q | rfl
      · exact .tail _ q
      · exact .head _
    · have F' := F.after1 own P hs
      exact ec (wpAny_Return_some (nmL F' rfl (hZ _ _ (h _ _ F'.post hs))))

theorem siftdown_max_spec (lt : Value → Value → Bool) (B : Base G) (kg : G.StaysIn s.heap) (rm : Rm A 5)
    (nd : ((((l, Kn.sqn nn its) :: K : List (Addr × Kn))).map (·.1)).Nodup) (hK : ∀ p ∈ (l, Kn.sqn nn its) :: K, At s.heap p.1 p.2) (hl : G.get? l = none) (hc : CmpOn prog w lt its.toList K)
    {sp p : Nat} (hp : p < its.size) (hz : its.size < 2 ^ 60) (h : ∀ s', Post G [l] s s' → At s'.heap l (.sqn nn (siftdown (fun x y => lt y x) its sp p)) → Q .none s') :
    wpAny (model prog w) A (call (.ref 63) [.ref l, .int sp t, .int p u]) Q E s := by
  refine enter (i := 7) (cd := 62) (args := ⟨[.ref l, .int sp t, .int p u], []⟩) (binds := [("heap", .ref l), ("startpos", .int sp t), ("pos", .int p u)]) B kg (B.fn (7, 63, 62, .none) (by decide)) rm [l] ?_ _ nd hK (fun doc pm an ct => BindsTo.of_eq rfl) ?_
  · intro a ha; rw [List.mem_singleton.mp ha]; exact ⟨hl, let ⟨o, e, _⟩ := hK _ (.head _); ⟨o, e⟩⟩
  · intro L A' Z E' s₁ rm' hZ F
    have own : Own ⟨G, L, [l], s⟩ l := ⟨.inl (.head _), hl⟩
    have hx := getD_mem hp
    refine ec (wpAny_Assign_Name (Subscript_ (nmL F rfl (nmL F rfl (subLx F (.head _) (by exact om26) (by exact om152 hp hz) (getElem?_int hp) (stL F fun s₂ F => ?_))))))
    refine ec (wpAny_While ?_)
    refine aWhile (fun n s' => ∃ a q tq m', Fx ⟨G, L, [l], s⟩ m' ((l, Kn.sqn nn a) :: K) s' ∧ m' "heap" = some (.ref l) ∧ m' "startpos" = some (.int sp t) ∧ m' "pos" = some (.int (q : Nat) tq) ∧
      m' "newitem" = some (its.getD p .none) ∧ a.size = its.size ∧ q < its.size ∧ (∀ v ∈ a.toList, v ∈ its.toList) ∧ sdLoop (fun x y => lt y x) (its.getD p .none) sp q a q = sdLoop (fun x y => lt y x) (its.getD p .none) sp p its p ∧ n = q) ?_ p
      ⟨its, p, u, _, F, rfl, rfl, rfl, rfl, rfl, hp, fun _ e => e, rfl, rfl⟩
    rintro W D X n s₃ hW hD ⟨a, q, tq, m', F, m1, m2, m3, m4, hsz, hq, hin, hlp, rfl⟩
    have stop : (¬ sp < n ∨ (fun x y => lt y x) (its.getD p .none) (a.getD ((n - 1) / 2) .none) = false) → sdLoop (fun x y => lt y x) (its.getD p .none) sp n a n = (a, n) := fun hs => by
      cases n with
      | zero => rfl
      | succ k =>
        unfold sdLoop
        by_cases h1 : sp < k + 1
        · rw [if_pos h1]; rw [if_neg fun q => Bool.noConfusion ((hs.resolve_left fun q' => q' h1).symm.trans q)]
        · rw [if_neg h1]
    have fin : ∀ {s₄ : Shared} {m₂ : Str → Option Value}, Fx ⟨G, L, [l], s⟩ m₂ ((l, Kn.sqn nn a) :: K) s₄ → m₂ "heap" = some (.ref l) → m₂ "pos" = some (.int (n : Nat) tq) → m₂ "newitem" = some (its.getD p .none) →
        (¬ sp < n ∨ (fun x y => lt y x) (its.getD p .none) (a.getD ((n - 1) / 2) .none) = false) →
        wpAny (model prog w) A' (execs ((fdAt 7).body.drop 2) (envI 7 L 63 62)) Z E' s₄ := by
      intro s₄ m₂ F k1 k2 k3 hs
      refine ec (wpAny_Assign_Subscript (nmL F k3 (nmL F k1 (nmL F k2 (setLx F own (by exact om26) (by exact om154 hz hq) (by exact om153 hsz hq) fun s₅ F => ?_)))))
      refine wpAny_execs_nil (hZ _ _ (h _ F.post ?_))
      have := F.at (.head _)
      rw [Int.toNat_natCast] at this
      unfold siftdown
      rw [← hlp, stop hs]
      exact this
    refine wpAny_isTrue_Compare1 (nmL F m3 (nmL F m2 (PyProof.Rows.gt_int (wpAny_truthy_bool (split_bool (fun hb => ?_) fun hb => ?_)))))
    · have hb' : (sp : Int) < n := of_decide_eq_true hb
      have hpp : ((n : Int) - 1) / 2 = (((n - 1) / 2 : Nat) : Int) := by exact om155 hb'
      refine ec (wpAny_Assign_Name (wpAny_BinOp (wpAny_BinOp (nmL F m3 (ci F fun _ _ F => iSub F fun _ _ F => ci F fun _ _ F => iShr F (by exact om156 hb') fun t₄ _ F => stL F fun s₄ F => ?_)))))
      rw [hpp] at F
      have hgq := getElem?_int (a := a) (k := (n - 1) / 2) (by exact om157 hsz hq)
      have hm1 : a.getD ((n - 1) / 2) .none ∈ its.toList := hin _ (getD_mem (by exact om157 hsz hq))
      refine ec (wpAny_Assign_Name (Subscript_ (nmL F m1 (nmL F rfl (subLx F (.head _) (by exact om159) (by exact om158 hz hq) hgq (stL F fun s₅ F => ?_))))))
      refine ec (wpAny_If (wpAny_isTrue_Compare1 (nmL F rfl (nmL F m4 (hc _ hm1 _ hx _ _ _ _ (rm'.le (by exact om160)) (fun q hq => F.at (.tail _ hq)) (wpAny_truthy_bool (split_bool (fun hc => ?_) fun hc => ?_)))))))
      · refine ec (wpAny_Assign_Subscript (nmL F rfl (nmL F m1 (nmL F m3 (setLx F own (by exact om26) (by exact om154 hz hq) (by exact om153 hsz hq) fun s₆ F => ?_)))))
        refine ec (wpAny_Assign_Name (nmL F rfl (stL F fun s₇ F => ?_)))
        refine ec (SiftDown.continue_ ?_)
        refine hW .cont _ ⟨(n - 1) / 2, by exact om161 hpp, _, (n - 1) / 2, t₄, _, F, m1, m2, rfl, m4, ?_, by exact om137 hq, ?_, ?_, rfl⟩
        · rw [Array.size_setIfInBounds]; exact hsz
        · intro v hv
          rcases mem_set hv with hv | rfl
          · exact hin v hv
          · exact hm1
        · rw [Int.toNat_natCast, ← hlp]
          cases n with
          | zero => exact (om162 hb').elim
          | succ k =>
            conv => rhs; unfold sdLoop
            rw [if_pos (by exact om163 hb'), if_pos hc]
            exact sdLoop_fuel _ _ _ _ _ _ _ (by exact om165) (by exact om164)
      · refine wpAny_execs_nil ?_
        refine ec (SiftDown.break_ ?_)
        exact hW .brk _ (fin F m1 m3 m4 (.inr hc))
    · exact hD _ (fin F m1 m3 m4 (.inl (by have := of_decide_eq_false hb; exact om166 this)))

set_option maxHeartbeats 1000000 in
theorem siftup_max_spec (lt : Value → Value → Bool) (B : Base G) (kg : G.StaysIn s.heap) (rm : Rm A 8)
    (nd : ((((l, Kn.sqn nn its) :: K : List (Addr × Kn))).map (·.1)).Nodup) (hK : ∀ p ∈ (l, Kn.sqn nn its) :: K, At s.heap p.1 p.2) (hl : G.get? l = none) (hc : CmpOn prog w lt its.toList K)
    {p : Nat} (hp : p < its.size) (hz : its.size < 2 ^ 60) (h : ∀ s', Post G [l] s s' → At s'.heap l (.sqn nn (siftup (fun x y => lt y x) its p)) → Q .none s') :
    wpAny (model prog w) A (call (.ref 70) [.ref l, .int p u]) Q E s := by
  refine enter (i := 8) (cd := 69) (args := ⟨[.ref l, .int p u], []⟩) (binds := [("heap", .ref l), ("pos", .int p u)]) B kg (B.fn (8, 70, 69, .none) (by decide)) rm [l] ?_ _ nd hK (fun doc pm an ct => BindsTo.of_eq rfl) ?_
  · intro a ha; rw [List.mem_singleton.mp ha]; exact ⟨hl, let ⟨o, e, _⟩ := hK _ (.head _); ⟨o, e⟩⟩
  · intro L A' Z E' s₁ rm' hZ F
    have own : Own ⟨G, L, [l], s⟩ l := ⟨.inl (.head _), hl⟩
    have hx := getD_mem hp
    refine ec (wpAny_Assign_Name (Call_ (nmB B F rfl (callWith_builtin1 (args_cons (nmL F rfl (args_nil (lenLx F (.head _) hz fun te _ F => stL F fun s₂ F => ?_))))))))
    refine ec (wpAny_Assign_Name (nmL F rfl (stL F fun s₂ F => ?_)))
    refine ec (wpAny_Assign_Name (Subscript_ (nmL F rfl (nmL F rfl (subLx F (.head _) (by exact om26) (by exact om152 hp hz) (getElem?_int hp) (stL F fun s₂ F => ?_))))))
    refine ec (wpAny_Assign_Name (wpAny_BinOp (wpAny_BinOp (ci F fun _ _ F => nmL F rfl (iMul F (IntMulOk.of_left (by decide)) fun _ _ F => ci F fun _ _ F => iAdd F fun tc _ F => stL F fun s₃ F => ?_)))))
    refine ec (wpAny_While ?_)
    refine aWhile (fun n s' => ∃ a q tq tc m', Fx ⟨G, L, [l], s⟩ m' ((l, Kn.sqn nn a) :: K) s' ∧ m' "heap" = some (.ref l) ∧ m' "startpos" = some (.int p u) ∧ m' "pos" = some (.int (q : Nat) tq) ∧
      m' "newitem" = some (its.getD p .none) ∧ m' "endpos" = some (.int its.size te) ∧ m' "childpos" = some (.int (2 * (q : Int) + 1) tc) ∧ a.size = its.size ∧ q < its.size ∧ (∀ v ∈ a.toList, v ∈ its.toList) ∧
      suLoop (fun x y => lt y x) its.size a q = suLoop (fun x y => lt y x) its.size its p ∧ n = its.size - q) ?_ (its.size - p)
      ⟨its, p, u, tc, _, F, rfl, rfl, rfl, rfl, rfl, rfl, rfl, hp, fun _ e => e, rfl, rfl⟩
    rintro W D X n s₃ hW hD ⟨a, q, tq, tc, m', F, m1, m2, m3, m4, m5, m6, hsz, hq, hin, hlp, rfl⟩
    refine wpAny_isTrue_Compare1 (nmL F m6 (nmL F m5 (PyProof.Rows.lt_int (wpAny_truthy_bool (split_bool (fun hb => ?_) fun hb => ?_)))))
    · have hb' : 2 * (q : Int) + 1 < its.size := of_decide_eq_true hb
      refine ec (wpAny_Assign_Name (wpAny_BinOp (nmL F m6 (ci F fun _ _ F => iAdd F fun t₄ _ F => stL F fun s₄ F => ?_))))
      have e1 : 2 * (q : Int) + 1 = ((2 * q + 1 : Nat) : Int) := by exact om167
      have e2 : 2 * (q : Int) + 1 + 1 = ((2 * q + 2 : Nat) : Int) := by exact om168
      rw [e1] at m6
      rw [e2] at F
      have hg1 := getElem?_int (a := a) (k := 2 * q + 1) (by exact om169 hsz hb')
      refine ec (wpAny_mono (Q := fun f s' => f = .next ∧ ∃ tc m', Fx ⟨G, L, [l], s⟩ m' ((l, Kn.sqn nn a) :: K) s' ∧ m' "heap" = some (.ref l) ∧ m' "startpos" = some (.int p u) ∧ m' "pos" = some (.int (q : Nat) tq) ∧
        m' "newitem" = some (its.getD p .none) ∧ m' "endpos" = some (.int its.size te) ∧ m' "childpos" = some (.int (suChild (fun x y => lt y x) a q : Nat) tc)) (E := fun _ _ => False) ?_ ?_ (fun _ _ x => x.elim))
      · refine wpAny_If (wpAny_isTrue_BoolOp (wpAny_allTrue_And_cons (wpAny_isTrue_Compare1 (nmL F rfl (nmL F m5 (PyProof.Rows.lt_int (wpAny_truthy_bool (split_bool (fun hr => ?_) fun hr => ?_))))))))
        · have hr' : ((2 * q + 2 : Nat) : Int) < its.size := of_decide_eq_true hr
          have hg2 := getElem?_int (a := a) (k := 2 * q + 2) (by exact om170 hsz hr')
          have i1 : a.getD (2 * q + 1) .none ∈ its.toList := hin _ (getD_mem (by exact om171 hsz hr'))
          have i2 : a.getD (2 * q + 2) .none ∈ its.toList := hin _ (getD_mem (by exact om170 hsz hr'))
          refine wpAny_allTrue_And_cons (wpAny_isTrue_Not (wpAny_isTrue_Compare1 (Subscript_ (nmL F m1 (nmL F rfl (subLx F (.head _) (by exact om174) (by exact om173 hz hr') hg2 (Subscript_ (nmL F m1 (nmL F m6 (subLx F (.head _) (by exact om176) (by exact om175 hz hr') hg1 (hc _ i2 _ i1 _ _ _ _ (rm'.le (by exact om172)) (fun q hq => F.at (.tail _ hq)) (wpAny_truthy_bool (split_bool (fun hn => ?_) fun hn => ?_)))))))))))))
          · refine wpAny_allTrue_And_nil (ec (wpAny_Assign_Name (nmL F rfl (stL F fun s₅ F => wpAny_execs_nil ⟨rfl, t₄, _, F, m1, m2, m3, m4, m5, ?_⟩))))
            have e : suChild (fun x y => lt y x) a q = 2 * q + 2 := if_pos ⟨by exact om170 hsz hr', by simpa using hn⟩
            rw [e]; rfl
          · refine wpAny_execs_nil ⟨rfl, tc, _, F, m1, m2, m3, m4, m5, ?_⟩
            have e : suChild (fun x y => lt y x) a q = 2 * q + 1 := if_neg fun x => absurd (hn.symm.trans (congrArg not x.2)) (by decide)
            rw [e]; exact m6
        · refine wpAny_execs_nil ⟨rfl, tc, _, F, m1, m2, m3, m4, m5, ?_⟩
          have hr' : ¬ ((2 * q + 2 : Nat) : Int) < its.size := of_decide_eq_false hr
          have e : suChild (fun x y => lt y x) a q = 2 * q + 1 := if_neg fun x => by omega
          rw [e]; exact m6
      · rintro f s₅ ⟨rfl, tc, m', F, m1, m2, m3, m4, m5, m6⟩
        have hch : suChild (fun x y => lt y x) a q < a.size := suChild_lt (by exact om169 hsz hb')
        have hch' := suChild_ge (fun x y => lt y x) a q
        refine ec (wpAny_Assign_Subscript (Subscript_ (nmL F m1 (nmL F m6 (subLx F (.head _) (by exact om26) (by exact om178 hz hsz hch) (getElem?_int hch) (nmL F m1 (nmL F m3 (setLx F own (by exact om26) (by exact om177 hz hb') (by exact om153 hsz hq) fun s₆ F => ?_))))))))
        refine ec (wpAny_Assign_Name (nmL F m6 (stL F fun s₇ F => ?_)))
        refine ec (wpAny_Assign_Name (wpAny_BinOp (wpAny_BinOp (ci F fun _ _ F => nmL F rfl (iMul F (IntMulOk.of_left (by decide)) fun _ _ F => ci F fun _ _ F => iAdd F fun tc' _ F => stL F fun s₈ F => ?_)))))
        refine wpAny_execs_nil ?_
        refine hW .next _ ⟨its.size - suChild (fun x y => lt y x) a q, by exact om179 hq hch', _, suChild (fun x y => lt y x) a q, tc, tc', _, F, m1, m2, rfl, m4, m5, rfl, ?_, by exact om146 hsz hch, ?_, ?_, rfl⟩
        · rw [Array.size_setIfInBounds]; exact hsz
        · intro v hv
          rcases mem_set hv with hv | rfl
          · exact hin v hv
          · exact hin _ (getD_mem hch)
        · rw [Int.toNat_natCast, ← hlp]
          obtain ⟨k, hk⟩ : ∃ k, its.size = k + 1 := ⟨its.size - 1, by exact om180 hb'⟩
          rw [hk]
          conv => rhs; unfold suLoop
          rw [if_pos (by exact om169 hsz hb')]
          exact suLoop_fuel _ _ _ _ _ (by rw [Array.size_setIfInBounds]; exact om182 hsz hk) (by rw [Array.size_setIfInBounds]; exact om181 hsz hch' hk)
    · have hb' : ¬ 2 * (q : Int) + 1 < its.size := of_decide_eq_false hb
      have hstop : suLoop (fun x y => lt y x) its.size a q = (a, q) := by
        obtain ⟨k, hk⟩ : ∃ k, its.size = k + 1 := ⟨its.size - 1, by exact om183 hq⟩
        rw [hk]; unfold suLoop; rw [if_neg (by exact om184 hsz hb')]
      refine hD _ (ec (wpAny_Assign_Subscript (nmL F m4 (nmL F m1 (nmL F m3 (setLx F own (by exact om26) (by exact om154 hz hq) (by exact om153 hsz hq) fun s₄ F => ?_))))))
      rw [Int.toNat_natCast] at F
      refine ec (wpAny_Expr_any (Call_ (nmG B F rfl (callF (B.fn (7, 63, 62, .none) (by decide)) (args_cons (nmL F m1 (args_cons (nmL F m2 (args_cons (nmL F m3 (args_nil ⟨F.kg, ?_⟩)))))))))))
      refine siftdown_max_spec lt B F.kg (rm'.le (by exact om186)) F.nd (fun q hq => F.at hq) hl (fun x hx' y hy' => ?_) (by rw [Array.size_setIfInBounds]; exact om118 hsz hq) (by rw [Array.size_setIfInBounds]; exact om185 hz hsz) fun s₅ P hs => wpAny_execs_nil (hZ _ _ (h _ (F.after1 own P hs).post ?_))
      · have ok : ∀ v ∈ (a.setIfInBounds q (its.getD p .none)).toList, v ∈ its.toList := fun v hv => by
          rcases mem_set hv with hv | rfl
          · exact hin v hv
          · exact hx
        exact hc x (ok x hx') y (ok y hy')
      · unfold siftup
        rw [← hlp, hstop]
        exact hs

set_option maxHeartbeats 1000000 in
theorem heapreplace_max_spec (lt : Value → Value → Bool) (B : Base G) (kg : G.StaysIn s.heap) (rm : Rm A 10) {v : Value}
    (nd : ((((l, Kn.sqn nn its) :: K : List (Addr × Kn))).map (·.1)).Nodup) (hK : ∀ p ∈ (l, Kn.sqn nn its) :: K, At s.heap p.1 p.2) (hl : G.get? l = none) (hc : CmpOn prog w lt (v :: its.toList) K)
    (hp : 0 < its.size) (hz : its.size < 2 ^ 60) (h : ∀ r s', Post G [l] s s' → At s'.heap l (.sqn nn (siftup (fun x y => lt y x) (its.setIfInBounds 0 v) 0)) → Q r s') :
    wpAny (model prog w) A (call (.ref 35) [.ref l, v]) Q E s := by
  refine enter (i := 3) (cd := 34) (args := ⟨[.ref l, v], []⟩) (binds := [("heap", .ref l), ("item", v)]) B kg (B.fn (3, 35, 34, .none) (by decide)) rm [l] ?_ _ nd hK (fun doc pm an ct => BindsTo.of_eq rfl) ?_
  · intro a ha; rw [List.mem_singleton.mp ha]; exact ⟨hl, let ⟨o, e, _⟩ := hK _ (.head _); ⟨o, e⟩⟩
  · intro L A' Z E' s₁ rm' hZ F
    have own : Own ⟨G, L, [l], s⟩ l := ⟨.inl (.head _), hl⟩
    refine ec (wpAny_Assign_Name (Subscript_ (nmL F rfl (ci F fun _ _ F => subLx F (.head _) (by exact om32) (by exact om187) (getElem?_int hp) (stL F fun s₂ F => ?_)))))
    refine ec (wpAny_Assign_Subscript (nmL F rfl (nmL F rfl (ci F fun _ _ F => setLx F own (by exact om32) (by exact om187) (by exact om102 hp) fun s₃ F => ?_))))
    refine ec (wpAny_Expr_any (Call_ (nmG B F rfl (callF (B.fn (8, 70, 69, .none) (by decide)) (args_cons (nmL F rfl (args_cons (ci F fun t₀ _ F => args_nil ⟨F.kg, ?_⟩))))))))
    refine siftup_max_spec (p := 0) lt B F.kg (rm'.le (by exact om188)) F.nd (fun q hq => F.at hq) hl (fun x hx y hy => hc x ?_ y ?_) (by rw [Array.size_setIfInBounds]; exact hp) (by rw [Array.size_setIfInBounds]; exact hz) fun s₅ P hs => ?_
    · rcases mem_set hx with q | rfl
      · exact .tail _ q
      · exact .head _
    · rcases mem_set hy with q | rfl
      · exact .tail _ q
      · exact .head _
    · have F' := F.after1 own P hs
      exact ec (wpAny_Return_some (nmL F' rfl (hZ _ _ (h _ _ F'.post hs))))
end
end Mine
namespace Mine
open PySem PySem.Calls PyProof.Rows PySem.W
section
variable {prog : Program} {w : World} {G : Heap} {A : Around} {s : Shared} {Q : Value → Shared → Prop} {E : Value → Shared → Prop} {l : Addr} {its : Array Value} {K : List (Addr × Kn)} {t u : Tok} {nn : Nat}

set_option maxHeartbeats 1000000 in
theorem heapify_spec (lt : Value → Value → Bool) (B : Base G) (kg : G.StaysIn s.heap) (rm : Rm A 10)
    (nd : ((((l, Kn.sqn nn its) :: K : List (Addr × Kn))).map (·.1)).Nodup) (hK : ∀ p ∈ (l, Kn.sqn nn its) :: K, At s.heap p.1 p.2) (hl : G.get? l = none) (hc : CmpOn prog w lt its.toList K)
    (hz : its.size < 2 ^ 60) (h : ∀ s', Post G [l] s s' → At s'.heap l (.sqn nn (heapify lt its)) → Q .none s') :
    wpAny (model prog w) A (call (.ref 28) [.ref l]) Q E s := by
  refine enter (i := 2) (cd := 27) (args := ⟨[.ref l], []⟩) (binds := [("x", .ref l)]) B kg (B.fn (2, 28, 27, .none) (by decide)) rm [l] ?_ _ nd hK (fun doc pm an ct => BindsTo.of_eq rfl) ?_
  · intro a ha; rw [List.mem_singleton.mp ha]; exact ⟨hl, let ⟨o, e, _⟩ := hK _ (.head _); ⟨o, e⟩⟩
  · intro L A' Z E' s₁ rm' hZ F
    have own : Own ⟨G, L, [l], s⟩ l := ⟨.inl (.head _), hl⟩
    refine ec (wpAny_Assign_Name (Call_ (nmB B F rfl (callWith_builtin1 (args_cons (nmL F rfl (args_nil (lenLx F (.head _) hz fun te _ F => stL F fun s₂ F => ?_))))))))
    have hq : (its.size : Int).fdiv 2 = ((its.size / 2 : Nat) : Int) := by rw [Int.fdiv_eq_ediv_of_nonneg _ (by exact om259)]; exact om258
    refine ec (wpAny_For (Call_ (nmB B F rfl (callWith_type1 (args_cons (Call_ (nmB B F rfl (callWith_type1 (args_cons (wpAny_BinOp (nmL F rfl (ci F fun _ _ F => iDiv F (by decide) (PyProof.noPylong_small (by decide)) fun t₁ _ F => args_nil (range1 F fun r t₂ t₃ s₂ F fr => args_nil ?_)))))))))))))
    rw [hq] at F
    refine revRange F (.head _) (by exact om260 hz) fun it s₃ F fi => iterRiter F (.head _) ?_
    have F := (F.sublist (((List.Sublist.refl _).cons _).cons₂ _)).swap
    refine aFor (fun n s' => ∃ (a : Array Value) (k : Nat) (m' : Str → Option Value), Fx ⟨G, L, [l], s⟩ m' ((l, Kn.sqn nn a) :: (it, .riter ((k : Int) - 1) (k : Nat) (-1)) :: K) s' ∧ m' "x" = some (.ref l) ∧ a.size = its.size ∧ k ≤ its.size / 2 ∧ (∀ v ∈ a.toList, v ∈ its.toList) ∧
      hfLoop lt k a = hfLoop lt (its.size / 2) its ∧ n = k) ?_ (its.size / 2) ⟨its, its.size / 2, _, F, rfl, rfl, Nat.le_refl _, fun _ e => e, rfl, rfl⟩
    rintro W D X n s₄ hW hD - ⟨a, k, m', F, m1, hs, hk, hin, hlp, rfl⟩
    refine nextR F.swap fi rm'.hh (fun h0 t s₅ F => ?_) fun h0 s₅ F => ?_
    · refine wpAny_assign_Name (stL F fun s₆ F => ?_)
      have e1 : (n : Int) - 1 = ((n - 1 : Nat) : Int) := by exact om261 h0
      rw [e1] at F
      have F := F.swap
      refine ec (wpAny_Expr_any (Call_ (nmG B F rfl (callF (B.fn (6, 56, 55, .none) (by decide)) (args_cons (nmL F m1 (args_cons (nmL F rfl (args_nil ⟨F.kg, ?_⟩)))))))))
      refine siftup_spec lt B F.kg (rm'.le (by exact om188)) F.nd (fun q hq => F.at hq) hl (fun x hx y hy => ?_) (by exact om262 hs hk e1) (by exact om185 hz hs) fun s₇ P hs' => wpAny_execs_nil ?_
      · exact fun A s Q E r k => hc x (hin x hx) y (hin y hy) A s Q E r fun p hp => k p (.tail _ hp)
      · have F := F.after1 own P hs'
        rw [show ((n - 1 : Nat) : Int) + -1 = ((n - 1 : Nat) : Int) - 1 from rfl] at F
        refine hW .next _ ⟨n - 1, by exact om264 e1, siftup lt a (n - 1), n - 1, _, F, m1, ?_, by exact om263 hk, ?_, ?_, rfl⟩
        · rw [siftup_size]; exact hs
        · exact fun v hv => hin v (siftup_mem (by exact om262 hs hk e1) hv)
        · rw [← hlp]
          obtain ⟨j, rfl⟩ : ∃ j, n = j + 1 := ⟨n - 1, by exact om265 e1⟩
          rfl
    · have e0 : n = 0 := by exact om266 h0
      rw [e0] at hlp
      refine hD _ (wpAny_execs_nil (hZ _ _ (h _ F.post ?_)))
      have := F.at (.head _)
      unfold heapify
      rw [← hlp]
      exact this

set_option maxHeartbeats 1000000 in
theorem heapify_max_spec (lt : Value → Value → Bool) (B : Base G) (kg : G.StaysIn s.heap) (rm : Rm A 10)
    (nd : ((((l, Kn.sqn nn its) :: K : List (Addr × Kn))).map (·.1)).Nodup) (hK : ∀ p ∈ (l, Kn.sqn nn its) :: K, At s.heap p.1 p.2) (hl : G.get? l = none) (hc : CmpOn prog w lt its.toList K)
    (hz : its.size < 2 ^ 60) (h : ∀ s', Post G [l] s s' → At s'.heap l (.sqn nn (heapify (fun x y => lt y x) its)) → Q .none s') :
    wpAny (model prog w) A (call (.ref 42) [.ref l]) Q E s := by
  refine enter (i := 4) (cd := 41) (args := ⟨[.ref l], []⟩) (binds := [("x", .ref l)]) B kg (B.fn (4, 42, 41, .none) (by decide)) rm [l] ?_ _ nd hK (fun doc pm an ct => BindsTo.of_eq rfl) ?_
  · intro a ha; rw [List.mem_singleton.mp ha]; exact ⟨hl, let ⟨o, e, _⟩ := hK _ (.head _); ⟨o, e⟩⟩
  · intro L A' Z E' s₁ rm' hZ F
    have own : Own ⟨G, L, [l], s⟩ l := ⟨.inl (.head _), hl⟩
    refine ec (wpAny_Assign_Name (Call_ (nmB B F rfl (callWith_builtin1 (args_cons (nmL F rfl (args_nil (lenLx F (.head _) hz fun te _ F => stL F fun s₂ F => ?_))))))))
    have hq : (its.size : Int).fdiv 2 = ((its.size / 2 : Nat) : Int) := by rw [Int.fdiv_eq_ediv_of_nonneg _ (by exact om259)]; exact om258
    refine ec (wpAny_For (Call_ (nmB B F rfl (callWith_type1 (args_cons (Call_ (nmB B F rfl (callWith_type1 (args_cons (wpAny_BinOp (nmL F rfl (ci F fun _ _ F => iDiv F (by decide) (PyProof.noPylong_small (by decide)) fun t₁ _ F => args_nil (range1 F fun r t₂ t₃ s₂ F fr => args_nil ?_)))))))))))))
    rw [hq] at F
    refine revRange F (.head _) (by exact om260 hz) fun it s₃ F fi => iterRiter F (.head _) ?_
    have F := (F.sublist (((List.Sublist.refl _).cons _).cons₂ _)).swap
    refine aFor (fun n s' => ∃ (a : Array Value) (k : Nat) (m' : Str → Option Value), Fx ⟨G, L, [l], s⟩ m' ((l, Kn.sqn nn a) :: (it, .riter ((k : Int) - 1) (k : Nat) (-1)) :: K) s' ∧ m' "x" = some (.ref l) ∧ a.size = its.size ∧ k ≤ its.size / 2 ∧ (∀ v ∈ a.toList, v ∈ its.toList) ∧
      hfLoop (fun x y => lt y x) k a = hfLoop (fun x y => lt y x) (its.size / 2) its ∧ n = k) ?_ (its.size / 2) ⟨its, its.size / 2, _, F, rfl, rfl, Nat.le_refl _, fun _ e => e, rfl, rfl⟩
    rintro W D X n s₄ hW hD - ⟨a, k, m', F, m1, hs, hk, hin, hlp, rfl⟩
    refine nextR F.swap fi rm'.hh (fun h0 t s₅ F => ?_) fun h0 s₅ F => ?_
    · refine wpAny_assign_Name (stL F fun s₆ F => ?_)
      have e1 : (n : Int) - 1 = ((n - 1 : Nat) : Int) := by exact om261 h0
      rw [e1] at F
      have F := F.swap
      refine ec (wpAny_Expr_any (Call_ (nmG B F rfl (callF (B.fn (8, 70, 69, .none) (by decide)) (args_cons (nmL F m1 (args_cons (nmL F rfl (args_nil ⟨F.kg, ?_⟩)))))))))
      refine siftup_max_spec lt B F.kg (rm'.le (by exact om188)) F.nd (fun q hq => F.at hq) hl (fun x hx y hy => ?_) (by exact om262 hs hk e1) (by exact om185 hz hs) fun s₇ P hs' => wpAny_execs_nil ?_
      · exact fun A s Q E r k => hc x (hin x hx) y (hin y hy) A s Q E r fun p hp => k p (.tail _ hp)
      · have F := F.after1 own P hs'
        rw [show ((n - 1 : Nat) : Int) + -1 = ((n - 1 : Nat) : Int) - 1 from rfl] at F
        refine hW .next _ ⟨n - 1, by exact om264 e1, siftup (fun x y => lt y x) a (n - 1), n - 1, _, F, m1, ?_, by exact om263 hk, ?_, ?_, rfl⟩
        · rw [siftup_size]; exact hs
        · exact fun v hv => hin v (siftup_mem (by exact om262 hs hk e1) hv)
        · rw [← hlp]
          obtain ⟨j, rfl⟩ : ∃ j, n = j + 1 := ⟨n - 1, by exact om265 e1⟩
          rfl
    · have e0 : n = 0 := by exact om266 h0
      rw [e0] at hlp
      refine hD _ (wpAny_execs_nil (hZ _ _ (h _ F.post ?_)))
      have := F.at (.head _)
      unfold heapify
      rw [← hlp]
      exact this
end
end Mine
namespace Mine
open PySem PySem.Calls PyProof.Rows PySem.W
open Sem (wp)
/-! ## zip of a range and a list's iterator -/
abbrev Kn.zip (f0 : Value) (TI TO : Addr) : Kn := .fl "zip" #[f0, .bool false, .bool false, .ref TI, .ref TO]
abbrev Kn.pair (a b : Value) : Kn := .ex { cls := .type "tuple", data := .seq #[a, b] }
section
variable {prog : Program} {w : World} {A : Around} {E : Value → Shared → Prop} {s : Shared} {c : Cx} {m : Str → Option Value} {ℓ : List (Addr × Kn)}
theorem zipNew {r it l : Addr} {i : Nat} {x y z : Int} {t u v : Tok} {Q : Value → Shared → Prop} (F : Fx c m ℓ s) (hr : (r, .rng x y z t u v) ∈ ℓ) (hi : (it, .liter l i) ∈ ℓ) (hs : Builtin.Range.small x y z = true)
    (h : ∀ zp ri TI TO s', Fx c m ((zp, .zip .none TI TO) :: (TO, .pair .none .none) :: (TI, .pair (.ref ri) (.ref it)) :: (ri, .riter x (Builtin.Range.rangeSize x y z) z) :: ℓ) s' → Fresh c zp → Fresh c TO → Fresh c TI → Fresh c ri → Q (.ref zp) s') :
    wpAny (model prog w) A (call (.type "zip") [.ref r, .ref it]) Q E s := by
  refine callType_codes (Q₁ := fun obj s₁ => s₁.TypeIs obj "zip" ∧ Q obj s₁) PySem.F.called_zip (PySem.F.typeCall_zip_2 _ _) PySem.F.entry_object_init ?_ fun obj s₁ h₁ => ?_
  · refine codeAny_of_tree ?_
    refine wpAny_bind (wpAny_of_eq (PySem.F.newCall_zip_2 _ _) (wpAny_pure ⟨plainId_quiet (by decide +kernel) _, codeAny_builtin PySem.F.entry_zip_new ?_⟩))
    rw [Around.under_plainId (by decide +kernel) _]
    unfold Builtin.«zip.__new__»
    refine wpAny_bind (wpAny_of_eq (a := (.type "zip", [.ref r, .ref it])) ?_ ?_)
    · unfold Builtin.SmallTypes.newClass
      have hsub : isSubtype (.type "zip") (.type "zip") = pure true := by rw [isSubtype_type]; kernel_rfl
      simp only [isType, pure_bind, hsub]
      rfl
    dsimp only
    rw [if_neg (by decide)]
    unfold Builtin.SmallTypes.iterAll
    refine wpAny_bind ?_
    simp only [List.forIn_cons, List.forIn_nil]
    refine wpAny_bind (wpAny_bind (wpAny_bind (wpAny_holding (iterRange F hr hs fun ri s₂ F fri => ?_))))
    refine wpAny_pure (wpAny_bind (wpAny_bind (wpAny_holding (wpAny_pyIter_listiter (F.at (.tail _ hi)).isIter ?_))))
    refine wpAny_pure (wpAny_pure (wpAny_pure ?_))
    refine wpAny_bind (wpAny_newTuple ?_ (show (2 : Nat) ≤ sizeLine by rw [sizeLine_eq]; decide))
    have f1 := F.new
    have F1 := F.pushE (tk := s₂.toks) { cls := .type "tuple", data := .seq #[.ref ri, .ref it] }
    refine wpAny_bind (wpAny_newTuple ?_ (show (2 : Nat) ≤ sizeLine by rw [sizeLine_eq]; decide))
    have f2 := F1.new
    have F2 := F1.pushE (tk := s₂.toks) { cls := .type "tuple", data := .seq #[.none, .none] }
    unfold Builtin.SmallTypes.newRecord
    refine wpAny_bind (wpAny_newObj_type ?_ (show (5 : Nat) ≤ sizeLine + 2 by rw [sizeLine_eq]; decide))
    have f3 := F2.new
    have F3 := F2.pushE (tk := s₂.toks) { cls := .type "zip", data := .fields #[.none, .bool false, .bool false, .ref s₂.heap.objs.size, .ref (s₂.heap.push { cls := .type "tuple", data := .seq #[.ref ri, .ref it] }).objs.size] }
    exact wpAny_pure ⟨⟨_, Heap.get?_push_size _ rfl, rfl⟩, h _ ri _ _ _ F3 f3 f2 f1 fri⟩
  · exact ⟨h₁.1, PySem.F.args_object_init_3 obj _ _, object_init_meets PySem.F.called_zip.init.lookup PySem.F.called_zip.made (by decide) prog w A.in1 _ s₁ ⟨h₁.1, rfl, h₁.2⟩⟩
end
end Mine
namespace Mine
open PySem PySem.Calls PyProof.Rows PySem.W
open Sem (wp)
section
variable {prog : Program} {w : World} {A : Around} {E : Value → Shared → Prop} {s : Shared} {c : Cx} {m : Str → Option Value} {ℓ : List (Addr × Kn)}
theorem Fx.to4 {a b d e p : Addr × Kn} {ℓ : List (Addr × Kn)} (F : Fx c m (p :: a :: b :: d :: e :: ℓ) s) : Fx c m (a :: b :: d :: e :: p :: ℓ) s := F.perm (List.perm_middle (l₁ := [a, b, d, e]))
theorem setZip {zp TI TO : Addr} {f0 v : Value} {Q : Unit → Shared → Prop} (F : Fx c m ((zp, .zip f0 TI TO) :: ℓ) s) (ow : Own c zp) (h : ∀ s', Fx c m ((zp, .zip v TI TO) :: ℓ) s' → Q () s') : wpAny (model prog w) A (setField (.ref zp) 0 v) Q E s :=
  wpAny_setField_rec (k := 0) (x := v) (F.at (.head _)).get (by simp) fun _ hz hs => h _ (F.turn ow hs.extBut (At.of hz))
theorem setZipStop {zp TI TO e : Addr} {f0 v : Value} {Q : Unit → Shared → Prop} (F : Fx c m ((zp, .zip f0 TI TO) :: ℓ) s) (ow : Own c zp) (st : StopAt s.heap e) (h : ∀ s', Fx c m ((zp, .zip v TI TO) :: ℓ) s' → StopAt s'.heap e → Q () s') : wpAny (model prog w) A (setField (.ref zp) 0 v) Q E s :=
  wpAny_setField_rec (k := 0) (x := v) (F.at (.head _)).get (by simp) fun _ hz hs => by
    obtain ⟨o, ho, hc⟩ := st
    refine h _ (F.turn ow hs.extBut (At.of hz)) ⟨o, hs.extBut e o (fun q => ?_) ho, hc⟩
    rw [q, (F.at (.head _)).get] at ho
    injection ho with ho
    rw [← ho] at hc
    injection hc with hc
    exact absurd hc (by decide)
theorem nextOfBy {it : Value} {Q : Value → Shared → Prop} (h : wpAny (model prog w) A (callSpecial? it (Str.ofString "__next__")) (fun o s' => ∃ v, o = some v ∧ Q v s') E s) : wpAny (model prog w) A (Builtin.SmallTypes.nextOf it) Q E s := by
  unfold Builtin.SmallTypes.nextOf
  refine wpAny_bind (wpAny_mono h (fun o s' hq => ?_) fun _ _ x => x)
  obtain ⟨v, rfl, hq⟩ := hq
  exact wpAny_pure hq
theorem zipNext {zp TI TO ri it l : Addr} {its : Array Value} {i : Nat} {x y z : Int} {a b : Value} {Q : Option Value → Shared → Prop}
    (F : Fx c m ((zp, .zip .none TI TO) :: (TO, .pair a b) :: (TI, .pair (.ref ri) (.ref it)) :: (ri, .riter x y z) :: (it, .liter l i) :: ℓ) s) (hl : (l, Kn.sq "list" its) ∈ ℓ) (wz : Own c zp) (wo : Own c TO) (wr : Own c ri) (wi : Own c it) (hh : A.handled = none)
    (h1 : 0 < y → ∀ v, its[i]? = some v → ∀ t T s', Fx c m ((T, .tup [.int x t, v]) :: (zp, .zip (rawInt T) TI TO) :: (TO, .pair (.int x t) v) :: (TI, .pair (.ref ri) (.ref it)) :: (ri, .riter (x + z) (y - 1) z) :: (it, .liter l (i + 1)) :: ℓ) s' → Fresh c T → Q (some (.ref T)) s')
    (h2 : y ≤ 0 → ∀ s', Fx c m ((zp, .zip .none TI TO) :: (TO, .pair a b) :: (TI, .pair (.ref ri) (.ref it)) :: (ri, .riter x y z) :: (it, .liter l i) :: ℓ) s' → Q none s')
    (h3 : 0 < y → its[i]? = none → ∀ t s', Fx c m ((zp, .zip .none TI TO) :: (TO, .pair (.int x t) b) :: (TI, .pair (.ref ri) (.ref it)) :: (ri, .riter (x + z) (y - 1) z) :: (it, .lidone i) :: ℓ) s' → Q none s') :
    wpAny (model prog w) A (pyNext (.ref zp)) Q E s := by
  have hT : s.TypeIs (.ref zp) "zip" := ⟨_, (F.at (.head _)).get, rfl⟩
  refine nextBy fun Q' E' k1 k2 => wpAny_callSpecial?_slot (name := Str.ofString "__next__") hT PySem.F.slot_zip_next (wpAny_call_entry PySem.F.slot_zip_next hT PySem.F.entry_zip_next ?_ (PySem.F.args_zip_next_1 _))
  have hz := (F.at (.head _)).get
  show wpAny _ _ (field (.ref zp) 2 >>= _) _ _ _
  refine wpAny_bind (wpAny_field hz rfl (x := .bool false) rfl ?_)
  refine wpAny_bind (wpAny_field hz rfl (x := .ref TI) rfl ?_)
  refine wpAny_bind (wpAny_seqItems (F.at (.tail _ (.tail _ (.head _)))).get rfl ?_)
  refine wpAny_bind (m := Builtin.SmallTypes.ownedTupleIsFree (.ref zp)) (wpAny_bind (wpAny_field hz rfl (x := .none) rfl (wpAny_pure ?_)))
  simp only [if_true]
  refine wpAny_bind (wpAny_rule (wpAny_bind (wpAny_field hz rfl (x := .ref TO) rfl (wpAny_bind (setZip F wz fun s₁ F => ?_)))))
  refine wpAny_bind ?_
  simp only [List.zipIdx_cons, List.zipIdx_nil, List.forIn_cons, List.forIn_nil]
  refine wpAny_bind (wpAny_bind (wpAny_onRaise ?_))
  show wpAny _ _ (Builtin.SmallTypes.nextOf (.ref ri) >>= _) _ _ _
  refine wpAny_bind (nextOfBy (drawRi F.br3 wr hh (fun hy t s₂ F => ⟨_, rfl, wpAny_pure ?_⟩) fun hy e s₂ F hs => ?_))
  · have F := F.to3.swap
    refine wpAny_bind (wpAny_seqItems (F.at (.head _)).get rfl (wpAny_bind (wpAny_updateSeq_pair (F.at (.head _)).get fun h₃ e₃ hs₃ => ?_)))
    have F := F.turn (tk := s₂.toks) wo hs₃.extBut (k' := .pair (.int x t) b) (At.of e₃)
    refine wpAny_bind (wpAny_letGo (wpAny_pure ?_))
    refine wpAny_bind (wpAny_bind (wpAny_onRaise ?_))
    show wpAny _ _ (Builtin.SmallTypes.nextOf (.ref it) >>= _) _ _ _
    refine wpAny_bind (nextOfBy (drawLi F.br4 (.tail _ (.tail _ (.tail _ (.tail _ hl)))) wi hh (fun v hv s₄ F => ⟨_, rfl, wpAny_pure ?_⟩) fun hv e s₄ F hs => ?_))
    · have F := F.swap
      refine wpAny_bind (wpAny_seqItems (F.at (.head _)).get rfl (wpAny_bind (wpAny_updateSeq_pair (F.at (.head _)).get fun h₅ e₅ hs₅ => ?_)))
      have F := F.turn (tk := s₄.toks) wo hs₅.extBut (k' := .pair (.int x t) v) (At.of e₅)
      refine wpAny_bind (wpAny_letGo (wpAny_pure (wpAny_pure ?_)))
      refine wpAny_bind (wpAny_seqItems (F.at (.head _)).get rfl ?_)
      refine wpAny_bind (wpAny_newTuple ?_ (show (2 : Nat) ≤ sizeLine by rw [sizeLine_eq]; decide))
      have fT := F.new
      have F := F.pushS (tk := s₄.toks) "tuple" #[.int x t, v]
      refine wpAny_bind (m := Builtin.SmallTypes.ownedTupleHandOut _ _) ?_
      unfold Builtin.SmallTypes.ownedTupleHandOut
      refine wpAny_bind (setZip F.br3 wz fun s₆ F => ?_)
      refine wpAny_setField_rec (k := 1) (x := .bool false) (F.at (.head _)).get (by simp) fun h₇ hz₇ hs₇ => ?_
      have F := F.turn (tk := s₆.toks) wz hs₇.extBut (At.of hz₇)
      refine wpAny_pure ⟨_, rfl, k1 _ _ (h1 hy v hv t _ _ (F.swap.perm (List.Perm.cons _ (List.Perm.cons _ (List.Perm.cons _ (List.perm_middle (l₁ := [_, _])))))) fT)⟩
    · exact setZipStop F.br2 wz hs fun s₅ F hs => k2 e s₅ hs (h3 hy hv t s₅ F.swap.to4)
  · exact setZipStop F.to3 wz hs fun s₃ F hs => k2 e s₃ hs (h2 hy s₃ F)
end
end Mine
namespace Mine
open PySem PySem.W PyProof.Rows
/-! ## the sort, asked of a plain order, is stable -/
def KasT.run {α : Type} (c : Nat → Nat → Bool) : KasT α → α
  | .ret a => a
  | .ask i j k => KasT.run c (k (c i j))
theorem run_bind {α β : Type} (c : Nat → Nat → Bool) (f : α → KasT β) : ∀ t : KasT α, KasT.run c (t.bind f) = KasT.run c (f (KasT.run c t))
  | .ret _ => rfl
  | .ask i j k => run_bind c f (k (c i j))
/-- all that is asked lies below n -/
def AsksIn {α : Type} (n : Nat) : KasT α → Prop
  | .ret _ => True
  | .ask i j k => i < n ∧ j < n ∧ ∀ b, AsksIn n (k b)
theorem AsksIn.bind {α β : Type} {n : Nat} {f : α → KasT β} : ∀ {t : KasT α}, AsksIn n t → (∀ a, AsksIn n (f a)) → AsksIn n (t.bind f)
  | .ret a, _, hf => hf a
  | .ask _ _ _, h, hf => ⟨h.1, h.2.1, fun b => AsksIn.bind (h.2.2 b) hf⟩
theorem kasWp_run {α : Type} {n : Nat} {c : Nat → Nat → Bool} {cmp : Nat → Nat → (Bool → Shared → Prop) → Shared → Prop} {I : Shared → Prop} (hc : ∀ i j C s, i < n → j < n → I s → (∀ s', I s' → C (c i j) s') → cmp i j C s) {Q : α → Shared → Prop} :
    ∀ (t : KasT α) (s : Shared), AsksIn n t → I s → (∀ s', I s' → Q (KasT.run c t) s') → t.kasWp cmp Q s
  | .ret _, s, _, hs, h => h s hs
  | .ask i j k, s, ha, hs, h => hc i j _ s ha.1 ha.2.1 hs fun s' hs' => kasWp_run hc (k (c i j)) s' (ha.2.2 _) hs' h
structure Weak (c : Nat → Nat → Bool) : Prop where
  irr : ∀ x, c x x = false
  tr : ∀ x y z, c x y = true → c y z = true → c x z = true
  neg : ∀ x y z, c x z = true → c x y = true ∨ c y z = true
def Before (c : Nat → Nat → Bool) (x y : Nat) : Prop := c x y = true ∨ (c y x = false ∧ x < y)
section
variable {c : Nat → Nat → Bool} (W : Weak c)
include W
theorem Weak.asym {x y : Nat} (h : c x y = true) : c y x = false := by
  cases q : c y x with
  | false => rfl
  | true => have := W.tr x y x h q; rw [W.irr] at this; cases this
theorem Weak.ntr {x y z : Nat} (h1 : c x y = false) (h2 : c y z = false) : c x z = false := by
  cases q : c x z with
  | false => rfl
  | true => rcases W.neg x y z q with h | h
            · rw [h1] at h; cases h
            · rw [h2] at h; cases h
theorem Before.trans {x y z : Nat} (h1 : Before c x y) (h2 : Before c y z) : Before c x z := by
  rcases h1 with h1 | ⟨h1, l1⟩ <;> rcases h2 with h2 | ⟨h2, l2⟩
  · exact .inl (W.tr x y z h1 h2)
  · rcases W.neg x z y h1 with h | h
    · exact .inl h
    · rw [h2] at h; cases h
  · rcases W.neg y x z h2 with h | h
    · rw [h1] at h; cases h
    · exact .inl h
  · exact .inr ⟨W.ntr h2 h1, by exact om289 l1 l2⟩
end
abbrev gt0 (p : Array Nat) (k : Nat) : Nat := p.getD k 0
theorem rev_getD {p : Array Nat} {i j : Nat} (hj : j ≤ p.size) (k : Nat) : gt0 (kas_rev p i j) k = if i ≤ k ∧ k < j then gt0 p (i + j - 1 - k) else gt0 p k := by
  unfold kas_rev gt0
  rw [Array.getD_eq_getD_getElem?, getElem?_mirror_all hj]
  split <;> rw [Array.getD_eq_getD_getElem?]
theorem bub_getD {p : Array Nat} {src l : Nat} (hs : src < p.size) (hl : l ≤ src) (k : Nat) : gt0 (bubble p src (src - l)) k = if k = l then gt0 p src else if l < k ∧ k ≤ src then gt0 p (k - 1) else gt0 p k := by
  simp only [gt0, Array.getD_eq_getD_getElem?]
  rw [getElem?_bubble hs _ (by exact om291), show src - (src - l) = l from by exact om290 hl]
  by_cases h1 : k = l
  · rw [if_pos h1, if_pos h1]
  · rw [if_neg h1, if_neg h1]
    by_cases h2 : l < k ∧ k ≤ src
    · rw [if_pos h2, if_pos h2]
    · rw [if_neg h2, if_neg h2]
/-- an ascending run -/
theorem asc_run (c : Nat → Nat → Bool) (p : Array Nat) : ∀ f n, n ≤ KasT.run c (kas_asc p f n) ∧ KasT.run c (kas_asc p f n) ≤ n + f ∧ (∀ i, n ≤ i → i < KasT.run c (kas_asc p f n) → c (gt0 p i) (gt0 p (i - 1)) = false) ∧
    (KasT.run c (kas_asc p f n) < n + f → c (gt0 p (KasT.run c (kas_asc p f n))) (gt0 p (KasT.run c (kas_asc p f n) - 1)) = true)
  | 0, n => ⟨Nat.le_refl _, Nat.le_refl _, fun i h1 h2 => absurd h2 (Nat.not_lt.mpr h1), fun h => absurd h (Nat.lt_irrefl _)⟩
  | f + 1, n => by
    have e : KasT.run c (kas_asc p (f + 1) n) = if c (gt0 p n) (gt0 p (n - 1)) = true then n else KasT.run c (kas_asc p f (n + 1)) := by
      show KasT.run c (if c (gt0 p n) (gt0 p (n - 1)) = true then KasT.ret n else kas_asc p f (n + 1)) = _
      split <;> rfl
    by_cases q : c (gt0 p n) (gt0 p (n - 1)) = true
    · rw [e, if_pos q]
      exact ⟨Nat.le_refl _, by exact om292, fun i h1 h2 => absurd h2 (Nat.not_lt.mpr h1), fun _ => q⟩
    · rw [e, if_neg q]
      obtain ⟨h1, h2, h3, h4⟩ := asc_run c p f (n + 1)
      refine ⟨by exact om295 h1, by exact om294 h2, fun i hi hm => ?_, fun h => h4 (by exact om293 h)⟩
      by_cases r : i = n
      · subst r; simpa using q
      · exact h3 i (by exact om296 hi r) hm
/-- sorted up to n: the order told by Before -/
def Sorted (c : Nat → Nat → Bool) (p : Array Nat) (n : Nat) : Prop := ∀ a b, a < b → b < n → Before c (gt0 p a) (gt0 p b)
def Back (c : Nat → Nat → Bool) (p : Array Nat) (n : Nat) : Prop := ∀ a b, a < b → b < n → Before c (gt0 p b) (gt0 p a)
/-- behind n nothing is touched, and before it stand the lesser indices -/
def Rest (p : Array Nat) (n N : Nat) : Prop := p.size = N ∧ (∀ i, n ≤ i → i < N → gt0 p i = i) ∧ ∀ i, i < n → gt0 p i < n
section
variable {c : Nat → Nat → Bool} (W : Weak c)
include W
theorem sorted_more {p : Array Nat} {n m N : Nat} (h : Sorted c p n) (hR : Rest p n N) (h1 : 1 ≤ n) (hm : m ≤ N) (ha : ∀ i, n ≤ i → i < m → c (gt0 p i) (gt0 p (i - 1)) = false) : Sorted c p m := by
  intro a b hab hbm
  induction b with
  | zero => exact (om143 hab).elim
  | succ b ih =>
    by_cases q : b + 1 < n
    · exact h a (b + 1) hab q
    · have hs : Before c (gt0 p b) (gt0 p (b + 1)) := by
        refine .inr ⟨?_, ?_⟩
        · have := ha (b + 1) (by exact om297 q) hbm; simpa using this
        · rw [hR.2.1 (b + 1) (by exact om297 q) (by exact om298 hm hbm)]
          by_cases r : b < n
          · have := hR.2.2 b r; exact om299 q this
          · rw [hR.2.1 b (by exact om122 r) (by exact om301 hm hbm)]; exact om300
      by_cases r : a = b
      · rw [r]; exact hs
      · exact Before.trans W (ih (by exact om303 hab r) (by exact om302 hbm)) hs
theorem rest_more {p : Array Nat} {n m N : Nat} (hR : Rest p n N) (hm : n ≤ m) (hN : m ≤ N) : Rest p m N := ⟨hR.1, fun i h1 h2 => hR.2.1 i (by exact om304 hm h1) h2, fun i hi => by
  by_cases q : i < n
  · have := hR.2.2 i q; exact om305 hm this
  · rw [hR.2.1 i (by exact om122 q) (by exact om305 hN hi)]; exact hi⟩
theorem rest_rev {p : Array Nat} {i n N : Nat} (hR : Rest p n N) (hn : n ≤ N) : Rest (kas_rev p i n) n N := by
  refine ⟨(kas_rev_size _ _).trans hR.1, fun k h1 h2 => ?_, fun k hk => ?_⟩
  · rw [rev_getD (by rw [hR.1]; exact hn), if_neg (by exact om306 h1)]; exact hR.2.1 k h1 h2
  · rw [rev_getD (by rw [hR.1]; exact hn)]
    split
    · exact hR.2.2 _ (by omega)
    · exact hR.2.2 _ hk
theorem sorted_rev {p : Array Nat} {n N : Nat} (hR : Rest p n N) (hn : n ≤ N) (h : Back c p n) : Sorted c (kas_rev p 0 n) n := fun a b hab hb => by
  rw [rev_getD (by rw [hR.1]; exact hn), rev_getD (by rw [hR.1]; exact hn), if_pos ⟨Nat.zero_le _, by exact om289 hab hb⟩, if_pos ⟨Nat.zero_le _, hb⟩]
  exact h _ _ (by exact om308 hab hb) (by exact om307 hb)
end
structure Desc (c : Nat → Nat → Bool) (P₀ : Array Nat) (N : Nat) (p : Array Nat) (n q : Nat) : Prop where
  R : Rest p n N
  hn : n ≤ N
  hq : q + 1 ≤ n
  pm : p.Perm P₀
  old : Back c p (n - (q + 1))
  low : ∀ a b, a < n - (q + 1) → n - (q + 1) ≤ b → b < n → c (gt0 p b) (gt0 p a) = true
  eq : ∀ a b, n - (q + 1) ≤ a → a < b → b < n → c (gt0 p a) (gt0 p b) = false ∧ c (gt0 p b) (gt0 p a) = false ∧ gt0 p a < gt0 p b
section
variable {c : Nat → Nat → Bool} {P₀ : Array Nat} {N : Nat}
/-- the run turned where it was equal: all goes down -/
theorem Desc.back {p : Array Nat} {n q : Nat} (D : Desc c P₀ N p n q) : Back c (kas_rev p (n - (q + 1)) n) n := fun a b hab hb => by
  have hz : n ≤ p.size := by rw [D.R.1]; exact D.hn
  rw [rev_getD hz, rev_getD hz]
  by_cases h1 : b < n - (q + 1)
  · rw [if_neg (by exact om310 h1), if_neg (by exact om309 hab h1)]
    exact D.old a b hab h1
  · rw [if_pos ⟨by exact om311 h1, hb⟩]
    by_cases h2 : a < n - (q + 1)
    · rw [if_neg (by exact om310 h2)]
      exact .inl (D.low a _ h2 (by exact om313 hb) (by exact om312 h1 h2))
    · rw [if_pos ⟨by exact om311 h2, by exact om289 hab hb⟩]
      obtain ⟨_, e2, e3⟩ := D.eq (n - (q + 1) + n - 1 - b) (n - (q + 1) + n - 1 - a) (by exact om313 hb) (by exact om315 hab hb) (by exact om314 hb h2)
      exact .inr ⟨e2, e3⟩
theorem Desc.back0 {p : Array Nat} {n : Nat} (D : Desc c P₀ N p n 0) : Back c p n := fun a b hab hb => by
  by_cases h1 : b < n - 1
  · exact D.old a b hab h1
  · exact .inl (D.low a b (by exact om317 hab hb) (by exact om316 h1) hb)
theorem Desc.next {p : Array Nat} {n : Nat} (hR : Rest p n N) (h1 : 1 ≤ n) (hn : n < N) (pm : p.Perm P₀) (hb : Back c p n) (hl : ∀ a, a < n → c (gt0 p n) (gt0 p a) = true) : Desc c P₀ N p (n + 1) 0 := by
  refine ⟨?_, hn, by exact om319, pm, hb, fun a b ha h2 h3 => ?_, fun a b ha hab h2 => by exact (om318 h1 ha hab h2).elim⟩
  · exact ⟨hR.1, fun i h1 h2 => hR.2.1 i (by exact om295 h1) h2, fun i hi => by
      by_cases q : i < n
      · have := hR.2.2 i q; exact om320 this
      · rw [hR.2.1 i (by exact om122 q) (by exact om321 hn hi)]; exact hi⟩
  · have : b = n := by exact om322 h2 h3
    subst this
    exact hl a (by exact om323 ha)
theorem desc_run (W : Weak c) : ∀ (f : Nat) (p : Array Nat) (n q : Nat), n + f = N → Desc c P₀ N p n q → Desc c P₀ N (KasT.run c (kas_desc f p n q)).1 (KasT.run c (kas_desc f p n q)).2.1 (KasT.run c (kas_desc f p n q)).2.2
  | 0, p, n, q, _, D => D
  | f + 1, p, n, q, hf, D => by
    have hz : n ≤ p.size := by rw [D.R.1]; exact D.hn
    have e : KasT.run c (kas_desc (f + 1) p n q) = if c (gt0 p n) (gt0 p (n - 1)) = true then (if q > 0 then KasT.run c (kas_desc f (kas_rev p (n - (q + 1)) n) (n + 1) 0) else KasT.run c (kas_desc f p (n + 1) 0))
        else if c (gt0 p (n - 1)) (gt0 p n) = true then (p, n, q) else KasT.run c (kas_desc f p (n + 1) (q + 1)) := by
      show KasT.run c (if c (gt0 p n) (gt0 p (n - 1)) = true then (if q > 0 then kas_desc f (kas_rev p (n - (q + 1)) n) (n + 1) 0 else kas_desc f p (n + 1) 0) else KasT.ask _ _ _) = _
      split
      · split <;> rfl
      · show KasT.run c (if c (gt0 p (n - 1)) (gt0 p n) = true then _ else _) = _
        split <;> rfl
    have lowAll : c (gt0 p n) (gt0 p (n - 1)) = true → ∀ a, a < n → c (gt0 p n) (gt0 p a) = true := fun h a ha => by
      by_cases q1 : a = n - 1
      · rw [q1]; exact h
      · by_cases q2 : a < n - (q + 1)
        · exact W.tr _ _ _ h (D.low a (n - 1) q2 (by have := D.hq; exact om325) (by have := D.hq; exact om324 this))
        · have := D.eq a (n - 1) (by exact om311 q2) (by exact om327 ha q1) (by exact om326 ha)
          rcases W.neg (gt0 p n) (gt0 p a) (gt0 p (n - 1)) h with r | r
          · exact r
          · rw [this.1] at r; cases r
    by_cases h1 : c (gt0 p n) (gt0 p (n - 1)) = true
    · rw [e, if_pos h1]
      by_cases h2 : q > 0
      · rw [if_pos h2]
        refine desc_run W f _ _ _ (by exact om330 hf) (Desc.next (rest_rev W D.R D.hn) (by have := D.hq; exact om329 this) (by exact om328 hf) ((mirror_perm _ _ _ _).trans D.pm) D.back fun a ha => ?_)
        rw [rev_getD hz, rev_getD hz, if_neg (by exact om331)]
        split
        · exact lowAll h1 _ (by omega)
        · exact lowAll h1 _ ha
      · have : q = 0 := by exact om332 h2
        subst this
        rw [if_neg h2]
        exact desc_run W f _ _ _ (by exact om330 hf) (Desc.next D.R (by have := D.hq; exact om333 this) (by exact om328 hf) D.pm D.back0 (lowAll h1))
    · rw [e, if_neg h1]
      by_cases h3 : c (gt0 p (n - 1)) (gt0 p n) = true
      · rw [if_pos h3]; exact D
      · rw [if_neg h3]
        have h1' : c (gt0 p n) (gt0 p (n - 1)) = false := by simpa using h1
        have h3' : c (gt0 p (n - 1)) (gt0 p n) = false := by simpa using h3
        have hq := D.hq
        refine desc_run W f _ _ _ (by exact om330 hf) ⟨rest_more W D.R (by exact om336) (by exact om335 hf), by exact om335 hf, by exact om334 hq, D.pm, ?_, fun a b ha hb hb' => ?_, fun a b ha hab hb => ?_⟩
        · rw [show n + 1 - (q + 1 + 1) = n - (q + 1) from by exact om337]; exact D.old
        · by_cases r : b = n
          · rw [r]
            have := D.low a (n - 1) (by exact om338 ha) (by exact om325) (by exact om324 hq)
            rcases W.neg (gt0 p (n - 1)) (gt0 p n) (gt0 p a) this with r' | r'
            · rw [h3'] at r'; cases r'
            · exact r'
          · exact D.low a b (by exact om338 ha) (by exact om339 hb) (by exact om303 hb' r)
        · have hn' : gt0 p n = n := D.R.2.1 n (Nat.le_refl _) (by exact om328 hf)
          by_cases r : b = n
          · rw [r]
            have hlt := D.R.2.2 a (by exact om340 hab r)
            by_cases r2 : a = n - 1
            · rw [r2]; exact ⟨h3', h1', by rw [hn']; exact r2 ▸ hlt⟩
            · obtain ⟨e1, e2, e3⟩ := D.eq a (n - 1) (by exact om339 ha) (by exact om341 hab r r2) (by exact om326 hlt)
              exact ⟨W.ntr e1 h3', W.ntr h1' e2, by rw [hn']; exact hlt⟩
          · exact D.eq a b (by exact om339 ha) hab (by exact om303 hb r)
end
end Mine
namespace Mine
open PySem PySem.W PyProof.Rows
structure Cnt (c : Nat → Nat → Bool) (P₀ : Array Nat) (N : Nat) (r : Nat × Array Nat) : Prop where
  h1 : 1 ≤ r.1
  hN : r.1 ≤ N
  S : Sorted c r.2 r.1
  R : Rest r.2 r.1 N
  pm : r.2.Perm P₀
section
variable {c : Nat → Nat → Bool} {P₀ : Array Nat} {N : Nat} (W : Weak c)
include W
theorem tail3_run {p : Array Nat} {n : Nat} (h1 : 1 ≤ n) (hn : n ≤ N) (hR : Rest p n N) (hb : Back c p n) (pm : p.Perm P₀) : Cnt c P₀ N (KasT.run c (kas_tail3 n N p)) := by
  unfold kas_tail3
  rw [run_bind]
  obtain ⟨a1, a2, a3, _⟩ := asc_run c (kas_rev p 0 n) (N - n) n
  have hR' := rest_rev W (i := 0) hR hn
  generalize KasT.run c (kas_asc (kas_rev p 0 n) (N - n) n) = m at a1 a2 a3
  exact ⟨Nat.le_trans h1 a1, by show m ≤ N; exact om376 hn a2, sorted_more W (sorted_rev W hR hn hb) hR' h1 (by show m ≤ N; exact om376 hn a2) a3, rest_more W hR' a1 (by show m ≤ N; exact om376 hn a2), (mirror_perm _ _ _ _).trans pm⟩
theorem descPart_run {p : Array Nat} {n : Nat} (h1 : 1 ≤ n) (hn : n < N) (hR : Rest p n N) (hb : Back c p n) (pm : p.Perm P₀) (hl : ∀ a, a < n → c (gt0 p n) (gt0 p a) = true) : Cnt c P₀ N (KasT.run c (kas_descPart n N p)) := by
  unfold kas_descPart
  rw [run_bind]
  have D := desc_run W (N - (n + 1)) p (n + 1) 0 (by exact om377 hn) (Desc.next hR h1 hn pm hb hl)
  generalize KasT.run c (kas_desc (N - (n + 1)) p (n + 1) 0) = r at D
  have hq := D.hq
  by_cases q : r.2.2 > 0
  · rw [if_pos q]
    exact tail3_run W (by exact om329 hq) D.hn (rest_rev W D.R D.hn) D.back ((mirror_perm _ _ _ _).trans D.pm)
  · rw [if_neg q]
    have D' : Desc c P₀ N r.1 r.2.1 0 := by rw [show (0 : Nat) = r.2.2 from by exact om378 q]; exact D
    exact tail3_run W (by exact om329 hq) D.hn D.R D'.back0 D.pm
theorem count_run {p : Array Nat} (hN : 1 ≤ N) (hz : p.size = N) (hid : ∀ i, i < N → gt0 p i = i) (pm : p.Perm P₀) : Cnt c P₀ N (KasT.run c (kas_count N p)) := by
  unfold kas_count
  rw [run_bind]
  obtain ⟨a1, a2, a3, a4⟩ := asc_run c p (N - 1) 1
  generalize KasT.run c (kas_asc p (N - 1) 1) = m at a1 a2 a3 a4
  have hR1 : Rest p 1 N := ⟨hz, fun i _ h => hid i h, fun i hi => by rw [hid i (by exact om379 hN hi)]; exact hi⟩
  have hS : Sorted c p m := sorted_more W (fun a b hab hb => by exact (om380 hab hb).elim) hR1 (Nat.le_refl _) (by omega) a3
  have hR : Rest p m N := rest_more W hR1 a1 (by omega)
  by_cases e : (m == N) = true
  · rw [if_pos e]; exact ⟨a1, by show m ≤ N; omega, hS, hR, pm⟩
  · rw [if_neg e]
    have hmN : m < N := by
      have : m ≠ N := by simpa using e
      omega
    have hst : c (gt0 p m) (gt0 p (m - 1)) = true := a4 (by omega)
    by_cases g : m > 1
    · rw [if_pos g]
      show Cnt c P₀ N (KasT.run c (if c (gt0 p 0) (gt0 p (m - 1)) = true then KasT.ret (m, p) else kas_descPart m N (kas_rev p 0 m)))
      by_cases k : c (gt0 p 0) (gt0 p (m - 1)) = true
      · rw [if_pos k]; exact ⟨a1, by show m ≤ N; exact om371 hmN, hS, hR, pm⟩
      · rw [if_neg k]
        have k' : c (gt0 p 0) (gt0 p (m - 1)) = false := by simpa using k
        have up : ∀ a b, a ≤ b → b < m → c (gt0 p b) (gt0 p a) = false := fun a b hab hb => by
          by_cases r : a = b
          · rw [r]; exact W.irr _
          · rcases hS a b (by exact om381 hab r) hb with h | h
            · exact W.asym h
            · exact h.1
        have dn : ∀ a b, a ≤ b → b < m → c (gt0 p a) (gt0 p b) = false := fun a b hab hb => by
          have e1 := up 0 a (Nat.zero_le _) (by exact om382 hab hb)
          have e2 := up b (m - 1) (by exact om352 hb) (by exact om383 g)
          exact W.ntr (W.ntr e1 k') e2
        have hz' : m ≤ p.size := by rw [hz]; exact om371 hmN
        refine descPart_run W a1 hmN (rest_rev W hR (by exact om371 hmN)) (fun a b hab hb => ?_) ((mirror_perm _ _ _ _).trans pm) fun a ha => ?_
        · rw [rev_getD hz', rev_getD hz', if_pos ⟨Nat.zero_le _, hb⟩, if_pos ⟨Nat.zero_le _, by exact om289 hab hb⟩]
          refine .inr ⟨up _ _ (by exact om384 hab) (by exact om307 hb), ?_⟩
          rw [hid _ (by exact om385 hmN), hid _ (by exact om385 hmN)]; exact om308 hab hb
        · rw [rev_getD hz', rev_getD hz', if_neg (by exact om386), if_pos ⟨Nat.zero_le _, ha⟩]
          rcases W.neg _ (gt0 p (0 + m - 1 - a)) _ hst with h | h
          · exact h
          · rw [dn _ (m - 1) (by exact om387) (by exact om383 g)] at h; cases h
    · rw [if_neg g]
      have : m = 1 := by exact om388 a1 g
      subst this
      exact descPart_run W (Nat.le_refl _) hmN hR (fun a b hab hb => by exact (om380 hab hb).elim) pm fun a ha => by
        have : a = 0 := by exact om389 ha
        subst this; exact hst
theorem place_run {p : Array Nat} {k : Nat} (hS : Sorted c p k) : ∀ (f l r : Nat), l ≤ r → r ≤ k → r - l ≤ f → (∀ a, a < l → c (gt0 p k) (gt0 p a) = false) → (∀ a, r ≤ a → a < k → c (gt0 p k) (gt0 p a) = true) →
    KasT.run c (kas_place p k f l r) ≤ k ∧ (∀ a, a < KasT.run c (kas_place p k f l r) → c (gt0 p k) (gt0 p a) = false) ∧ (∀ a, KasT.run c (kas_place p k f l r) ≤ a → a < k → c (gt0 p k) (gt0 p a) = true)
  | 0, l, r, h1, h2, h3, h4, h5 => ⟨by show l ≤ k; exact om304 h1 h2, h4, fun a ha hk => h5 a (by have : l ≤ a := ha; exact om390 h3 this) hk⟩
  | f + 1, l, r, h1, h2, h3, h4, h5 => by
    have e : KasT.run c (kas_place p k (f + 1) l r) = if l ≥ r then l else if c (gt0 p k) (gt0 p ((l + r) / 2)) = true then KasT.run c (kas_place p k f l ((l + r) / 2)) else KasT.run c (kas_place p k f ((l + r) / 2 + 1) r) := by
      show KasT.run c (if l ≥ r then KasT.ret l else KasT.ask _ _ _) = _
      split
      · rfl
      · show KasT.run c (if c (gt0 p k) (gt0 p ((l + r) / 2)) = true then _ else _) = _
        split <;> rfl
    rw [e]
    by_cases q : l ≥ r
    · rw [if_pos q]; exact ⟨by exact om304 h1 h2, h4, fun a ha hk => h5 a (by exact om391 q ha) hk⟩
    · rw [if_neg q]
      by_cases g : c (gt0 p k) (gt0 p ((l + r) / 2)) = true
      · rw [if_pos g]
        refine place_run hS f l _ (by exact om394 q) (by exact om393 h2 q) (by exact om392 h3) h4 fun a ha hk => ?_
        by_cases r' : a = (l + r) / 2
        · rw [r']; exact g
        · rcases hS ((l + r) / 2) a (by exact om395 ha r') hk with h | ⟨h, _⟩
          · exact W.tr _ _ _ g h
          · rcases W.neg _ (gt0 p a) _ g with h' | h'
            · exact h'
            · rw [h] at h'; cases h'
      · rw [if_neg g]
        have g' : c (gt0 p k) (gt0 p ((l + r) / 2)) = false := by simpa using g
        refine place_run hS f _ r (by exact om397 q) h2 (by exact om396 h3) (fun a ha => ?_) h5
        by_cases r' : a = (l + r) / 2
        · rw [r']; exact g'
        · rcases hS a ((l + r) / 2) (by exact om399 ha r') (by exact om398 h2 q) with h | ⟨h, _⟩
          · cases w : c (gt0 p k) (gt0 p a) with
            | false => rfl
            | true => have := W.tr _ _ _ w h; rw [g'] at this; cases this
          · exact W.ntr g' h
theorem bin_run : ∀ (f : Nat) (p : Array Nat) (k : Nat), k + f = N → Sorted c p k → Rest p k N → p.Perm P₀ → Sorted c (KasT.run c (kas_bin f p k)) N ∧ (KasT.run c (kas_bin f p k)).size = N ∧ (KasT.run c (kas_bin f p k)).Perm P₀
  | 0, p, k, hk, hS, hR, pm => by
    have : k = N := by exact om400 hk
    subst this
    exact ⟨hS, hR.1, pm⟩
  | f + 1, p, k, hk, hS, hR, pm => by
    have e : KasT.run c (kas_bin (f + 1) p k) = KasT.run c (kas_bin f (bubble p k (k - KasT.run c (kas_place p k k 0 k))) (k + 1)) := run_bind c _ _
    rw [e]
    obtain ⟨l1, l2, l3⟩ := place_run W hS k 0 k (Nat.zero_le _) (Nat.le_refl _) (by exact om402) (fun a ha => by exact (om143 ha).elim) (fun a h1 h2 => by exact (om401 h1 h2).elim)
    generalize KasT.run c (kas_place p k k 0 k) = l at l1 l2 l3
    have hks : k < p.size := by rw [hR.1]; exact om328 hk
    have hkk : gt0 p k = k := hR.2.1 k (Nat.le_refl _) (by exact om328 hk)
    refine bin_run f _ _ (by exact om330 hk) (fun a b hab hb => ?_) ⟨(bubble_size _ _ _).trans hR.1, fun i h1 h2 => ?_, fun i hi => ?_⟩ ((bubble_perm _ _ _).trans pm)
    · have lo : ∀ i, i < l → gt0 (bubble p k (k - l)) i = gt0 p i := fun i hi => (bub_getD hks l1 i).trans (by rw [if_neg (by exact om404 hi), if_neg (by exact om403 hi)])
      have mi : gt0 (bubble p k (k - l)) l = gt0 p k := (bub_getD hks l1 l).trans (by rw [if_pos rfl])
      have hi' : ∀ i, l < i → i ≤ k → gt0 (bubble p k (k - l)) i = gt0 p (i - 1) := fun i h1 h2 => (bub_getD hks l1 i).trans (by rw [if_neg (by exact om405 h1), if_pos ⟨h1, h2⟩])
      by_cases b1 : b < l
      · rw [lo a (by exact om289 hab b1), lo b b1]
        exact hS a b hab (by exact om305 l1 b1)
      · by_cases b2 : b = l
        · rw [lo a (by exact om340 hab b2), b2, mi]
          exact .inr ⟨l2 a (by exact om340 hab b2), by rw [hkk]; exact hR.2.2 a (by exact om406 l1 hab b2)⟩
        · rw [hi' b (by exact om408 b1 b2) (by exact om407 hb)]
          by_cases a1 : a < l
          · rw [lo a a1]
            exact hS a (b - 1) (by exact om410 b1 b2 a1) (by exact om409 hab hb)
          · by_cases a2 : a = l
            · rw [a2, mi]
              exact .inl (l3 (b - 1) (by exact om411 hab a2) (by exact om409 hab hb))
            · rw [hi' a (by exact om408 a1 a2) (by exact om412 hab hb)]
              exact hS (a - 1) (b - 1) (by exact om413 hab a1 a2) (by exact om409 hab hb)
    · rw [bub_getD hks l1, if_neg (by exact om415 l1 h1), if_neg (by exact om414 h1)]
      exact hR.2.1 i (by exact om295 h1) h2
    · rw [bub_getD hks l1]
      by_cases r1 : i = l
      · rw [if_pos r1, hkk]; exact om300
      · rw [if_neg r1]
        by_cases r2 : l < i ∧ i ≤ k
        · rw [if_pos r2]; have := hR.2.2 (i - 1) (by exact om416 r2); exact om320 this
        · rw [if_neg r2]; have := hR.2.2 i (by exact om417 l1 hi r1 r2); exact om320 this
/-- the sort is stable -/
theorem sort_run (hN : 1 ≤ N) : Sorted c (KasT.run c (kas_sort N)) N ∧ (KasT.run c (kas_sort N)).size = N ∧ (KasT.run c (kas_sort N)).Perm (List.range N).toArray := by
  unfold kas_sort
  rw [run_bind]
  have C := count_run W (P₀ := (List.range N).toArray) hN (p := (List.range N).toArray) (by simp) (fun i hi => by simp [gt0, Array.getD, hi]) (.refl _)
  generalize KasT.run c (kas_count N (List.range N).toArray) = r at C
  have h1 := C.h1
  by_cases q : r.1 < N
  · rw [if_pos q, show max r.1 1 = r.1 from by exact om418 h1]
    exact bin_run W _ _ _ (by exact om419 q) C.S C.R C.pm
  · rw [if_neg q]
    have : r.1 = N := by have := C.hN; exact om420 q this
    exact ⟨this ▸ C.S, C.R.1, C.pm⟩
end
end Mine
namespace Mine
open PySem PySem.W PyProof.Rows
/-! ## what the sort asks lies in range -/
def Ent (N : Nat) (p : Array Nat) : Prop := 0 < N ∧ ∀ x ∈ p, x < N
theorem Ent.lt {N : Nat} {p : Array Nat} (h : Ent N p) (i : Nat) : gt0 p i < N := by
  unfold gt0
  rw [Array.getD_eq_getD_getElem?]
  cases q : p[i]? with
  | none => exact h.1
  | some x => exact h.2 x (Array.mem_of_getElem? q)
theorem Ent.perm {N : Nat} {p p' : Array Nat} (h : Ent N p) (q : p'.Perm p) : Ent N p' := ⟨h.1, fun x hx => h.2 x (q.mem_iff.mp hx)⟩
theorem Ent.rev {N : Nat} {p : Array Nat} (h : Ent N p) (i j : Nat) : Ent N (kas_rev p i j) := h.perm (mirror_perm _ _ _ _)
theorem asks_asc {N : Nat} {p : Array Nat} (h : Ent N p) : ∀ f n, AsksIn N (kas_asc p f n)
  | 0, _ => trivial
  | f + 1, n => ⟨h.lt _, h.lt _, fun b => by cases b with
    | true => exact trivial
    | false => exact asks_asc h f (n + 1)⟩
/-- a result that keeps the entries -/
def Keeps2 {α : Type} (N : Nat) (P : α → Prop) : KasT α → Prop
  | .ret a => P a
  | .ask i j k => i < N ∧ j < N ∧ ∀ b, Keeps2 N P (k b)
theorem Keeps2.asks {α : Type} {N : Nat} {P : α → Prop} : ∀ {t : KasT α}, Keeps2 N P t → AsksIn N t
  | .ret _, _ => trivial
  | .ask _ _ _, h => ⟨h.1, h.2.1, fun b => Keeps2.asks (h.2.2 b)⟩
theorem Keeps2.bind {α β : Type} {N : Nat} {P : α → Prop} {R : β → Prop} {f : α → KasT β} : ∀ {t : KasT α}, Keeps2 N P t → (∀ a, P a → Keeps2 N R (f a)) → Keeps2 N R (t.bind f)
  | .ret a, h, hf => hf a h
  | .ask _ _ _, h, hf => ⟨h.1, h.2.1, fun b => Keeps2.bind (h.2.2 b) hf⟩
theorem Keeps2.of {α : Type} {N : Nat} : ∀ {t : KasT α}, AsksIn N t → Keeps2 N (fun _ => True) t
  | .ret _, _ => trivial
  | .ask _ _ _, h => ⟨h.1, h.2.1, fun b => Keeps2.of (h.2.2 b)⟩
theorem asks_desc {N : Nat} : ∀ (f : Nat) (p : Array Nat) (n q : Nat), Ent N p → Keeps2 N (fun r => Ent N r.1) (kas_desc f p n q)
  | 0, _, _, _, h => h
  | f + 1, p, n, q, h => ⟨h.lt _, h.lt _, fun b => by
      cases b with
      | true =>
        show Keeps2 N _ (if q > 0 then kas_desc f (kas_rev p (n - (q + 1)) n) (n + 1) 0 else kas_desc f p (n + 1) 0)
        split
        · exact asks_desc f _ _ _ (h.rev _ _)
        · exact asks_desc f _ _ _ h
      | false =>
        refine ⟨h.lt _, h.lt _, fun b => ?_⟩
        cases b with
        | true => exact h
        | false => exact asks_desc f _ _ _ h⟩
theorem asks_tail3 {N : Nat} {p : Array Nat} (h : Ent N p) (n nrem : Nat) : Keeps2 N (fun r => Ent N r.2) (kas_tail3 n nrem p) :=
  Keeps2.bind (Keeps2.of (asks_asc (h.rev _ _) _ _)) fun _ _ => h.rev _ _
theorem asks_descPart {N : Nat} {p : Array Nat} (h : Ent N p) (n nrem : Nat) : Keeps2 N (fun r => Ent N r.2) (kas_descPart n nrem p) :=
  Keeps2.bind (asks_desc _ _ _ _ h) fun r hr => by
    split
    · exact asks_tail3 (hr.rev _ _) _ _
    · exact asks_tail3 hr _ _
theorem asks_count {N : Nat} {p : Array Nat} (h : Ent N p) (nrem : Nat) : Keeps2 N (fun r => Ent N r.2) (kas_count nrem p) :=
  Keeps2.bind (Keeps2.of (asks_asc h _ _)) fun n _ => by
    split
    · exact h
    · split
      · refine ⟨h.lt _, h.lt _, fun b => ?_⟩
        cases b with
        | true => exact h
        | false => exact asks_descPart (h.rev _ _) _ _
      · exact asks_descPart h _ _
theorem asks_place {N : Nat} {p : Array Nat} (h : Ent N p) (k : Nat) : ∀ f l r, AsksIn N (kas_place p k f l r)
  | 0, _, _ => trivial
  | f + 1, l, r => by
    show AsksIn N (if l ≥ r then KasT.ret l else KasT.ask _ _ _)
    split
    · exact trivial
    · refine ⟨h.lt _, h.lt _, fun b => ?_⟩
      cases b with
      | true => exact asks_place h k f _ _
      | false => exact asks_place h k f _ _
theorem asks_bin {N : Nat} : ∀ (f : Nat) (p : Array Nat) (k : Nat), Ent N p → AsksIn N (kas_bin f p k)
  | 0, _, _, _ => trivial
  | f + 1, p, k, h => (Keeps2.bind (R := fun _ => True) (Keeps2.of (asks_place h k k 0 k)) fun l _ => Keeps2.of (asks_bin f _ _ (h.perm (bubble_perm _ _ _)))).asks
theorem asks_sort {N : Nat} (hN : 0 < N) : AsksIn N (kas_sort N) := by
  have h : Ent N (List.range N).toArray := ⟨hN, fun x hx => by simpa using hx⟩
  refine (Keeps2.bind (R := fun _ => True) (asks_count h N) fun r hr => ?_).asks
  split
  · exact Keeps2.of (asks_bin _ _ _ hr)
  · exact trivial
end Mine
namespace Mine
open PySem PySem.W PyProof.Rows
/-! ## the heap laws, plain -/
structure WeakV (lt : Value → Value → Bool) : Prop where
  irr : ∀ x, lt x x = false
  tr : ∀ x y z, lt x y = true → lt y z = true → lt x z = true
  neg : ∀ x y z, lt x z = true → lt x y = true ∨ lt y z = true
section
variable {lt : Value → Value → Bool} (W : WeakV lt)
include W
theorem WeakV.asym {x y : Value} (h : lt x y = true) : lt y x = false := by
  cases q : lt y x with
  | false => rfl
  | true => have := W.tr x y x h q; rw [W.irr] at this; cases this
theorem WeakV.ntr {x y z : Value} (h1 : lt x y = false) (h2 : lt y z = false) : lt x z = false := by
  cases q : lt x z with
  | false => rfl
  | true => rcases W.neg x y z q with h | h
            · rw [h1] at h; cases h
            · rw [h2] at h; cases h
end
abbrev gv (a : Array Value) (i : Nat) : Value := a.getD i .none
theorem gv_set {a : Array Value} {q : Nat} {v : Value} (hq : q < a.size) (i : Nat) : gv (a.setIfInBounds q v) i = if i = q then v else gv a i := by
  simp only [gv, Array.getD_eq_getD_getElem?]
  by_cases h : i = q
  · rw [if_pos h, h, Array.getElem?_setIfInBounds_self_of_lt hq]; rfl
  · rw [if_neg h, Array.getElem?_setIfInBounds_ne (Ne.symm h)]
/-- j stands under i in the tree -/
inductive Sub (p : Nat) : Nat → Prop
  | refl : Sub p p
  | left {q : Nat} : Sub p q → Sub p (2 * q + 1)
  | right {q : Nat} : Sub p q → Sub p (2 * q + 2)
theorem Sub.le {p q : Nat} (h : Sub p q) : p ≤ q := by induction h <;> omega
theorem Sub.up {p q : Nat} (h : Sub p q) (hne : q ≠ p) : Sub p ((q - 1) / 2) := by
  cases h with
  | refl => exact absurd rfl hne
  | left h => rename_i r; rw [show (2 * r + 1 - 1) / 2 = r from by exact om421]; exact h
  | right h => rename_i r; rw [show (2 * r + 2 - 1) / 2 = r from by exact om422]; exact h
/-- all heap rows with a parent from p on, but those that touch the hole q -/
def Hole (lt : Value → Value → Bool) (a : Array Value) (p q : Nat) : Prop := ∀ j, 0 < j → j < a.size → p ≤ (j - 1) / 2 → j ≠ q → (j - 1) / 2 ≠ q → lt (gv a j) (gv a ((j - 1) / 2)) = false
/-- what hangs under the hole is not less than what stands over it -/
def Over (lt : Value → Value → Bool) (a : Array Value) (p q : Nat) : Prop := q ≠ p → ∀ j, 0 < j → j < a.size → (j - 1) / 2 = q → lt (gv a j) (gv a ((q - 1) / 2)) = false
def HeapFrom (lt : Value → Value → Bool) (a : Array Value) (p : Nat) : Prop := ∀ j, 0 < j → j < a.size → p ≤ (j - 1) / 2 → lt (gv a j) (gv a ((j - 1) / 2)) = false
section
variable {lt : Value → Value → Bool} (W : WeakV lt)
include W
theorem suChild_min {a : Array Value} {q : Nat} (h : 2 * q + 1 < a.size) : (suChild lt a q = 2 * q + 1 ∨ suChild lt a q = 2 * q + 2) ∧ ∀ j, 0 < j → j < a.size → (j - 1) / 2 = q → lt (gv a j) (gv a (suChild lt a q)) = false := by
  unfold suChild
  by_cases r : (2 * q + 2 < a.size ∧ lt (a.getD (2 * q + 1) .none) (a.getD (2 * q + 2) .none) = false)
  · rw [if_pos r]
    refine ⟨.inr rfl, fun j h0 hj hp => ?_⟩
    have : j = 2 * q + 1 ∨ j = 2 * q + 2 := by exact om423 h0 hp
    rcases this with rfl | rfl
    · exact r.2
    · exact W.irr _
  · rw [if_neg r]
    refine ⟨.inl rfl, fun j h0 hj hp => ?_⟩
    have : j = 2 * q + 1 ∨ j = 2 * q + 2 := by exact om423 h0 hp
    rcases this with rfl | rfl
    · exact W.irr _
    · have : lt (gv a (2 * q + 1)) (gv a (2 * q + 2)) = true := by
        cases w : lt (gv a (2 * q + 1)) (gv a (2 * q + 2)) with
        | true => rfl
        | false => exact absurd ⟨hj, w⟩ r
      exact W.asym this
/-- the hole goes down to a leaf -/
theorem suLoop_hole {p : Nat} : ∀ (n : Nat) (a : Array Value) (q : Nat), a.size ≤ n + q → q < a.size → Sub p q → Hole lt a p q → Over lt a p q →
    Sub p (suLoop lt n a q).2 ∧ Hole lt (suLoop lt n a q).1 p (suLoop lt n a q).2 ∧ a.size ≤ 2 * (suLoop lt n a q).2 + 1
  | 0, a, q, hn, hq, hs, hh, ho => by exact (om424 hn hq).elim
  | n + 1, a, q, hn, hq, hs, hh, ho => by
    unfold suLoop
    by_cases h : 2 * q + 1 < a.size
    · rw [if_pos h]
      obtain ⟨hc, hmin⟩ := suChild_min W h
      have hlt := suChild_lt (lt := lt) h
      have hge := suChild_ge lt a q
      generalize suChild lt a q = c at hc hmin hlt hge
      have hcp : (c - 1) / 2 = q := by exact om425 hc
      have hsz : (a.setIfInBounds q (a.getD c .none)).size = a.size := Array.size_setIfInBounds
      have hsc : Sub p c := by
        rcases hc with e | e
        · rw [e]; exact .left hs
        · rw [e]; exact .right hs
      have key := suLoop_hole (p := p) n (a.setIfInBounds q (a.getD c .none)) c (by rw [hsz]; exact om136 hn hge) (by rw [hsz]; exact hlt) hsc (fun j h0 hj hp hne hpe => ?_) (fun hne j h0 hj hpe => ?_)
      · rw [hsz] at key; exact key
      · rw [hsz] at hj
        rw [gv_set hq, gv_set hq]
        by_cases j1 : j = q
        · subst j1
          rw [if_pos rfl, if_neg (by exact om426 h0)]
          exact ho (fun e => by exact om428 h0 hp e) c (by exact om427 hge) hlt hcp
        · rw [if_neg j1]
          by_cases j2 : (j - 1) / 2 = q
          · rw [if_pos j2]; exact hmin j h0 hj j2
          · rw [if_neg j2]; exact hh j h0 hj hp j1 j2
      · rw [hsz] at hj
        rw [gv_set hq, gv_set hq, if_neg (by exact om429 hcp h0 hpe), if_pos hcp]
        have := hh j h0 hj (by have := hs.le; exact om432 hcp hpe this) (by exact om431 hcp h0 hpe) (by exact om430 hge hpe)
        rw [hpe] at this; exact this
    · rw [if_neg h]
      exact ⟨hs, hh, by omega⟩
theorem set_heap {a : Array Value} {p q : Nat} {x : Value} (hq : q < a.size) (hh : Hole lt a p q) (hu : ∀ j, 0 < j → j < a.size → (j - 1) / 2 = q → lt (gv a j) x = false) (hstop : q = p ∨ lt x (gv a ((q - 1) / 2)) = false) : HeapFrom lt (a.setIfInBounds q x) p := fun j h0 hj hp => by
  rw [Array.size_setIfInBounds] at hj
  rw [gv_set hq, gv_set hq]
  by_cases j1 : j = q
  · rw [if_pos j1, if_neg (by exact om433 h0 j1)]
    rcases hstop with e | e
    · exact (om434 h0 hp j1 e).elim
    · rw [j1]; exact e
  · rw [if_neg j1]
    by_cases j2 : (j - 1) / 2 = q
    · rw [if_pos j2]; exact hu j h0 hj j2
    · rw [if_neg j2]; exact hh j h0 hj hp j1 j2
theorem sdLoop_heap {p : Nat} {x : Value} : ∀ (n : Nat) (a : Array Value) (q : Nat), q ≤ n → q < a.size → Sub p q → Hole lt a p q → Over lt a p q → (∀ j, 0 < j → j < a.size → (j - 1) / 2 = q → lt (gv a j) x = false) →
    HeapFrom lt ((sdLoop lt x p n a q).1.setIfInBounds (sdLoop lt x p n a q).2 x) p
  | 0, a, q, hn, hq, hs, hh, ho, hu => by
    have hle := hs.le
    have e : q = p := by exact om435 hn hle
    exact set_heap W (q := q) hq hh hu (.inl e)
  | n + 1, a, q, hn, hq, hs, hh, ho, hu => by
    unfold sdLoop
    have hle := hs.le
    by_cases h : p < q
    · rw [if_pos h]
      by_cases g : lt x (a.getD ((q - 1) / 2) .none) = true
      · rw [if_pos g]
        have hsp := hs.up (by exact om436 h)
        have hple := hsp.le
        have hsz : (a.setIfInBounds q (a.getD ((q - 1) / 2) .none)).size = a.size := Array.size_setIfInBounds
        have hpq : (q - 1) / 2 < q := by exact om437 h
        refine sdLoop_heap n _ _ (by exact om133 hn) (by rw [hsz]; exact om137 hq) hsp (fun j h0 hj hp hne hpe => ?_) (fun hne j h0 hj hpe => ?_) fun j h0 hj hpe => ?_
        · rw [hsz] at hj
          rw [gv_set hq, gv_set hq]
          by_cases j1 : j = q
          · rw [j1] at hpe; exact absurd rfl hpe
          · rw [if_neg j1]
            by_cases j2 : (j - 1) / 2 = q
            · rw [if_pos j2]; exact ho (by exact om436 h) j h0 hj j2
            · rw [if_neg j2]; exact hh j h0 hj hp j1 j2
        · rw [hsz] at hj
          have hpp : lt (gv a ((q - 1) / 2)) (gv a (((q - 1) / 2 - 1) / 2)) = false := hh _ (by exact om441 hple hne) (by exact om137 hq) (by have := (hsp.up hne).le; exact om440 this) (by exact om439 hpq) (by exact om438 hpq)
          rw [gv_set hq, gv_set hq, if_neg (show ((q - 1) / 2 - 1) / 2 ≠ q by exact om438 hpq)]
          by_cases j1 : j = q
          · rw [if_pos j1]; exact hpp
          · rw [if_neg j1]
            have := hh j h0 hj (by exact om443 hple hpe) j1 (by exact om442 hpq hpe)
            rw [hpe] at this
            exact W.ntr this hpp
        · rw [hsz] at hj
          rw [gv_set hq]
          by_cases j1 : j = q
          · rw [if_pos j1]; exact W.asym g
          · rw [if_neg j1]
            have := hh j h0 hj (by exact om443 hple hpe) j1 (by exact om442 hpq hpe)
            rw [hpe] at this
            exact W.ntr this (W.asym g)
      · rw [if_neg g]
        exact set_heap W hq hh hu (.inr (by simpa using g))
    · rw [if_neg h]
      exact set_heap W hq hh hu (.inl (by omega))
/-- siftup makes a heap out of two -/
theorem siftup_heap {a : Array Value} {p : Nat} (hp : p < a.size) (h : HeapFrom lt a (p + 1)) : HeapFrom lt (siftup lt a p) p := by
  unfold siftup siftdown
  obtain ⟨s1, s2, s3⟩ := suLoop_hole W (p := p) a.size a p (by exact om445) hp .refl (fun j h0 hj hpj hne hpe => h j h0 hj (by exact om444 hpj hpe)) (fun e => absurd rfl e)
  have hz := suLoop_size lt a.size a p
  have hl := suLoop_lt (lt := lt) (n := a.size) hp
  generalize suLoop lt a.size a p = r at s1 s2 s3 hz hl
  have hsz : (r.1.setIfInBounds r.2 (a.getD p .none)).size = a.size := by rw [Array.size_setIfInBounds, hz]
  have hg : (r.1.setIfInBounds r.2 (a.getD p .none)).getD r.2 .none = a.getD p .none := by
    have := gv_set (a := r.1) (q := r.2) (v := a.getD p .none) (by rw [hz]; exact hl) r.2
    rw [if_pos rfl] at this; exact this
  rw [hg]
  refine sdLoop_heap W _ _ _ (Nat.le_refl _) (by rw [hsz]; exact hl) s1 (fun j h0 hj hpj hne hpe => ?_) (fun hne j h0 hj hpe => ?_) fun j h0 hj hpe => ?_
  · rw [hsz] at hj
    rw [gv_set (by rw [hz]; exact hl), gv_set (by rw [hz]; exact hl), if_neg hne, if_neg hpe]
    exact s2 j h0 (by rw [hz]; exact hj) hpj hne hpe
  · rw [hsz] at hj; exact (om446 s3 h0 hj hpe).elim
  · rw [hsz] at hj; exact (om446 s3 h0 hj hpe).elim
theorem hfLoop_heap : ∀ (k : Nat) (a : Array Value), k ≤ a.size → HeapFrom lt a k → HeapFrom lt (hfLoop lt k a) 0
  | 0, _, _, h => h
  | k + 1, a, hk, h => hfLoop_heap k (siftup lt a k) (by rw [siftup_size]; exact om295 hk) (siftup_heap W (by exact om447 hk) h)
theorem heapify_heap (a : Array Value) : HeapFrom lt (heapify lt a) 0 := hfLoop_heap W _ a (by exact om449) fun j h0 hj hp => by exact (om448 h0 hj hp).elim
/-- the root is the least -/
theorem heap_root {a : Array Value} (h : HeapFrom lt a 0) : ∀ j, j < a.size → lt (gv a j) (gv a 0) = false := fun j => by
  induction j using Nat.strongRecOn with
  | ind j ih =>
    intro hj
    by_cases q : j = 0
    · rw [q]; exact W.irr _
    · exact W.ntr (h j (by exact om451 q) hj (Nat.zero_le _)) (ih ((j - 1) / 2) (by exact om450 q) (by exact om137 hj))
end
end Mine
namespace Mine
open PySem PySem.W PyProof.Rows
theorem set_move {a : Array Value} {q c : Nat} {x : Value} (hq : q < a.size) (hc : c < a.size) : ((a.setIfInBounds q (gv a c)).setIfInBounds c x).Perm (a.setIfInBounds q x) := by
  by_cases e : q = c
  · subst e
    rw [Array.setIfInBounds_setIfInBounds]
  · have h1 : q < (a.setIfInBounds q x).size := by rw [Array.size_setIfInBounds]; exact hq
    have h2 : c < (a.setIfInBounds q x).size := by rw [Array.size_setIfInBounds]; exact hc
    have k : (a.setIfInBounds q (gv a c)).setIfInBounds c x = (a.setIfInBounds q x).swap q c h1 h2 := by
      refine Array.ext_getElem? fun i => ?_
      have hgc : gv a c = a[c] := by simp [gv, Array.getD, hc]
      have hbc : (a.setIfInBounds q x)[c] = a[c] := Array.getElem_setIfInBounds_ne hc e
      have hbq : (a.setIfInBounds q x)[q] = x := Array.getElem_setIfInBounds_self _
      by_cases i1 : c = i
      · subst i1
        rw [Array.getElem?_setIfInBounds_self_of_lt (by rw [Array.size_setIfInBounds]; exact hc), Array.getElem?_eq_getElem (by rw [Array.size_swap]; exact h2), Array.getElem_swap_right, hbq]
      · rw [Array.getElem?_setIfInBounds_ne i1]
        by_cases i2 : q = i
        · subst i2
          rw [Array.getElem?_setIfInBounds_self_of_lt hq, Array.getElem?_eq_getElem (by rw [Array.size_swap]; exact h1), Array.getElem_swap_left, hbc, hgc]
        · rw [Array.getElem?_setIfInBounds_ne i2]
          by_cases hi : i < a.size
          · rw [Array.getElem?_eq_getElem (show i < ((a.setIfInBounds q x).swap q c h1 h2).size by rw [Array.size_swap, Array.size_setIfInBounds]; exact hi), Array.getElem_swap_of_ne (Ne.symm i2) (Ne.symm i1), Array.getElem_setIfInBounds_ne hi i2, Array.getElem?_eq_getElem hi]
          · rw [Array.getElem?_eq_none (by exact om122 hi), Array.getElem?_eq_none (by rw [Array.size_swap, Array.size_setIfInBounds]; exact om122 hi)]
    rw [k]
    exact Array.swap_perm h1 h2
/-- the hole and its item go down: nothing is lost -/
theorem suLoop_perm {lt : Value → Value → Bool} {x : Value} : ∀ (n : Nat) (a : Array Value) (q : Nat), q < a.size → ((suLoop lt n a q).1.setIfInBounds (suLoop lt n a q).2 x).Perm (a.setIfInBounds q x)
  | 0, _, _, _ => .refl _
  | n + 1, a, q, hq => by
    unfold suLoop
    by_cases h : 2 * q + 1 < a.size
    · rw [if_pos h]
      have hc := suChild_lt (lt := lt) h
      exact (suLoop_perm n _ _ (by rw [Array.size_setIfInBounds]; exact hc)).trans (set_move hq hc)
    · rw [if_neg h]
theorem sdLoop_perm {lt : Value → Value → Bool} {x : Value} {p : Nat} : ∀ (n : Nat) (a : Array Value) (q : Nat), q < a.size → ((sdLoop lt x p n a q).1.setIfInBounds (sdLoop lt x p n a q).2 x).Perm (a.setIfInBounds q x)
  | 0, _, _, _ => .refl _
  | n + 1, a, q, hq => by
    unfold sdLoop
    by_cases h : p < q
    · rw [if_pos h]
      by_cases g : lt x (a.getD ((q - 1) / 2) .none) = true
      · rw [if_pos g]
        have hc : (q - 1) / 2 < a.size := by exact om137 hq
        exact (sdLoop_perm n _ _ (by rw [Array.size_setIfInBounds]; exact hc)).trans (set_move hq hc)
      · rw [if_neg g]
    · rw [if_neg h]
theorem set_self {a : Array Value} {q : Nat} (hq : q < a.size) : a.setIfInBounds q (gv a q) = a := by
  refine Array.ext_getElem? fun i => ?_
  by_cases e : q = i
  · subst e
    rw [Array.getElem?_setIfInBounds_self_of_lt hq, Array.getElem?_eq_getElem hq]
    simp [gv, Array.getD, hq]
  · rw [Array.getElem?_setIfInBounds_ne e]
theorem siftup_perm {lt : Value → Value → Bool} {a : Array Value} {p : Nat} (hp : p < a.size) : (siftup lt a p).Perm a := by
  unfold siftup siftdown
  have hz := suLoop_size lt a.size a p
  have hl := suLoop_lt (lt := lt) (n := a.size) hp
  have P1 := suLoop_perm (lt := lt) (x := gv a p) a.size a p hp
  rw [set_self hp] at P1
  generalize suLoop lt a.size a p = r at hz hl P1
  have hlr : r.2 < (r.1.setIfInBounds r.2 (gv a p)).size := by rw [Array.size_setIfInBounds, hz]; exact hl
  have P2 := sdLoop_perm (lt := lt) (x := gv (r.1.setIfInBounds r.2 (gv a p)) r.2) (p := p) r.2 (r.1.setIfInBounds r.2 (gv a p)) r.2 hlr
  rw [set_self hlr] at P2
  exact P2.trans P1
theorem hfLoop_perm {lt : Value → Value → Bool} : ∀ (k : Nat) (a : Array Value), k ≤ a.size → (hfLoop lt k a).Perm a
  | 0, _, _ => .refl _
  | k + 1, a, hk => (hfLoop_perm k (siftup lt a k) (by rw [siftup_size]; exact om295 hk)).trans (siftup_perm (by exact om447 hk))
theorem heapify_perm {lt : Value → Value → Bool} (a : Array Value) : (heapify lt a).Perm a := hfLoop_perm _ a (by exact om449)
/-- heapreplace: the root goes, the item comes, the heap stands -/
theorem replace_heap {lt : Value → Value → Bool} (W : WeakV lt) {a : Array Value} {x : Value} (h0 : 0 < a.size) (h : HeapFrom lt a 0) : HeapFrom lt (siftup lt (a.setIfInBounds 0 x) 0) 0 ∧ (siftup lt (a.setIfInBounds 0 x) 0).Perm (a.setIfInBounds 0 x) := by
  have hz : 0 < (a.setIfInBounds 0 x).size := by rw [Array.size_setIfInBounds]; exact h0
  refine ⟨siftup_heap W hz fun j hj0 hj hp => ?_, siftup_perm hz⟩
  rw [Array.size_setIfInBounds] at hj
  rw [gv_set h0, gv_set h0, if_neg (by exact om453 hj0), if_neg (by exact om452 hp)]
  exact h j hj0 hj (Nat.zero_le _)
end Mine
namespace Mine
open PySem PySem.W PyProof.Rows
/-! ## the order of swapped bytes is the order of the words' numbers -/
theorem order_append : ∀ (x y X Y : List UInt8), x.length = y.length → Builtin.Bytes.order (x ++ X) (y ++ Y) = (Builtin.Bytes.order x y).then (Builtin.Bytes.order X Y)
  | [], [], _, _, _ => rfl
  | [], _ :: _, _, _, h => nomatch h
  | _ :: _, [], _, _, h => nomatch h
  | a :: x, b :: y, X, Y, h => by
    have ih := order_append x y X Y (by simpa using h)
    show (if a < b then Ordering.lt else if a > b then .gt else Builtin.Bytes.order (x ++ X) (y ++ Y)) = (if a < b then Ordering.lt else if a > b then .gt else Builtin.Bytes.order x y).then _
    split
    · rfl
    · split
      · rfl
      · exact ih
def leNum : List UInt8 → Int
  | [] => 0
  | b :: r => (b.toNat : Int) + 256 * leNum r
def icmp (a b : Int) : Ordering := if a < b then .lt else if b < a then .gt else .eq
theorem order_one (a b : UInt8) : Builtin.Bytes.order [a] [b] = icmp a.toNat b.toNat := by
  show (if a < b then Ordering.lt else if a > b then .gt else .eq) = _
  have e1 : a < b ↔ (a.toNat : Int) < b.toNat := by rw [UInt8.lt_iff_toNat_lt]; exact om454
  have e2 : b < a ↔ (b.toNat : Int) < a.toNat := by rw [UInt8.lt_iff_toNat_lt]; exact om454
  unfold icmp
  by_cases h1 : a < b
  · rw [if_pos h1, if_pos (e1.mp h1)]
  · rw [if_neg h1, if_neg (mt e1.mpr h1)]
    by_cases h2 : a > b
    · rw [if_pos h2, if_pos (e2.mp h2)]
    · rw [if_neg h2, if_neg (mt e2.mpr h2)]
theorem cmp_word {a b : UInt8} {m n : Int} : icmp ((a.toNat : Int) + 256 * m) ((b.toNat : Int) + 256 * n) = (icmp m n).then (icmp a.toNat b.toNat) := by
  have ha := a.toNat_lt
  have hb := b.toNat_lt
  unfold icmp
  by_cases h1 : m < n
  · rw [if_pos h1, if_pos (by exact om455 ha h1)]; rfl
  · rw [if_neg h1]
    by_cases h2 : n < m
    · rw [if_pos h2, if_neg (by exact om456 hb h2), if_pos (by exact om455 hb h2)]; rfl
    · rw [if_neg h2]
      have : m = n := by exact om362 h1 h2
      subst this
      show _ = if (a.toNat : Int) < b.toNat then Ordering.lt else if (b.toNat : Int) < a.toNat then .gt else .eq
      by_cases g1 : (a.toNat : Int) < b.toNat
      · rw [if_pos g1, if_pos (by exact om457 g1)]
      · rw [if_neg g1, if_neg (by exact om458 g1)]
        by_cases g2 : (b.toNat : Int) < a.toNat
        · rw [if_pos g2, if_pos (by exact om457 g2)]
        · rw [if_neg g2, if_neg (by exact om458 g2)]
theorem order_rev : ∀ (x y : List UInt8), x.length = y.length → Builtin.Bytes.order x.reverse y.reverse = icmp (leNum x) (leNum y)
  | [], [], _ => rfl
  | [], _ :: _, h => nomatch h
  | _ :: _, [], h => nomatch h
  | a :: x, b :: y, h => by
    have hl : x.length = y.length := by simpa using h
    rw [List.reverse_cons, List.reverse_cons, order_append _ _ _ _ (by simpa using hl), order_rev x y hl, order_one]
    exact cmp_word.symm
end Mine
namespace Mine
open PySem PySem.W PyProof.Rows
def iord : List Int → List Int → Ordering
  | [], [] => .eq
  | [], _ :: _ => .lt
  | _ :: _, [] => .gt
  | a :: x, b :: y => (icmp a b).then (iord x y)
theorem sum_mul (k : Int) (f : Nat → Int) : ∀ l : List Nat, (l.map fun p => k * f p).sum = k * (l.map f).sum
  | [] => by simp
  | a :: l => by rw [List.map_cons, List.sum_cons, sum_mul k f l, List.map_cons, List.sum_cons, Int.mul_add]
theorem leNum_sum : ∀ u : List UInt8, ((List.range u.length).map fun p => ((u.getD p 0).toNat : Int) * 256 ^ p).sum = leNum u
  | [] => rfl
  | b :: r => by
    rw [List.length_cons, List.range_succ_eq_map, List.map_cons, List.sum_cons, List.map_map]
    have e : ((fun p => (((b :: r).getD p 0).toNat : Int) * 256 ^ p) ∘ Nat.succ) = fun p => 256 * (((r.getD p 0).toNat : Int) * 256 ^ p) := by
      funext p
      show (((b :: r).getD (p + 1) 0).toNat : Int) * 256 ^ (p + 1) = _
      rw [List.getD_cons_succ, Int.pow_succ]
      rw [Int.mul_comm (256 ^ p : Int) 256, ← Int.mul_assoc, ← Int.mul_assoc, Int.mul_comm _ (256 : Int), Int.mul_assoc]
    rw [e, sum_mul, leNum_sum r]
    show (((b :: r).getD 0 0).toNat : Int) * 256 ^ 0 + _ = (b.toNat : Int) + 256 * leNum r
    rw [Int.pow_zero, Int.mul_one]; rfl
def swp (w : Nat) (row : List UInt8) : List UInt8 := (List.range row.length).map (bswAt w row)
def nmw (w : Nat) (row : List UInt8) : List Int := (List.range (row.length / w)).map (numW w row)
theorem getD_app_lt {u v : List UInt8} {i : Nat} (h : i < u.length) : (u ++ v).getD i 0 = u.getD i 0 := by
  simp only [List.getD_eq_getElem?_getD]; rw [List.getElem?_append_left h]
theorem getD_app_ge {u v : List UInt8} {i : Nat} : (u ++ v).getD (u.length + i) 0 = v.getD i 0 := by
  simp only [List.getD_eq_getElem?_getD]; rw [List.getElem?_append_right (by exact om445)]; congr 2; exact om459
theorem swp_app {w : Nat} (hw : 0 < w) {u v : List UInt8} (hu : u.length = w) : swp w (u ++ v) = u.reverse ++ swp w v := by
  unfold swp
  rw [List.length_append, hu, List.range_add, List.map_append, List.map_map]
  congr 1
  · refine List.ext_getElem (by simp [hu]) fun i h1 h2 => ?_
    have hi : i < w := by simpa using h1
    rw [List.getElem_map, List.getElem_range, List.getElem_reverse]
    unfold bswAt
    rw [Nat.div_eq_of_lt hi, Nat.mod_eq_of_lt hi, Nat.zero_mul, Nat.zero_add, getD_app_lt (by exact om460 hu hi), List.getD_eq_getElem?_getD, List.getElem?_eq_getElem (by exact om460 hu hi)]
    simp only [Option.getD_some, hu]
  · refine List.map_congr_left fun i _ => ?_
    show bswAt w (u ++ v) (w + i) = bswAt w v i
    unfold bswAt
    rw [Nat.add_div_left _ hw, Nat.add_mod_left, Nat.succ_mul, show i / w * w + w + (w - 1 - i % w) = u.length + (i / w * w + (w - 1 - i % w)) from by exact om461 hu, getD_app_ge]
theorem nmw_app {w : Nat} (hw : 0 < w) {u v : List UInt8} (hu : u.length = w) : nmw w (u ++ v) = leNum u :: nmw w v := by
  unfold nmw
  rw [List.length_append, hu, Nat.add_div_left _ hw, List.range_succ_eq_map, List.map_cons, List.map_map]
  congr 1
  · unfold numW
    rw [← leNum_sum u, hu]
    congr 1
    refine List.map_congr_left fun p hp => ?_
    have := List.mem_range.mp hp
    rw [Nat.zero_mul, Nat.zero_add, getD_app_lt (by exact om118 hu this)]
  · refine List.map_congr_left fun q _ => ?_
    show numW w (u ++ v) (q + 1) = numW w v q
    unfold numW
    congr 1
    refine List.map_congr_left fun p _ => ?_
    rw [Nat.succ_mul, show q * w + w + p = u.length + (q * w + p) from by exact om462 hu, getD_app_ge]
theorem swap_order {w : Nat} (hw : 0 < w) : ∀ (k j : Nat) (x y : List UInt8), x.length = k * w → y.length = j * w → Builtin.Bytes.order (swp w x) (swp w y) = iord (nmw w x) (nmw w y)
  | 0, 0, x, y, hx, hy => by
    rw [Nat.zero_mul] at hx hy
    rw [List.eq_nil_of_length_eq_zero hx, List.eq_nil_of_length_eq_zero hy]
    unfold swp nmw
    simp [Builtin.Bytes.order, iord]
  | 0, j + 1, x, y, hx, hy => by
    rw [Nat.zero_mul] at hx
    rw [List.eq_nil_of_length_eq_zero hx]
    have e : y = y.take w ++ y.drop w := (List.take_append_drop w y).symm
    have hl : (y.take w).length = w := by rw [List.length_take, hy, Nat.succ_mul]; exact om463
    rw [e, swp_app hw hl, nmw_app hw hl]
    have : (y.take w).reverse ≠ [] := fun q => by have := congrArg List.length q; rw [List.length_reverse, hl] at this; simp at this; exact om464 hw this
    cases q : (y.take w).reverse with
    | nil => exact absurd q this
    | cons a r => unfold swp nmw; simp [Builtin.Bytes.order, iord]
  | k + 1, 0, x, y, hx, hy => by
    rw [Nat.zero_mul] at hy
    rw [List.eq_nil_of_length_eq_zero hy]
    have e : x = x.take w ++ x.drop w := (List.take_append_drop w x).symm
    have hl : (x.take w).length = w := by rw [List.length_take, hx, Nat.succ_mul]; exact om463
    rw [e, swp_app hw hl, nmw_app hw hl]
    have : (x.take w).reverse ≠ [] := fun q => by have := congrArg List.length q; rw [List.length_reverse, hl] at this; simp at this; exact om464 hw this
    cases q : (x.take w).reverse with
    | nil => exact absurd q this
    | cons a r => unfold swp nmw; simp [Builtin.Bytes.order, iord]
  | k + 1, j + 1, x, y, hx, hy => by
    have ex : x = x.take w ++ x.drop w := (List.take_append_drop w x).symm
    have ey : y = y.take w ++ y.drop w := (List.take_append_drop w y).symm
    have hlx : (x.take w).length = w := by rw [List.length_take, hx, Nat.succ_mul]; exact om463
    have hly : (y.take w).length = w := by rw [List.length_take, hy, Nat.succ_mul]; exact om463
    have ih := swap_order hw k j (x.drop w) (y.drop w) (by rw [List.length_drop, hx, Nat.succ_mul]; exact om465) (by rw [List.length_drop, hy, Nat.succ_mul]; exact om465)
    rw [ex, ey, swp_app hw hlx, swp_app hw hly, nmw_app hw hlx, nmw_app hw hly, order_append _ _ _ _ (by rw [List.length_reverse, List.length_reverse, hlx, hly]), order_rev _ _ (by rw [hlx, hly])]
    rw [ih]
    rfl
end Mine
namespace Mine
open PySem PySem.Calls PyProof.Rows PySem.W
open Sem (wp)
/-! ## comparisons: bytes, tuples, lists of ints -/
namespace BY
theorem sub : isSubtype (.type "bytes") (.type "bytes") = pure true := by rw [isSubtype_type]; kernel_rfl
theorem lookupLt : typeLookup (.type "bytes") "__lt__" = pure (some (.builtin "bytes.__lt__")) := by rw [typeLookup_type, builtinLookup_eq_fast]; kernel_rfl
theorem slotLt : Slot "bytes" (cmpInfo .Lt).2.1 "bytes.__lt__" := .of (owner := "bytes") (n := "__lt__") lookupLt (by decide +kernel) (by decide +kernel) (by decide +kernel) (by first | exact .inl (by decide +kernel) | exact .inr (by decide +kernel)) sub
theorem entryLt : entryFor table "bytes.__lt__" = some Builtin.«bytes.__lt__» := entryFor_of_tree (by kernel_rfl)
theorem ltCall (a b : Value) : argsOk "bytes.__lt__" ⟨[a, b], []⟩ := by unfold argsOk; kernel_rfl
end BY
def blt (x y : List UInt8) : Bool := Builtin.Bytes.order x y == .lt
theorem gives_bytes_lt (b c : Array UInt8) (t u : Tok) : Gives (Builtin.«bytes.__lt__» ⟨[.bytes b t, .bytes c u], []⟩) (.val (.bool (blt b.toList c.toList))) := by
  refine .of_wp fun M A E s Q hq => ?_
  show wpAny M A (isInstance (.bytes c u) (.type "bytes") >>= fun r => _) _ E s
  exact wpAny_bind (wpAny_isInstance (typeIs_bytes s c u) BY.sub (wpAny_pure ⟨_, rfl, hq⟩))
section
variable {prog : Program} {w : World} {A : Around} {E : Value → Shared → Prop} {s : Shared}
theorem lt_bytes {b c : Array UInt8} {t u : Tok} {Q : Value → Shared → Prop} (h : Q (.bool (blt b.toList c.toList)) s) : wpAny (model prog w) A (compareOp .Lt (.bytes b t) (.bytes c u)) Q E s :=
  compareOp_gives (op := .Lt) (typeIs_bytes s b t) (typeIs_bytes s c u) BY.slotLt BY.entryLt (BY.ltCall _ _) (gives_bytes_lt b c t u) (fun e => nomatch e) h
theorem one_bytes {b c : Array UInt8} {t u : Tok} {f : Bool} {Q : Bool → Shared → Prop} (h : Q (blt b.toList c.toList) s) : wpAny (model prog w) A (oneLt' f (.bytes b t) (.bytes c u)) Q E s := by
  cases f with
  | false => exact kat_one _ _ (lt_bytes h)
  | true =>
    rw [oneLt'_eq]
    simp only [if_true]
    refine wpAny_bind (wpAny_cRoomFor_byValue rfl ?_)
    refine wpAny_bind (wpAny_callSpecialIfBound?_slot (typeIs_bytes s b t) BY.slotLt ?_)
    refine wpAny_call_entry BY.slotLt (typeIs_bytes s b t) BY.entryLt ?_ (BY.ltCall _ _)
    show wpAny _ _ (isInstance (.bytes c u) (.type "bytes") >>= fun r => _) _ _ _
    exact wpAny_bind (wpAny_isInstance (typeIs_bytes s c u) BY.sub (wpAny_pure ⟨_, rfl, wpAny_truthy_bool h⟩))
theorem eqAt_bytes (b c : Array UInt8) (t u : Tok) : SeqAt.EqAt A s (.bytes b t) (.bytes c u) (b.toList == c.toList) := fun prog w E Q h => by
  unfold eqBool
  refine wpAny_holding (wpAny_ite_split (fun hab => ?_) fun _ => ?_)
  · have := eq_of_beq hab
    injection this with e1 e2
    rw [e1, beq_self_eq_true] at h
    exact wpAny_bind (wpAny_rule (wpAny_pure h))
  · exact wpAny_bind (show wpAny _ _ (richCompare .Eq _ _) _ _ _ from eq_bytes (wpAny_truthy_bool h))
end
end Mine
namespace Mine
open PySem PySem.Calls PyProof.Rows PySem.W
open Sem (wp)
def tlt (k1 : List UInt8) (o1 : Int) (k2 : List UInt8) (o2 : Int) : Bool := if k1 == k2 then decide (o1 < o2) else blt k1 k2
abbrev Kn.trip (k : List UInt8) (t : Tok) (o : Int) (u : Tok) (e : Value) : Kn := .tup [.bytes k.toArray t, .int o u, e]
section
variable {prog : Program} {w : World} {A : Around} {E : Value → Shared → Prop} {s : Shared}
theorem lt_trip {a b : Addr} {k1 k2 : List UInt8} {t1 t2 u1 u2 : Tok} {o1 o2 : Int} {e1 e2 : Value} {Q : Value → Shared → Prop} (ha : At s.heap a (.trip k1 t1 o1 u1 e1)) (hb : At s.heap b (.trip k2 t2 o2 u2 e2)) (hsep : k1 = k2 → o1 = o2 → e1 = e2) (hu : A.units < cLine)
    (h : Q (.bool (tlt k1 o1 k2 o2)) s) : wpAny (model prog w) A (compareOp .Lt (.ref a) (.ref b)) Q E s := by
  obtain ⟨oa, ga, ca, na, da⟩ := ha
  obtain ⟨ob, gb, cb, nb, db⟩ := hb
  show wpAny _ _ (richCompare .Lt _ _) _ _ _
  refine wpAny_richCompare_same_room (T := "tuple") ⟨_, ga, ca⟩ ⟨_, gb, cb⟩ PySem.F.slot_tuple_lt (wpAny_call_entry PySem.F.slot_tuple_lt ⟨_, ga, ca⟩ PySem.F.entry_tuple_lt ?_ (PySem.F.args_tuple_lt_2 _ _)) hu
  show wpAny _ _ (isInstance (.ref b) (.type "tuple") >>= fun r => _) _ _ _
  refine wpAny_bind (wpAny_isInstance (T := "tuple") ⟨_, gb, cb⟩ AutoSeq1.sub_tuple_tuple ?_)
  dsimp only
  rw [if_neg (by decide)]
  refine wpAny_bind ?_
  unfold Builtin.Tuple.tupleItemsOf
  refine wpAny_bind (wpAny_seqItems ga da (wpAny_pure ?_))
  refine wpAny_bind (wpAny_bind (wpAny_seqItems gb db (wpAny_pure ?_)))
  simp only [List.zip_cons_cons, List.zip_nil_left, List.forIn_cons, List.forIn_nil]
  unfold tlt at h
  refine wpAny_bind (wpAny_bind (wpAny_bind (eqAt_bytes _ _ _ _ prog w _ _ ?_)))
  cases q : (k1 == k2) with
  | false =>
    simp only [q, Bool.not_false, if_true, Bool.false_eq_true, if_false] at h ⊢
    refine wpAny_bind (wpAny_rule (wpAny_bind (show wpAny _ _ (richCompare .Lt _ _) _ _ _ from lt_bytes (wpAny_bind (wpAny_pure (wpAny_pure ?_))))))
    exact wpAny_pure (wpAny_pure ⟨_, rfl, (fun q => nomatch q), h⟩)
  | true =>
    simp only [q, Bool.not_true, if_true, Bool.false_eq_true, if_false] at h ⊢
    refine wpAny_pure (wpAny_bind (wpAny_bind (SeqAt.EqAt.int_int _ _ _ _ prog w _ _ ?_)))
    cases r : (o1 == o2) with
    | false =>
      simp only [Bool.not_false, if_true]
      refine wpAny_bind (wpAny_rule (wpAny_bind (show wpAny _ _ (richCompare .Lt _ _) _ _ _ from PyProof.Rows.lt_int (wpAny_bind (wpAny_pure (wpAny_pure ?_))))))
      exact wpAny_pure (wpAny_pure ⟨_, rfl, (fun q => nomatch q), h⟩)
    | true =>
      simp only [Bool.not_true, Bool.false_eq_true, if_false]
      rw [← hsep (eq_of_beq q) (eq_of_beq r)]
      refine wpAny_pure (wpAny_bind (wpAny_bind (SeqAt.EqAt.same _ prog w _ _ ?_)))
      simp only [Bool.not_true, Bool.false_eq_true, if_false]
      refine wpAny_pure (wpAny_pure (wpAny_pure ⟨_, rfl, (fun q => nomatch q), ?_⟩))
      rw [eq_of_beq r] at h
      simpa [Builtin.Tuple.tupleCompareSizes] using h
theorem key_trip {a b : Addr} {k1 k2 : List UInt8} {t1 t2 u1 u2 : Tok} {o1 o2 : Int} {e1 e2 : Value} {f : Bool} {Q : Bool → Shared → Prop} (ha : At s.heap a (.trip k1 t1 o1 u1 e1)) (hb : At s.heap b (.trip k2 t2 o2 u2 e2)) (hsep : k1 = k2 → o1 = o2 → e1 = e2)
    (h : Q (tlt k1 o1 k2 o2) s) : wpAny (model prog w) A (keyLt' (tuples' f) (.ref a) (.ref b)) Q E s := by
  obtain ⟨oa, ga, ca, na, da⟩ := ha
  obtain ⟨ob, gb, cb, nb, db⟩ := hb
  refine kat_lt ga da gb db ?_
  unfold tlt at h
  refine kat_cons (eqAt_bytes _ _ _ _ prog w _ _ (kat_go (fun q => ?_) fun q => kat_no ?_))
  · have q : (k1 == k2) = true := q
    rw [q, if_pos rfl] at h
    refine kat_yes (kat_cons (SeqAt.EqAt.int_int _ _ _ _ prog w _ _ (kat_go (fun r => ?_) fun r => kat_no ?_)))
    · rw [← hsep (eq_of_beq q) (eq_of_beq r)]
      refine kat_yes (kat_cons (SeqAt.EqAt.same _ prog w _ _ (kat_yes (kat_nil ?_))))
      rw [eq_of_beq r] at h
      simpa using h
    · rw [show (f && 0 + 1 == 0) = false by simp]
      exact kat_one _ _ (PyProof.Rows.lt_int h)
  · have q : (k1 == k2) = false := q
    rw [q, if_neg (by decide)] at h
    exact one_bytes h
/-- pairs of ints -/
def ilt2 (x y : Int × Int) : Bool := if x.1 == y.1 then decide (x.2 < y.2) else decide (x.1 < y.1)
theorem one_int {x y : Int} {t u : Tok} {f : Bool} {Q : Bool → Shared → Prop} (h : Q (decide (x < y)) s) : wpAny (model prog w) A (oneLt' f (.int x t) (.int y u)) Q E s := by
  cases f with
  | false => exact kat_one _ _ (PyProof.Rows.lt_int h)
  | true => exact kat_lt_int h
theorem key_pair {a b : Addr} {x1 x2 y1 y2 : Int} {t1 t2 u1 u2 : Tok} {f : Bool} {Q : Bool → Shared → Prop} (ha : At s.heap a (.tup [.int x1 t1, .int y1 u1])) (hb : At s.heap b (.tup [.int x2 t2, .int y2 u2]))
    (h : Q (ilt2 (x1, y1) (x2, y2)) s) : wpAny (model prog w) A (keyLt' (tuples' f) (.ref a) (.ref b)) Q E s := by
  obtain ⟨oa, ga, ca, na, da⟩ := ha
  obtain ⟨ob, gb, cb, nb, db⟩ := hb
  refine kat_lt ga da gb db ?_
  unfold ilt2 at h
  refine kat_cons (SeqAt.EqAt.int_int _ _ _ _ prog w _ _ (kat_go (fun q => ?_) fun q => kat_no ?_))
  · rw [if_pos q] at h
    refine kat_yes (kat_cons (SeqAt.EqAt.int_int _ _ _ _ prog w _ _ (kat_go (fun r => ?_) fun r => kat_no ?_)))
    · refine kat_yes (kat_nil ?_)
      rw [eq_of_beq r] at h
      simpa using h
    · exact one_int h
  · rw [if_neg (by rw [q]; decide)] at h
    exact one_int h
/-- lists of ints -/
theorem eq_intsL {l b : Addr} {vs ws : List Value} {xs ys : List Int} {Q : Value → Shared → Prop} (hl : At s.heap l (.list vs)) (hb : At s.heap b (.list ws)) (ix : IntsAre vs xs) (iy : IntsAre ws ys) (hu : A.units < cLine)
    (h : Q (.bool (decide (xs = ys))) s) : wpAny (model prog w) A (compareOp .Eq (.ref l) (.ref b)) Q E s := by
  have e1 := ix.length
  have e2 := iy.length
  by_cases q : xs.length = ys.length
  · refine SeqAt.eq_listAt (e := fun j => xs.getD j 0 == ys.getD j 0) hl.isList hb.isList (by simp; exact om116 e1 e2 q) hu (fun j h1 h2 => ?_) ?_
    · obtain ⟨t1, a1⟩ := ix.int_at j vs[j] (List.getElem?_eq_getElem (by simpa using h1))
      obtain ⟨t2, a2⟩ := iy.int_at j ws[j] (List.getElem?_eq_getElem (by simpa using h2))
      rw [List.getElem_toArray, List.getElem_toArray, a1, a2]
      exact SeqAt.EqAt.int_int _ _ _ _
    · rw [List.size_toArray, e1]
      have : ((List.range xs.length).all fun j => xs.getD j 0 == ys.getD j 0) = decide (xs = ys) := by
        rw [Bool.eq_iff_iff, List.all_eq_true, decide_eq_true_iff]
        constructor
        · intro r
          refine List.ext_getElem q fun i h1 h2 => ?_
          have := eq_of_beq (r i (List.mem_range.mpr h1))
          simpa [h1, h2] using this
        · rintro rfl j _
          exact beq_self_eq_true _
      rw [this]; exact h
  · refine SeqAt.eq_list_lengthsAt hl.isList hb.isList (by simp; exact om117 e1 e2 q) hu ?_
    rwa [decide_eq_false (fun r => q (by rw [r]))] at h
end
theorem lt_loop (l b : Addr) (vs ws : List Value) (xs ys : List Int) (ix : IntsAre vs xs) (iy : IntsAre ws ys) (k : Nat) : ∀ i : Nat, i ≤ xs.length → i ≤ ys.length → xs.length - i = k →
    Meets (Builtin.«list.__eq__.loop» ⟨[.ref l, .ref b, rawInt i, rawInt 0], []⟩) (fun A R s => At s.heap l (.list vs) ∧ At s.heap b (.list ws) ∧ R (.ok (.ret (.bool (iord (xs.drop i) (ys.drop i) == .lt)))) s) := by
  induction k using Nat.strongRecOn with
  | ind k ih =>
  intro i hi1 hi2 hk prog w A R s h
  have h' := h
  obtain ⟨⟨ol, gl, cl, nl, dl⟩, ⟨ob, gb, cb, nb, db⟩, h⟩ := h
  have e1 := ix.length
  have e2 := iy.length
  show wpAny _ _ (Builtin.List.listItems (.ref l) >>= fun r => _) _ _ _
  refine wpAny_bind (listItems_at gl dl (wpAny_bind (listItems_at gb db ?_)))
  simp only [Int.toNat_natCast, List.getElem?_toArray]
  by_cases h1 : i < xs.length
  · by_cases h2 : i < ys.length
    · obtain ⟨t1, a1⟩ := ix.int_at i vs[i] (List.getElem?_eq_getElem (by exact om118 e1 h1))
      obtain ⟨t2, a2⟩ := iy.int_at i ws[i] (List.getElem?_eq_getElem (by exact om118 e2 h2))
      have b1 : vs[i]? = some (.int (xs.getD i 0) t1) := by rw [← a1]; exact List.getElem?_eq_getElem (by exact om118 e1 h1)
      have b2 : ws[i]? = some (.int (ys.getD i 0) t2) := by rw [← a2]; exact List.getElem?_eq_getElem (by exact om118 e2 h2)
      have c1 : xs.drop i = xs.getD i 0 :: xs.drop (i + 1) := by rw [List.drop_eq_getElem_cons h1]; simp [h1]
      have c2 : ys.drop i = ys.getD i 0 :: ys.drop (i + 1) := by rw [List.drop_eq_getElem_cons h2]; simp [h2]
      rw [c1, c2] at h
      rw [b1, b2]
      dsimp only
      refine wpAny_bind (SeqAt.EqAt.int_int _ _ _ _ prog w _ _ ?_)
      cases q : (xs.getD i 0 == ys.getD i 0) with
      | true =>
        rw [if_pos rfl]
        have hc : ((i : Int) + 1) = ((i + 1 : Nat) : Int) := by push_cast; rfl
        rw [hc]
        refine wpAny_pure ⟨plainId_quiet MeetsSeq3.plain_eq_loop _, codeAny_builtin MeetsSeq3.entry_eq_loop ?_⟩
        rw [Around.under_plainId MeetsSeq3.plain_eq_loop _]
        refine ih (xs.length - (i + 1)) (by exact om119 hk h1) (i + 1) h1 h2 rfl prog w A R s ⟨h'.1, h'.2.1, ?_⟩
        rw [eq_of_beq q] at h
        simpa [iord, icmp] using h
      | false =>
        rw [if_neg (by decide)]
        refine wpAny_bind (listItems_at gl dl (wpAny_bind (listItems_at gb db ?_)))
        simp only [List.getElem?_toArray]
        rw [b1, b2]
        dsimp only
        refine wpAny_bind (show wpAny _ _ (richCompare .Lt _ _) _ _ _ from PyProof.Rows.lt_int (wpAny_pure ?_))
        have : (iord (xs.getD i 0 :: xs.drop (i + 1)) (ys.getD i 0 :: ys.drop (i + 1)) == .lt) = decide (xs.getD i 0 < ys.getD i 0) := by
          have hne : xs.getD i 0 ≠ ys.getD i 0 := ne_of_beq_false q
          simp only [iord, icmp]
          by_cases r : xs.getD i 0 < ys.getD i 0
          · rw [if_pos r, decide_eq_true r]; rfl
          · rw [if_neg r, if_pos (by exact om120 hne r), decide_eq_false r]; rfl
        rw [this] at h
        exact h
    · have b2 : ws[i]? = none := List.getElem?_eq_none (by exact om121 e2 h2)
      have c1 : xs.drop i = xs[i] :: xs.drop (i + 1) := List.drop_eq_getElem_cons h1
      have c2 : ys.drop i = [] := List.drop_of_length_le (by exact om122 h2)
      rw [c1, c2] at h
      rw [b2]
      have hb1 : vs[i]? = some vs[i] := List.getElem?_eq_getElem (by exact om118 e1 h1)
      rw [hb1]
      dsimp only
      refine wpAny_bind (listItems_at gl dl (wpAny_bind (listItems_at gb db (wpAny_pure ?_))))
      have : decide (vs.toArray.size < ws.toArray.size) = false := decide_eq_false (by simp; exact om123 e1 e2 h1 h2)
      show R (.ok (.ret (.bool (decide (vs.toArray.size < ws.toArray.size))))) s
      rw [this]
      simpa [iord] using h
  · have b1 : vs[i]? = none := List.getElem?_eq_none (by exact om121 e1 h1)
    have c1 : xs.drop i = [] := List.drop_of_length_le (by exact om122 h1)
    rw [c1] at h
    rw [b1]
    dsimp only
    refine wpAny_bind (listItems_at gl dl (wpAny_bind (listItems_at gb db (wpAny_pure ?_))))
    show R (.ok (.ret (.bool (decide (vs.toArray.size < ws.toArray.size))))) s
    by_cases h2 : i < ys.length
    · have c2 : ys.drop i = ys[i] :: ys.drop (i + 1) := List.drop_eq_getElem_cons h2
      rw [c2] at h
      rw [decide_eq_true (by simp; exact om124 e1 e2 h1 h2)]
      simpa [iord] using h
    · have c2 : ys.drop i = [] := List.drop_of_length_le (by exact om122 h2)
      rw [c2] at h
      rw [decide_eq_false (by simp; exact om125 hi1 e1 e2 h2)]
      simpa [iord] using h
theorem list_lt_ints (l b : Addr) (vs ws : List Value) (xs ys : List Int) (ix : IntsAre vs xs) (iy : IntsAre ws ys) :
    Meets (Builtin.«list.__lt__» ⟨[.ref l, .ref b], []⟩) (fun A R s => At s.heap l (.list vs) ∧ At s.heap b (.list ws) ∧ R (.ok (.ret (.bool (iord xs ys == .lt)))) s) := by
  intro prog w A R s h
  obtain ⟨ob, gb, cb, nb, db⟩ := h.2.1
  show wpAny _ _ (isInstance (.ref b) (.type "list") >>= fun r => _) _ _ _
  refine wpAny_bind (wpAny_isInstance (T := "list") ⟨_, gb, cb⟩ AutoSeq1.sub_list_list ?_)
  dsimp only
  rw [if_neg (by decide)]
  refine wpAny_pure ⟨plainId_quiet MeetsSeq3.plain_eq_loop _, codeAny_builtin MeetsSeq3.entry_eq_loop ?_⟩
  rw [Around.under_plainId MeetsSeq3.plain_eq_loop _]
  exact lt_loop l b vs ws xs ys ix iy _ 0 (Nat.zero_le _) (Nat.zero_le _) rfl prog w A R s ⟨h.1, h.2.1, h.2.2⟩
theorem lt_intsL {prog : Program} {w : World} {A : Around} {E : Value → Shared → Prop} {s : Shared} {l b : Addr} {vs ws : List Value} {xs ys : List Int} {Q : Value → Shared → Prop} (hl : At s.heap l (.list vs)) (hb : At s.heap b (.list ws)) (ix : IntsAre vs xs) (iy : IntsAre ws ys) (hu : A.units < cLine)
    (h : Q (.bool (iord xs ys == .lt)) s) : wpAny (model prog w) A (compareOp .Lt (.ref l) (.ref b)) Q E s := by
  obtain ⟨ol, gl, cl, _⟩ := id hl
  obtain ⟨ob, gb, cb, _⟩ := id hb
  show wpAny _ _ (richCompare .Lt _ _) _ _ _
  exact richCompare_meets_room (T := "list") ⟨_, gl, cl⟩ ⟨_, gb, cb⟩ PySem.F.slot_list_lt PySem.F.entry_list_lt (PySem.F.args_list_lt_2 _ _) (list_lt_ints l b vs ws xs ys ix iy) ⟨hl, hb, (fun q => nomatch q), h⟩ hu
end Mine
namespace Mine
open PySem PySem.Calls PyProof.Rows PySem.W
open Sem (wp)
/-! ## sorts -/
abbrev permOf (lt : Nat → Nat → Bool) (n : Nat) : List Nat := (KasT.run lt (kas_sort n)).toList
section
variable {prog : Program} {w : World} {A : Around} {E : Value → Shared → Prop} {s : Shared}
theorem runL {ks vs : List Value} {κ : SortKind} {lt : Nat → Nat → Bool} {Q : SortSt → Shared → Prop} (hl : ks.length = vs.length) (h2 : 2 ≤ vs.length) (h64 : vs.length < 64)
    (hcmp : ∀ i j, i < vs.length → j < vs.length → ∀ (C : Bool → Shared → Prop), C (lt i j) s → wpAny (model prog w) A (keyLt' κ (ks.getD i .none) (ks.getD j .none)) C (fun _ _ => False) s)
    (h : ∀ st, failedOf st = none → (arrOf st).map (·.2) = ((permOf lt vs.length).map fun i => vs.getD i .none).toArray → (permOf lt vs.length).length = vs.length → Q st s) :
    wpAny (model prog w) A ((sortRuns').run (SortSt.mk' κ (ks.toArray.zip vs.toArray) #[] 7 none)) (fun r s' => Q r.2 s') E s := by
  refine kat_run (G := fun p s' => p = KasT.run lt (kas_sort vs.length) ∧ s' = s) hl h2 h64 (fun p st s' hp har hf hG => ?_) ?_
  · obtain ⟨rfl, rfl⟩ := hG
    exact h st hf (kat_snds hl har) (by rw [Array.length_toList]; exact hp)
  · refine kasWp_run (n := vs.length) (c := lt) (I := fun s' => s' = s) (fun i j C s' hi hj hs hC => ?_) _ s (asks_sort (by exact om126 h2)) rfl fun s' hs => ⟨rfl, hs⟩
    subst hs
    exact hcmp i j hi hj C (hC s' rfl)
variable {c : Cx} {m : Str → Option Value} {ℓ : List (Addr × Kn)}
/-- list.sort, plain or from behind -/
theorem sortTree {vs : List Value} {n : Nat} {a : Addr} {b : Bool} {κ : SortKind} {lt : Nat → Nat → Bool} {kw : List (Str × Value)} {P : PySem.Fin → Shared → Prop} (F : Fx c m ((a, .lst vs n) :: ℓ) s) (ow : Own c a) (h2 : 2 ≤ vs.length) (h64 : vs.length < 64)
    (hkw : (b = false ∧ kw = []) ∨ (b = true ∧ kw = [(Str.ofString "reverse", .bool true)]))
    (hkind : ∀ s', (∀ p ∈ ℓ, At s'.heap p.1 p.2) → ∀ (Q : SortKind → Shared → Prop), Q κ s' → wpAny (model prog w) A (keyKind' vs.toArray) Q (fun _ _ => False) s')
    (hcmp : ∀ s', (∀ p ∈ ℓ, At s'.heap p.1 p.2) → ∀ i j, i < vs.length → j < vs.length → ∀ (C : Bool → Shared → Prop), C (lt i j) s' → wpAny (model prog w) A (keyLt' κ ((katRev b vs).getD i .none) ((katRev b vs).getD j .none)) C (fun _ _ => False) s')
    (h : ∀ k s', Fx c m ((a, .lst (katRev b ((permOf lt vs.length).map fun i => (katRev b vs).getD i .none)) k) :: ℓ) s' → P (.done (.ret .none)) s') :
    wpAny (model prog w) A (Builtin.«list.sort» ⟨[.ref a], kw⟩) P E s := by
  have ho := (F.at (.head _)).get
  have e1 := get?_update_seq (c := "list") ho fun _ => (#[] : Array Value)
  have hn2 : ¬ vs.toArray.size < 2 := by rw [List.size_toArray]; exact om127 h2
  have F1 := F.turn (tk := s.toks) ow (Heap.SameBut.update s.heap a (Obj.mapSeq fun _ => (#[] : Array Value))).extBut (k' := .lst [] (if (#[] : Array Value).size == vs.toArray.size then n else n + 1)) (At.of e1)
  have F2 := F1.pushS (tk := s.toks) "tuple" vs.toArray
  have F3 := F2.pushS (tk := s.toks) "list" #[]
  have F4 := F3.tail.tail
  have ho4 := (F4.at (.head _)).get
  have hat : ∀ p ∈ ℓ, At _ p.1 p.2 := fun p hp => (F4.led p (.tail _ hp)).2
  have hlen : (katRev b vs).length = vs.length := kat_len b vs
  have run := runL (prog := prog) (w := w) (A := A) (E := E) (ks := katRev b vs) (vs := katRev b vs) (κ := κ) (lt := lt)
    (Q := fun st s' => failedOf st = none ∧ (arrOf st).map (·.2) = ((permOf lt vs.length).map fun i => (katRev b vs).getD i .none).toArray ∧ (permOf lt vs.length).length = vs.length ∧ s' = _) rfl (by rw [hlen]; exact h2) (by rw [hlen]; exact h64)
    (fun i j hi hj C hC => hcmp _ hat i j (by rw [← hlen]; exact hi) (by rw [← hlen]; exact hj) C hC) fun st hf ha hp => ⟨hf, by rw [← hlen]; exact ha, by rw [← hlen]; exact hp, rfl⟩
  rcases hkw with ⟨rfl, rfl⟩ | ⟨rfl, rfl⟩
  · rw [list_sort_plain]
    refine wpAny_bind (listItems_at ho rfl ?_)
    refine wpAny_bind (listUpdate_at ho rfl ?_ (by rw [List.size_toArray, sizeLine_eq]; exact om128 h64) (Nat.zero_le _))
    refine wpAny_bind (seqEpoch_at e1 rfl ?_)
    refine wpAny_bind (wpAny_newTuple ?_ (by show vs.length ≤ _; rw [sizeLine_eq]; exact om128 h64))
    refine wpAny_bind (wpAny_newList ?_ (Nat.zero_le _))
    refine wpAny_holding ?_
    dsimp only
    rw [if_neg hn2, if_neg hn2]
    refine wpAny_bind (wpAny_mono (hkind _ hat _ ?_) (fun _ _ x => x) fun _ _ x => x.elim)
    refine wpAny_bind (wpAny_mono run ?_ fun _ _ x => x)
    rintro ⟨⟨⟩, st⟩ s' ⟨hf, ha, hp, rfl⟩
    dsimp only at hf ha ⊢
    refine wpAny_bind (seqEpoch_at ho4 rfl ?_)
    rw [ha]
    refine wpAny_bind (listUpdate_at ho4 rfl ?_ (Nat.zero_le _) (by rw [List.size_toArray, List.length_map, hp, sizeLine_eq]; exact om129 h64))
    rw [hf]
    simp only [bne_self_eq_false, Bool.false_eq_true, if_false]
    refine wpAny_pure (h _ _ (F4.turn ow (Heap.SameBut.update ..).extBut (At.of (get?_update_seq (c := "list") ho4 fun _ => _))))
  · rw [list_sort_rev]
    refine wpAny_bind (listItems_at ho rfl ?_)
    refine wpAny_bind (listUpdate_at ho rfl ?_ (by rw [List.size_toArray, sizeLine_eq]; exact om128 h64) (Nat.zero_le _))
    refine wpAny_bind (seqEpoch_at e1 rfl ?_)
    refine wpAny_bind (wpAny_newTuple ?_ (by show vs.length ≤ _; rw [sizeLine_eq]; exact om128 h64))
    refine wpAny_bind (wpAny_newList ?_ (Nat.zero_le _))
    refine wpAny_holding ?_
    dsimp only
    rw [if_pos rfl]
    refine wpAny_bind (wpAny_rule ?_)
    rw [if_neg hn2, if_neg hn2]
    refine wpAny_bind (wpAny_mono (hkind _ hat _ ?_) (fun _ _ x => x) fun _ _ x => x.elim)
    rw [kat_pairs true rfl]
    refine wpAny_bind (wpAny_mono run ?_ fun _ _ x => x)
    rintro ⟨⟨⟩, st⟩ s' ⟨hf, ha, hp, rfl⟩
    dsimp only at hf ha ⊢
    refine wpAny_bind (seqEpoch_at ho4 rfl ?_)
    rw [ha, kat_outs true]
    refine wpAny_bind (listUpdate_at ho4 rfl ?_ (Nat.zero_le _) (by rw [List.size_toArray, kat_len, List.length_map, hp, sizeLine_eq]; exact om129 h64))
    rw [hf]
    simp only [bne_self_eq_false, Bool.false_eq_true, if_false]
    refine wpAny_pure (h _ _ (F4.turn ow (Heap.SameBut.update ..).extBut (At.of (get?_update_seq (c := "list") ho4 fun _ => _))))
theorem sortL {vs : List Value} {n : Nat} {a : Addr} {b : Bool} {κ : SortKind} {lt : Nat → Nat → Bool} {kw : List (Str × Value)} {Q : Value → Shared → Prop} (F : Fx c m ((a, .lst vs n) :: ℓ) s) (ow : Own c a) (h2 : 2 ≤ vs.length) (h64 : vs.length < 64)
    (hkw : (b = false ∧ kw = []) ∨ (b = true ∧ kw = [(Str.ofString "reverse", .bool true)]))
    (hkind : ∀ s', (∀ p ∈ ℓ, At s'.heap p.1 p.2) → ∀ (Q : SortKind → Shared → Prop), Q κ s' → wpAny (model prog w) A.in1 (keyKind' vs.toArray) Q (fun _ _ => False) s')
    (hcmp : ∀ s', (∀ p ∈ ℓ, At s'.heap p.1 p.2) → ∀ i j, i < vs.length → j < vs.length → ∀ (C : Bool → Shared → Prop), C (lt i j) s' → wpAny (model prog w) A.in1 (keyLt' κ ((katRev b vs).getD i .none) ((katRev b vs).getD j .none)) C (fun _ _ => False) s')
    (h : ∀ k s', Fx c m ((a, .lst (katRev b ((permOf lt vs.length).map fun i => (katRev b vs).getD i .none)) k) :: ℓ) s' → Q .none s') :
    wpAny (model prog w) A (call (.builtin "list.sort") [.ref a] kw) Q E s := by
  refine wpAny_call_entry_kw slot_list_sort ⟨_, (F.at (.head _)).get, rfl⟩ entry_list_sort (sortTree F ow h2 h64 hkw hkind hcmp fun k s' F' => ⟨_, rfl, h k s' F'⟩) ?_
  rcases hkw with ⟨_, rfl⟩ | ⟨_, rfl⟩
  · exact args_list_sort _
  · exact args_list_sort_rev _ _
end
end Mine
namespace Mine
open PySem PySem.Calls PyProof.Rows PySem.W
open Sem (wp)
/-! ## own things turned while an exception is on its way -/
theorem funFrames_turn {h h' base : Heap} {S : List Addr} (hb : ∀ a ∈ S, ∃ o, base.get? a = some o) (hk : ∀ b, b ∉ S → h'.get? b = h.get? b) : ∀ {fr : List Env}, h.FunFrames base fr → h'.FunFrames (hideAll base S) fr
  | [], _ => trivial
  | env :: fr, f => by
    obtain ⟨k1, ⟨L, o, k2, k3, k4, k5⟩, k6⟩ := f
    refine ⟨k1, ⟨L, o, k2, ?_, ?_, k5⟩, funFrames_turn hb hk k6⟩
    · cases q : (hideAll base S).get? L with
      | none => rfl
      | some o' => have := of_hideAll _ q; rw [k3] at this; cases this
    · rw [hk L fun q => by obtain ⟨o', e⟩ := hb L q; rw [k3] at e; cases e]; exact k4
theorem Exc.turn {G hR h h' : Heap} {fr : List Env} {e : Addr} {cls : String} {st : XSt} {S : List Addr} (x : Exc G hR fr e cls st h) (hS : ∀ a ∈ S, G.get? a = none ∧ ∃ o, hR.get? a = some o ∧ ndOb o = true) (hk : ∀ b, b ∉ S → h'.get? b = h.get? b) : Exc G (hideAll hR S) fr e cls st h' := by
  obtain ⟨⟨base, h1, h2, h3, h4, h5, h6⟩, up⟩ := x
  have hbS : ∀ a ∈ S, ∃ o, base.get? a = some o := fun a ha => let ⟨o, q1, q2⟩ := (hS a ha).2; ⟨o, h1 a o q1 q2⟩
  have nin : ∀ {b o}, (hideAll base S).get? b = some o → b ∉ S := fun {b o} q hb => by rw [hideAll_none _ hb] at q; cases q
  have nin' : ∀ {b o}, (hideAll hR S).get? b = some o → b ∉ S := fun {b o} q hb => by rw [hideAll_none _ hb] at q; cases q
  have notS : ∀ {b}, base.get? b = none → b ∉ S := fun {b} q hb => by obtain ⟨o, e'⟩ := hbS b hb; rw [q] at e'; cases e'
  have hid : ∀ {b}, base.get? b = none → (hideAll base S).get? b = none := fun {b} q => by
    cases r : (hideAll base S).get? b with
    | none => rfl
    | some o' => have := of_hideAll _ r; rw [q] at this; cases this
  refine ⟨⟨hideAll base S, fun b o q hn => hideAll_get _ (h1 b o (of_hideAll _ q) hn) (nin' q), fun b o q => hideAll_get _ (h2 b o q) (fun hb => by rw [(hS b hb).1] at q; cases q), fun b o q => (hk b (nin q)).trans (h3 b o (of_hideAll _ q)), hid h4, funFrames_turn hbS hk h5, ?_⟩, fun b o q hf => ?_⟩
  · cases st with
    | new =>
      obtain ⟨oe, vs, a0, he, r⟩ := h6
      exact ⟨oe, vs, a0, (hk e (notS h4)).trans he, r⟩
    | «at» fl =>
      obtain ⟨a0, oe, vs, T, oT, ts, he, hc, hd, hv, hnT, hTe, hT, r⟩ := h6
      exact ⟨a0, oe, vs, T, oT, ts, (hk e (notS h4)).trans he, hc, hd, hv, hid hnT, hTe, (hk T (notS hnT)).trans hT, r⟩
  · obtain ⟨sl, e'⟩ := up b o (of_hideAll _ q) hf
    exact ⟨sl, (hk b (nin' q)).trans e'⟩
end Mine
namespace Mine
open PySem PySem.Calls PyProof.Rows PySem.W
open Sem (wp)
/-! ## a key function; sorted with a key -/
def KeyOn (prog : Program) (w : World) (G h₀ : Heap) (S₀ : List Addr) (f : Addr) (x : Value) (err : Option String) (out : List UInt8) : Prop :=
  ∀ (A : Around) (s : Shared) (fr : List Env) (Q : Value → Shared → Prop) (E : Value → Shared → Prop), Rm A 6 → A.frames = some fr → G.StaysIn s.heap → Frs s.heap fr → (∀ a ∈ frsOf fr, G.get? a = none) → Ext S₀ h₀ s.heap →
    (err = none → ∀ t s', Post G [] s s' → Q (.bytes out.toArray t) s') →
    (∀ cls, err = some cls → ∀ e hR s', (∃ h tk, s' = { s with heap := h, toks := tk }) → Ext [] s.heap hR → Exc G hR fr e cls (.at .none) s'.heap → E (.ref e) s') → wpS (model prog w) A (call (.ref f) [x]) Q E s
/-- what stands in a frame whatever its ledger -/
structure Still (c : Cx) (m : Str → Option Value) (G h₀ : Heap) (S₀ : List Addr) (fr : List Env) : Prop where
  g : c.G = G
  f : ∀ ℓ s, Fx c m ℓ s → Frs s.heap fr
  x : ∀ ℓ s, Fx c m ℓ s → Ext S₀ h₀ s.heap
  n : ∀ a ∈ frsOf fr, G.get? a = none
section
variable {prog : Program} {w : World} {A : Around} {E : Value → Shared → Prop} {s : Shared}
theorem sCallFnEntry {id : String} {b : Builtin} {args : List Value} {kw : List (Str × Value)} {Q : Value → Shared → Prop} (hk : builtinKind id = none) (hp : plainId id = true) (hb : entryFor table id = some b) (ha : argsOk id ⟨args, kw⟩) (hh : holdIds.contains id = false)
    (hc : wpS (model prog w) A.in1 (b ⟨args, kw⟩) (fun fin s' => ∃ v, fin = .done (.ret v) ∧ Q v s') E s) : wpS (model prog w) A (call (.builtin id) args kw) Q E s := by
  refine sCall (codeSTree ?_)
  show wpS _ A.in1 (do checkBuiltinCall id ⟨args, kw⟩; again (.builtin id ⟨args, kw⟩)) _ _ s
  have fin : wpS (model prog w) A.in1 (again (.builtin id ⟨args, kw⟩)) (fun fin s' => match fin with | .done f => (match (Except.ok f : Result) with | .ok (.ret v) => Q v s' | .ok _ => False | .error e => E e s') | .again c' => c'.quiet = true ∧ holdsBa c' = false ∧ codeS (model prog w) A c' (fun r s' => match r with | .ok (.ret v) => Q v s' | .ok _ => False | .error e => E e s') s') (fun e s' => E e s') s := by
    refine sPure ⟨plainId_quiet hp _, hh, codeSBuiltin hb ?_⟩
    rw [Around.under_plainId hp _]
    refine sMono hc (fun f s' hf => ?_) fun _ _ x => x
    obtain ⟨v, rfl, hv⟩ := hf
    exact hv
  simp only [checkBuiltinCall, hk]
  cases hsig : Manifest.signature? id with
  | none => exact fin
  | some sig =>
    have ha' : Bind.checkArgs id sig ⟨args, kw⟩ = pure () := by simpa only [argsOk, hsig] using ha
    simp only [ha']
    exact fin
theorem sCallEntry {T : String} {name : Str} {id : String} {b : Builtin} {self : Value} {rest : List Value} {kw : List (Str × Value)} {Q : Value → Shared → Prop} (h : Slot T name id) (hT : s.TypeIs self T) (hb : entryFor table id = some b) (ha : argsOk id ⟨self :: rest, kw⟩) (hh : holdIds.contains id = false)
    (hc : wpS (model prog w) A.in1 (b ⟨self :: rest, kw⟩) (fun fin s' => ∃ v, fin = .done (.ret v) ∧ Q v s') E s) : wpS (model prog w) A (call (.builtin id) (self :: rest) kw) Q E s := by
  refine sCall (codeSTree ?_)
  refine sBind (toS (h.check _ _ _ _ _ _ _ _ hT ha ?_))
  refine sPure ⟨plainId_quiet h.plain _, hh, codeSBuiltin hb ?_⟩
  rw [Around.under_plainId h.plain _]
  refine sMono hc (fun f s' hf => ?_) fun _ _ x => x
  obtain ⟨v, rfl, hv⟩ := hf
  exact hv
end
end Mine
namespace Mine
open PySem PySem.Calls PyProof.Rows PySem.W
open Sem (wp)
theorem bytes_kind {M : Model} {A : Around} {E : Value → Shared → Prop} {s : Shared} {ks : List Value} {Q : SortKind → Shared → Prop} (h2 : 2 ≤ ks.length) (hb : ∀ v ∈ ks, ∃ (x : List UInt8) (t : Tok), v = .bytes x.toArray t) (h : Q oneType' s) : wpAny M A (keyKind' ks.toArray) Q E s :=
  kas_kind (T := .type "bytes") h2 (fun v hv => by obtain ⟨x, t, rfl⟩ := hb v hv; exact Looks.of_pure rfl) (by decide) (by decide) h
theorem toS' {α : Type} {M : Model} {A : Around} {E : Value → Shared → Prop} {s : Shared} {t : Sem α} {Q : α → Shared → Prop} (h : wpAny M A t Q E s) : wpS M A t Q E s := toS h
def rv (b : Bool) (n i : Nat) : Nat := if b then n - 1 - i else i
section
variable {prog : Program} {w : World} {A : Around} {E : Value → Shared → Prop} {s : Shared} {c : Cx} {m : Str → Option Value} {ℓ : List (Addr × Kn)} {G h₀ : Heap} {S₀ : List Addr} {fr : List Env} {f : Addr} {vs : List Value} {err : Nat → Option String} {out : Nat → List UInt8}
theorem keysRest {kS D : Addr} {e1 : Nat} {b : Bool} {P : PySem.Fin → Shared → Prop} {s₀ : Shared} (T : Still c m G h₀ S₀ fr) (F : Fx c m ((kS, .lst [] 0) :: (D, .lst [] e1) :: ℓ) s) (X : Ext [] s₀.heap s.heap) (hsh : ∃ h tk, s = { s₀ with heap := h, toks := tk }) (fk : Fresh c kS) (fd : Fresh c D)
    (hk0 : s₀.heap.get? kS = none) (hd0 : s₀.heap.get? D = none)
    (h2 : 2 ≤ vs.length) (h64 : vs.length < 64) (rm : Rm A 6) (hA : A.frames = some fr) (hkey : ∀ i v, vs[i]? = some v → KeyOn prog w G h₀ S₀ f v (err i) (out i))
    (hQ : (∀ i, i < vs.length → err i = none) → ∀ k s', Fx c m ((D, .lst (katRev b ((permOf (fun i j => blt (out (rv b vs.length i)) (out (rv b vs.length j))) vs.length).map fun i => (katRev b vs).getD i .none)) k) :: ℓ) s' → P (.done (.ret .none)) s')
    (hE : ∀ i cls, i < vs.length → (∀ j, j < i → err j = none) → err i = some cls → ∀ e hR s', (∃ h tk, s' = { s₀ with heap := h, toks := tk }) → Ext [] s₀.heap hR → Exc G hR fr e cls (.at .none) s'.heap → E (.ref e) s') :
    wpS (model prog w) A (ksk_rest D (.ref f) b vs.toArray e1 (.ref kS)) P E s := by
  obtain ⟨rfl, Tf, Tx, Tn⟩ := T
  unfold ksk_rest
  refine sBind (toS (wpAny_rule ?_))
  rw [List.forIn_toArray]
  have loop : ∀ (r : List Value) (i : Nat) (ks : List Value) (e : Nat) (s : Shared), vs.drop i = r → i ≤ vs.length → ks.length = i → (∀ j, j < i → err j = none ∧ ∃ t, ks[j]? = some (.bytes (out j).toArray t)) →
      Fx c m ((kS, .lst ks e) :: (D, .lst [] e1) :: ℓ) s → Ext [] s₀.heap s.heap → (∃ h tk, s = { s₀ with heap := h, toks := tk }) →
      ∀ (body : Value → PUnit → Sem (ForInStep PUnit)), (∀ x u, body x u = (do
        match ← (call (.ref f) [x]).attempt with
        | .ok k => do Builtin.List.listUpdate (.ref kS) (·.push k); pure (ForInStep.yield PUnit.unit)
        | .error e => do
          rule "list.sort.key-raised"
          let made ← Builtin.List.listItems (.ref kS)
          Builtin.List.listUpdate (.ref kS) fun _ => #[]
          letGo made.toList.reverse [e]
          Builtin.List.listUpdate (.ref D) fun _ => vs.toArray
          throw e)) →
      wpS (model prog w) A (forIn r PUnit.unit body) (fun _ s' => ∃ ks e, ks.length = vs.length ∧ (∀ j, j < vs.length → err j = none ∧ ∃ t, ks[j]? = some (.bytes (out j).toArray t)) ∧ Fx c m ((kS, .lst ks e) :: (D, .lst [] e1) :: ℓ) s') E s := by
    intro r
    induction r with
    | nil =>
      intro i ks e s hr hi hl hj F X hsh body hb
      have : i = vs.length := by have := congrArg List.length hr; simp at this; exact om138 hi this
      subst this
      rw [List.forIn_nil]
      exact sPure ⟨ks, e, hl, hj, F⟩
    | cons x r ih =>
      intro i ks e s hr hi hl hj F X hsh body hb
      have hx : vs[i]? = some x := by
        have := congrArg (·[0]?) hr
        simpa using this
      have hil : i < vs.length := (List.getElem?_eq_some_iff.mp hx).1
      have hr' : vs.drop (i + 1) = r := by rw [← List.tail_drop, hr]; rfl
      rw [List.forIn_cons, hb]
      refine sBind (sBind (sAttempt ?_))
      refine hkey i x hx A s fr _ _ rm hA F.kg (Tf _ _ F) Tn (Tx _ _ F) (fun he t s' P' => ?_) fun cls he ee hR s' hs hx' hX => ?_
      · have F' := F.after0 P'
        have ho := (F'.at (.head _)).get
        have e' := get?_update_seq (c := "list") ho (·.push (.bytes (out i).toArray t))
        obtain ⟨hh, tk, rfl⟩ := P'.sh
        refine sBind (toS (listUpdate_at ho rfl (sPure ?_) (by rw [List.size_toArray, sizeLine_eq]; exact om140 h64 hl hil) (by rw [Array.size_push, List.size_toArray, sizeLine_eq]; exact om139 h64 hl hil)))
        have F'' := F'.turn (tk := tk) fk.own (Heap.SameBut.update hh kS (Obj.mapSeq (·.push (.bytes (out i).toArray t)))).extBut (At.of e')
        dsimp only
        refine ih (i + 1) (ks ++ [.bytes (out i).toArray t]) _ _ hr' hil (by rw [List.length_append, hl]; rfl) (fun j hj' => ?_) (F''.ofEq (by rw [List.push_toArray])) ?_ ?_ body hb
        · by_cases q : j < i
          · obtain ⟨q1, t', q2⟩ := hj j q
            exact ⟨q1, t', by rw [List.getElem?_append_left (by exact om118 hl q)]; exact q2⟩
          · obtain rfl : j = i := by exact om141 hj' q
            exact ⟨he, t, by rw [List.getElem?_append_right (by exact om142 hl), hl]; simp⟩
        · exact (((X.trans P'.ext).mono (S' := [kS]) fun _ q => nomatch q).trans (Ext.of_same (Heap.SameBut.update hh kS _))).drop hk0
        · obtain ⟨h₁, t₁, rfl⟩ := hsh; exact ⟨_, _, rfl⟩
      · obtain ⟨hh, tk, rfl⟩ := hs
        have ext := hX.ext
        have ok : At hh kS (.lst ks e) := ext.at (fun q => nomatch q) (hx'.at (fun q => nomatch q) (F.at (.head _)))
        have od : At hh D (.lst [] e1) := ext.at (fun q => nomatch q) (hx'.at (fun q => nomatch q) (F.at (.tail _ (.head _))))
        have hkd : kS ≠ D := fun q => by have := F.nd; simp [q] at this
        have e' := get?_update_seq (c := "list") ok.get fun _ => (#[] : Array Value)
        have od' : (hh.update kS (Obj.mapSeq fun _ => (#[] : Array Value))).get? D = some (seqObj "list" #[] e1) := (Heap.get?_update_other _ _ hkd).trans od.get
        refine sBind (toS (wpAny_rule ?_))
        refine sBind (toS (listItems_at (s := { s with heap := hh, toks := tk }) ok.get rfl ?_))
        refine sBind (toS (listUpdate_at (s := { s with heap := hh, toks := tk }) ok.get rfl ?_ (by rw [List.size_toArray, sizeLine_eq]; exact om140 h64 hl hil) (Nat.zero_le _)))
        refine sBind (toS (wpAny_letGo ?_))
        refine sBind (toS (listUpdate_at (s := { s with heap := hh.update kS (Obj.mapSeq fun _ => (#[] : Array Value)), toks := tk }) od' rfl ?_ (Nat.zero_le _) (by rw [List.size_toArray, sizeLine_eq]; exact om129 h64)))
        refine toS (wpAny_throw ?_)
        refine hE i cls hil (fun j hj' => (hj j hj').1) he ee (hideAll hR [kS, D]) _ ?_ ?_ (hX.turn (S := [kS, D]) (fun a ha => ?_) fun b hb' => ?_)
        · obtain ⟨h₁, t₁, rfl⟩ := hsh; exact ⟨_, _, rfl⟩
        · intro b o _ hbo
          obtain ⟨o', q1, q2⟩ := (X.trans hx') b o (fun q => nomatch q) hbo
          refine ⟨o', hideAll_get _ q1 fun q => ?_, q2⟩
          rcases List.mem_cons.mp q with q | q
          · rw [q, hk0] at hbo; cases hbo
          · rw [List.mem_singleton.mp q, hd0] at hbo; cases hbo
        · rcases List.mem_cons.mp ha with rfl | ha
          · have := hx'.at (fun q => nomatch q) (F.at (.head _))
            exact ⟨fk.off, _, this.get, rfl⟩
          · rw [List.mem_singleton.mp ha]
            have := hx'.at (fun q => nomatch q) (F.at (.tail _ (.head _)))
            exact ⟨fd.off, _, this.get, rfl⟩
        · have n1 : b ≠ kS := fun q => hb' (q ▸ .head _)
          have n2 : b ≠ D := fun q => hb' (q ▸ .tail _ (.head _))
          show ((hh.update kS _).update D _).get? b = hh.get? b
          rw [Heap.get?_update_other _ _ (Ne.symm n2), Heap.get?_update_other _ _ (Ne.symm n1)]
  refine sBind (sMono (loop vs 0 [] 0 s (by simp) (Nat.zero_le _) rfl (fun j hj => by exact (om143 hj).elim) F X hsh _ fun x u => rfl) (fun _ s' hd => ?_) fun _ _ x => x)
  obtain ⟨ks, e, hl, hj, F⟩ := hd
  have ho := (F.at (.head _)).get
  have od := (F.at (.tail _ (.head _))).get
  refine sBind (toS (listItems_at ho rfl (toS' ?_)))
  have step : ∀ t : Sem PySem.Fin, wpAny (model prog w) A t P E s' → wpAny (model prog w) A (if b = true then (do let _ ← rule "list.sort.reverse"; t) else t) P E s' := by
    intro t ht
    split
    · exact wpAny_bind (wpAny_rule ht)
    · exact ht
  have hn2 : ¬ vs.toArray.size < 2 := by rw [List.size_toArray]; exact om127 h2
  have hlr : (katRev b ks).length = (katRev b vs).length := by rw [kat_len, kat_len, hl]
  have hlv : (katRev b vs).length = vs.length := kat_len b vs
  have hks : ∀ i, i < vs.length → ∃ t, (katRev b ks).getD i .none = .bytes (out (rv b vs.length i)).toArray t := fun i hi => by
    unfold katRev rv
    cases b with
    | false =>
      obtain ⟨_, t, q⟩ := hj i hi
      exact ⟨t, by simp [List.getD_eq_getElem?_getD, q]⟩
    | true =>
      obtain ⟨_, t, q⟩ := hj (vs.length - 1 - i) (by exact om144 hi)
      refine ⟨t, ?_⟩
      simp only [if_true]
      rw [List.getD_eq_getElem?_getD, List.getElem?_reverse (by exact om118 hl hi), hl, q]; rfl
  unfold ksk_end
  try dsimp only
  refine step _ ?_
  rw [if_neg hn2, if_neg hn2, kat_pairs b hl]
  refine wpAny_bind (bytes_kind (by exact om145 h2 hl) (fun v hv => ?_) ?_)
  · obtain ⟨i, hi, rfl⟩ := List.getElem_of_mem hv
    obtain ⟨_, t, q⟩ := hj i (by exact om146 hl hi)
    rw [List.getElem?_eq_getElem hi] at q
    injection q with q
    exact ⟨_, t, q⟩
  refine wpAny_bind (wpAny_mono (runL (prog := prog) (w := w) (A := A) (E := E) (s := s') (ks := katRev b ks) (vs := katRev b vs) (κ := oneType') (lt := fun i j => blt (out (rv b vs.length i)) (out (rv b vs.length j)))
    (Q := fun st s'' => failedOf st = none ∧ (arrOf st).map (·.2) = ((permOf (fun i j => blt (out (rv b vs.length i)) (out (rv b vs.length j))) vs.length).map fun i => (katRev b vs).getD i .none).toArray ∧ (permOf (fun i j => blt (out (rv b vs.length i)) (out (rv b vs.length j))) vs.length).length = vs.length ∧ s'' = s')
    hlr (by rw [hlv]; exact h2) (by rw [hlv]; exact h64) (fun i j hi hj' C hC => ?_) fun st hf ha hp => ⟨hf, by rw [hlv] at ha; exact ha, by rw [hlv] at hp; exact hp, rfl⟩) ?_ fun _ _ x => x)
  · obtain ⟨t1, q1⟩ := hks i (by exact om146 hlv hi)
    obtain ⟨t2, q2⟩ := hks j (by exact om146 hlv hj')
    rw [q1, q2, keyLt'_oneType]
    exact one_bytes hC
  rintro ⟨⟨⟩, st⟩ s'' ⟨hf, ha, hp, rfl⟩
  dsimp only at hf ha ⊢
  unfold ksk_tail
  try dsimp only
  rw [ha, kat_outs]
  have hkd : kS ≠ D := fun q => by have := F.nd; simp [q] at this
  have e' := get?_update_seq (c := "list") ho fun _ => (#[] : Array Value)
  have F1 := F.turn (tk := s''.toks) fk.own (Heap.SameBut.update s''.heap kS (Obj.mapSeq fun _ => (#[] : Array Value))).extBut (k' := .lst [] (if (#[] : Array Value).size == ks.toArray.size then e else e + 1)) (At.of e')
  have F2 := F1.tail
  have od2 := (F2.at (.head _)).get
  refine wpAny_bind (listUpdate_at ho rfl ?_ (by rw [List.size_toArray, sizeLine_eq]; exact om147 h64 hl) (Nat.zero_le _))
  refine wpAny_bind (wpAny_letGo ?_)
  refine wpAny_bind (seqEpoch_at od2 rfl ?_)
  refine wpAny_bind (listUpdate_at od2 rfl ?_ (Nat.zero_le _) (by rw [List.size_toArray, kat_len, List.length_map, hp, sizeLine_eq]; exact om129 h64))
  rw [hf]
  simp only [bne_self_eq_false, Bool.false_eq_true, if_false]
  exact wpAny_pure (hQ (fun i hi => (hj i hi).1) _ _ (F2.turn fd.own (Heap.SameBut.update ..).extBut (At.of (get?_update_seq (c := "list") od2 fun _ => _))))
end
end Mine
namespace Mine
open PySem PySem.Calls PyProof.Rows PySem.W
open Sem (wp)
section
variable {prog : Program} {w : World} {A : Around} {E : Value → Shared → Prop} {s : Shared} {c : Cx} {m : Str → Option Value} {ℓ : List (Addr × Kn)} {G h₀ : Heap} {S₀ : List Addr} {fr : List Env} {f : Addr} {vs : List Value} {err : Nat → Option String} {out : Nat → List UInt8}
def sortKw (b : Bool) (f : Addr) : List (Str × Value) := (Str.ofString "key", .ref f) :: (if b then [(Str.ofString "reverse", .bool true)] else [])
theorem sortKw_s (b : Bool) (f : Addr) (v : Value) : argsOk "sorted" ⟨[v], sortKw b f⟩ := by cases b; exact ksk_s1 _ _; exact ksk_s2 _ _ _
theorem sortKw_l (b : Bool) (f : Addr) (v : Value) : argsOk "list.sort" ⟨[v], sortKw b f⟩ := by cases b; exact ksk_l1 _ _; exact ksk_l2 _ _ _
theorem sortKw_t (b : Bool) (f : Addr) (a : Addr) : Builtin.«list.sort» ⟨[.ref a], sortKw b f⟩ = ksk_tree a (.ref f) b := by cases b; exact ksk_t1 _ _; exact ksk_t2 _ _ _
theorem sSorted {l : Addr} {b : Bool} {Q : Value → Shared → Prop} (T : Still c m G h₀ S₀ fr) (F : Fx c m ℓ s) (hl : (l, Kn.list vs) ∈ ℓ) (h2 : 2 ≤ vs.length) (h64 : vs.length < 64) (rm : Rm A 8) (hA : A.frames = some fr) (hkey : ∀ i v, vs[i]? = some v → KeyOn prog w G h₀ S₀ f v (err i) (out i))
    (hQ : (∀ i, i < vs.length → err i = none) → ∀ D k s', Fx c m ((D, .lst (katRev b ((permOf (fun i j => blt (out (rv b vs.length i)) (out (rv b vs.length j))) vs.length).map fun i => (katRev b vs).getD i .none)) k) :: ℓ) s' → Fresh c D → Q (.ref D) s')
    (hE : ∀ i cls, i < vs.length → (∀ j, j < i → err j = none) → err i = some cls → ∀ e hR s', (∃ h tk, s' = { s with heap := h, toks := tk }) → Ext [] s.heap hR → Exc G hR fr e cls (.at .none) s'.heap → E (.ref e) s') :
    wpS (model prog w) A (call (.builtin "sorted") [.ref l] (sortKw b f)) Q E s := by
  refine sCallFnEntry kind_sorted plain_sorted entry_sorted (sortKw_s b f _) (by decide +kernel) ?_
  unfold Builtin.«sorted»
  refine sBind (m := checkCount "sorted" 1 1 _) (sPure ?_)
  refine sBind (toS (collect_list (F.at hl).isList ?_ (by rw [sizeLine_eq]; exact om128 h64)))
  refine sBind (toS (wpAny_newList ?_ (by rw [sizeLine_eq]; exact om128 h64)))
  have f1 := F.new
  have F1 := F.pushS (tk := s.toks) "list" #[]
  have e1 := get?_update_seq (c := "list") (h := s.heap.push { cls := .type "list", data := .seq #[] }) (n := 0) (xs := #[]) (Heap.get?_push_size _ rfl) (· ++ vs.toArray)
  have F2 := (F1.turn (tk := s.toks) f1.own (Heap.SameBut.update (s.heap.push { cls := .type "list", data := .seq #[] }) s.heap.objs.size (Obj.mapSeq (· ++ vs.toArray))).extBut (k' := .lst (#[] ++ vs.toArray).toList _) (At.of (by simpa using e1))).tail
  have keep : ∀ b o, s.heap.get? b = some o → ((s.heap.push { cls := .type "list", data := .seq #[] }).update s.heap.objs.size (Obj.mapSeq (· ++ vs.toArray))).get? b = some o := fun b o q => by
    rw [Heap.get?_update_other _ _ (Ne.symm (Nat.ne_of_lt (Heap.lt_size q)))]
    exact Heap.get?_push_of_some _ q
  have hno : ∀ {h' : Heap}, (∀ b o, s.heap.get? b = some o → h'.get? b = some o) → s.heap.get? h'.objs.size = none := fun {h'} k => by
    cases q : s.heap.get? h'.objs.size with
    | none => rfl
    | some o => exact absurd (Heap.lt_size (k _ _ q)) (Nat.lt_irrefl _)
  have fd := F2.new
  have hd0 := hno keep
  have F3 := F2.pushE (tk := s.toks) { cls := .type "list", data := .seq vs.toArray }
  generalize hD : ((s.heap.push { cls := .type "list", data := .seq #[] }).update s.heap.objs.size (Obj.mapSeq (· ++ vs.toArray))).objs.size = D at F3 fd hd0
  have k3 : ∀ b o, s.heap.get? b = some o → _ := fun b o q => Heap.get?_push_of_some (h := (s.heap.push { cls := .type "list", data := .seq #[] }).update s.heap.objs.size (Obj.mapSeq (· ++ vs.toArray))) { cls := .type "list", data := .seq vs.toArray } (keep b o q)
  refine sBind (sHolding ?_)
  show wpS _ _ (call (.builtin "list.sort") [.ref D] (sortKw b f)) _ _ { s with heap := ((s.heap.push { cls := .type "list", data := .seq #[] }).update s.heap.objs.size (Obj.mapSeq (· ++ vs.toArray))).push { cls := .type "list", data := .seq vs.toArray } }
  have F3 : Fx c m ((D, .lst vs 0) :: ℓ) { s with heap := ((s.heap.push { cls := .type "list", data := .seq #[] }).update s.heap.objs.size (Obj.mapSeq (· ++ vs.toArray))).push { cls := .type "list", data := .seq vs.toArray } } := F3
  generalize ((s.heap.push { cls := .type "list", data := .seq #[] }).update s.heap.objs.size (Obj.mapSeq (· ++ vs.toArray))).push { cls := .type "list", data := .seq vs.toArray } = hp at F3 k3
  have ho := (F3.at (.head _)).get
  refine sCallEntry slot_list_sort ⟨_, ho, rfl⟩ entry_list_sort (sortKw_l b f _) (by decide +kernel) ?_
  rw [sortKw_t]
  unfold ksk_tree
  have e4 := get?_update_seq (c := "list") ho fun _ => (#[] : Array Value)
  have F4 := F3.turn (tk := s.toks) fd.own (Heap.SameBut.update hp D (Obj.mapSeq fun _ => (#[] : Array Value))).extBut (k' := .lst [] (if (#[] : Array Value).size == vs.toArray.size then 0 else 0 + 1)) (At.of e4)
  have x4 : Ext [] s.heap (hp.update D (Obj.mapSeq fun _ => (#[] : Array Value))) := (((Ext.of_keeps (S := [D]) k3)).trans (Ext.of_same (Heap.SameBut.update hp D _))).drop hd0
  refine sBind (toS (listItems_at ho rfl ?_))
  refine sBind (toS (listUpdate_at ho rfl ?_ (by rw [List.size_toArray, sizeLine_eq]; exact om128 h64) (Nat.zero_le _)))
  refine sBind (toS (seqEpoch_at e4 rfl ?_))
  refine sBind (toS (wpAny_newTuple ?_ (by show vs.length ≤ _; rw [sizeLine_eq]; exact om128 h64)))
  refine sBind (toS (wpAny_newList ?_ (Nat.zero_le _)))
  have F5 := (F4.pushS (tk := s.toks) "tuple" vs.toArray).tail
  have fk := F5.new
  have F6 := F5.pushE (tk := s.toks) { cls := .type "list", data := .seq #[] }
  have x5 : Ext [] s.heap ((hp.update D (Obj.mapSeq fun _ => (#[] : Array Value))).push { cls := .type "tuple", data := .seq vs.toArray }) := x4.trans (Ext.push _ _ _)
  have hk0 : s.heap.get? ((hp.update D (Obj.mapSeq fun _ => (#[] : Array Value))).push { cls := .type "tuple", data := .seq vs.toArray }).objs.size = none := by
    cases q : s.heap.get? ((hp.update D (Obj.mapSeq fun _ => (#[] : Array Value))).push { cls := .type "tuple", data := .seq vs.toArray }).objs.size with
    | none => rfl
    | some o => obtain ⟨o', q', _⟩ := x5 _ _ (fun r => nomatch r) q; exact absurd (Heap.lt_size q') (Nat.lt_irrefl _)
  refine sHolding (keysRest T F6 (x5.trans (Ext.push _ _ _)) ⟨_, _, rfl⟩ fk fd hk0 hd0 h2 h64 rm.in1.in1 (by exact hA) hkey (fun ok k s' F' => ⟨_, rfl, sPure ⟨_, rfl, hQ ok D k s' F' fd⟩⟩) hE)
end
end Mine
namespace Mine
open PySem PySem.Calls PyProof.Rows PySem.W
open Sem (wp)
/-! ## min and max with a key and a default, out of a list's iterator -/
namespace BY
theorem lookupGt : typeLookup (.type "bytes") "__gt__" = pure (some (.builtin "bytes.__gt__")) := by rw [typeLookup_type, builtinLookup_eq_fast]; kernel_rfl
theorem slotGt : Slot "bytes" (cmpInfo .Gt).2.1 "bytes.__gt__" := .of (owner := "bytes") (n := "__gt__") lookupGt (by decide +kernel) (by decide +kernel) (by decide +kernel) (by first | exact .inl (by decide +kernel) | exact .inr (by decide +kernel)) sub
theorem entryGt : entryFor table "bytes.__gt__" = some Builtin.«bytes.__gt__» := entryFor_of_tree (by kernel_rfl)
theorem gtCall (a b : Value) : argsOk "bytes.__gt__" ⟨[a, b], []⟩ := by unfold argsOk; kernel_rfl
end BY
theorem order_swap : ∀ x y : List UInt8, Builtin.Bytes.order y x = (Builtin.Bytes.order x y).swap
  | [], [] | [], _ :: _ | _ :: _, [] => rfl
  | a :: x, b :: y => by
    simp only [Builtin.Bytes.order]
    by_cases h1 : a < b
    · have h2 : ¬ b < a := UInt8.lt_asymm h1
      simp [h1, h2]
    · by_cases h2 : b < a
      · simp [h1, h2]
      · simp [h1, h2, order_swap x y]
theorem gives_bytes_gt (b c : Array UInt8) (t u : Tok) : Gives (Builtin.«bytes.__gt__» ⟨[.bytes b t, .bytes c u], []⟩) (.val (.bool (blt c.toList b.toList))) := by
  refine .of_wp fun M A E s Q hq => ?_
  show wpAny M A (isInstance (.bytes c u) (.type "bytes") >>= fun r => _) _ E s
  refine wpAny_bind (wpAny_isInstance (typeIs_bytes s c u) BY.sub (wpAny_pure ⟨_, rfl, ?_⟩))
  have : (Builtin.Bytes.order b.toList c.toList == .gt) = blt c.toList b.toList := by
    unfold blt
    rw [order_swap b.toList c.toList]
    cases Builtin.Bytes.order b.toList c.toList <;> rfl
  rw [← this] at hq
  exact hq
theorem gt_bytes {prog : Program} {w : World} {A : Around} {E : Value → Shared → Prop} {s : Shared} {b c : Array UInt8} {t u : Tok} {Q : Value → Shared → Prop} (h : Q (.bool (blt c.toList b.toList)) s) : wpAny (model prog w) A (compareOp .Gt (.bytes b t) (.bytes c u)) Q E s :=
  compareOp_gives (op := .Gt) (typeIs_bytes s b t) (typeIs_bytes s c u) BY.slotGt BY.entryGt (BY.gtCall _ _) (gives_bytes_gt b c t u) (fun e => nomatch e) h
def better (g : Bool) (x y : List UInt8) : Bool := if g then blt y x else blt x y
def bestAt (g : Bool) (out : Nat → List UInt8) : Nat → Nat
  | 0 => 0
  | k + 1 => if better g (out (k + 1)) (out (bestAt g out k)) then k + 1 else bestAt g out k
def mmName (g : Bool) : String := if g then "max" else "min"
def mmLoop (g : Bool) : String := if g then "max.loop" else "min.loop"
def mmB (g : Bool) : Builtin := if g then Builtin.«max.loop» else Builtin.«min.loop»
section
variable {prog : Program} {w : World} {A : Around} {E : Value → Shared → Prop} {s : Shared} {c : Cx} {m : Str → Option Value} {ℓ : List (Addr × Kn)} {G h₀ : Heap} {S₀ : List Addr} {fr : List Env} {f : Addr} {vs : List Value} {err : Nat → Option String} {out : Nat → List UInt8}
theorem mmEntry (g : Bool) : entryFor table (mmLoop g) = some (mmB g) := by cases g; exact PySem.F.entry_min_loop; exact PySem.F.entry_max_loop
theorem mmPlain (g : Bool) : plainId (mmLoop g) = true := by cases g; exact PySem.F.plain_min_loop; exact PySem.F.plain_max_loop
theorem mmHold (g : Bool) : holdIds.contains (mmLoop g) = false := by cases g <;> decide +kernel
theorem bestLoop {g : Bool} {it l best : Addr} {d : Value} {R : Result → Shared → Prop} (T : Still c m G h₀ S₀ fr) (ow : Own c it) (fb : Fresh c best) (hl : (l, Kn.list vs) ∈ ℓ) (rm : Rm A 7) (hA : A.frames = some fr) (hkey : ∀ i v, vs[i]? = some v → KeyOn prog w G h₀ S₀ f v (err i) (out i)) (hn : 0 < vs.length)
    (hQ : (∀ i, i < vs.length → err i = none) → ∀ s', Fx c m ((it, .lidone vs.length) :: ℓ) s' → R (.ok (.ret (vs.getD (bestAt g out (vs.length - 1)) .none))) s')
    (hE : ∀ i cls, i < vs.length → (∀ j, j < i → err j = none) → err i = some cls → ∀ e hR s', (∃ h tk, s' = { c.sE with heap := h, toks := tk }) → Ext c.S c.sE.heap hR → At hR it (.liter l (i + 1)) → Exc G hR fr e cls (.at .none) s'.heap → R (.error (.ref e)) s') :
    ∀ (k i : Nat) (its : List Value) (n : Nat) (s : Shared), vs.length - i = k → i ≤ vs.length → Fx c m ((best, .lst its n) :: (it, .liter l i) :: ℓ) s → (∀ j, j < i → err j = none) →
      (i = 0 ∧ its = [] ∨ ∃ t, 0 < i ∧ its = [vs.getD (bestAt g out (i - 1)) .none, .bytes (out (bestAt g out (i - 1))).toArray t]) →
      codeS (model prog w) A (.builtin (mmLoop g) ⟨[.ref it, .ref f, .ref best], [(Str.ofString "default", d)]⟩) R s := by
  obtain ⟨rfl, Tf, Tx, Tn⟩ := T
  have hh : A.in1.handled = none := rm.hh
  intro k
  induction k with
  | zero =>
    intro i its n s hk hi F hj hst
    obtain rfl : i = vs.length := by omega
    obtain ⟨t, _, rfl⟩ := hst.resolve_left fun q => by omega
    refine codeSBuiltin (mmEntry g) ?_
    rw [Around.under_plainId (mmPlain g) _]
    cases g
    all_goals
      show wpS _ _ (seqItems? (.ref best) >>= fun r => _) _ _ _
      refine sBind (toS (wpAny_seqItems (F.at (.head _)).get rfl ?_))
      dsimp only
      refine sBind (sTryCatch (toS (nextL F.swap (.tail _ hl) ow hh (fun x hx => ?_) fun hx s₁ F => ?_)))
    all_goals first
      | (rw [List.getElem?_toArray, List.getElem?_eq_none (Nat.le_refl _)] at hx; cases hx)
      | skip
    all_goals
      have F := F.swap
      have e' := get?_update_seq (c := "list") (F.at (.head _)).get fun _ => (#[] : Array Value)
      dsimp only [Option.getD_some]
      refine sBind (toS (wpAny_updateSeq (F.at (.head _)).get rfl ?_ (show (2 : Nat) ≤ sizeLine by rw [sizeLine_eq]; decide) (Nat.zero_le _)))
      refine sBind (toS (wpAny_letGo (sPure ?_)))
      exact hQ (fun j q => hj j q) _ (F.turn (tk := s₁.toks) fb.own (Heap.SameBut.update ..).extBut (k' := .lst [] _) (At.of e')).tail
  | succ k ih =>
    intro i its n s hk hi F hj hst
    have hil : i < vs.length := by omega
    have hx : vs[i]? = some vs[i] := List.getElem?_eq_getElem hil
    have hgd : vs.getD i .none = vs[i] := by simp [hil]
    have hsz : its.length ≤ 2 := by
      rcases hst with ⟨_, rfl⟩ | ⟨_, _, rfl⟩
      · exact Nat.zero_le _
      · exact Nat.le_refl _
    -- what a refused key leaves
    have bad : ∀ {s₁ : Shared}, Fx c m ((best, .lst its n) :: (it, .liter l (i + 1)) :: ℓ) s₁ → ∀ cls, err i = some cls → ∀ e hR s', (∃ h tk, s' = { s₁ with heap := h, toks := tk }) → Ext [] s₁.heap hR → Exc c.G hR fr e cls (.at .none) s'.heap → ∀ (first : List Value) {α : Type} {Q' : α → Shared → Prop},
        wpS (model prog w) A.in1 (do updateSeq best fun _ => #[]; letGo first [.ref e]; throw (.ref e) : Sem α) Q' (fun e s' => R (.error e) s') s' := by
      intro s₁ F cls he e hR s' hs hx' hX first α Q'
      obtain ⟨hh', tk, rfl⟩ := hs
      have ok := hX.ext.at (fun q => nomatch q) (hx'.at (fun q => nomatch q) (F.at (.head _)))
      have okR := hx'.at (fun q => nomatch q) (F.at (.head _))
      have itR := hx'.at (fun q => nomatch q) (F.at (.tail _ (.head _)))
      have hne : it ≠ best := fun q => by have := F.nd; simp [q] at this
      refine sBind (toS (wpAny_updateSeq (s := { s₁ with heap := hh', toks := tk }) ok.get rfl ?_ (by rw [List.size_toArray, sizeLine_eq]; exact om148 hsz) (Nat.zero_le _)))
      refine sBind (toS (wpAny_letGo (toS (wpAny_throw ?_))))
      refine hE i cls hil hj he e (hideAll hR [best]) _ ?_ ?_ ?_ (hX.turn (S := [best]) (fun a ha => ?_) fun b hb' => ?_)
      · obtain ⟨h₁, t₁, q⟩ := F.sh; exact ⟨_, _, by rw [q]⟩
      · intro b o hbn hbo
        obtain ⟨o', q1, q2⟩ := (F.post.ext.trans (hx'.mono fun _ q => nomatch q)) b o hbn hbo
        exact ⟨o', hideAll_get _ q1 (fun q => by rw [List.mem_singleton.mp q, fb.may.1] at hbo; cases hbo), q2⟩
      · obtain ⟨o, q1, q2⟩ := itR
        exact ⟨o, hideAll_get _ q1 fun q => hne (List.mem_singleton.mp q), q2⟩
      · rw [List.mem_singleton.mp ha]; exact ⟨fb.off, _, okR.get, rfl⟩
      · exact Heap.get?_update_other _ _ fun q => hb' (q ▸ .head _)
    -- the next turn
    have go : ∀ {s₁ : Shared} {its' : List Value} {n' : Nat}, Fx c m ((best, .lst its' n') :: (it, .liter l (i + 1)) :: ℓ) s₁ → err i = none → (∃ t, its' = [vs.getD (bestAt g out i) .none, .bytes (out (bestAt g out i)).toArray t]) →
        codeS (model prog w) A (.builtin (mmLoop g) ⟨[.ref it, .ref f, .ref best], [(Str.ofString "default", d)]⟩) R s₁ := fun F he ht => by
      obtain ⟨t, rfl⟩ := ht
      refine ih (i + 1) _ _ _ (by omega) hil F (fun j hj' => ?_) (.inr ⟨t, Nat.succ_pos _, rfl⟩)
      by_cases q : j < i
      · exact hj j q
      · obtain rfl : j = i := by exact om141 hj' q
        exact he
    refine codeSBuiltin (mmEntry g) ?_
    rw [Around.under_plainId (mmPlain g) _]
    cases g
    all_goals
      show wpS _ _ (seqItems? (.ref best) >>= fun r => _) _ _ _
      refine sBind (toS (wpAny_seqItems (F.at (.head _)).get rfl ?_))
      dsimp only
      refine sBind (sTryCatch (toS (nextL F.swap (.tail _ hl) ow hh (fun x hx' s₁ F₁ => ?_) fun hx' => ?_)))
    all_goals first
      | (rw [List.getElem?_toArray, hx] at hx'; cases hx'; done)
      | skip
    all_goals
      rw [List.getElem?_toArray, hx] at hx'
      injection hx' with hx'
      subst hx'
      have F₁ := F₁.swap
      dsimp only
      refine sBind (sTryCatch (sHolding (hkey i _ hx A.in1 s₁ fr _ _ rm.in1 (by exact hA) F₁.kg (Tf _ _ F₁) Tn (Tx _ _ F₁) (fun he t' s₂ P' => ?_) fun cls he e hR s₂ hs hx' hX => bad F₁ cls he e hR s₂ hs hx' hX _)))
      have F₂ := F₁.after0 P'
      have e' := get?_update_seq (c := "list") (F₂.at (.head _)).get fun _ => (#[vs[i], .bytes (out i).toArray t'] : Array Value)
      have F₃ := F₂.turn (tk := s₂.toks) fb.own (Heap.SameBut.update s₂.heap best (Obj.mapSeq fun _ => (#[vs[i], .bytes (out i).toArray t'] : Array Value))).extBut (k' := .lst [vs[i], .bytes (out i).toArray t'] (if (#[vs[i], .bytes (out i).toArray t'] : Array Value).size == its.toArray.size then n else n + 1)) (At.of e')
    all_goals
      rcases hst with ⟨h0, rfl⟩ | ⟨t, h0, rfl⟩
    all_goals dsimp only [Option.getD_some]
    · subst h0
      refine sBind (toS (wpAny_updateSeq (F₂.at (.head _)).get rfl (sPure ⟨plainId_quiet (mmPlain false) _, mmHold false, go F₃ he ⟨t', ?_⟩⟩) (Nat.zero_le _) (show (2 : Nat) ≤ sizeLine + 1 by rw [sizeLine_eq]; decide)))
      rw [show bestAt false out 0 = 0 from rfl, hgd]
    · obtain ⟨j, rfl⟩ : ∃ j, i = j + 1 := ⟨i - 1, by exact om149 h0⟩
      refine sBind (sTryCatch (sHolding (sBind (toS (show wpAny _ _ (richCompare .Lt _ _) _ _ _ from lt_bytes ?_)))))
      refine sBind (sHolding (toS (wpAny_truthy_bool (sBind (toS (wpAny_letGo (sPure ?_)))))))
      have hb : bestAt false out (j + 1) = if blt (out (j + 1)) (out (bestAt false out j)) = true then j + 1 else bestAt false out j := rfl
      by_cases q : blt (out (j + 1)) (out (bestAt false out j)) = true
      · rw [if_pos q] at hb
        show wpS _ _ (if blt (out (j + 1)) (out (bestAt false out j)) = true then _ else _) _ _ _
        rw [if_pos q]
        refine sBind (toS (wpAny_updateSeq (F₂.at (.head _)).get rfl ?_ (show (2 : Nat) ≤ sizeLine by rw [sizeLine_eq]; decide) (show (2 : Nat) ≤ sizeLine + 1 by rw [sizeLine_eq]; decide)))
        refine sBind (toS (wpAny_letGo (sPure ⟨plainId_quiet (mmPlain false) _, mmHold false, go F₃ he ⟨t', ?_⟩⟩)))
        rw [hb, hgd]
      · rw [if_neg q] at hb
        show wpS _ _ (if blt (out (j + 1)) (out (bestAt false out j)) = true then _ else _) _ _ _
        rw [if_neg q]
        refine sBind (toS (wpAny_letGo (sPure ⟨plainId_quiet (mmPlain false) _, mmHold false, go F₂ he ⟨t, ?_⟩⟩)))
        rw [hb]; rfl
    · subst h0
      refine sBind (toS (wpAny_updateSeq (F₂.at (.head _)).get rfl (sPure ⟨plainId_quiet (mmPlain true) _, mmHold true, go F₃ he ⟨t', ?_⟩⟩) (Nat.zero_le _) (show (2 : Nat) ≤ sizeLine + 1 by rw [sizeLine_eq]; decide)))
      rw [show bestAt true out 0 = 0 from rfl, hgd]
    · obtain ⟨j, rfl⟩ : ∃ j, i = j + 1 := ⟨i - 1, by exact om149 h0⟩
      refine sBind (sTryCatch (sHolding (sBind (toS (show wpAny _ _ (richCompare .Gt _ _) _ _ _ from gt_bytes ?_)))))
      refine sBind (sHolding (toS (wpAny_truthy_bool (sBind (toS (wpAny_letGo (sPure ?_)))))))
      have hb : bestAt true out (j + 1) = if blt (out (bestAt true out j)) (out (j + 1)) = true then j + 1 else bestAt true out j := rfl
      by_cases q : blt (out (bestAt true out j)) (out (j + 1)) = true
      · rw [if_pos q] at hb
        show wpS _ _ (if blt (out (bestAt true out j)) (out (j + 1)) = true then _ else _) _ _ _
        rw [if_pos q]
        refine sBind (toS (wpAny_updateSeq (F₂.at (.head _)).get rfl ?_ (show (2 : Nat) ≤ sizeLine by rw [sizeLine_eq]; decide) (show (2 : Nat) ≤ sizeLine + 1 by rw [sizeLine_eq]; decide)))
        refine sBind (toS (wpAny_letGo (sPure ⟨plainId_quiet (mmPlain true) _, mmHold true, go F₃ he ⟨t', ?_⟩⟩)))
        rw [hb, hgd]
      · rw [if_neg q] at hb
        show wpS _ _ (if blt (out (bestAt true out j)) (out (j + 1)) = true then _ else _) _ _ _
        rw [if_neg q]
        refine sBind (toS (wpAny_letGo (sPure ⟨plainId_quiet (mmPlain true) _, mmHold true, go F₂ he ⟨t, ?_⟩⟩)))
        rw [hb]; rfl
end
end Mine
namespace Mine
open PySem PySem.Calls PyProof.Rows PySem.W
open Sem (wp)
section
variable {prog : Program} {w : World} {A : Around} {E : Value → Shared → Prop} {s : Shared}
theorem sCallFnTree {id : String} {b : Builtin} {args : List Value} {kw : List (Str × Value)} {Q : Value → Shared → Prop} (hk : builtinKind id = none) (hp : plainId id = true) (hb : entryFor table id = some b) (ha : argsOk id ⟨args, kw⟩) (hh : holdIds.contains id = false)
    (hc : wpS (model prog w) A.in1 (b ⟨args, kw⟩) (fun fin s' => match fin with | .done f => (match (Except.ok f : Result) with | .ok (.ret v) => Q v s' | .ok _ => False | .error e => E e s') | .again c' => c'.quiet = true ∧ holdsBa c' = false ∧ codeS (model prog w) A c' (fun r s' => match r with | .ok (.ret v) => Q v s' | .ok _ => False | .error e => E e s') s') E s) : wpS (model prog w) A (call (.builtin id) args kw) Q E s := by
  refine sCall (codeSTree ?_)
  show wpS _ A.in1 (do checkBuiltinCall id ⟨args, kw⟩; again (.builtin id ⟨args, kw⟩)) _ _ s
  have fin : wpS (model prog w) A.in1 (again (.builtin id ⟨args, kw⟩)) (fun fin s' => match fin with | .done f => (match (Except.ok f : Result) with | .ok (.ret v) => Q v s' | .ok _ => False | .error e => E e s') | .again c' => c'.quiet = true ∧ holdsBa c' = false ∧ codeS (model prog w) A c' (fun r s' => match r with | .ok (.ret v) => Q v s' | .ok _ => False | .error e => E e s') s') (fun e s' => E e s') s := by
    refine sPure ⟨plainId_quiet hp _, hh, codeSBuiltin hb ?_⟩
    rw [Around.under_plainId hp _]
    exact hc
  simp only [checkBuiltinCall, hk]
  cases hsig : Manifest.signature? id with
  | none => exact fin
  | some sig =>
    have ha' : Bind.checkArgs id sig ⟨args, kw⟩ = pure () := by simpa only [argsOk, hsig] using ha
    simp only [ha']
    exact fin
theorem mmArgs (g : Bool) (a d k : Value) : argsOk (mmName g) ⟨[a], [(Str.ofString "default", d), (Str.ofString "key", k)]⟩ := by cases g <;> (unfold argsOk; kernel_rfl)
variable {c : Cx} {m : Str → Option Value} {ℓ : List (Addr × Kn)} {G h₀ : Heap} {S₀ : List Addr} {fr : List Env} {f : Addr} {vs : List Value} {err : Nat → Option String} {out : Nat → List UInt8}
theorem sBest {g : Bool} {it l : Addr} {d : Value} {Q : Value → Shared → Prop} (T : Still c m G h₀ S₀ fr) (F : Fx c m ((it, .liter l 0) :: ℓ) s) (ow : Own c it) (hl : (l, Kn.list vs) ∈ ℓ) (rm : Rm A 7) (hA : A.frames = some fr) (hkey : ∀ i v, vs[i]? = some v → KeyOn prog w G h₀ S₀ f v (err i) (out i)) (hn : 0 < vs.length)
    (hQ : (∀ i, i < vs.length → err i = none) → ∀ s', Fx c m ((it, .lidone vs.length) :: ℓ) s' → Q (vs.getD (bestAt g out (vs.length - 1)) .none) s')
    (hE : ∀ i cls, i < vs.length → (∀ j, j < i → err j = none) → err i = some cls → ∀ e hR s', (∃ h tk, s' = { c.sE with heap := h, toks := tk }) → Ext c.S c.sE.heap hR → At hR it (.liter l (i + 1)) → Exc G hR fr e cls (.at .none) s'.heap → E (.ref e) s') :
    wpS (model prog w) A (call (.builtin (mmName g)) [.ref it] [(Str.ofString "default", d), (Str.ofString "key", .ref f)]) Q E s := by
  have body : ∀ (R : Result → Shared → Prop), (R = fun r s' => match r with | .ok (.ret v) => Q v s' | .ok _ => False | .error e => E e s') → codeS (model prog w) A (.builtin (mmLoop g) ⟨[.ref it, .ref f, .ref s.heap.objs.size], [(Str.ofString "default", d)]⟩) R { s with heap := s.heap.push { cls := .type "list", data := .seq #[] } } := by
    rintro R rfl
    exact bestLoop (d := d) T ow F.new hl rm hA hkey hn hQ hE _ 0 [] 0 _ rfl (Nat.zero_le _) (F.pushE _) (fun j hj => by exact (om143 hj).elim) (.inl ⟨rfl, rfl⟩)
  cases g
  · refine sCallFnTree (id := "min") PySem.F.kind_min PySem.F.plain_min PySem.F.entry_min (mmArgs false _ _ _) (by decide +kernel) ?_
    show wpS _ _ (pyIter (.ref it) >>= fun r => _) _ _ _
    refine sBind (toS (wpAny_pyIter_listiter (F.at (.head _)).isIter ?_))
    refine sBind (toS (wpAny_newList ?_ (Nat.zero_le _)))
    exact sPure ⟨plainId_quiet (mmPlain false) _, mmHold false, body _ rfl⟩
  · refine sCallFnTree (id := "max") PySem.F.kind_max PySem.F.plain_max PySem.F.entry_max (mmArgs true _ _ _) (by decide +kernel) ?_
    show wpS _ _ (pyIter (.ref it) >>= fun r => _) _ _ _
    refine sBind (toS (wpAny_pyIter_listiter (F.at (.head _)).isIter ?_))
    refine sBind (toS (wpAny_newList ?_ (Nat.zero_le _)))
    exact sPure ⟨plainId_quiet (mmPlain true) _, mmHold true, body _ rfl⟩
end
end Mine
namespace Mine
open PySem PySem.Calls PyProof.Rows PySem.W
open Sem (wp)
/-! ## exceptions: more stations -/
theorem noteFrame_eq {env env' : Env} (h : env'.frame = env.frame) (e : Value) : noteFrame e env' = noteFrame e env := by unfold noteFrame PySem.frameOf; rw [h]
theorem Exc.grow {G hR h h' : Heap} {fr : List Env} {e : Addr} {cls : String} {st : XSt} (x : Exc G hR fr e cls st h) (k : ∀ b o, h.get? b = some o → h'.get? b = some o) : Exc G hR fr e cls st h' := by
  obtain ⟨⟨base, h1, h2, h3, h4, h5, h6⟩, up⟩ := x
  refine ⟨⟨base, h1, h2, fun b o q => k b o (h3 b o q), h4, h5.of_keeps fun b o q _ => ⟨o, k b o q, rfl⟩, ?_⟩, up.trans (.of_keeps k)⟩
  cases st with
  | new => obtain ⟨oe, vs, a0, he, r⟩ := h6; exact ⟨oe, vs, a0, k _ _ he, r⟩
  | «at» fl => obtain ⟨a0, oe, vs, T, oT, ts, he, hc, hd, hv, hnT, hTe, hT, r⟩ := h6; exact ⟨a0, oe, vs, T, oT, ts, k _ _ he, hc, hd, hv, hnT, hTe, k _ _ hT, r⟩
/-- a namespace, not that of a frame on the way, is turned -/
theorem Exc.turnD {G hR h h' : Heap} {fr : List Env} {e C : Addr} {cls : String} {fl : Value} {o : Obj} {es : Array DictEntry} {ep : Nat} (x : Exc G hR fr e cls (.at fl) h) (hG : G.get? C = none) (hC : h.get? C = some o) (hd : o.data = .dict es ep) (hfr : C ∉ frsOf fr) (hk : ∀ b, b ≠ C → h'.get? b = h.get? b) : Exc G (hideAll hR [C]) fr e cls (.at fl) h' := by
  obtain ⟨⟨base, h1, h2, h3, h4, h5, h6⟩, up⟩ := x
  have hid : ∀ {b}, base.get? b = none → (hideAll base [C]).get? b = none := fun {b} q => by
    cases r : (hideAll base [C]).get? b with
    | none => rfl
    | some o' => have := of_hideAll _ r; rw [q] at this; cases this
  have nin : ∀ {H : Heap} {b o}, (hideAll H [C]).get? b = some o → b ≠ C := fun {H b o} q r => by rw [r, hideAll_none [C] (.head _)] at q; cases q
  have ff : ∀ {l : List Env}, (∀ a ∈ frsOf l, a ≠ C) → h.FunFrames base l → h'.FunFrames (hideAll base [C]) l := by
    intro l
    induction l with
    | nil => exact fun _ _ => trivial
    | cons env l ih =>
      rintro hl ⟨k1, ⟨L, o', k2, k3, k4, k5⟩, k6⟩
      refine ⟨k1, ⟨L, o', k2, hid k3, (hk L (hl L (List.mem_filterMap.mpr ⟨env, .head _, k2⟩))).trans k4, k5⟩, ih (fun a ha => hl a ?_) k6⟩
      obtain ⟨e', q1, q2⟩ := List.mem_filterMap.mp ha
      exact List.mem_filterMap.mpr ⟨e', .tail _ q1, q2⟩
  refine ⟨⟨hideAll base [C], fun b o q hn => hideAll_get _ (h1 b o (of_hideAll _ q) hn) fun r => nin q (List.mem_singleton.mp r), fun b o q => hideAll_get _ (h2 b o q) (fun r => by rw [List.mem_singleton.mp r, hG] at q; cases q), fun b o q => (hk b (nin q)).trans (h3 b o (of_hideAll _ q)), hid h4, ff (fun a ha q => hfr (q ▸ ha)) h5, ?_⟩, fun b o q hf => ?_⟩
  · obtain ⟨a0, oe, vs, T, oT, ts, he, hc, hde, hv, hnT, hTe, hT, hdT, r⟩ := h6
    have n1 : e ≠ C := fun q => by rw [q, hC] at he; injection he with he; rw [← he, hd] at hde; cases hde
    have n2 : T ≠ C := fun q => by rw [q, hC] at hT; injection hT with hT; rw [← hT, hd] at hdT; cases hdT
    exact ⟨a0, oe, vs, T, oT, ts, (hk e n1).trans he, hc, hde, hv, hid hnT, hTe, (hk T n2).trans hT, hdT, r⟩
  · obtain ⟨sl, e'⟩ := up b o (of_hideAll _ q) hf
    exact ⟨sl, (hk b (nin q)).trans e'⟩
section
variable {M : Model} {A : Around} {E : Value → Shared → Prop} {s : Shared} {G hR : Heap} {env : Env} {fr : List Env} {L e : Addr} {cls : String} {fl : Value} {Q : Unit → Shared → Prop}
theorem exc_pass {α : Type} {what : String} {Q : α → Shared → Prop} (hf : env.frame = some L) (x : Exc G hR fr e cls (.at fl) s.heap) (h : ∀ h', Exc G hR fr e cls (.at (rawInt L)) h' → E (.ref e) { s with heap := h' }) : wpAny M A (PySem.passOn what (.ref e) env) Q E s := by
  obtain ⟨base, _, _, _, _, _, a0, oe, vs, T, oT, ts, he, hcls, hd, hv1, _⟩ := id x.x
  unfold PySem.passOn
  refine wpAny_bind (wpAny_field he hd hv1 ?_)
  rw [if_neg (show ¬ (Value.ref T == Value.none) = true by intro q; cases q)]
  refine wpAny_bind (exc_flight x fun h' x' => wpAny_throw (h h' ?_))
  rw [hf] at x'
  exact x'
end
/-- behind a raised exception that was caught here -/
theorem Fx.ofExc {c : Cx} {m : Str → Option Value} {ℓ : List (Addr × Kn)} {s s' : Shared} {fr : List Env} {e : Addr} {cls : String} {st : XSt} (F : Fx c m ℓ s) (hs : ∃ h tk, s' = { s with heap := h, toks := tk }) (x : Exc c.G s.heap fr e cls st s'.heap) : Fx c m ℓ s' :=
  F.after0 ⟨hs, x.kg, x.ext, fun _ q => nomatch q⟩
theorem Exc.typeIs {G hR : Heap} {fr : List Env} {e : Addr} {cls : String} {st : XSt} {s : Shared} (x : Exc G hR fr e cls st s.heap) : s.TypeIs (.ref e) cls := by
  obtain ⟨base, _, _, _, _, _, h6⟩ := x.x
  cases st with
  | new => obtain ⟨oe, vs, a0, he, hc, _⟩ := h6; exact ⟨oe, he, hc⟩
  | «at» fl => obtain ⟨a0, oe, vs, T, oT, ts, he, hc, _⟩ := h6; exact ⟨oe, he, hc.1⟩
end Mine
namespace Mine
open PySem PySem.Calls PyProof.Rows PySem.W
open Sem (wp)
/-! ## iter, object(), len of an iterator, is, slices -/
namespace OB
theorem mro : mroOf (.type "object") = pure [.type "object"] := by rw [mroOf_type]; kernel_rfl
theorem lookupNew : typeLookup (.type "object") "__new__" = pure (some (.builtin "object.__new__")) := by rw [typeLookup_type, builtinLookup_eq_fast]; kernel_rfl
theorem lookupInit : typeLookup (.type "object") "__init__" = pure (some (.builtin "object.__init__")) := by rw [typeLookup_type, builtinLookup_eq_fast]; kernel_rfl
theorem sub : isSubtype (.type "object") (.type "object") = pure true := by rw [isSubtype_type]; kernel_rfl
theorem slotInit : Slot "object" "__init__" "object.__init__" := .of (owner := "object") (n := "__init__") lookupInit (by decide +kernel) (by decide +kernel) (by decide +kernel) (by first | exact .inl (by decide +kernel) | exact .inr (by decide +kernel)) sub
theorem called : TypeCalled "object" "object.__new__" "object.__init__" :=
  ⟨by decide +kernel, by decide +kernel, ⟨_, _, mro⟩, madeBy_type mro lookupNew (by decide +kernel), by decide +kernel, sub, slotInit⟩
theorem typeCall : checkTypeCall "object" ⟨[], []⟩ = pure () := by kernel_rfl
theorem newCall : checkBuiltinCall "object.__new__" ⟨[.type "object"], []⟩ = pure () := by kernel_rfl
theorem initCall (a : Value) : argsOk "object.__init__" ⟨[a], []⟩ := by unfold argsOk; kernel_rfl
theorem entryNew : entryFor table "object.__new__" = some Builtin.«object.__new__» := entryFor_of_tree (by kernel_rfl)
theorem made : Bind.madeBy (.type "object") = pure (some "object.__new__") := madeBy_type mro lookupNew (by decide +kernel)
theorem here : Bind.madeHere "object.__new__" (.type "object") = pure () := by
  unfold Bind.madeHere
  have : Bind.staticBase (.type "object") = pure (.type "object") := by rw [show Bind.staticBase (.type "object") = _ from rfl]; first | rfl | kernel_rfl
  rw [this]
  simp only [pure_bind, made]
  rw [if_neg (by decide +kernel)]
end OB
section
variable {prog : Program} {w : World} {A : Around} {E : Value → Shared → Prop} {s : Shared} {c : Cx} {m : Str → Option Value} {ℓ : List (Addr × Kn)}
theorem callIter {x : Value} {Q : Value → Shared → Prop} (h : wpAny (model prog w) A.in1 (pyIter x) Q E s) : wpAny (model prog w) A (call (.builtin "iter") [x]) Q E s := by
  refine Calls.call_function_entry (by decide +kernel) (by decide +kernel) (b := Builtin.«iter») (entryFor_of_tree (by kernel_rfl)) (by unfold argsOk; kernel_rfl) ?_
  show wpAny _ _ (pyIter x >>= fun r => ret r) _ _ _
  exact wpAny_bind (wpAny_mono h (fun v s' hq => wpAny_pure ⟨_, rfl, hq⟩) fun _ _ x => x)
abbrev obj0 : Obj := { cls := .type "object", data := .plain }
theorem callObject {Q : Value → Shared → Prop} (h : Q (.ref s.heap.objs.size) { s with heap := s.heap.push obj0 }) : wpAny (model prog w) A (call (.type "object") []) Q E s := by
  refine callType_codes (Q₁ := fun obj s₁ => obj = .ref s.heap.objs.size ∧ s₁ = { s with heap := s.heap.push obj0 }) OB.called OB.typeCall PySem.F.entry_object_init ?_ fun obj s₁ h₁ => ?_
  · refine codeAny_of_tree ?_
    refine wpAny_bind (wpAny_of_eq OB.newCall (wpAny_pure ⟨plainId_quiet (by decide +kernel) _, codeAny_builtin OB.entryNew ?_⟩))
    rw [Around.under_plainId (by decide +kernel) _]
    unfold Builtin.«object.__new__»
    dsimp only
    refine wpAny_bind (wpAny_of_eq (a := true) rfl ?_)
    rw [if_neg (by decide), if_neg (by decide +kernel)]
    refine wpAny_bind (wpAny_of_eq (a := ()) OB.here ?_)
    rw [if_neg (by decide), if_neg (by decide +kernel)]
    refine wpAny_bind (wpAny_pure (wpAny_bind (wpAny_newObj_type ?_)))
    dsimp only
    rw [if_neg (by decide +kernel)]
    exact wpAny_pure ⟨rfl, rfl⟩
  · obtain ⟨rfl, rfl⟩ := h₁
    exact ⟨⟨_, Heap.get?_push_size _ rfl, rfl⟩, OB.initCall _, wpAny_pure ⟨rfl, h⟩⟩
end
end Mine
namespace Mine
open PySem PySem.Calls PyProof.Rows PySem.W
open Sem (wp)
theorem noLen : typeLookup (.type "list_iterator") "__len__" = pure none := by rw [typeLookup_type, builtinLookup_eq_fast]; kernel_rfl
theorem pick_upto (vs : List Value) (n : Nat) : slicePick vs.toArray none (some (n : Int)) none = (vs.take n).toArray := by
  rw [slicePick_upto']
theorem pick_from (vs : List Value) (n : Nat) : slicePick vs.toArray (some (n : Int)) none none = (vs.drop n).toArray := by
  rw [slicePick_from']
section
variable {prog : Program} {w : World} {A : Around} {E : Value → Shared → Prop} {s : Shared} {c : Cx} {m : Str → Option Value} {ℓ : List (Addr × Kn)}
theorem lenNo {it : Addr} {Q : Value → Shared → Prop} (hT : s.TypeIs (.ref it) "list_iterator") (hh : A.handled = none) (h : ∀ h' tk e, Heap.NewExc s.heap h' e "TypeError" → E (.ref e) { s with heap := h', toks := tk }) : wpAny (model prog w) A (call (.builtin "len") [.ref it]) Q E s := by
  refine Calls.call_function_entry kind_len plain_len entry_len (by unfold argsOk; kernel_rfl) ?_
  show wpAny _ _ (callSpecial? (.ref it) (Str.ofString "__len__") >>= fun r => _) _ _ _
  refine wpAny_bind (wpAny_callSpecial?_none (name := Str.ofString "__len__") hT noLen ?_)
  refine wpAny_bind (wpAny_rule ?_)
  refine wpAny_bind (wpAny_typeNameOf' hT (by decide) ?_)
  exact wpAny_raiseErrorMade plainExc_TypeError hh h (by decide +kernel)
theorem isOther {x y : Addr} {ox oy : Obj} {Q : Value → Shared → Prop} (hxy : x ≠ y) (hx : s.heap.get? x = some ox) (hy : s.heap.get? y = some oy) (hnt : oy.cls ≠ .type "tuple") (h : Q (.bool false) s) : wpAny (model prog w) A (compareOp .Is (.ref x) (.ref y)) Q E s := by
  show wpAny _ A (do return .bool (← isSame (.ref x) (.ref y))) Q E s
  refine wpAny_bind ?_
  show wpAny _ A (if (x == y) = true then pure true else _) _ E s
  rw [if_neg (by simpa using hxy)]
  refine wpAny_bind (wpAny_load hx (wpAny_bind (wpAny_load hy ?_)))
  split
  · rename_i h1 _ _; exact absurd h1 hnt
  · exact wpAny_pure (wpAny_pure h)
theorem truthyL {l : Addr} {vs : List Value} {Q : Bool → Shared → Prop} (F : Fx c m ℓ s) (hl : At s.heap l (.list vs)) (hz : vs.length < 2 ^ 20) (h : ∀ s', Fx c m ℓ s' → Q (decide (vs ≠ [])) s') : wpAny (model prog w) A (truthy (.ref l)) Q E s := by
  refine wpAny_truthy_list hl.isList (by rw [List.size_toArray]; exact om150 hz) ?_
  have : (!vs.toArray.isEmpty) = decide (vs ≠ []) := by cases vs <;> simp
  rw [this]
  exact h _ (F.toks _)
abbrev sliceOb (lo hi : Value) : Obj := { cls := .type "slice", data := .fields #[lo, hi, .none] }
theorem sliceTo {value slice : Expr} {l sl : Addr} {vs : List Value} {n : Nat} {t : Tok} {Q : Value → Shared → Prop} (F : Fx c m ℓ s) (hl : At s.heap l (.list vs)) (hsl : At s.heap sl (.ex (sliceOb .none (.int n t)))) (hz : vs.length < 2 ^ 20)
    (h : ∀ D s', Fx c m ((D, .lst (vs.take n) 0) :: ℓ) s' → Fresh c D → Q (.ref D) s')
    (hs : subscripted slice false (.ref l) (.ref sl) = operate [.ref sl, .ref l] (getItem (.ref l) (.ref sl)) := by with_unfolding_all rfl) :
    wpAny (model prog w) A (subscriptTail value slice (.ref l) (.ref sl)) Q E s := by
  refine tail_any hl.isList.typeIs slot_list_getitem.lookup (wpAny_getItem_list_slice hl.isList ⟨_, hsl.get, rfl, rfl⟩ .none (.int n t) .none (by simp) ?_ (by rw [List.size_toArray, sizeLine_eq]; exact om82 hz)) hs
  rw [pick_upto]
  exact h _ _ (F.pushE _) F.new
theorem sliceFrom {value slice : Expr} {l sl : Addr} {vs : List Value} {n : Nat} {t : Tok} {Q : Value → Shared → Prop} (F : Fx c m ℓ s) (hl : At s.heap l (.list vs)) (hsl : At s.heap sl (.ex (sliceOb (.int n t) .none))) (hz : vs.length < 2 ^ 20)
    (h : ∀ D s', Fx c m ((D, .lst (vs.drop n) 0) :: ℓ) s' → Fresh c D → Q (.ref D) s')
    (hs : subscripted slice false (.ref l) (.ref sl) = operate [.ref sl, .ref l] (getItem (.ref l) (.ref sl)) := by with_unfolding_all rfl) :
    wpAny (model prog w) A (subscriptTail value slice (.ref l) (.ref sl)) Q E s := by
  refine tail_any hl.isList.typeIs slot_list_getitem.lookup (wpAny_getItem_list_slice hl.isList ⟨_, hsl.get, rfl, rfl⟩ (.int n t) .none .none (by simp) ?_ (by rw [List.size_toArray, sizeLine_eq]; exact om82 hz)) hs
  rw [pick_from]
  exact h _ _ (F.pushE _) F.new
theorem sSubscript {value slice : Expr} {pos : Pos} {env : Env} {Q : Value → Shared → Prop} (h : wpS (model prog w) A (eval value env) (fun o s₁ => wpAny (model prog w) A (eval slice env) (fun i s₂ => wpAny (model prog w) A (subscriptTail value slice o i) Q E s₂) E s₁) E s) :
    wpS (model prog w) A (eval (.Subscript value slice pos) env) Q E s := by
  rw [eval_Subscript]
  exact sBind (sMono h (fun o s₁ h₁ => toS (wpAny_bind (wpAny_holding (wpAny_mono h₁ (fun i s₂ h₂ => wpAny_bind (wpAny_standAt h₂)) fun _ _ x => x)))) fun _ _ x => x)
/-- a[:n], a[n:] as expressions -/
theorem upTo {p : Pos} {up : Expr} {env : Env} {Q : Value → Shared → Prop} (h : wpAny (model prog w) A (eval up env) (fun u s₂ => Q (.ref s₂.heap.objs.size) { s₂ with heap := s₂.heap.push (sliceOb .none u) }) E s) : wpAny (model prog w) A (eval (.Slice none (some up) none p) env) Q E s :=
  wpAny_Slice (wpAny_pure (wpAny_mono (by rw [evalPart_some]; exact h) (fun u s₂ hq => wpAny_pure hq) fun _ _ x => x))
theorem fromOn {p : Pos} {lo : Expr} {env : Env} {Q : Value → Shared → Prop} (h : wpAny (model prog w) A (eval lo env) (fun u s₂ => Q (.ref s₂.heap.objs.size) { s₂ with heap := s₂.heap.push (sliceOb u .none) }) E s) : wpAny (model prog w) A (eval (.Slice (some lo) none none p) env) Q E s :=
  wpAny_Slice (wpAny_mono (by rw [evalPart_some]; exact h) (fun u s₂ hq => wpAny_pure (wpAny_pure hq)) fun _ _ x => x)
end
end Mine
namespace Mine
open PySem PySem.Calls PyProof.Rows PySem.W
open Sem (wp)
/-! ## what nsmallest and nlargest have in common -/
structure Tri where
  j : Nat
  a : Addr
  o : Int
  t : Tok
  u : Tok
abbrev Tri.kn (out : Nat → List UInt8) (vs : List Value) (e : Tri) : Kn := .trip (out e.j) e.t e.o e.u (vs.getD e.j .none)
abbrev triLed (out : Nat → List UInt8) (vs : List Value) (U : List Tri) : List (Addr × Kn) := U.map fun e => (e.a, e.kn out vs)
abbrev triRefs (U : List Tri) : List Value := U.map fun e => .ref e.a
/-- Ext through two stretches -/
theorem Ext.trans2 {S S' : List Addr} {h₀ h₁ h₂ : Heap} (x : Ext S h₀ h₁) (y : Ext S' h₁ h₂) (hS : ∀ a ∈ S', a ∈ S ∨ h₀.get? a = none) : Ext S h₀ h₂ := fun b o hb e => by
  obtain ⟨o1, e1, s1⟩ := x b o hb e
  obtain ⟨o2, e2, s2⟩ := y b o1 (fun q => (hS b q).elim hb fun r => by rw [r] at e; cases e) e1
  exact ⟨o2, e2, s1.trans s2⟩
/-- what stands at a call of nsmallest or nlargest, all the way through its frame -/
structure NS (prog : Program) (w : World) (G : Heap) (fr : List Env) (env : Env) (A : Around) (sE : Shared) (L : Addr) (S : List Addr) (f : Addr) (vs : List Value) (err : Nat → Option String) (out : Nat → List UInt8) (kc : Addr) : Prop where
  B : Base G
  rm : Rm A 12
  hA : A.frames = some (env :: fr)
  hfr : Frs sE.heap fr
  hg : ∀ a ∈ frsOf fr, G.get? a = none ∧ a ∉ S
  key : ∀ i v, vs[i]? = some v → KeyOn prog w G sE.heap S f v (err i) (out i)
  fn : ∃ o fd, sE.heap.get? f = some o ∧ o.data = .func fd
  fS : f ∉ S
  kind : env.scope.kind ≠ .module
  frame : env.frame = some L
  gl : G.get? L = none
  N : vs.length ≤ 16
section
variable {prog : Program} {w : World} {G : Heap} {fr : List Env} {env : Env} {A : Around} {sE : Shared} {L : Addr} {S : List Addr} {f : Addr} {vs : List Value} {err : Nat → Option String} {out : Nat → List UInt8} {kc : Addr}
theorem NS.still (n : NS prog w G fr env A sE L S f vs err out kc) (m : Str → Option Value) : Still ⟨G, L, S, sE⟩ m G sE.heap S (env :: fr) :=
  ⟨rfl, fun ℓ s F => (F.frs n.hfr n.hg n.kind n.frame).1, fun ℓ s F => F.post.ext, fun a ha => by
    obtain ⟨e, he, hl⟩ := List.mem_filterMap.mp ha
    rcases List.mem_cons.mp he with rfl | he
    · rw [n.frame] at hl; injection hl with hl; rw [← hl]; exact n.gl
    · exact (n.hg a (List.mem_filterMap.mpr ⟨e, he, hl⟩)).1⟩
/-- the element of the comprehension: a key, an int, an item -/
theorem NS.frs (n : NS prog w G fr env A sE L S f vs err out kc) : ∀ a ∈ frsOf (env :: fr), G.get? a = none := (n.still fun _ => none).n
end
def loopsIn : List Stmt → List (Expr × Expr × Scope × Pos) := fun l => l.filterMap fun
  | .Assign _ (.ListComp e [⟨t, _, _, _⟩] sc p) _ => some (e, t, sc, p)
  | .Return (some (.ListComp e [⟨t, _, _, _⟩] sc p)) _ => some (e, t, sc, p)
  | _ => none
def nsScope (i k : Nat) : Scope := ((loopsIn (fdAt i).body)[k]?.map (·.2.2.1)).getD (fdAt i).scope
end Mine
namespace Mine
open PySem PySem.Calls PyProof.Rows PySem.W
open Sem (wp)
/-! ## comprehensions whose list is known to the letter -/
section
variable {prog : Program} {w : World} {A : Around} {E : Value → Shared → Prop} {s : Shared}
/-- the whole comprehension -/
theorem sCompX {elt target iter : Expr} {ifs : List Expr} {scope : Scope} {pos : Pos} {cl : List (Str × Addr)} {env : Env} {Q : Value → Shared → Prop} (hclos : closureFor scope env = pure cl) (hkind : scope.kind = .function) (hcell : ∀ x ∈ scope.names, x.2 ≠ .cell)
    (hnames : ∀ x ∈ scope.names, x.2 = .local → scope.names.lookup x.1 = some .local)
    (h : wpAny (model prog w) A (eval iter env) (fun x s₁ => wpAny (model prog w) A (pyIter x) (fun it s₂ => ∀ h₁, h₁.Ns (s₂.heap.objs.size + 1) (fun _ => none) → (∀ b o, s₂.heap.get? b = some o → h₁.get? b = some o) → At h₁ s₂.heap.objs.size (.sqn 0 #[]) →
      (∀ {Q' : Value → Shared → Prop} {E' : Value → Shared → Prop}, Q' it { s₂ with heap := h₁ } → wpAny (model prog w) A (pyIter it) Q' E' { s₂ with heap := h₁ }) ∧
      codeS (model prog w) A (.compLoop (.ListComp elt [⟨target, iter, ifs, 0⟩] scope pos) 0 it (.ref s₂.heap.objs.size) (compEnvC scope cl (s₂.heap.objs.size + 1) env)) (fun r s' => (∃ m, s'.heap.Ns (s₂.heap.objs.size + 1) m) ∧ ∀ h', Heap.SameBut (s₂.heap.objs.size + 1) s'.heap h' → match r with
        | .ok _ => Q (.ref s₂.heap.objs.size) { s' with heap := h' }
        | .error x => wpAny (model prog w) A (passOn "comprehension.variables-let-go" x (compEnvC scope cl (s₂.heap.objs.size + 1) env) : Sem Value) (fun _ _ => False) E { s' with heap := h' }) { s₂ with heap := h₁ }) E s₁) E s)
    (hs : ∀ x, foldedSetIterable iter env x = pure x := by intro _; rfl) : wpS (model prog w) A (eval (.ListComp elt [⟨target, iter, ifs, 0⟩] scope pos) env) Q E s := by
  rw [arm_eval_ListComp]
  show wpS _ A (comprehension _ scope env _ (newList []) false (eval iter env) none) Q E s
  unfold comprehension
  rw [hclos]
  refine sBind (sMono (toS h) (fun x s₁ h₁ => ?_) fun _ _ x => x)
  refine sBind (toS (wpAny_standAt ?_))
  refine sBind (toS (wpAny_of_eq (hs x) ?_))
  refine sBind (sHolding (sMono (toS h₁) (fun it s₂ h₂ => ?_) fun _ _ x => x))
  refine sBind (toS (wpAny_newObj_type ?_))
  refine sBind (sPure (sBind (toS (wpAny_newFunctionEnv hcell (fun _ q => nomatch q) (fun h₁ hns hsb => ?_) hkind))))
  have hsz : (s₂.heap.push { cls := .type "list", data := .seq ([] : List Value).toArray }).objs.size = s₂.heap.objs.size + 1 := Heap.size_push _ _
  dsimp only at hns hsb ⊢
  rw [hsz] at hns hsb ⊢
  have old : ∀ b o, s₂.heap.get? b = some o → h₁.get? b = some o := fun b o e => hsb.extBut b o (Nat.ne_of_lt (Nat.lt_succ_of_lt (Heap.lt_size e))) (Heap.get?_push_of_some _ (Heap.get?_push_of_some _ e))
  have hacc : At h₁ s₂.heap.objs.size (.sqn 0 #[]) := At.of (hsb.extBut _ _ (Nat.ne_of_lt (Nat.lt_succ_self _)) (Heap.get?_push_of_some _ (Heap.get?_push_size _ rfl)))
  obtain ⟨hself, h₃⟩ := h₂ h₁ hns old hacc
  have hv : ∀ x ∈ (scope.names.filter fun x => (x.2 == .local || x.2 == .cell) && x.1 != (".0" : Str)).reverse, x.2 = .local → Env.kindOf (compEnvC scope cl (s₂.heap.objs.size + 1) env) x.1 = some .local :=
    fun x hx hl => lookup_relabel_local (hnames x (List.mem_filter.mp (List.mem_reverse.mp hx)).1 hl)
  have hk' : (compEnvC scope cl (s₂.heap.objs.size + 1) env).scope.kind = .function := hkind
  refine sHolding (sBind (sAttempt (sHolding (sRun (codeSMono (sStart hself h₃) fun r s' hr => ?_)))))
  obtain ⟨⟨m, hn⟩, hr⟩ := hr
  cases r with
  | ok f => exact sBind (toS (wpAny_holding (wpAny_comp_letGo (cenv := compEnvC scope cl (s₂.heap.objs.size + 1) env) hk' _ s' m hv hn fun h' m' _ hs' => sPure (hr h' hs'))))
  | error x => exact sBind (toS (wpAny_holding (wpAny_comp_letGo (cenv := compEnvC scope cl (s₂.heap.objs.size + 1) env) hk' _ s' m hv hn fun h' m' _ hs' => sMono (toS (hr h' hs')) (fun _ _ q => q.elim) fun _ _ y => y)))
end
section
variable {c : Cx} {m : Str → Option Value} {ℓ : List (Addr × Kn)} {s : Shared}
/-- the frame of a comprehension, laid over the function's -/
theorem Fx.compX {k : Kn} (F : Fx c m ℓ s) (S : List Addr) (hS : ∀ a ∈ S, c.G.get? a = none ∧ ∃ o, s.heap.get? a = some o) {h₁ : Heap} (hns : h₁.Ns (s.heap.objs.size + 1) (fun _ => none)) (hk : ∀ b o, s.heap.get? b = some o → h₁.get? b = some o) (hacc : At h₁ s.heap.objs.size k) :
    Fx ⟨c.G, s.heap.objs.size + 1, S, s⟩ (fun _ => none) ((s.heap.objs.size, k) :: ℓ) { s with heap := h₁ } := by
  have hno : s.heap.get? (s.heap.objs.size + 1) = none := Heap.get?_none_of_le (Nat.le_succ _)
  refine ⟨⟨h₁, _, rfl⟩, fun b o e => hk b o (F.kg b o e), hns, ?_, fun p hp => ?_, Ext.of_keeps hk, fun a ha => ?_, F.freshG_of hno, hno⟩
  · rw [List.map_cons, List.nodup_cons]
    refine ⟨fun q => ?_, F.nd⟩
    obtain ⟨p, hp, e⟩ := List.mem_map.mp q
    have := (F.led p hp).2.lt
    rw [e] at this; exact Nat.lt_irrefl _ this
  · have hat : At h₁ p.1 p.2 := by
      rcases List.mem_cons.mp hp with rfl | hp
      · exact hacc
      · obtain ⟨o, e, q⟩ := (F.led p hp).2; exact ⟨o, hk _ _ e, q⟩
    exact ⟨hat.notNs hns, hat⟩
  · obtain ⟨o, e⟩ := (hS a ha).2; exact ⟨o, hk _ _ e⟩
/-- all that a comprehension's frame needs, at once -/
theorem Fx.compKitX {k : Kn} (F : Fx c m ℓ s) (S : List (Addr × Kn)) (hS : ∀ p ∈ S, p ∈ ℓ) (own : ∀ p ∈ S, Own c p.1) {h₁ : Heap} (hns : h₁.Ns (s.heap.objs.size + 1) (fun _ => none)) (hk : ∀ b o, s.heap.get? b = some o → h₁.get? b = some o) (hacc : At h₁ s.heap.objs.size k) :
    Fx ⟨c.G, s.heap.objs.size + 1, S.map (·.1), s⟩ (fun _ => none) ((s.heap.objs.size, k) :: ℓ) { s with heap := h₁ } ∧ Fresh ⟨c.G, s.heap.objs.size + 1, S.map (·.1), s⟩ s.heap.objs.size ∧ (∀ p ∈ S, Own ⟨c.G, s.heap.objs.size + 1, S.map (·.1), s⟩ p.1) ∧
    ∀ {m' : Str → Option Value} {ℓ' : List (Addr × Kn)} {s' : Shared} {h' : Heap}, Fx ⟨c.G, s.heap.objs.size + 1, S.map (·.1), s⟩ m' ℓ' s' → Heap.SameBut (s.heap.objs.size + 1) s'.heap h' → Fx c m ℓ' { s' with heap := h' } := by
  have al : ∀ a ∈ S.map (·.1), c.G.get? a = none ∧ ∃ o, s.heap.get? a = some o := fun a ha => by
    obtain ⟨p, hp, rfl⟩ := List.mem_map.mp ha
    exact ⟨(own p hp).off, F.alive p (hS p hp)⟩
  have no : ∀ k, s.heap.objs.size ≤ k → k ∉ S.map (·.1) := fun k hk q => by
    obtain ⟨o, ho⟩ := (al k q).2
    exact absurd (Heap.lt_size ho) (Nat.not_lt.mpr hk)
  refine ⟨F.compX _ al hns hk hacc, ⟨⟨get?_size _, no _ (Nat.le_refl _)⟩, F.freshG_of (get?_size _)⟩, fun p hp => ⟨.inl (List.mem_map.mpr ⟨p, hp, rfl⟩), (own p hp).off⟩, fun F' hs => F.back F' (fun a ha => ?_) (no _ (Nat.le_succ _)) hs⟩
  obtain ⟨p, hp, rfl⟩ := List.mem_map.mp ha
  exact ⟨own p hp, F.neL (hS p hp)⟩
end
end Mine
namespace Mine
open PySem PySem.Calls PyProof.Rows PySem.W
open Sem (wp)
/-! ## x = [comprehension]: the store comes first -/
section
variable {prog : Program} {w : World} {A : Around} {E : Value → Shared → Prop} {s : Shared}
/-- a comprehension whose list is stored before its variables go -/
theorem sCompU {nm : Str} {xpos spos : Pos} {elt target iter : Expr} {ifs : List Expr} {scope : Scope} {pos : Pos} {cl : List (Str × Addr)} {env : Env} {Q : Flow → Shared → Prop} (hclos : closureFor scope env = pure cl) (hkind : scope.kind = .function) (hcell : ∀ x ∈ scope.names, x.2 ≠ .cell)
    (hnames : ∀ x ∈ scope.names, x.2 = .local → scope.names.lookup x.1 = some .local)
    (h : wpAny (model prog w) A (eval iter env) (fun x s₁ => wpAny (model prog w) A (pyIter x) (fun it s₂ => ∀ h₁, h₁.Ns (s₂.heap.objs.size + 1) (fun _ => none) → (∀ b o, s₂.heap.get? b = some o → h₁.get? b = some o) → At h₁ s₂.heap.objs.size (.sqn 0 #[]) →
      (∀ {Q' : Value → Shared → Prop} {E' : Value → Shared → Prop}, Q' it { s₂ with heap := h₁ } → wpAny (model prog w) A (pyIter it) Q' E' { s₂ with heap := h₁ }) ∧
      codeS (model prog w) A (.compLoop (.ListComp elt [⟨target, iter, ifs, 0⟩] scope pos) 0 it (.ref s₂.heap.objs.size) (compEnvC scope cl (s₂.heap.objs.size + 1) env)) (fun r s' => match r with
        | .ok _ => wpAny (model prog w) A (storeName env nm (.ref s₂.heap.objs.size)) (fun _ s'' => (∃ m, s''.heap.Ns (s₂.heap.objs.size + 1) m) ∧ ∀ h', Heap.SameBut (s₂.heap.objs.size + 1) s''.heap h' → Q .next { s'' with heap := h' }) E s'
        | .error x => (∃ m, s'.heap.Ns (s₂.heap.objs.size + 1) m) ∧ ∀ h', Heap.SameBut (s₂.heap.objs.size + 1) s'.heap h' → wpAny (model prog w) A (PySem.passOn "comprehension.variables-let-go" x (compEnvC scope cl (s₂.heap.objs.size + 1) env) : Sem Value) (fun _ _ => False) E { s' with heap := h' }) { s₂ with heap := h₁ }) E s₁) E s)
    (hs : ∀ x, foldedSetIterable iter env x = pure x := by intro _; rfl) (hsw : swapsWith (.ListComp elt [⟨target, iter, ifs, 0⟩] scope pos) (some (.Name nm xpos)) spos.line env = pure true := by rfl) :
    wpS (model prog w) A (exec (.Assign [.Name nm xpos] (.ListComp elt [⟨target, iter, ifs, 0⟩] scope pos) spos) env) Q E s := by
  rw [exec_Assign_Name_used _ _ _ _ hsw]
  refine sBind (sStand (sBind ?_))
  show wpS _ A (do let _ ← comprehension (.ListComp elt [⟨target, iter, ifs, 0⟩] scope pos) scope env _ (newList []) false (eval iter env) (some (assign (.Name nm xpos) env))) _ _ s
  refine sBind (sMono (Q := fun _ s' => Q .next s') ?_ (fun _ s' hq => sPure (sPure hq)) fun _ _ e => e)
  unfold comprehension
  rw [hclos]
  refine sBind (sMono (toS h) (fun x s₁ h₁ => ?_) fun _ _ x => x)
  refine sBind (toS (wpAny_standAt ?_))
  refine sBind (toS (wpAny_of_eq (hs x) ?_))
  refine sBind (sHolding (sMono (toS h₁) (fun it s₂ h₂ => ?_) fun _ _ x => x))
  refine sBind (toS (wpAny_standAt ?_))
  refine sBind (toS (wpAny_newObj_type ?_))
  refine sBind (sPure (sBind (toS (wpAny_newFunctionEnv hcell (fun _ q => nomatch q) (fun h₁ hns hsb => ?_) hkind))))
  have hsz : (s₂.heap.push { cls := .type "list", data := .seq ([] : List Value).toArray }).objs.size = s₂.heap.objs.size + 1 := Heap.size_push _ _
  dsimp only at hns hsb ⊢
  rw [hsz] at hns hsb ⊢
  have old : ∀ b o, s₂.heap.get? b = some o → h₁.get? b = some o := fun b o e => hsb.extBut b o (Nat.ne_of_lt (Nat.lt_succ_of_lt (Heap.lt_size e))) (Heap.get?_push_of_some _ (Heap.get?_push_of_some _ e))
  have hacc : At h₁ s₂.heap.objs.size (.sqn 0 #[]) := At.of (hsb.extBut _ _ (Nat.ne_of_lt (Nat.lt_succ_self _)) (Heap.get?_push_of_some _ (Heap.get?_push_size _ rfl)))
  obtain ⟨hself, h₃⟩ := h₂ h₁ hns old hacc
  have hv : ∀ x ∈ (scope.names.filter fun x => (x.2 == .local || x.2 == .cell) && x.1 != (".0" : Str)).reverse, x.2 = .local → Env.kindOf (compEnvC scope cl (s₂.heap.objs.size + 1) env) x.1 = some .local :=
    fun x hx hl => lookup_relabel_local (hnames x (List.mem_filter.mp (List.mem_reverse.mp hx)).1 hl)
  have hk' : (compEnvC scope cl (s₂.heap.objs.size + 1) env).scope.kind = .function := hkind
  have hv' : ∀ y ∈ (scope.names.filter fun x => (x.2 == .local || x.2 == .cell) && x.1 != (".0" : Str)).reverse.drop 1 ++ (scope.names.filter fun x => (x.2 == .local || x.2 == .cell) && x.1 != (".0" : Str)).reverse.take 1, y.2 = .local → Env.kindOf (compEnvC scope cl (s₂.heap.objs.size + 1) env) y.1 = some .local := fun y hy hl => by
    rcases List.mem_append.mp hy with h1 | h1
    · exact hv y (List.mem_of_mem_drop h1) hl
    · exact hv y (List.mem_of_mem_take h1) hl
  refine sHolding (sBind (sAttempt (sHolding (sRun (codeSMono (sStart hself h₃) fun r s' hr => ?_)))))
  cases r with
  | ok f =>
    refine sBind (toS (wpAny_rule ?_))
    refine sBind (toS (wpAny_holding (wpAny_assign_Name (wpAny_mono hr (fun _ s'' hr' => ?_) fun _ _ h' => h'))))
    obtain ⟨⟨m, hn⟩, hr'⟩ := hr'
    exact sBind (toS (wpAny_comp_letGo (cenv := compEnvC scope cl (s₂.heap.objs.size + 1) env) hk' _ s'' m hv' hn fun h' m' _ hs' => sPure (hr' h' hs')))
  | error x =>
    obtain ⟨⟨m, hn⟩, hr⟩ := hr
    exact sBind (toS (wpAny_holding (wpAny_comp_letGo (cenv := compEnvC scope cl (s₂.heap.objs.size + 1) env) hk' _ s' m hv hn fun h' m' _ hs' => sMono (toS (hr h' hs')) (fun _ _ q => q.elim) fun _ _ y => y)))
/-- a comprehension whose list is stored before its variables go -/
theorem aCompU {nm : Str} {xpos spos : Pos} {elt target iter : Expr} {ifs : List Expr} {scope : Scope} {pos : Pos} {cl : List (Str × Addr)} {env : Env} {Q : Flow → Shared → Prop} (hclos : closureFor scope env = pure cl) (hkind : scope.kind = .function) (hcell : ∀ x ∈ scope.names, x.2 ≠ .cell)
    (hnames : ∀ x ∈ scope.names, x.2 = .local → scope.names.lookup x.1 = some .local)
    (h : wpAny (model prog w) A (eval iter env) (fun x s₁ => wpAny (model prog w) A (pyIter x) (fun it s₂ => ∀ h₁, h₁.Ns (s₂.heap.objs.size + 1) (fun _ => none) → (∀ b o, s₂.heap.get? b = some o → h₁.get? b = some o) → At h₁ s₂.heap.objs.size (.sqn 0 #[]) →
      (∀ {Q' : Value → Shared → Prop} {E' : Value → Shared → Prop}, Q' it { s₂ with heap := h₁ } → wpAny (model prog w) A (pyIter it) Q' E' { s₂ with heap := h₁ }) ∧
      codeAny (model prog w) A (.compLoop (.ListComp elt [⟨target, iter, ifs, 0⟩] scope pos) 0 it (.ref s₂.heap.objs.size) (compEnvC scope cl (s₂.heap.objs.size + 1) env)) (fun r s' => match r with
        | .ok _ => wpAny (model prog w) A (storeName env nm (.ref s₂.heap.objs.size)) (fun _ s'' => (∃ m, s''.heap.Ns (s₂.heap.objs.size + 1) m) ∧ ∀ h', Heap.SameBut (s₂.heap.objs.size + 1) s''.heap h' → Q .next { s'' with heap := h' }) E s'
        | .error x => (∃ m, s'.heap.Ns (s₂.heap.objs.size + 1) m) ∧ ∀ h', Heap.SameBut (s₂.heap.objs.size + 1) s'.heap h' → wpAny (model prog w) A (PySem.passOn "comprehension.variables-let-go" x (compEnvC scope cl (s₂.heap.objs.size + 1) env) : Sem Value) (fun _ _ => False) E { s' with heap := h' }) { s₂ with heap := h₁ }) E s₁) E s)
    (hs : ∀ x, foldedSetIterable iter env x = pure x := by intro _; rfl) (hsw : swapsWith (.ListComp elt [⟨target, iter, ifs, 0⟩] scope pos) (some (.Name nm xpos)) spos.line env = pure true := by rfl) :
    wpAny (model prog w) A (exec (.Assign [.Name nm xpos] (.ListComp elt [⟨target, iter, ifs, 0⟩] scope pos) spos) env) Q E s := by
  rw [exec_Assign_Name_used _ _ _ _ hsw]
  refine wpAny_bind (wpAny_standAt (wpAny_bind ?_))
  show wpAny _ A (do let _ ← comprehension (.ListComp elt [⟨target, iter, ifs, 0⟩] scope pos) scope env _ (newList []) false (eval iter env) (some (assign (.Name nm xpos) env))) _ _ s
  refine wpAny_bind (wpAny_mono (Q := fun _ s' => Q .next s') ?_ (fun _ s' hq => wpAny_pure (wpAny_pure hq)) fun _ _ e => e)
  unfold comprehension
  rw [hclos]
  refine wpAny_bind (wpAny_mono (id h) (fun x s₁ h₁ => ?_) fun _ _ x => x)
  refine wpAny_bind (id (wpAny_standAt ?_))
  refine wpAny_bind (id (wpAny_of_eq (hs x) ?_))
  refine wpAny_bind (wpAny_holding (wpAny_mono (id h₁) (fun it s₂ h₂ => ?_) fun _ _ x => x))
  refine wpAny_bind (id (wpAny_standAt ?_))
  refine wpAny_bind (id (wpAny_newObj_type ?_))
  refine wpAny_bind (wpAny_pure (wpAny_bind (id (wpAny_newFunctionEnv hcell (fun _ q => nomatch q) (fun h₁ hns hsb => ?_) hkind))))
  have hsz : (s₂.heap.push { cls := .type "list", data := .seq ([] : List Value).toArray }).objs.size = s₂.heap.objs.size + 1 := Heap.size_push _ _
  dsimp only at hns hsb ⊢
  rw [hsz] at hns hsb ⊢
  have old : ∀ b o, s₂.heap.get? b = some o → h₁.get? b = some o := fun b o e => hsb.extBut b o (Nat.ne_of_lt (Nat.lt_succ_of_lt (Heap.lt_size e))) (Heap.get?_push_of_some _ (Heap.get?_push_of_some _ e))
  have hacc : At h₁ s₂.heap.objs.size (.sqn 0 #[]) := At.of (hsb.extBut _ _ (Nat.ne_of_lt (Nat.lt_succ_self _)) (Heap.get?_push_of_some _ (Heap.get?_push_size _ rfl)))
  obtain ⟨hself, h₃⟩ := h₂ h₁ hns old hacc
  have hv : ∀ x ∈ (scope.names.filter fun x => (x.2 == .local || x.2 == .cell) && x.1 != (".0" : Str)).reverse, x.2 = .local → Env.kindOf (compEnvC scope cl (s₂.heap.objs.size + 1) env) x.1 = some .local :=
    fun x hx hl => lookup_relabel_local (hnames x (List.mem_filter.mp (List.mem_reverse.mp hx)).1 hl)
  have hk' : (compEnvC scope cl (s₂.heap.objs.size + 1) env).scope.kind = .function := hkind
  have hv' : ∀ y ∈ (scope.names.filter fun x => (x.2 == .local || x.2 == .cell) && x.1 != (".0" : Str)).reverse.drop 1 ++ (scope.names.filter fun x => (x.2 == .local || x.2 == .cell) && x.1 != (".0" : Str)).reverse.take 1, y.2 = .local → Env.kindOf (compEnvC scope cl (s₂.heap.objs.size + 1) env) y.1 = some .local := fun y hy hl => by
    rcases List.mem_append.mp hy with h1 | h1
    · exact hv y (List.mem_of_mem_drop h1) hl
    · exact hv y (List.mem_of_mem_take h1) hl
  refine wpAny_holding (wpAny_bind (wpAny_attempt (wpAny_holding (wpAny_run (codeAny_mono (aStart hself h₃) fun r s' hr => ?_)))))
  cases r with
  | ok f =>
    refine wpAny_bind (id (wpAny_rule ?_))
    refine wpAny_bind (id (wpAny_holding (wpAny_assign_Name (wpAny_mono hr (fun _ s'' hr' => ?_) fun _ _ h' => h'))))
    obtain ⟨⟨m, hn⟩, hr'⟩ := hr'
    exact wpAny_bind (id (wpAny_comp_letGo (cenv := compEnvC scope cl (s₂.heap.objs.size + 1) env) hk' _ s'' m hv' hn fun h' m' _ hs' => wpAny_pure (hr' h' hs')))
  | error x =>
    obtain ⟨⟨m, hn⟩, hr⟩ := hr
    exact wpAny_bind (id (wpAny_holding (wpAny_comp_letGo (cenv := compEnvC scope cl (s₂.heap.objs.size + 1) env) hk' _ s' m hv hn fun h' m' _ hs' => wpAny_mono (id (hr h' hs')) (fun _ _ q => q.elim) fun _ _ y => y)))
end
section
variable {c : Cx} {m : Str → Option Value} {ℓ : List (Addr × Kn)} {s : Shared}
theorem Fx.storeBack {C : Addr} {S : List Addr} {m' m2 : Str → Option Value} {ℓ' : List (Addr × Kn)} {s' : Shared} (F : Fx c m ℓ s) (F' : Fx ⟨c.G, C, S, s⟩ m' ℓ' s') (own : ∀ a ∈ S, Own c a ∧ a ≠ c.L) {h2 : Heap} {tk : Nat} (hs : ∀ b, b ≠ c.L → b ≠ C → h2.get? b = s'.heap.get? b) (hn : h2.Ns c.L m2) : Fx c m2 ℓ' { s' with heap := h2, toks := tk } := by
  have hC : s.heap.get? C = none := F'.el
  have hLC : c.L ≠ C := fun q => by obtain ⟨o, _, _, ho, _⟩ := F.ns; rw [q, hC] at ho; cases ho
  have nsL : s'.heap.Ns c.L m := F'.ext.ns (fun q => by rcases List.mem_cons.mp q with q | q; · exact hLC q
                                                        · exact (own _ q).2 rfl) F.ns
  obtain ⟨h₀, k₀, e₀⟩ := F'.sh
  obtain ⟨h₁, k₁, e₁⟩ := F.sh
  have led : ∀ p ∈ ℓ', p.1 ≠ c.L ∧ At h2 p.1 p.2 := fun p hp => by
    have hne := (F'.led p hp).2.notNs nsL
    obtain ⟨o, e, q⟩ := (F'.led p hp).2
    exact ⟨hne, o, (hs p.1 hne (F'.led p hp).1).trans e, q⟩
  refine ⟨⟨h2, tk, by rw [e₀, e₁]⟩, fun b o q => (hs b (fun r => ?_) fun r => ?_).trans (F'.kg b o q), hn, F'.nd, led, fun b o hb q => ?_, fun a ha => ?_, F.gl, F.el⟩
  · rw [r, F.gl] at q; cases q
  · have : c.G.get? C = none := F'.gl
    rw [r, this] at q; cases q
  · obtain ⟨o1, e1, s1⟩ := F.ext b o hb q
    have hbL : b ≠ c.L := fun r => hb (r ▸ .head _)
    have hbC : b ≠ C := fun r => by rw [r, hC] at e1; cases e1
    by_cases r : b ∈ S
    · exfalso
      rcases (own b r).1.may with q' | q'
      · exact hb (.tail _ q')
      · rw [q'.1] at q; cases q
    · obtain ⟨o2, e2, s2⟩ := F'.ext b o1 (fun t => by rcases List.mem_cons.mp t with t | t; · exact hbC t
                                                      · exact r t) e1
      exact ⟨o2, (hs b hbL hbC).trans e2, s1.trans s2⟩
  · by_cases r : a = c.L
    · obtain ⟨o, _, _, ho, _⟩ := hn; exact ⟨o, by rw [r]; exact ho⟩
    · obtain ⟨o1, e1⟩ := F.sal a ha
      have hbC : a ≠ C := fun t => by rw [t, hC] at e1; cases e1
      by_cases t : a ∈ S
      · obtain ⟨o2, e2⟩ := F'.sal a t
        exact ⟨o2, (hs a r hbC).trans e2⟩
      · obtain ⟨o2, e2, _⟩ := F'.ext a o1 (fun u => by rcases List.mem_cons.mp u with u | u; · exact hbC u
                                                       · exact t u) e1
        exact ⟨o2, (hs a r hbC).trans e2⟩
theorem Fx.storeUp {M : Model} {A : Around} {E : Value → Shared → Prop} {q : Str} {sc : Scope} {f : Addr} {cd : Value} {cl : List (Str × Addr)} {x : Str} {v : Value} {C : Addr} {S : List Addr} {m' : Str → Option Value} {ℓ' : List (Addr × Kn)} {s' : Shared} {Q : Shared → Prop} (F : Fx c m ℓ s) (F' : Fx ⟨c.G, C, S, s⟩ m' ℓ' s') (own : ∀ a ∈ S, Own c a ∧ a ≠ c.L)
    (h : ∀ s2, Fx c (fun y => if y = x then some v else m y) ℓ' s2 → Q s2) (hk : sc.kind = .function := by rfl) (hx : (envX q sc c.L f cd cl).kindOf x = some .local := by rfl) :
    wpAny M A (storeName (envX q sc c.L f cd cl) x v) (fun _ s'' => (∃ m, s''.heap.Ns C m) ∧ ∀ h', Heap.SameBut C s''.heap h' → Q { s'' with heap := h' }) E s' := by
  have hC : s.heap.get? C = none := F'.el
  have hLC : c.L ≠ C := fun q => by obtain ⟨o, _, _, ho, _⟩ := F.ns; rw [q, hC] at ho; cases ho
  have nsL : s'.heap.Ns c.L m := F'.ext.ns (fun q => by rcases List.mem_cons.mp q with q | q; · exact hLC q
                                                        · exact (own _ q).2 rfl) F.ns
  refine wpAny_storeName_local hx nsL (fun h1 hn hs1 => ⟨⟨_, F'.ns.sameBut hs1 (Ne.symm hLC)⟩, fun h2 hs2 => h _ ?_⟩) (by show (sc.kind == .class || (sc.kind == .module && c.L != mainGlobals)) = false; rw [hk]; rfl)
  exact F.storeBack F' own (tk := s'.toks + 1) (fun b hb1 hb2 => (hs2.2 b hb2).trans (hs1.2 b hb1)) (hn.sameBut hs2 hLC)
theorem Fx.kitOwn (F : Fx c m ℓ s) (S : List (Addr × Kn)) (hS : ∀ p ∈ S, p ∈ ℓ) (own : ∀ p ∈ S, Own c p.1) : ∀ a ∈ S.map (·.1), Own c a ∧ a ≠ c.L := fun a ha => by
  obtain ⟨p, hp, rfl⟩ := List.mem_map.mp ha
  exact ⟨own p hp, F.neL (hS p hp)⟩
end
end Mine
namespace Mine
open PySem PySem.Calls PyProof.Rows PySem.W
open Sem (wp)
section
variable {M : Model} {A : Around} {E : Value → Shared → Prop} {s : Shared} {env : Env}
theorem sTuple1 {e : Expr} {rest : List Expr} {k : Nat} {pos : Pos} {Q : Value → Shared → Prop} (h : wpS M A (eval e env) (fun v s₁ => wpAny M A (spliced (backTo pos (starEach rest env))) (fun vs s₂ => wpAny M A (newTuple (v :: vs)) Q E s₂) E s₁) E s)
    (he : starEach (e :: rest) env = (false, eval e env) :: starEach rest env := by rfl) : wpS M A (eval (.Tuple (e :: rest) k pos) env) Q E s := by
  show wpS M A (do standAt pos; newTuple (← spliced (backTo pos (starEach (e :: rest) env)))) Q E s
  refine sBind (sStand (sBind ?_))
  rw [he]
  show wpS M A (spliced ((false, eval e env) :: backTo pos (starEach rest env))) _ E s
  rw [spliced]
  refine sBind (sMono h (fun v s₁ h₁ => ?_) fun _ _ x => x)
  simp only [Bool.false_eq_true, if_false]
  exact toS (wpAny_bind (wpAny_pure (wpAny_bind (wpAny_holding (wpAny_mono h₁ (fun vs s₂ h₂ => wpAny_pure (toS h₂)) fun _ _ x => x)))))
end
section
variable {prog : Program} {w : World} {A : Around} {E : Value → Shared → Prop} {s : Shared} {c : Cx} {m : Str → Option Value} {ℓ : List (Addr × Kn)}
theorem zipIter {zp TI TO : Addr} {f0 : Value} {Q : Value → Shared → Prop} (F : Fx c m ℓ s) (hz : (zp, Kn.zip f0 TI TO) ∈ ℓ) (h : Q (.ref zp) s) : wpAny (model prog w) A (pyIter (.ref zp)) Q E s := wpAny_pyIter_zip (F.at hz).get h
theorem zipOwned {elts : List Expr} {x1} {pos : Pos} {zp TI TO T : Addr} {Q : Unit → Shared → Prop} (F : Fx c m ((zp, .zip (rawInt T) TI TO) :: ℓ) s) (wz : Own c zp) (h : ∀ s', Fx c m ((zp, .zip .none TI TO) :: ℓ) s' → Q () s') :
    wpAny (model prog w) A (letOwnedTupleGo (.Tuple elts x1 pos) (.ref zp) (.ref T)) Q E s := wpAny_letOwnedTupleGo_zip (F.at (.head _)).get fun h' k hs => h _ (F.turn wz hs.extBut (At.of k))
end
def odOf (g : Bool) (i : Nat) : Int := if g then -(i : Int) else i
def itEnd (l : Addr) (N : Nat) (n : Int) (p : Nat) : Kn := if (N : Int) < n then .lidone N else .liter l p
/-- the triples made so far -/
structure MadeT (g : Bool) (vs : List Value) (err : Nat → Option String) (n : Int) (U : List Tri) : Prop where
  le : (U.length : Int) ≤ max n 0
  leN : U.length ≤ vs.length
  ix : ∀ i e, U[i]? = some e → e.j = i ∧ e.o = odOf g i
  ok : ∀ i, i < U.length → err i = none
end Mine
namespace Mine
open PySem PySem.Calls PyProof.Rows PySem.W
open Sem (wp)
theorem plain3 {env : Env} {pos : Pos} {e₁ e₂ e₃ : Expr} (h1 : starEach [e₁, e₂, e₃] env = (false, eval e₁ env) :: starEach [e₂, e₃] env := by rfl) (h2 : starEach [e₂, e₃] env = (false, eval e₂ env) :: starEach [e₃] env := by rfl) (h3 : starEach [e₃] env = [(false, eval e₃ env)] := by rfl) : (backTo pos (starEach [e₁, e₂, e₃] env)).any (·.1) = false := by
  rw [h1, h2, h3]; rfl
def stAt (i k : Nat) : Stmt := ((fdAt i).body[k]?).getD (.Pass ⟨0, 0, 0, 0⟩)
theorem At.notFrs {h : Heap} {fr : List Env} {a : Addr} {k : Kn} (f : Frs h fr) (e : At h a k) : a ∉ frsOf fr := fun q => by
  obtain ⟨o, es, ep, ho, hd⟩ := f.dict q
  obtain ⟨o', ho', hk⟩ := e
  rw [ho] at ho'; injection ho' with ho'; subst ho'
  cases k with
  | sq c its => obtain ⟨_, _, hd'⟩ := hk; rw [hd] at hd'; cases hd'
  | ex o₀ => obtain ⟨rfl, hn⟩ := hk; unfold ndOb at hn; rw [hd] at hn; cases hn
  | cell v => have hd' : _ = _ := hk; rw [hd] at hd'; cases hd'
  | fd c vs => have hd' := hk.2; rw [hd] at hd'; cases hd'
theorem Ext.func {S : List Addr} {h h' : Heap} (x : Ext S h h') {f : Addr} (hf : f ∉ S) (e : ∃ o fd, h.get? f = some o ∧ o.data = .func fd) : ∃ o fd, h'.get? f = some o ∧ o.data = .func fd := by
  obtain ⟨o, fd, e1, e2⟩ := e
  obtain ⟨o', e3, sl, rfl, _⟩ := x f o hf e1
  exact ⟨_, fd, e3, e2⟩
theorem triRefs_snoc (U : List Tri) (e : Tri) : triRefs (U ++ [e]) = triRefs U ++ [.ref e.a] := by simp [triRefs]
theorem MadeT.snoc {g : Bool} {vs : List Value} {err : Nat → Option String} {n : Int} {U : List Tri} (M : MadeT g vs err n U) {e : Tri} (h1 : 0 < max n 0 - U.length) (h2 : U.length < vs.length) (h3 : err U.length = none) (h4 : e.j = U.length) (h5 : e.o = odOf g U.length) : MadeT g vs err n (U ++ [e]) := by
  refine ⟨by rw [List.length_append]; simp; exact om189 h1, by rw [List.length_append]; simp; exact om84 h2, fun i e' q => ?_, fun i q => ?_⟩
  · by_cases r : i < U.length
    · rw [List.getElem?_append_left r] at q; exact M.ix i e' q
    · rw [List.getElem?_append_right (by exact om122 r)] at q
      have : i - U.length = 0 := by
        have := (List.getElem?_eq_some_iff.mp q).1; simp at this; exact om190 this
      rw [this] at q
      injection q with q
      obtain rfl : i = U.length := by exact om191 r this
      rw [← q]; exact ⟨h4, h5⟩
  · rw [List.length_append] at q
    simp at q
    by_cases r : i < U.length
    · exact M.ok i r
    · obtain rfl : i = U.length := by exact om141 q r
      exact h3
theorem perm_new {α : Type} {p1 p2 p3 p4 p5 acc k l T : α} {X ℓ : List α} : (p1 :: p2 :: p3 :: p4 :: p5 :: acc :: k :: l :: (X ++ T :: ℓ)).Perm (acc :: ([T, p1, p2, p3, p4, p5] ++ k :: l :: (X ++ ℓ))) := by
  have e1 : (p1 :: p2 :: p3 :: p4 :: p5 :: acc :: k :: l :: (X ++ T :: ℓ)) = (p1 :: p2 :: p3 :: p4 :: p5 :: acc :: k :: l :: X) ++ T :: ℓ := rfl
  rw [e1]
  refine List.perm_middle.trans ?_
  have e2 : T :: ((p1 :: p2 :: p3 :: p4 :: p5 :: acc :: k :: l :: X) ++ ℓ) = [T, p1, p2, p3, p4, p5] ++ acc :: (k :: l :: (X ++ ℓ)) := rfl
  rw [e2]
  exact List.perm_middle
theorem rsz (g : Bool) {n : Int} (hn : -100 ≤ n ∧ n ≤ 100) : Builtin.Range.rangeSize 0 (if g then -n else n) (if g then -1 else 1) = max n 0 := by
  unfold Builtin.Range.rangeSize
  cases g
  · simp only [Bool.false_eq_true, if_false]
    rw [if_pos (by decide)]
    split
    · rw [Int.ediv_one]; omega
    · omega
  · simp only [if_true]
    rw [if_neg (by decide)]
    split
    · rw [show -(-1 : Int) = 1 from rfl, Int.ediv_one]; omega
    · omega
section
variable {prog : Program} {w : World} {A : Around} {E : Value → Shared → Prop} {s : Shared} {m : Str → Option Value} {ℓ : List (Addr × Kn)} {G : Heap} {fr : List Env} {sE : Shared} {L : Addr} {S : List Addr} {f : Addr} {vs : List Value} {err : Nat → Option String} {out : Nat → List UInt8}
set_option maxHeartbeats 2000000 in
theorem mkTri9 {n : Int} {tn : Tok} {it l : Addr} {Q : Flow → Shared → Prop} (N : NS prog w G fr (envC 9 L 76 75) A sE L S f vs err out (L + 1 + 0)) (F : Fx ⟨G, L, S, sE⟩ m ((it, .liter l 0) :: (L + 1 + 0, .cell (some (.ref f))) :: (l, .list vs) :: ℓ) s) (wi : Own ⟨G, L, S, sE⟩ it)
    (hn : -100 ≤ n ∧ n ≤ 100) (m1 : m "n" = some (.int n tn)) (m2 : m "it" = some (.ref it))
    (hQ : ∀ D U k s', Fx ⟨G, L, S, sE⟩ (upd m "result" (.ref D)) ((D, .lst (triRefs U) k) :: (it, itEnd l vs.length n U.length) :: (L + 1 + 0, .cell (some (.ref f))) :: (l, .list vs) :: (triLed out vs U ++ ℓ)) s' → Fresh ⟨G, L, S, sE⟩ D → (∀ e ∈ U, Fresh ⟨G, L, S, sE⟩ e.a) → MadeT false vs err n U → ((U.length : Int) = max n 0 ∨ U.length = vs.length) → Q .next s')
    (hE : ∀ i cls, i < vs.length → 1 ≤ n → (∀ j, j < i → err j = none) → err i = some cls → ∀ e hR s', (∃ h tk, s' = { sE with heap := h, toks := tk }) → Ext S sE.heap hR → At hR it (.liter l (i + 1)) → Exc G hR (envC 9 L 76 75 :: fr) e cls (.at (rawInt L)) s'.heap → E (.ref e) s') :
    wpS (model prog w) A (exec (stAt 9 4) (envC 9 L 76 75)) Q E s := by
  have hh : A.handled = none := N.rm.hh
  show wpS (model prog w) A (exec (.Assign [.Name _ _] (.ListComp _ [⟨_, .Call _ [_, _] _ _, _, 0⟩] _ _) _) (envC 9 L 76 75)) Q E s
  refine sCompU (cl := [("key", L + 1 + 0)]) (by rfl) (by rfl) (by decide) (by decide) (Call_ (nmB N.B F rfl ?_))
  refine PyProof.Rows.callWith_type1 (args_cons (Call_ (nmB N.B F rfl (PyProof.Rows.callWith_type1 (args_cons (nmL F m1 (args_nil (range1 F fun r _ _ s₁ F _ => ?_))))))))
  refine args_cons (nmL F m2 (args_nil (zipNew F (.head _) (.tail _ (.head _)) (small_of (by exact om29) (by exact om192 hn) (by exact om42) (by decide)) fun zp ri TI TO s₂ F fz fo fti fri => zipIter F (.head _) ?_)))
  rw [show Builtin.Range.rangeSize 0 n 1 = max n 0 from rsz false hn] at F
  have F := F.br4.tail
  have F0 := F
  intro h₁ hns hk hacc
  have kin : ∀ p ∈ ([(zp, .zip .none TI TO), (TO, .pair .none .none), (ri, .riter 0 (max n 0) 1), (it, .liter l 0)] : List (Addr × Kn)), p ∈ ((zp, Kn.zip .none TI TO) :: (TO, .pair .none .none) :: (TI, .pair (.ref ri) (.ref it)) :: (ri, .riter 0 (max n 0) 1) :: (it, .liter l 0) :: (L + 1 + 0, .cell (some (.ref f))) :: (l, .list vs) :: ℓ) := allc (.head _) (allc (.tail _ (.head _)) (allc (.tail _ (.tail _ (.tail _ (.head _)))) (allc (.tail _ (.tail _ (.tail _ (.tail _ (.head _))))) all0)))
  have kow : ∀ p ∈ ([(zp, .zip .none TI TO), (TO, .pair .none .none), (ri, .riter 0 (max n 0) 1), (it, .liter l 0)] : List (Addr × Kn)), Own ⟨G, L, S, sE⟩ p.1 := allc fz.own (allc fo.own (allc fri.own (allc wi all0)))
  have kst := F.kitOwn _ kin kow
  obtain ⟨F', ac, ow, bk⟩ := F.compKitX [(zp, .zip .none TI TO), (TO, .pair .none .none), (ri, .riter 0 (max n 0) 1), (it, .liter l 0)] kin kow hns hk hacc
  have wz := ow _ (.head _)
  have wo := ow _ (.tail _ (.head _))
  have wr := ow _ (.tail _ (.tail _ (.head _)))
  have wit := ow _ (.tail _ (.tail _ (.tail _ (.head _))))
  refine ⟨fun hq => zipIter F' (.tail _ (.head _)) hq, ?_⟩
  have O : EnvOk ⟨G, s₂.heap.objs.size + 1, [zp, TO, ri, it], s₂⟩ (compEnvC (nsScope 9 0) [("key", L + 1 + 0)] (s₂.heap.objs.size + 1) (envC 9 L 76 75)) := ⟨rfl, rfl, rfl, rfl⟩
  refine sLoop (fun k s' => ∃ (U : List Tri) (a b : Value) (m' : Str → Option Value), Fx ⟨G, s₂.heap.objs.size + 1, [zp, TO, ri, it], s₂⟩ m' ((zp, .zip .none TI TO) :: (TO, .pair a b) :: (TI, .pair (.ref ri) (.ref it)) :: (ri, .riter (odOf false U.length) (max n 0 - U.length) 1) :: (it, .liter l U.length) :: (s₂.heap.objs.size, .lst (triRefs U) U.length) :: (L + 1 + 0, .cell (some (.ref f))) :: (l, .list vs) :: (triLed out vs U ++ ℓ)) s' ∧
    (∀ e ∈ U, s₂.heap.get? e.a = none) ∧ MadeT false vs err n U ∧ k = 200 - U.length) ?_ 200 ⟨[], .none, .none, _, (F'.perm (List.perm_middle (l₁ := [_, _, _, _, _]))).ofEq (by rw [show (max n 0 - (([] : List Tri).length : Nat) : Int) = max n 0 from Int.sub_zero _]; rfl), (fun _ q => nomatch q), ⟨by simp; exact om193, Nat.zero_le _, (fun i e q => by simp at q), (fun i q => by simp at q)⟩, rfl⟩
  clear F F'
  rintro W D X k s₃ hW hD hX2 ⟨U, a, b, m', F, hfr, M, rfl⟩
  have frs0 := (N.still m).f _ _ F0
  have hll : ∀ {ℓ' : List (Addr × Kn)}, (l, Kn.list vs) ∈ (s₂.heap.objs.size, Kn.lst (triRefs U) U.length) :: (L + 1 + 0, Kn.cell (some (.ref f))) :: (l, .list vs) :: ℓ' := .tail _ (.tail _ (.head _))
  refine zipNext F hll wz wo wr wit hh (fun hy v hv t T s₄ F fT => ?_) (fun hy s₄ F => ?_) fun hy hv t s₄ F => ?_
  · rw [List.getElem?_toArray] at hv
    have hvl := (List.getElem?_eq_some_iff.mp hv).1
    have hvd : vs.getD U.length .none = v := by rw [List.getD_eq_getElem?_getD, hv]; rfl
    refine zipOwned F.swap wz fun s₅ F => ?_
    refine unpackT F (.tail _ (.head _)) hh rfl rfl fun s₆ F => ?_
    refine assignInOrder_cons (wpAny_assign_Name (gst O F fun s₇ F => assignInOrder_cons (wpAny_assign_Name (gst O F fun s₈ F => assignInOrder_nil (wpAny_pure ?_)))))
    rw [if_pos rfl]
    have F := F.drop2nd
    have xE : Ext S sE.heap s₈.heap := F0.post.ext.trans2 F.post.ext (allc (.inr fz.may.1) (allc (.inr fo.may.1) (allc (.inr fri.may.1) (allc (wi.may.imp id (·.1)) all0))))
    have nfr : ∀ a ∈ frsOf (envC 9 L 76 75 :: fr), a ∉ [zp, TO, ri, it] := fun a ha q => allc (P := fun x => x ∉ frsOf (envC 9 L 76 75 :: fr)) (At.notFrs frs0 (F0.at (.head _))) (allc (At.notFrs frs0 (F0.at (.tail _ (.head _)))) (allc (At.notFrs frs0 (F0.at (.tail _ (.tail _ (.tail _ (.head _)))))) (allc (At.notFrs frs0 (F0.at (.tail _ (.tail _ (.tail _ (.tail _ (.head _))))))) all0))) a q ha
    have frs8 : Frs s₈.heap (envC 9 L 76 75 :: fr) := frs0.ext F.post.ext nfr
    refine sTuple1 (sEvalCall (gnC O F rfl (.tail _ (.tail _ (.tail _ (.tail _ (.tail _ (.tail _ (.head _))))))) (sCallFn (by rfl) (evalArgs_plain (args_cons (gnL O F rfl (args_nil ⟨xE.func N.fS N.fn, ?_⟩)))))))
    refine N.key U.length v hv A s₈ _ _ _ (N.rm.le (by decide)) N.hA F.kg frs8 N.frs xE (fun he t' s₉ P' => ?_) fun cls he ee hR s₉ hs hx' hX => ?_
    · have F := F.after0 P'
      refine args_cons (gnL O F rfl (args_cons (gnL O F rfl (args_nil (wpAny_newTuple ?_ (show (3 : Nat) ≤ sizeLine by rw [sizeLine_eq]; decide))))))
      have fN := F.fresh_of (get?_size _)
      have F := F.pushS (tk := s₉.toks) "tuple" #[.bytes (out U.length).toArray t', .int (odOf false U.length) t, v]
      generalize s₉.heap.objs.size = T' at F fN
      have F := F.perm (List.perm_middle (l₁ := [_, _, _, _, _, _])).symm
      refine appX F ac.own (by rw [List.length_map]; have := N.N; exact om194 hvl this) fun s₁₀ F => ?_
      have M' := M.snoc (e := ⟨U.length, T', odOf false U.length, t', t⟩) hy hvl he rfl rfl
      have F := F.perm (ℓ' := (zp, .zip .none TI TO) :: (TO, .pair (.int (odOf false U.length) t) v) :: (TI, .pair (.ref ri) (.ref it)) :: (ri, .riter (odOf false U.length + 1) (max n 0 - U.length - 1) 1) :: (it, .liter l (U.length + 1)) :: (s₂.heap.objs.size, .lst (triRefs U ++ [.ref T']) (U.length + 1)) :: (L + 1 + 0, .cell (some (.ref f))) :: (l, .list vs) :: (triLed out vs U ++ (T', .trip (out U.length) t' (odOf false U.length) t v) :: ℓ))
        perm_new
      have hled : triLed out vs (U ++ [⟨U.length, T', odOf false U.length, t', t⟩]) ++ ℓ = triLed out vs U ++ (T', .trip (out U.length) t' (odOf false U.length) t v) :: ℓ := by
        simp [triLed, hv]
      have hod : odOf false (U.length + 1) = odOf false U.length + 1 := by unfold odOf; simp; try omega
      have hmx : max n 0 - ((U.length + 1 : Nat) : Int) = max n 0 - U.length - 1 := by exact om195
      refine hW _ ⟨200 - (U.length + 1), by have := N.N; exact om196 hvl this, U ++ [⟨U.length, T', odOf false U.length, t', t⟩], .int (odOf false U.length) t, v, _, F.ofEq ?_, fun e he' => ?_, M', by rw [List.length_append]; rfl⟩
      · rw [hled, triRefs_snoc, List.length_append, show [(⟨U.length, T', odOf false U.length, t', t⟩ : Tri)].length = 1 from rfl, hod, hmx]
      · rcases List.mem_append.mp he' with he' | he'
        · exact hfr e he'
        · rw [List.mem_singleton.mp he']; exact fN
    · have fl : (compEnvC (nsScope 9 0) [("key", L + 1 + 0)] (s₂.heap.objs.size + 1) (envC 9 L 76 75)).frame = (envC 9 L 76 75).frame := rfl
      obtain ⟨h9, tk9, rfl⟩ := hs
      refine hX2 _ _ ?_
      show wpAny _ _ (noteFrame (.ref ee) (compEnvC (nsScope 9 0) [("key", L + 1 + 0)] (s₂.heap.objs.size + 1) (envC 9 L 76 75))) _ _ _
      rw [noteFrame_eq fl]
      refine exc_note N.hA N.frame hX (.inl rfl) fun h' x' => ?_
      have xh : Ext [] s₈.heap h' := hx'.trans x'.ext
      have ns' := xh.ns (fun q => nomatch q) F.ns
      refine ⟨⟨_, ns'⟩, fun h'' hs'' => ?_⟩
      obtain ⟨oC, es, ep, hoC, hdC, _⟩ := ns'
      have hCf : s₂.heap.objs.size + 1 ∉ frsOf (envC 9 L 76 75 :: fr) := fun q => by
        obtain ⟨o, _, _, ho, _⟩ := frs0.dict q
        have : s₂.heap.get? (s₂.heap.objs.size + 1) = none := F.el
        rw [this] at ho; cases ho
      have hCs : sE.heap.get? (s₂.heap.objs.size + 1) = none := F0.fresh_of F.el
      have x'' := x'.turnD F.gl hoC hdC hCf hs''.2
      refine exc_pass (env := compEnvC (nsScope 9 0) [("key", L + 1 + 0)] (s₂.heap.objs.size + 1) (envC 9 L 76 75)) N.frame x'' fun h3 x3 => ?_
      refine hE U.length cls hvl (by exact om197 hy) (fun j hj => M.ok j hj) he ee _ _ ?_ ?_ ?_ x3
      · obtain ⟨_, _, q1⟩ := F.sh
        obtain ⟨_, _, q2⟩ := F0.sh
        exact ⟨_, _, by rw [q1, q2]⟩
      · intro b o hb hbo
        obtain ⟨o', q1, q2⟩ := (xE.trans (hx'.mono fun _ q => nomatch q)) b o hb hbo
        exact ⟨o', hideAll_get _ q1 (fun q => by rw [List.mem_singleton.mp q, hCs] at hbo; cases hbo), q2⟩
      · have ai := F.at (show (it, Kn.liter l (U.length + 1)) ∈ _ from .tail _ (.tail _ (.tail _ (.tail _ (.head _)))))
        obtain ⟨o, q1, q2⟩ := hx'.at (fun q => nomatch q) ai
        exact ⟨o, hideAll_get _ q1 (fun q => F.neL (show (it, Kn.liter l (U.length + 1)) ∈ _ from .tail _ (.tail _ (.tail _ (.tail _ (.head _))))) (List.mem_singleton.mp q)), q2⟩
  · refine hD _ (F0.storeUp F kst fun s₅ F => ?_)
    have hU : (U.length : Int) = max n 0 := by have := M.le; exact om198 hy this
    have hnN : ¬ ((vs.length : Int) < n) := by have := M.leN; exact om199 hU this
    have e1 : itEnd l vs.length n U.length = .liter l U.length := by unfold itEnd; rw [if_neg hnN]
    refine hQ _ U _ _ ((F.tail.tail.tail.tail.swap).ofEq (by rw [e1])) (F0.new_of (get?_size _)) (fun e he => F0.new_of (hfr e he)) M (.inl hU)
  · refine hD _ (F0.storeUp F kst fun s₅ F => ?_)
    rw [List.getElem?_toArray] at hv
    have hU : U.length = vs.length := by have := List.getElem?_eq_none_iff.mp hv; have := M.leN; omega
    have hnN : (vs.length : Int) < n := by exact om200 hy hU
    have e1 : itEnd l vs.length n U.length = .lidone U.length := by unfold itEnd; rw [if_pos hnN, hU]
    refine hQ _ U _ _ ((F.tail.tail.tail.tail.swap).ofEq (by rw [e1])) (F0.new_of (get?_size _)) (fun e he => F0.new_of (hfr e he)) M (.inr hU)

set_option maxHeartbeats 2000000 in
theorem mkTri10 {n : Int} {tn : Tok} {it l : Addr} {Q : Flow → Shared → Prop} (N : NS prog w G fr (envC 10 L 82 81) A sE L S f vs err out (L + 1 + 0)) (F : Fx ⟨G, L, S, sE⟩ m ((it, .liter l 0) :: (L + 1 + 0, .cell (some (.ref f))) :: (l, .list vs) :: ℓ) s) (wi : Own ⟨G, L, S, sE⟩ it)
    (hn : -100 ≤ n ∧ n ≤ 100) (m1 : m "n" = some (.int n tn)) (m2 : m "it" = some (.ref it))
    (hQ : ∀ D U k s', Fx ⟨G, L, S, sE⟩ (upd m "result" (.ref D)) ((D, .lst (triRefs U) k) :: (it, itEnd l vs.length n U.length) :: (L + 1 + 0, .cell (some (.ref f))) :: (l, .list vs) :: (triLed out vs U ++ ℓ)) s' → Fresh ⟨G, L, S, sE⟩ D → (∀ e ∈ U, Fresh ⟨G, L, S, sE⟩ e.a) → MadeT true vs err n U → ((U.length : Int) = max n 0 ∨ U.length = vs.length) → Q .next s')
    (hE : ∀ i cls, i < vs.length → 1 ≤ n → (∀ j, j < i → err j = none) → err i = some cls → ∀ e hR s', (∃ h tk, s' = { sE with heap := h, toks := tk }) → Ext S sE.heap hR → At hR it (.liter l (i + 1)) → Exc G hR (envC 10 L 82 81 :: fr) e cls (.at (rawInt L)) s'.heap → E (.ref e) s') :
    wpS (model prog w) A (exec (stAt 10 4) (envC 10 L 82 81)) Q E s := by
  have hh : A.handled = none := N.rm.hh
  show wpS (model prog w) A (exec (.Assign [.Name _ _] (.ListComp _ [⟨_, .Call _ [_, _] _ _, _, 0⟩] _ _) _) (envC 10 L 82 81)) Q E s
  refine sCompU (cl := [("key", L + 1 + 0)]) (by rfl) (by rfl) (by decide) (by decide) (Call_ (nmB N.B F rfl ?_))
  refine PyProof.Rows.callWith_type1 (args_cons (Call_ (nmB N.B F rfl (PyProof.Rows.callWith_type1 (args_cons (ci F fun _ _ F => args_cons (UnaryOp_ (nmL F m1 (iNeg F fun _ _ F => args_cons (UnaryOp_ (ci F fun _ _ F => iNeg F fun _ _ F => args_nil (range3 F (by decide) (PyProof.noPylong_small (by decide)) fun r s₁ F _ => ?_))))))))))))
  refine args_cons (nmL F m2 (args_nil (zipNew F (.head _) (.tail _ (.head _)) (small_of (by exact om29) (by exact om202 hn) (by exact om201) (by decide)) fun zp ri TI TO s₂ F fz fo fti fri => zipIter F (.head _) ?_)))
  rw [show Builtin.Range.rangeSize 0 (-n) (-1) = max n 0 from rsz true hn] at F
  have F := F.br4.tail
  have F0 := F
  intro h₁ hns hk hacc
  have kin : ∀ p ∈ ([(zp, .zip .none TI TO), (TO, .pair .none .none), (ri, .riter 0 (max n 0) (-1)), (it, .liter l 0)] : List (Addr × Kn)), p ∈ ((zp, Kn.zip .none TI TO) :: (TO, .pair .none .none) :: (TI, .pair (.ref ri) (.ref it)) :: (ri, .riter 0 (max n 0) (-1)) :: (it, .liter l 0) :: (L + 1 + 0, .cell (some (.ref f))) :: (l, .list vs) :: ℓ) := allc (.head _) (allc (.tail _ (.head _)) (allc (.tail _ (.tail _ (.tail _ (.head _)))) (allc (.tail _ (.tail _ (.tail _ (.tail _ (.head _))))) all0)))
  have kow : ∀ p ∈ ([(zp, .zip .none TI TO), (TO, .pair .none .none), (ri, .riter 0 (max n 0) (-1)), (it, .liter l 0)] : List (Addr × Kn)), Own ⟨G, L, S, sE⟩ p.1 := allc fz.own (allc fo.own (allc fri.own (allc wi all0)))
  have kst := F.kitOwn _ kin kow
  obtain ⟨F', ac, ow, bk⟩ := F.compKitX [(zp, .zip .none TI TO), (TO, .pair .none .none), (ri, .riter 0 (max n 0) (-1)), (it, .liter l 0)] kin kow hns hk hacc
  have wz := ow _ (.head _)
  have wo := ow _ (.tail _ (.head _))
  have wr := ow _ (.tail _ (.tail _ (.head _)))
  have wit := ow _ (.tail _ (.tail _ (.tail _ (.head _))))
  refine ⟨fun hq => zipIter F' (.tail _ (.head _)) hq, ?_⟩
  have O : EnvOk ⟨G, s₂.heap.objs.size + 1, [zp, TO, ri, it], s₂⟩ (compEnvC (nsScope 10 0) [("key", L + 1 + 0)] (s₂.heap.objs.size + 1) (envC 10 L 82 81)) := ⟨rfl, rfl, rfl, rfl⟩
  refine sLoop (fun k s' => ∃ (U : List Tri) (a b : Value) (m' : Str → Option Value), Fx ⟨G, s₂.heap.objs.size + 1, [zp, TO, ri, it], s₂⟩ m' ((zp, .zip .none TI TO) :: (TO, .pair a b) :: (TI, .pair (.ref ri) (.ref it)) :: (ri, .riter (odOf true U.length) (max n 0 - U.length) (-1)) :: (it, .liter l U.length) :: (s₂.heap.objs.size, .lst (triRefs U) U.length) :: (L + 1 + 0, .cell (some (.ref f))) :: (l, .list vs) :: (triLed out vs U ++ ℓ)) s' ∧
    (∀ e ∈ U, s₂.heap.get? e.a = none) ∧ MadeT true vs err n U ∧ k = 200 - U.length) ?_ 200 ⟨[], .none, .none, _, (F'.perm (List.perm_middle (l₁ := [_, _, _, _, _]))).ofEq (by rw [show (max n 0 - (([] : List Tri).length : Nat) : Int) = max n 0 from Int.sub_zero _]; rfl), (fun _ q => nomatch q), ⟨by simp; exact om193, Nat.zero_le _, (fun i e q => by simp at q), (fun i q => by simp at q)⟩, rfl⟩
  clear F F'
  rintro W D X k s₃ hW hD hX2 ⟨U, a, b, m', F, hfr, M, rfl⟩
  have frs0 := (N.still m).f _ _ F0
  have hll : ∀ {ℓ' : List (Addr × Kn)}, (l, Kn.list vs) ∈ (s₂.heap.objs.size, Kn.lst (triRefs U) U.length) :: (L + 1 + 0, Kn.cell (some (.ref f))) :: (l, .list vs) :: ℓ' := .tail _ (.tail _ (.head _))
  refine zipNext F hll wz wo wr wit hh (fun hy v hv t T s₄ F fT => ?_) (fun hy s₄ F => ?_) fun hy hv t s₄ F => ?_
  · rw [List.getElem?_toArray] at hv
    have hvl := (List.getElem?_eq_some_iff.mp hv).1
    have hvd : vs.getD U.length .none = v := by rw [List.getD_eq_getElem?_getD, hv]; rfl
    refine zipOwned F.swap wz fun s₅ F => ?_
    refine unpackT F (.tail _ (.head _)) hh rfl rfl fun s₆ F => ?_
    refine assignInOrder_cons (wpAny_assign_Name (gst O F fun s₇ F => assignInOrder_cons (wpAny_assign_Name (gst O F fun s₈ F => assignInOrder_nil (wpAny_pure ?_)))))
    rw [if_pos rfl]
    have F := F.drop2nd
    have xE : Ext S sE.heap s₈.heap := F0.post.ext.trans2 F.post.ext (allc (.inr fz.may.1) (allc (.inr fo.may.1) (allc (.inr fri.may.1) (allc (wi.may.imp id (·.1)) all0))))
    have nfr : ∀ a ∈ frsOf (envC 10 L 82 81 :: fr), a ∉ [zp, TO, ri, it] := fun a ha q => allc (P := fun x => x ∉ frsOf (envC 10 L 82 81 :: fr)) (At.notFrs frs0 (F0.at (.head _))) (allc (At.notFrs frs0 (F0.at (.tail _ (.head _)))) (allc (At.notFrs frs0 (F0.at (.tail _ (.tail _ (.tail _ (.head _)))))) (allc (At.notFrs frs0 (F0.at (.tail _ (.tail _ (.tail _ (.tail _ (.head _))))))) all0))) a q ha
    have frs8 : Frs s₈.heap (envC 10 L 82 81 :: fr) := frs0.ext F.post.ext nfr
    refine sTuple1 (sEvalCall (gnC O F rfl (.tail _ (.tail _ (.tail _ (.tail _ (.tail _ (.tail _ (.head _))))))) (sCallFn (by rfl) (evalArgs_plain (args_cons (gnL O F rfl (args_nil ⟨xE.func N.fS N.fn, ?_⟩)))))))
    refine N.key U.length v hv A s₈ _ _ _ (N.rm.le (by decide)) N.hA F.kg frs8 N.frs xE (fun he t' s₉ P' => ?_) fun cls he ee hR s₉ hs hx' hX => ?_
    · have F := F.after0 P'
      refine args_cons (gnL O F rfl (args_cons (gnL O F rfl (args_nil (wpAny_newTuple ?_ (show (3 : Nat) ≤ sizeLine by rw [sizeLine_eq]; decide))))))
      have fN := F.fresh_of (get?_size _)
      have F := F.pushS (tk := s₉.toks) "tuple" #[.bytes (out U.length).toArray t', .int (odOf true U.length) t, v]
      generalize s₉.heap.objs.size = T' at F fN
      have F := F.perm (List.perm_middle (l₁ := [_, _, _, _, _, _])).symm
      refine appX F ac.own (by rw [List.length_map]; have := N.N; exact om194 hvl this) fun s₁₀ F => ?_
      have M' := M.snoc (e := ⟨U.length, T', odOf true U.length, t', t⟩) hy hvl he rfl rfl
      have F := F.perm (ℓ' := (zp, .zip .none TI TO) :: (TO, .pair (.int (odOf true U.length) t) v) :: (TI, .pair (.ref ri) (.ref it)) :: (ri, .riter (odOf true U.length + (-1)) (max n 0 - U.length - 1) (-1)) :: (it, .liter l (U.length + 1)) :: (s₂.heap.objs.size, .lst (triRefs U ++ [.ref T']) (U.length + 1)) :: (L + 1 + 0, .cell (some (.ref f))) :: (l, .list vs) :: (triLed out vs U ++ (T', .trip (out U.length) t' (odOf true U.length) t v) :: ℓ))
        perm_new
      have hled : triLed out vs (U ++ [⟨U.length, T', odOf true U.length, t', t⟩]) ++ ℓ = triLed out vs U ++ (T', .trip (out U.length) t' (odOf true U.length) t v) :: ℓ := by
        simp [triLed, hv]
      have hod : odOf true (U.length + 1) = odOf true U.length + (-1) := by unfold odOf; simp; try exact om203
      have hmx : max n 0 - ((U.length + 1 : Nat) : Int) = max n 0 - U.length - 1 := by exact om195
      refine hW _ ⟨200 - (U.length + 1), by have := N.N; exact om196 hvl this, U ++ [⟨U.length, T', odOf true U.length, t', t⟩], .int (odOf true U.length) t, v, _, F.ofEq ?_, fun e he' => ?_, M', by rw [List.length_append]; rfl⟩
      · rw [hled, triRefs_snoc, List.length_append, show [(⟨U.length, T', odOf true U.length, t', t⟩ : Tri)].length = 1 from rfl, hod, hmx]
      · rcases List.mem_append.mp he' with he' | he'
        · exact hfr e he'
        · rw [List.mem_singleton.mp he']; exact fN
    · have fl : (compEnvC (nsScope 10 0) [("key", L + 1 + 0)] (s₂.heap.objs.size + 1) (envC 10 L 82 81)).frame = (envC 10 L 82 81).frame := rfl
      obtain ⟨h9, tk9, rfl⟩ := hs
      refine hX2 _ _ ?_
      show wpAny _ _ (noteFrame (.ref ee) (compEnvC (nsScope 10 0) [("key", L + 1 + 0)] (s₂.heap.objs.size + 1) (envC 10 L 82 81))) _ _ _
      rw [noteFrame_eq fl]
      refine exc_note N.hA N.frame hX (.inl rfl) fun h' x' => ?_
      have xh : Ext [] s₈.heap h' := hx'.trans x'.ext
      have ns' := xh.ns (fun q => nomatch q) F.ns
      refine ⟨⟨_, ns'⟩, fun h'' hs'' => ?_⟩
      obtain ⟨oC, es, ep, hoC, hdC, _⟩ := ns'
      have hCf : s₂.heap.objs.size + 1 ∉ frsOf (envC 10 L 82 81 :: fr) := fun q => by
        obtain ⟨o, _, _, ho, _⟩ := frs0.dict q
        have : s₂.heap.get? (s₂.heap.objs.size + 1) = none := F.el
        rw [this] at ho; cases ho
      have hCs : sE.heap.get? (s₂.heap.objs.size + 1) = none := F0.fresh_of F.el
      have x'' := x'.turnD F.gl hoC hdC hCf hs''.2
      refine exc_pass (env := compEnvC (nsScope 10 0) [("key", L + 1 + 0)] (s₂.heap.objs.size + 1) (envC 10 L 82 81)) N.frame x'' fun h3 x3 => ?_
      refine hE U.length cls hvl (by exact om197 hy) (fun j hj => M.ok j hj) he ee _ _ ?_ ?_ ?_ x3
      · obtain ⟨_, _, q1⟩ := F.sh
        obtain ⟨_, _, q2⟩ := F0.sh
        exact ⟨_, _, by rw [q1, q2]⟩
      · intro b o hb hbo
        obtain ⟨o', q1, q2⟩ := (xE.trans (hx'.mono fun _ q => nomatch q)) b o hb hbo
        exact ⟨o', hideAll_get _ q1 (fun q => by rw [List.mem_singleton.mp q, hCs] at hbo; cases hbo), q2⟩
      · have ai := F.at (show (it, Kn.liter l (U.length + 1)) ∈ _ from .tail _ (.tail _ (.tail _ (.tail _ (.head _)))))
        obtain ⟨o, q1, q2⟩ := hx'.at (fun q => nomatch q) ai
        exact ⟨o, hideAll_get _ q1 (fun q => F.neL (show (it, Kn.liter l (U.length + 1)) ∈ _ from .tail _ (.tail _ (.tail _ (.tail _ (.head _))))) (List.mem_singleton.mp q)), q2⟩
  · refine hD _ (F0.storeUp F kst fun s₅ F => ?_)
    have hU : (U.length : Int) = max n 0 := by have := M.le; exact om198 hy this
    have hnN : ¬ ((vs.length : Int) < n) := by have := M.leN; exact om199 hU this
    have e1 : itEnd l vs.length n U.length = .liter l U.length := by unfold itEnd; rw [if_neg hnN]
    refine hQ _ U _ _ ((F.tail.tail.tail.tail.swap).ofEq (by rw [e1])) (F0.new_of (get?_size _)) (fun e he => F0.new_of (hfr e he)) M (.inl hU)
  · refine hD _ (F0.storeUp F kst fun s₅ F => ?_)
    rw [List.getElem?_toArray] at hv
    have hU : U.length = vs.length := by have := List.getElem?_eq_none_iff.mp hv; have := M.leN; omega
    have hnN : (vs.length : Int) < n := by exact om200 hy hU
    have e1 : itEnd l vs.length n U.length = .lidone U.length := by unfold itEnd; rw [if_pos hnN, hU]
    refine hQ _ U _ _ ((F.tail.tail.tail.tail.swap).ofEq (by rw [e1])) (F0.new_of (get?_size _)) (fun e he => F0.new_of (hfr e he)) M (.inr hU)
end
end Mine
namespace Mine
open PySem PySem.Calls PyProof.Rows PySem.W
/-! ## orders, plainly -/
theorem blt_irr (x : List UInt8) : blt x x = false := by
  unfold blt
  induction x with
  | nil => rfl
  | cons a x ih => simp only [Builtin.Bytes.order]; simp [UInt8.lt_irrefl, ih]
theorem blt_cons (a b : UInt8) (x y : List UInt8) : blt (a :: x) (b :: y) = (decide (a < b) || (decide (a = b) && blt x y)) := by
  unfold blt
  simp only [Builtin.Bytes.order]
  by_cases h1 : a < b
  · have : a ≠ b := fun e => by subst e; exact absurd h1 (UInt8.lt_irrefl _)
    simp [h1]
  · by_cases h2 : b < a
    · have : a ≠ b := fun e => by subst e; exact absurd h2 (UInt8.lt_irrefl _)
      simp [h1, h2, this]
    · have : a = b := UInt8.le_antisymm (UInt8.not_lt.mp h2) (UInt8.not_lt.mp h1)
      subst this
      simp [UInt8.lt_irrefl]
theorem blt_tr : ∀ {x y z : List UInt8}, blt x y = true → blt y z = true → blt x z = true
  | [], [], z, h, _ => by simp [blt, Builtin.Bytes.order] at h
  | [], _ :: _, [], _, h => by simp [blt, Builtin.Bytes.order] at h
  | [], _ :: _, _ :: _, _, _ => rfl
  | _ :: _, [], _, h, _ => by simp [blt, Builtin.Bytes.order] at h
  | _ :: _, _ :: _, [], _, h => by simp [blt, Builtin.Bytes.order] at h
  | a :: x, b :: y, c :: z, h1, h2 => by
    rw [blt_cons] at h1 h2 ⊢
    simp only [Bool.or_eq_true, Bool.and_eq_true, decide_eq_true_eq] at h1 h2 ⊢
    rcases h1 with h1 | ⟨rfl, h1⟩
    · rcases h2 with h2 | ⟨rfl, h2⟩
      · exact .inl (UInt8.lt_trans h1 h2)
      · exact .inl h1
    · rcases h2 with h2 | ⟨rfl, h2⟩
      · exact .inl h2
      · exact .inr ⟨rfl, blt_tr h1 h2⟩
theorem blt_tot : ∀ {x y : List UInt8}, blt x y = false → blt y x = false → x = y
  | [], [], _, _ => rfl
  | [], _ :: _, h, _ => by simp [blt, Builtin.Bytes.order] at h
  | _ :: _, [], _, h => by simp [blt, Builtin.Bytes.order] at h
  | a :: x, b :: y, h1, h2 => by
    rw [blt_cons] at h1 h2
    simp only [Bool.or_eq_false_iff, Bool.and_eq_false_iff, decide_eq_false_iff_not] at h1 h2
    have e : a = b := UInt8.le_antisymm (UInt8.not_lt.mp h2.1) (UInt8.not_lt.mp h1.1)
    subst e
    rw [blt_tot (h1.2.resolve_left fun q => q rfl) (h2.2.resolve_left fun q => q rfl)]
theorem blt_asym {x y : List UInt8} (h : blt x y = true) : blt y x = false := by
  cases q : blt y x with
  | false => rfl
  | true => have := blt_tr h q; rw [blt_irr] at this; cases this
theorem better_irr (g : Bool) (x : List UInt8) : better g x x = false := by unfold better; cases g <;> exact blt_irr x
theorem better_tr {g : Bool} {x y z : List UInt8} (h1 : better g x y = true) (h2 : better g y z = true) : better g x z = true := by
  unfold better at *; cases g
  · exact blt_tr h1 h2
  · exact blt_tr h2 h1
theorem better_tot {g : Bool} {x y : List UInt8} (h1 : better g x y = false) (h2 : better g y x = false) : x = y := by
  unfold better at *; cases g
  · exact blt_tot h1 h2
  · exact blt_tot h2 h1
theorem better_asym {g : Bool} {x y : List UInt8} (h : better g x y = true) : better g y x = false := by
  unfold better at *; cases g <;> exact blt_asym h
/-- i goes ahead of j -/
def ahead (g : Bool) (out : Nat → List UInt8) (i j : Nat) : Bool := if better g (out i) (out j) then true else if better g (out j) (out i) then false else decide (i < j)
section
variable {g : Bool} {out : Nat → List UInt8}
theorem ahead_irr (i : Nat) : ahead g out i i = false := by unfold ahead; rw [better_irr]; simp
theorem ahead_of_better {i j : Nat} (h : better g (out i) (out j) = true) : ahead g out i j = true := by unfold ahead; rw [if_pos h]
theorem ahead_tot {i j : Nat} (h : i ≠ j) : ahead g out i j = true ∨ ahead g out j i = true := by
  unfold ahead
  cases q1 : better g (out i) (out j) with
  | true => simp
  | false =>
    cases q2 : better g (out j) (out i) with
    | true => simp
    | false => simp; exact om466 h
theorem ahead_iff {i j : Nat} : ahead g out i j = true ↔ better g (out i) (out j) = true ∨ (out i = out j ∧ i < j) := by
  unfold ahead
  cases q1 : better g (out i) (out j) with
  | true => simp
  | false =>
    cases q2 : better g (out j) (out i) with
    | true =>
      simp only [Bool.false_eq_true, if_false, if_true, false_or, false_iff, not_and]
      intro e
      rw [e, better_irr] at q2; cases q2
    | false =>
      have := better_tot q1 q2
      simp [this]
theorem ahead_tr {i j k : Nat} (h1 : ahead g out i j = true) (h2 : ahead g out j k = true) : ahead g out i k = true := by
  rw [ahead_iff] at h1 h2 ⊢
  rcases h1 with h1 | ⟨e1, h1⟩
  · rcases h2 with h2 | ⟨e2, h2⟩
    · exact .inl (better_tr h1 h2)
    · rw [e2] at h1; exact .inl h1
  · rcases h2 with h2 | ⟨e2, h2⟩
    · rw [e1]; exact .inl h2
    · exact .inr ⟨e1.trans e2, by exact om289 h1 h2⟩
theorem ahead_asym {i j : Nat} (h : ahead g out i j = true) : ahead g out j i = false := by
  cases q : ahead g out j i with
  | false => rfl
  | true => have := ahead_tr h q; rw [ahead_irr] at this; cases this
end
/-! ## the first n in an order -/
structure Tops (ah : Nat → Nat → Bool) (N n : Nat) (idx : List Nat) : Prop where
  len : idx.length = min n N
  lt : ∀ i ∈ idx, i < N
  pw : idx.Pairwise fun i j => ah i j = true
  rest : ∀ j, j < N → j ∉ idx → ∀ i ∈ idx, ah i j = true
/-- a strict order -/
structure Strict (ah : Nat → Nat → Bool) : Prop where
  irr : ∀ i, ah i i = false
  tr : ∀ i j k, ah i j = true → ah j k = true → ah i k = true
theorem ahead_strict (g : Bool) (out : Nat → List UInt8) : Strict (ahead g out) := ⟨ahead_irr, fun _ _ _ => ahead_tr⟩
theorem Tops.nodup {ah : Nat → Nat → Bool} (W : Strict ah) {idx : List Nat} (h : idx.Pairwise fun i j => ah i j = true) : idx.Nodup := by
  refine h.imp fun {a b} q r => ?_
  subst r
  rw [W.irr] at q; cases q
theorem Tops.unique {ah : Nat → Nat → Bool} (W : Strict ah) {N n : Nat} {x y : List Nat} (hx : Tops ah N n x) (hy : Tops ah N n y) : x = y := by
  have key : ∀ (x y : List Nat), x.length = y.length → (x.Pairwise fun i j => ah i j = true) → (y.Pairwise fun i j => ah i j = true) → (∀ j ∈ y, j ∉ x → ∀ i ∈ x, ah i j = true) → (∀ j ∈ x, j ∉ y → ∀ i ∈ y, ah i j = true) → x = y := by
    intro x
    induction x with
    | nil => intro y hl _ _ _ _; exact (List.eq_nil_of_length_eq_zero hl.symm).symm
    | cons a x ih =>
      intro y hl px py h1 h2
      cases y with
      | nil => cases hl
      | cons b y =>
        rw [List.pairwise_cons] at px py
        have hab : a = b := by
          refine Decidable.byContradiction fun hne => ?_
          have a1 : ah a b = true := by
            by_cases q : b ∈ x
            · exact px.1 b q
            · exact h1 b (.head _) (fun r => by rcases List.mem_cons.mp r with r | r; · exact hne r.symm
                                                · exact q r) a (.head _)
          have a2 : ah b a = true := by
            by_cases q : a ∈ y
            · exact py.1 a q
            · exact h2 a (.head _) (fun r => by rcases List.mem_cons.mp r with r | r; · exact hne r
                                                · exact q r) b (.head _)
          have := W.tr _ _ _ a1 a2
          rw [W.irr] at this; cases this
        subst hab
        have nx : ∀ j ∈ x, j ≠ a := fun j hj q => by have := px.1 j hj; rw [q, W.irr] at this; cases this
        have ny : ∀ j ∈ y, j ≠ a := fun j hj q => by have := py.1 j hj; rw [q, W.irr] at this; cases this
        rw [ih y (by simpa using hl) px.2 py.2 (fun j hj hn i hi => h1 j (.tail _ hj) (fun r => by
          rcases List.mem_cons.mp r with r | r
          · exact ny j hj r
          · exact hn r) i (.tail _ hi)) fun j hj hn i hi => h2 j (.tail _ hj) (fun r => by
          rcases List.mem_cons.mp r with r | r
          · exact nx j hj r
          · exact hn r) i (.tail _ hi)]
  exact key x y (hx.len.trans hy.len.symm) hx.pw hy.pw (fun j hj hn i hi => hx.rest j (hy.lt j hj) hn i hi) fun j hj hn i hi => hy.rest j (hx.lt j hj) hn i hi
end Mine
namespace Mine
open PySem PySem.Calls PyProof.Rows PySem.W
/-! ## the order of the triples, the heap's invariant -/
theorem tlt_iff {k1 k2 : List UInt8} {o1 o2 : Int} : tlt k1 o1 k2 o2 = true ↔ blt k1 k2 = true ∨ (k1 = k2 ∧ o1 < o2) := by
  unfold tlt
  by_cases h : k1 = k2
  · subst h; simp [blt_irr]
  · rw [if_neg (by simpa using h)]; simp [h]
def triOf (U : List Tri) (x : Value) : Option Tri := U.find? fun e => x == .ref e.a
def ltU (out : Nat → List UInt8) (U : List Tri) (x y : Value) : Bool := match triOf U x, triOf U y with
  | some p, some q => tlt (out p.j) p.o (out q.j) q.o
  | some _, none => true
  | none, _ => false
theorem triOf_mem {U : List Tri} (hn : (U.map (·.a)).Nodup) {e : Tri} (he : e ∈ U) : triOf U (.ref e.a) = some e := by
  unfold triOf
  induction U with
  | nil => cases he
  | cons x r ih =>
    rw [List.map_cons, List.nodup_cons] at hn
    rw [List.find?_cons]
    rcases List.mem_cons.mp he with rfl | he
    · simp
    · have : (Value.ref e.a == Value.ref x.a) = false := beq_eq_false_iff_ne.mpr fun q => by
        injection q with q
        exact hn.1 (List.mem_map.mpr ⟨e, he, q⟩)
      rw [this]
      exact ih hn.2 he
theorem ltU_eq {out : Nat → List UInt8} {U : List Tri} (hn : (U.map (·.a)).Nodup) {p q : Tri} (hp : p ∈ U) (hq : q ∈ U) : ltU out U (.ref p.a) (.ref q.a) = tlt (out p.j) p.o (out q.j) q.o := by
  unfold ltU; rw [triOf_mem hn hp, triOf_mem hn hq]
theorem tlt_irr (k : List UInt8) (o : Int) : tlt k o k o = false := by
  cases q : tlt k o k o with
  | false => rfl
  | true => rcases tlt_iff.mp q with h | h; · rw [blt_irr] at h; cases h
            · omega
theorem tlt_tr {k1 k2 k3 : List UInt8} {o1 o2 o3 : Int} (h1 : tlt k1 o1 k2 o2 = true) (h2 : tlt k2 o2 k3 o3 = true) : tlt k1 o1 k3 o3 = true := by
  rw [tlt_iff] at *
  rcases h1 with h1 | ⟨rfl, h1⟩
  · rcases h2 with h2 | ⟨rfl, h2⟩
    · exact .inl (blt_tr h1 h2)
    · exact .inl h1
  · rcases h2 with h2 | ⟨rfl, h2⟩
    · exact .inl h2
    · exact .inr ⟨rfl, by exact om467 h1 h2⟩
theorem tlt_neg {k1 k2 k3 : List UInt8} {o1 o2 o3 : Int} (h : tlt k1 o1 k3 o3 = true) : tlt k1 o1 k2 o2 = true ∨ tlt k2 o2 k3 o3 = true := by
  cases q : blt k1 k2 with
  | true => exact .inl (tlt_iff.mpr (.inl q))
  | false =>
    cases r : blt k2 k1 with
    | true =>
      refine .inr ?_
      rcases tlt_iff.mp h with h | ⟨rfl, h⟩
      · exact tlt_iff.mpr (.inl (blt_tr r h))
      · exact tlt_iff.mpr (.inl r)
    | false =>
      obtain rfl := blt_tot q r
      by_cases h2 : o1 < o2
      · exact .inl (tlt_iff.mpr (.inr ⟨rfl, h2⟩))
      · refine .inr ?_
        rcases tlt_iff.mp h with h | ⟨rfl, h⟩
        · exact tlt_iff.mpr (.inl h)
        · exact tlt_iff.mpr (.inr ⟨rfl, by omega⟩)
theorem ltU_weak (out : Nat → List UInt8) (U : List Tri) : WeakV (ltU out U) := by
  refine ⟨fun x => ?_, fun x y z h1 h2 => ?_, fun x y z h => ?_⟩
  · unfold ltU
    cases triOf U x with
    | none => rfl
    | some p => exact tlt_irr _ _
  · unfold ltU at *
    cases q1 : triOf U x <;> cases q2 : triOf U y <;> cases q3 : triOf U z <;> simp_all
    exact tlt_tr h1 h2
  · unfold ltU at *
    cases q1 : triOf U x <;> cases q2 : triOf U y <;> cases q3 : triOf U z <;> simp_all
    exact tlt_neg h
def hlt (g : Bool) (out : Nat → List UInt8) (U : List Tri) : Value → Value → Bool := if g then ltU out U else fun x y => ltU out U y x
theorem hlt_weak (g : Bool) (out : Nat → List UInt8) (U : List Tri) : WeakV (hlt g out U) := by
  have W := ltU_weak out U
  unfold hlt
  cases g
  · exact ⟨fun x => W.irr x, fun x y z h1 h2 => W.tr z y x h2 h1, fun x y z h => (W.neg z y x h).symm⟩
  · exact W
/-- a table of triples: addresses apart, orders as the places say -/
structure TabU (g : Bool) (U : List Tri) : Prop where
  nd : (U.map (·.a)).Nodup
  uj : ∀ e ∈ U, ∀ e' ∈ U, e.j = e'.j → e = e'
  ord : ∀ e ∈ U, ∀ e' ∈ U, e.j < e'.j → if g then e'.o < e.o else e.o < e'.o
theorem hlt_ahead {g : Bool} {out : Nat → List UInt8} {U : List Tri} (T : TabU g U) {p q : Tri} (hp : p ∈ U) (hq : q ∈ U) : hlt g out U (.ref p.a) (.ref q.a) = ahead g out q.j p.j := by
  rw [Bool.eq_iff_iff]
  unfold hlt
  cases g
  · simp only [Bool.false_eq_true, if_false]
    rw [ltU_eq T.nd hq hp, tlt_iff, ahead_iff]
    unfold better
    simp only [Bool.false_eq_true, if_false]
    refine or_congr Iff.rfl (and_congr_right fun _ => ?_)
    have h1 := T.ord q hq p hp
    have h2 := T.ord p hp q hq
    have h3 := T.uj q hq p hp
    simp only [Bool.false_eq_true, if_false] at h1 h2
    constructor
    · intro h
      rcases Nat.lt_trichotomy q.j p.j with r | r | r
      · exact r
      · have := h3 r; subst this; exact om468 h
      · have := h2 r; exact om469 h this
    · exact h1
  · simp only [if_true]
    rw [ltU_eq T.nd hp hq, tlt_iff, ahead_iff]
    unfold better
    simp only [if_true]
    have h1 := T.ord q hq p hp
    have h2 := T.ord p hp q hq
    have h3 := T.uj q hq p hp
    simp only [if_true] at h1 h2
    constructor
    · rintro (h | ⟨e, h⟩)
      · exact .inl h
      · refine .inr ⟨e.symm, ?_⟩
        rcases Nat.lt_trichotomy q.j p.j with r | r | r
        · exact r
        · have := h3 r; subst this; exact om468 h
        · have := h2 r; exact om469 h this
    · rintro (h | ⟨e, h⟩)
      · exact .inl h
      · exact .inr ⟨e.symm, h1 h⟩
end Mine
namespace Mine
open PySem PySem.Calls PyProof.Rows PySem.W
theorem perm_map_inv {α β : Type} {f : α → β} : ∀ {l : List β} {m : List β} (_ : l.Perm m) (T : List α), m = T.map f → ∃ T' : List α, T'.Perm T ∧ l = T'.map f := by
  intro l m h
  induction h with
  | nil => intro T e; exact ⟨T, .refl _, e⟩
  | cons x _ ih =>
    intro T e
    cases T with
    | nil => cases e
    | cons t T =>
      simp only [List.map_cons, List.cons.injEq] at e
      obtain ⟨T', h1, h2⟩ := ih T e.2
      exact ⟨t :: T', h1.cons t, by rw [List.map_cons, e.1, h2]⟩
  | swap x y r =>
    intro T e
    match T, e with
    | a :: b :: T, e =>
      simp only [List.map_cons, List.cons.injEq] at e
      exact ⟨b :: a :: T, .swap a b T, by rw [List.map_cons, List.map_cons, e.1, e.2.1, e.2.2]⟩
  | trans _ _ ih1 ih2 =>
    intro T e
    obtain ⟨T1, h1, e1⟩ := ih2 T e
    obtain ⟨T2, h2, e2⟩ := ih1 T1 e1
    exact ⟨T2, h2.trans h1, e2⟩
structure HInv (g : Bool) (out : Nat → List UInt8) (n i : Nat) (U : List Tri) (a : Array Value) (od : Int) : Prop where
  tab : TabU g U
  sz : a.size = n
  heap : HeapFrom (hlt g out U) a 0
  T : ∃ T : List Tri, a.toList = triRefs T ∧ (∀ e ∈ T, e ∈ U) ∧ (T.map (·.j)).Nodup ∧ ∀ j, j < i → j ∉ T.map (·.j) → ∀ e ∈ T, ahead g out e.j j = true
  ub : ∀ e ∈ U, e.j < i
  odb : ∀ e ∈ U, if g then od < e.o else e.o < od
section
variable {g : Bool} {out : Nat → List UInt8} {n i : Nat} {U : List Tri} {a : Array Value} {od : Int}
theorem gv_ref {T : List Tri} (h : a.toList = triRefs T) {k : Nat} (hk : k < a.size) : ∃ e ∈ T, gv a k = .ref e.a ∧ T[k]? = some e := by
  have hl : k < T.length := by have := congrArg List.length h; simp at this; exact om340 hk this
  refine ⟨T[k], List.getElem_mem hl, ?_, List.getElem?_eq_getElem hl⟩
  have : a[k]? = some (.ref T[k].a) := by
    rw [← Array.getElem?_toList, h]
    simp [hl]
  simp [gv, Array.getD_eq_getD_getElem?, this]
theorem HInv.root (H : HInv g out n i U a od) (h0 : 0 < n) : ∃ e ∈ U, gv a 0 = .ref e.a ∧ ∃ T : List Tri, a.toList = triRefs T ∧ (∀ e ∈ T, e ∈ U) ∧ (T.map (·.j)).Nodup ∧ (∀ j, j < i → j ∉ T.map (·.j) → ∀ e ∈ T, ahead g out e.j j = true) ∧ T[0]? = some e ∧ ∀ e' ∈ T, e' ≠ e → ahead g out e'.j e.j = true := by
  obtain ⟨T, h1, h2, h3, h4⟩ := H.T
  have hz : 0 < a.size := by rw [H.sz]; exact h0
  obtain ⟨e, he, hg, hT0⟩ := gv_ref h1 hz
  refine ⟨e, h2 e he, hg, T, h1, h2, h3, h4, hT0, fun e' he' hne => ?_⟩
  obtain ⟨k, hk, hke⟩ := List.getElem_of_mem he'
  have hka : k < a.size := by have := congrArg List.length h1; simp at this; exact om241 hk this
  obtain ⟨e2, he2, hg2, hT2⟩ := gv_ref h1 hka
  have : e2 = e' := by rw [List.getElem?_eq_getElem hk, hke] at hT2; injection hT2 with hT2; exact hT2.symm
  subst this
  have hr := heap_root (hlt_weak g out U) H.heap k hka
  rw [hg, hg2, hlt_ahead H.tab (h2 _ he2) (h2 _ he)] at hr
  rcases ahead_tot (g := g) (out := out) (i := e2.j) (j := e.j) (fun q => hne (H.tab.uj _ (h2 _ he2) _ (h2 _ he) q)) with r | r
  · exact r
  · rw [hr] at r; cases r
theorem HInv.skip (H : HInv g out n i U a od) (h0 : 0 < n) {e : Tri} (he : e ∈ U) (hg : gv a 0 = .ref e.a) (hb : better g (out i) (out e.j) = false) : HInv g out n (i + 1) U a od := by
  obtain ⟨e', he', hg', T, h1, h2, h3, h4, h5, h6⟩ := H.root h0
  have hee : e' = e := by
    rw [hg] at hg'
    injection hg' with q
    have t1 := triOf_mem H.tab.nd he
    have t2 := triOf_mem H.tab.nd he'
    rw [q, t2] at t1
    injection t1
  subst hee
  refine ⟨H.tab, H.sz, H.heap, ⟨T, h1, h2, h3, fun j hj hn x hx => ?_⟩, fun x hx => Nat.lt_succ_of_lt (H.ub x hx), H.odb⟩
  by_cases q : j < i
  · exact h4 j q hn x hx
  · obtain rfl : j = i := by exact om141 hj q
    have r : ahead g out e'.j j = true := by
      rw [ahead_iff]
      cases s : better g (out e'.j) (out j) with
      | true => exact .inl rfl
      | false => exact .inr ⟨better_tot s hb, H.ub e' he'⟩
    by_cases s : x = e'
    · rw [s]; exact r
    · exact ahead_tr (h6 x hx s) r
theorem TabU.snoc {e : Tri} (T : TabU g U) (ha : e.a ∉ U.map (·.a)) (hj : ∀ x ∈ U, x.j < e.j) (ho : ∀ x ∈ U, if g then e.o < x.o else x.o < e.o) : TabU g (U ++ [e]) := by
  refine ⟨?_, fun x hx y hy q => ?_, fun x hx y hy q => ?_⟩
  · rw [List.map_append]
    refine List.nodup_append.mpr ⟨T.nd, by simp, fun x hx y hy q => ?_⟩
    have : y = e.a := by simpa using hy
    exact ha (by rw [← this, ← q]; exact hx)
  · rcases List.mem_append.mp hx with hx | hx <;> rcases List.mem_append.mp hy with hy | hy
    · exact T.uj x hx y hy q
    · have := hj x hx; rw [List.mem_singleton.mp hy] at q; exact (om342 q this).elim
    · have := hj y hy; rw [List.mem_singleton.mp hx] at q; exact (om343 q this).elim
    · rw [List.mem_singleton.mp hx, List.mem_singleton.mp hy]
  · rcases List.mem_append.mp hx with hx | hx <;> rcases List.mem_append.mp hy with hy | hy
    · exact T.ord x hx y hy q
    · rw [List.mem_singleton.mp hy]; exact ho x hx
    · have := hj y hy; rw [List.mem_singleton.mp hx] at q; exact (om344 q this).elim
    · rw [List.mem_singleton.mp hx, List.mem_singleton.mp hy] at q; exact (om345 q).elim
theorem HeapFrom.congr {lt lt' : Value → Value → Bool} {p : Nat} (h : HeapFrom lt a p) (he : ∀ i j, i < a.size → j < a.size → lt (gv a i) (gv a j) = lt' (gv a i) (gv a j)) : HeapFrom lt' a p := fun j h0 hj hp => by
  rw [← he j ((j - 1) / 2) hj (by exact om137 hj)]; exact h j h0 hj hp
theorem HInv.put (H : HInv g out n i U a od) (h0 : 0 < n) {r e : Tri} (hr : r ∈ U) (hgr : gv a 0 = .ref r.a) (hb : better g (out i) (out r.j) = true) (hj : e.j = i) (ho : e.o = od) (ha : e.a ∉ U.map (·.a)) :
    HInv g out n (i + 1) (U ++ [e]) (siftup (hlt g out (U ++ [e])) (a.setIfInBounds 0 (.ref e.a)) 0) (if g then od - 1 else od + 1) := by
  have hz : 0 < a.size := by rw [H.sz]; exact h0
  have T' := H.tab.snoc ha (fun x hx => by rw [hj]; exact H.ub x hx) fun x hx => by rw [ho]; exact H.odb x hx
  obtain ⟨r', hr', hg', T, h1, h2, h3, h4, h5, h6⟩ := H.root h0
  have hee : r' = r := by
    rw [hgr] at hg'
    injection hg' with q
    have t1 := triOf_mem H.tab.nd hr
    have t2 := triOf_mem H.tab.nd hr'
    rw [q, t2] at t1
    injection t1
  subst hee
  have sub : ∀ x ∈ U, x ∈ U ++ [e] := fun x hx => List.mem_append_left _ hx
  have ee : e ∈ U ++ [e] := List.mem_append_right _ (.head _)
  have heap' : HeapFrom (hlt g out (U ++ [e])) a 0 := H.heap.congr fun x y hx hy => by
    obtain ⟨p, hp, e1, _⟩ := gv_ref h1 hx
    obtain ⟨q, hq, e2, _⟩ := gv_ref h1 hy
    rw [e1, e2, hlt_ahead H.tab (h2 p hp) (h2 q hq), hlt_ahead T' (sub _ (h2 p hp)) (sub _ (h2 q hq))]
  obtain ⟨hp1, hp2⟩ := replace_heap (hlt_weak g out (U ++ [e])) (x := .ref e.a) hz heap'
  have hT : T = r' :: T.tail := by
    cases T with
    | nil => simp at h5
    | cons x T => simp at h5; rw [h5]; rfl
  have hset : (a.setIfInBounds 0 (.ref e.a)).toList = triRefs (e :: T.tail) := by
    rw [Array.toList_setIfInBounds, h1, hT]; rfl
  obtain ⟨T2, q1, q2⟩ := perm_map_inv (f := fun e : Tri => Value.ref e.a) (Array.perm_iff_toList_perm.mp hp2) (e :: T.tail) hset
  have mem2 : ∀ x, x ∈ T2 ↔ x = e ∨ x ∈ T.tail := fun x => by rw [q1.mem_iff]; exact List.mem_cons
  have tl : ∀ x ∈ T.tail, x ∈ T := fun x hx => List.mem_of_mem_tail hx
  have jn : r'.j ∉ T.tail.map (·.j) := by
    rw [hT, List.map_cons, List.nodup_cons] at h3; exact h3.1
  have ne : ∀ x ∈ T.tail, x ≠ r' := fun x hx q => jn (List.mem_map.mpr ⟨x, hx, by rw [q]⟩)
  have er : ahead g out e.j r'.j = true := by rw [hj]; exact ahead_of_better hb
  refine ⟨T', by rw [siftup_size, Array.size_setIfInBounds, H.sz], hp1, ⟨T2, q2, fun x hx => ?_, ?_, fun j hjl hn x hx => ?_⟩, fun x hx => ?_, fun x hx => ?_⟩
  · rcases (mem2 x).mp hx with rfl | hx
    · exact ee
    · exact sub _ (h2 x (tl x hx))
  · refine (q1.map _).nodup_iff.mpr ?_
    rw [List.map_cons, List.nodup_cons]
    rw [hT, List.map_cons, List.nodup_cons] at h3
    refine ⟨fun q => ?_, h3.2⟩
    obtain ⟨y, hy, e1⟩ := List.mem_map.mp q
    have := H.ub y (h2 y (tl y hy))
    exact om346 hj e1 this
  · have hne : j ≠ e.j := fun q => hn (List.mem_map.mpr ⟨e, (mem2 e).mpr (.inl rfl), q.symm⟩)
    have hji : j < i := by exact om347 hj hjl hne
    by_cases hjr : j = r'.j
    · subst hjr
      rcases (mem2 x).mp hx with rfl | hx
      · exact er
      · exact h6 x (tl x hx) (ne x hx)
    · have hjT : j ∉ T.map (·.j) := fun q => by
        rw [hT, List.map_cons] at q
        rcases List.mem_cons.mp q with q | q
        · exact hjr q
        · obtain ⟨y, hy, e1⟩ := List.mem_map.mp q
          exact hn (List.mem_map.mpr ⟨y, (mem2 y).mpr (.inr hy), e1⟩)
      have rT : r' ∈ T := by rw [hT]; exact .head _
      rcases (mem2 x).mp hx with rfl | hx
      · exact ahead_tr er (h4 j hji hjT r' rT)
      · exact h4 j hji hjT x (tl x hx)
  · rcases List.mem_append.mp hx with hx | hx
    · exact Nat.lt_succ_of_lt (H.ub x hx)
    · rw [List.mem_singleton.mp hx, hj]; exact Nat.lt_succ_self _
  · rcases List.mem_append.mp hx with hx | hx
    · have := H.odb x hx
      cases g <;> simp only [Bool.false_eq_true, if_false, if_true] at * <;> omega
    · rw [List.mem_singleton.mp hx, ho]
      cases g <;> simp only [Bool.false_eq_true, if_false, if_true] <;> omega
end
end Mine
namespace Mine
open PySem PySem.Calls PyProof.Rows PySem.W
open Sem (wp)
/-! ## the loop of nsmallest and nlargest -/
theorem cmpOn_U {prog : Program} {w : World} {g : Bool} {out : Nat → List UInt8} {vs : List Value} {U : List Tri} (T : TabU g U) {xs : List Value} (hxs : ∀ x ∈ xs, ∃ e ∈ U, x = .ref e.a) : CmpOn prog w (ltU out U) xs (triLed out vs U) := by
  intro x hx y hy A s Q E rm hK h
  obtain ⟨e1, h1, rfl⟩ := hxs x hx
  obtain ⟨e2, h2, rfl⟩ := hxs y hy
  have k1 := hK _ (List.mem_map.mpr ⟨e1, h1, rfl⟩)
  have k2 := hK _ (List.mem_map.mpr ⟨e2, h2, rfl⟩)
  rw [ltU_eq T.nd h1 h2] at h
  refine lt_trip k1 k2 (fun _ ho => ?_) rm.units h
  have : e1.j = e2.j := by
    rcases Nat.lt_trichotomy e1.j e2.j with r | r | r
    · have := T.ord e1 h1 e2 h2 r; cases g <;> simp only [Bool.false_eq_true, if_false, if_true] at this <;> omega
    · exact r
    · have := T.ord e2 h2 e1 h1 r; cases g <;> simp only [Bool.false_eq_true, if_false, if_true] at this <;> omega
  rw [this]
def ErrP (N : Nat) (n : Int) (err : Nat → Option String) (sE : Shared) (S : List Addr) (io : Option Addr) (l : Addr) (cls : String) (hR : Heap) : Prop :=
  1 ≤ n ∧ ∃ i, i < N ∧ (∀ j, j < i → err j = none) ∧ err i = some cls ∧ Ext S sE.heap hR ∧ ∀ it, io = some it → At hR it (.liter l (i + 1))
theorem loadL {M : Model} {A : Around} {E : Value → Shared → Prop} {s : Shared} {c : Cx} {m : Str → Option Value} {ℓ : List (Addr × Kn)} {q : Str} {sc : Scope} {f : Addr} {cd : Value} {cl : List (Str × Addr)} {x : Str} {v : Value} {Q : Value → Shared → Prop} (F : Fx c m ℓ s) (hv : m x = some v) (h : Q v s) (hk : sc.kind = .function := by rfl) (hx : (envX q sc c.L f cd cl).kindOf x = some .local := by rfl) :
    wpAny M A (loadName (envX q sc c.L f cd cl) x) Q E s := wpAny_loadName_local hk hx F.ns hv h
theorem iterSelf {prog : Program} {w : World} {A : Around} {E : Value → Shared → Prop} {s : Shared} {it : Addr} {Q : Value → Shared → Prop} (hT : s.TypeIs (.ref it) "list_iterator") (h : Q (.ref it) s) : wpAny (model prog w) A (pyIter (.ref it)) Q E s := by
  refine wpAny_pyIter_slot hT slot_listiter_iter (wpAny_call_entry slot_listiter_iter hT entry_listiter_iter ?_ (args_listiter_iter _))
  show wpAny _ _ (ret (.ref it)) _ _ s
  exact wpAny_pure ⟨_, rfl, "list_iterator", _, hT, slot_listiter_next.lookup, h⟩
section
variable {prog : Program} {w : World} {A : Around} {s : Shared} {m : Str → Option Value} {ℓ : List (Addr × Kn)} {G : Heap} {fr : List Env} {sE : Shared} {L : Addr} {S : List Addr} {f : Addr} {vs : List Value} {err : Nat → Option String} {out : Nat → List UInt8}
set_option maxHeartbeats 2000000 in
theorem loopNs9 {n : Nat} {nz : Int} {io : Option Addr} {it l D : Addr} {i kk : Nat} {U : List Tri} {a : Array Value} {od : Int} {itK : Kn} {Q : Flow → Shared → Prop} (N : NS prog w G fr (envC 9 L 76 75) A sE L S f vs err out (L + 1 + 0))
    (F : Fx ⟨G, L, S, sE⟩ m ((D, .sqn kk a) :: (it, itK) :: (L + 1 + 0, .cell (some (.ref f))) :: (l, .list vs) :: (triLed out vs U ++ ℓ)) s) (wi : Own ⟨G, L, S, sE⟩ it) (fD : Fresh ⟨G, L, S, sE⟩ D) (hio : ∀ x, io = some x → x = it) (hn : 1 ≤ nz)
    (H : HInv false out n i U a od) (hi : i ≤ vs.length) (h0 : 0 < n) (hn16 : n ≤ 16) (hk : itK = .liter l i ∨ (itK = .lidone vs.length ∧ i = vs.length)) (hok : ∀ j, j < i → err j = none)
    (er₀ : Tri) (her : er₀ ∈ U) (hgr : gv a 0 = .ref er₀.a) {tt to : Tok} (m1 : m "result" = some (.ref D)) (m2 : m "top" = some (.bytes (out er₀.j).toArray tt)) (m3 : m "order" = some (.int od to)) (m4 : m "_heapreplace" = some (.ref 35)) (m5 : m "it" = some (.ref it))
    (hQ : ∀ U' a' od' m' s', Fx ⟨G, L, S, sE⟩ m' ((D, .sqn kk a') :: (it, .lidone vs.length) :: (L + 1 + 0, .cell (some (.ref f))) :: (l, .list vs) :: (triLed out vs U' ++ ℓ)) s' → HInv false out n vs.length U' a' od' → m' "result" = some (.ref D) → (∀ j, j < vs.length → err j = none) → Q .next s') :
    wpS (model prog w) A (exec (stAt 9 10) (envC 9 L 76 75)) Q (EX sE G (envC 9 L 76 75) fr L (ErrP vs.length nz err sE S io l)) s := by
  have hh : A.handled = none := N.rm.hh
  have hpass : PassesOwn (model prog w) A (envC 9 L 76 75) (EX sE G (envC 9 L 76 75) fr L (ErrP vs.length nz err sE S io l)) := EX.passes N.hA N.frame
  obtain ⟨Y, hYe⟩ : ∃ Y : Value → Shared → Prop, Y = EX sE G (envC 9 L 76 75) fr L (ErrP vs.length nz err sE S io l) := ⟨_, rfl⟩
  rw [← hYe] at hpass ⊢
  have hY : ∀ v s', EX sE G (envC 9 L 76 75) fr L (ErrP vs.length nz err sE S io l) v s' → Y v s' := fun v s' q => by rw [hYe]; exact q
  clear hYe
  have iself : ∀ {Q' : Value → Shared → Prop}, Q' (.ref it) s → wpAny (model prog w) A (pyIter (.ref it)) Q' Y s := fun hq => by
    rcases hk with rfl | ⟨rfl, _⟩
    · exact wpAny_pyIter_listiter (F.at (.tail _ (.head _))).isIter hq
    · exact iterSelf ⟨_, (F.at (.tail _ (.head _))).choose_spec.1, (F.at (.tail _ (.head _))).choose_spec.2.1⟩ hq
  refine sFor (nmL F m5 (iself ?_))
  refine codeSFor (fun k s' => ∃ (i : Nat) (U : List Tri) (a : Array Value) (od : Int) (itK : Kn) (er : Tri) (m : Str → Option Value) (tt to : Tok), Fx ⟨G, L, S, sE⟩ m ((D, .sqn kk a) :: (it, itK) :: (L + 1 + 0, .cell (some (.ref f))) :: (l, .list vs) :: (triLed out vs U ++ ℓ)) s' ∧ HInv false out n i U a od ∧ i ≤ vs.length ∧ (itK = .liter l i ∨ (itK = .lidone vs.length ∧ i = vs.length)) ∧ (∀ j, j < i → err j = none) ∧
    er ∈ U ∧ gv a 0 = .ref er.a ∧ m "result" = some (.ref D) ∧ m "top" = some (.bytes (out er.j).toArray tt) ∧ m "order" = some (.int od to) ∧ m "_heapreplace" = some (.ref 35) ∧ k = vs.length - i) ?_ _ ⟨i, U, a, od, itK, er₀, m, tt, to, F, H, hi, hk, hok, her, hgr, m1, m2, m3, m4, rfl⟩
  clear F H hi hk hok her hgr m1 m2 m3 m4 m5 iself
  rintro W D' X k s₁ hW hD hX2 ⟨i, U, a, od, itK, er, m, tt, to, F, H, hi, hk, hok, her, hgr, m1, m2, m3, m4, rfl⟩
  have fin : ∀ {s₂ : Shared}, Fx ⟨G, L, S, sE⟩ m ((D, .sqn kk a) :: (it, .lidone vs.length) :: (L + 1 + 0, .cell (some (.ref f))) :: (l, .list vs) :: (triLed out vs U ++ ℓ)) s₂ → i = vs.length → Q .next s₂ := fun F q => by
    subst q
    exact hQ U a od m _ F H m1 hok
  rcases hk with rfl | ⟨rfl, hiN⟩
  rotate_left
  · refine toS (nextDone F (.tail _ (.head _)) hh fun s₂ F => hD _ (fin F hiN))
  refine toS (nextL F.swap (.tail _ (.tail _ (.head _))) wi hh (fun x hx s₂ F => ?_) fun hx s₂ F => ?_)
  rotate_left
  · have hiN : i = vs.length := by
      rw [List.getElem?_toArray] at hx
      have := List.getElem?_eq_none_iff.mp hx; exact om86 hi this
    subst hiN
    exact hD _ (fin F.swap rfl)
  rw [List.getElem?_toArray] at hx
  have hil := (List.getElem?_eq_some_iff.mp hx).1
  have hxd : vs.getD i .none = x := by rw [List.getD_eq_getElem?_getD, hx]; rfl
  refine wpAny_assign_Name (stL F.swap fun s₃ F => sMono (E := Y) ?_ (fun _ _ q => q) fun _ _ q => hX2 _ _ (hpass _ _ q))
  have st := N.still (upd m "elem" x)
  refine sExecs (sAssign (sEvalCall (nmC F rfl (.tail _ (.tail _ (.head _))) (sCallFn (by rfl) (evalArgs_plain (args_cons (nmL F rfl (args_nil ⟨F.post.ext.func N.fS N.fn, ?_⟩))))))))
  refine N.key i x hx A s₃ _ _ _ (N.rm.le (by decide)) N.hA F.kg (st.f _ _ F) N.frs F.post.ext (fun he t' s₄ P' => ?_) fun cls he ee hR s₄ hs hx' hX => ?_
  rotate_left
  · refine hY _ _ (F.relay hs hX ⟨hn, i, hil, hok, he, F.post.ext.trans (hx'.mono fun _ q => nomatch q), fun it' hit' => ?_⟩)
    rw [hio it' hit']
    exact hx'.at (fun q => nomatch q) (F.at (.tail _ (.head _)))
  have F := F.after0 P'
  have hok' : ∀ j, j < i + 1 → err j = none := fun j hj => by
    by_cases q : j < i
    · exact hok j q
    · obtain rfl : j = i := by exact om141 hj q
      exact he
  refine stL F fun s₅ F => toS ?_
  refine ec (wpAny_If (wpAny_isTrue_Compare1 (nmL F rfl (nmL F m2 (lt_bytes (wpAny_truthy_bool (split_bool (fun hb => ?_) fun hb => ?_)))))))
  · refine ec (wpAny_Expr_any (Call_ (nmL F m4 (callF (c := ⟨G, L, S, sE⟩) (i := 3) (cd := 34) (dV := .none) (N.B.fn (3, 35, 34, .none) (by decide)) (args_cons (nmL F m1 (args_cons (Tuple_ (args_cons (nmL F rfl (args_cons (nmL F m3 (args_cons (nmL F rfl (args_nil (wpAny_newTuple ?_ (show (3 : Nat) ≤ sizeLine by rw [sizeLine_eq]; decide)))))))))))))))))
    have fT := F.new
    have F0 := F
    have F := F.pushS (tk := s₅.toks) "tuple" #[.bytes (out i).toArray t', .int od to, x]
    generalize s₅.heap.objs.size = T' at F fT
    have hTa : T' ∉ U.map (·.a) := fun q => by
      have := F.nd
      rw [List.map_cons, List.nodup_cons] at this
      refine this.1 ?_
      simp only [List.map_cons, List.map_append, List.map_map, List.mem_cons, List.mem_append]
      exact .inr (.inr (.inr (.inr (.inl (by simpa using q)))))
    have H' := H.put h0 her hgr (e := ⟨i, T', od, t', to⟩) hb rfl rfl hTa
    have F := (F.perm (ℓ' := (D, .sqn kk a) :: (it, .liter l (i + 1)) :: (L + 1 + 0, .cell (some (.ref f))) :: (l, .list vs) :: (triLed out vs U ++ (T', .trip (out i) t' od to x) :: ℓ)) (List.perm_middle (l₁ := (D, _) :: (it, _) :: (L + 1 + 0, _) :: (l, _) :: triLed out vs U))).ofEq (ℓ' := (D, .sqn kk a) :: (it, .liter l (i + 1)) :: (L + 1 + 0, .cell (some (.ref f))) :: (l, .list vs) :: (triLed out vs (U ++ [⟨i, T', od, t', to⟩]) ++ ℓ)) (by simp [triLed, hx])
    refine args_nil ⟨F.kg, heapreplace_max_spec (nn := kk) (its := a) (K := triLed out vs (U ++ [⟨i, T', od, t', to⟩])) (ltU out (U ++ [⟨i, T', od, t', to⟩])) N.B F.kg (N.rm.le (by decide)) ?_ ?_ fD.off (cmpOn_U (vs := vs) H'.tab ?_) (by rw [H.sz]; exact h0) (by rw [H.sz]; exact om204 hn16) fun r s₆ P6 ho6 => ?_⟩
    · refine F.nd.sublist ?_
      rw [List.map_cons, List.map_cons, List.map_cons, List.map_cons, List.map_cons, List.map_append]
      exact ((((List.sublist_append_left _ _).cons _).cons _).cons _).cons₂ _
    · intro p hp
      rcases List.mem_cons.mp hp with rfl | hp
      · exact F.at (.head _)
      · exact F.at (.tail _ (.tail _ (.tail _ (.tail _ (List.mem_append_left _ hp)))))
    · intro y hy
      rcases List.mem_cons.mp hy with rfl | hy
      · exact ⟨⟨i, T', od, t', to⟩, List.mem_append_right _ (.head _), rfl⟩
      · obtain ⟨T, h1, h2, _⟩ := H.T
        rw [h1] at hy
        obtain ⟨e, he, rfl⟩ := List.mem_map.mp hy
        exact ⟨e, List.mem_append_left _ (h2 e he), rfl⟩
    have F := F.after1 fD.own P6 ho6
    obtain ⟨e2, he2, hg2, _⟩ := H'.root h0
    have hz2 : (0 : Nat) < (siftup (hlt false out (U ++ [⟨i, T', od, t', to⟩])) (a.setIfInBounds 0 (.ref T')) 0).size := by rw [H'.sz]; exact h0
    have hg2' : (siftup (hlt false out (U ++ [⟨i, T', od, t', to⟩])) (a.setIfInBounds 0 (.ref T')) 0)[(0 : Int).toNat]? = some (.ref e2.a) := by
      rw [← hg2]; exact getElem?_int (k := 0) hz2
    refine ec (Assign_Tuple (Subscript_ (nmL F m1 (ci F fun _ s₇ F => subLx F (.head _) (by decide) (by decide) hg2' ?_))))
    refine unpackT (its := [.bytes (out e2.j).toArray e2.t, .int e2.o e2.u, vs.getD e2.j .none]) F (.tail _ (.tail _ (.tail _ (.tail _ (List.mem_append_left _ (List.mem_map.mpr ⟨e2, he2, rfl⟩)))))) hh rfl rfl fun s₈ F => ?_
    refine assignInOrder_cons (wpAny_assign_Name (stL F fun s₉ F => assignInOrder_cons (wpAny_assign_Name (stL F fun s₁₀ F => assignInOrder_cons (wpAny_assign_Name (stL F fun s₁₁ F => assignInOrder_nil ?_))))))
    refine ec (wpAny_AugAssign_Name (loadL F m3 (ci F fun _ s₁₂ F => PyProof.Rows.iadd_int (stL (F.toks _) fun s₁₃ F => wpAny_execs_nil (wpAny_execs_nil ?_)))))
    exact hW .next _ ⟨vs.length - (i + 1), by exact om85 hil, i + 1, _, _, od + 1, _, e2, _, e2.t, _, F, H', hil, .inl rfl, hok', he2, hg2, m1, rfl, rfl, m4, rfl⟩
  · refine wpAny_execs_nil (wpAny_execs_nil (hW .next _ ⟨vs.length - (i + 1), by exact om85 hil, i + 1, U, a, od, _, er, _, tt, to, F, H.skip h0 her hgr hb, hil, .inl rfl, hok', her, hgr, m1, m2, m3, m4, rfl⟩))

set_option maxHeartbeats 2000000 in
theorem loopNs10 {n : Nat} {nz : Int} {io : Option Addr} {it l D : Addr} {i kk : Nat} {U : List Tri} {a : Array Value} {od : Int} {itK : Kn} {Q : Flow → Shared → Prop} (N : NS prog w G fr (envC 10 L 82 81) A sE L S f vs err out (L + 1 + 0))
    (F : Fx ⟨G, L, S, sE⟩ m ((D, .sqn kk a) :: (it, itK) :: (L + 1 + 0, .cell (some (.ref f))) :: (l, .list vs) :: (triLed out vs U ++ ℓ)) s) (wi : Own ⟨G, L, S, sE⟩ it) (fD : Fresh ⟨G, L, S, sE⟩ D) (hio : ∀ x, io = some x → x = it) (hn : 1 ≤ nz)
    (H : HInv true out n i U a od) (hi : i ≤ vs.length) (h0 : 0 < n) (hn16 : n ≤ 16) (hk : itK = .liter l i ∨ (itK = .lidone vs.length ∧ i = vs.length)) (hok : ∀ j, j < i → err j = none)
    (er₀ : Tri) (her : er₀ ∈ U) (hgr : gv a 0 = .ref er₀.a) {tt to : Tok} (m1 : m "result" = some (.ref D)) (m2 : m "top" = some (.bytes (out er₀.j).toArray tt)) (m3 : m "order" = some (.int od to)) (m4 : m "_heapreplace" = some (.ref 21)) (m5 : m "it" = some (.ref it))
    (hQ : ∀ U' a' od' m' s', Fx ⟨G, L, S, sE⟩ m' ((D, .sqn kk a') :: (it, .lidone vs.length) :: (L + 1 + 0, .cell (some (.ref f))) :: (l, .list vs) :: (triLed out vs U' ++ ℓ)) s' → HInv true out n vs.length U' a' od' → m' "result" = some (.ref D) → (∀ j, j < vs.length → err j = none) → Q .next s') :
    wpS (model prog w) A (exec (stAt 10 10) (envC 10 L 82 81)) Q (EX sE G (envC 10 L 82 81) fr L (ErrP vs.length nz err sE S io l)) s := by
  have hh : A.handled = none := N.rm.hh
  have hpass : PassesOwn (model prog w) A (envC 10 L 82 81) (EX sE G (envC 10 L 82 81) fr L (ErrP vs.length nz err sE S io l)) := EX.passes N.hA N.frame
  obtain ⟨Y, hYe⟩ : ∃ Y : Value → Shared → Prop, Y = EX sE G (envC 10 L 82 81) fr L (ErrP vs.length nz err sE S io l) := ⟨_, rfl⟩
  rw [← hYe] at hpass ⊢
  have hY : ∀ v s', EX sE G (envC 10 L 82 81) fr L (ErrP vs.length nz err sE S io l) v s' → Y v s' := fun v s' q => by rw [hYe]; exact q
  clear hYe
  have iself : ∀ {Q' : Value → Shared → Prop}, Q' (.ref it) s → wpAny (model prog w) A (pyIter (.ref it)) Q' Y s := fun hq => by
    rcases hk with rfl | ⟨rfl, _⟩
    · exact wpAny_pyIter_listiter (F.at (.tail _ (.head _))).isIter hq
    · exact iterSelf ⟨_, (F.at (.tail _ (.head _))).choose_spec.1, (F.at (.tail _ (.head _))).choose_spec.2.1⟩ hq
  refine sFor (nmL F m5 (iself ?_))
  refine codeSFor (fun k s' => ∃ (i : Nat) (U : List Tri) (a : Array Value) (od : Int) (itK : Kn) (er : Tri) (m : Str → Option Value) (tt to : Tok), Fx ⟨G, L, S, sE⟩ m ((D, .sqn kk a) :: (it, itK) :: (L + 1 + 0, .cell (some (.ref f))) :: (l, .list vs) :: (triLed out vs U ++ ℓ)) s' ∧ HInv true out n i U a od ∧ i ≤ vs.length ∧ (itK = .liter l i ∨ (itK = .lidone vs.length ∧ i = vs.length)) ∧ (∀ j, j < i → err j = none) ∧
    er ∈ U ∧ gv a 0 = .ref er.a ∧ m "result" = some (.ref D) ∧ m "top" = some (.bytes (out er.j).toArray tt) ∧ m "order" = some (.int od to) ∧ m "_heapreplace" = some (.ref 21) ∧ k = vs.length - i) ?_ _ ⟨i, U, a, od, itK, er₀, m, tt, to, F, H, hi, hk, hok, her, hgr, m1, m2, m3, m4, rfl⟩
  clear F H hi hk hok her hgr m1 m2 m3 m4 m5 iself
  rintro W D' X k s₁ hW hD hX2 ⟨i, U, a, od, itK, er, m, tt, to, F, H, hi, hk, hok, her, hgr, m1, m2, m3, m4, rfl⟩
  have fin : ∀ {s₂ : Shared}, Fx ⟨G, L, S, sE⟩ m ((D, .sqn kk a) :: (it, .lidone vs.length) :: (L + 1 + 0, .cell (some (.ref f))) :: (l, .list vs) :: (triLed out vs U ++ ℓ)) s₂ → i = vs.length → Q .next s₂ := fun F q => by
    subst q
    exact hQ U a od m _ F H m1 hok
  rcases hk with rfl | ⟨rfl, hiN⟩
  rotate_left
  · refine toS (nextDone F (.tail _ (.head _)) hh fun s₂ F => hD _ (fin F hiN))
  refine toS (nextL F.swap (.tail _ (.tail _ (.head _))) wi hh (fun x hx s₂ F => ?_) fun hx s₂ F => ?_)
  rotate_left
  · have hiN : i = vs.length := by
      rw [List.getElem?_toArray] at hx
      have := List.getElem?_eq_none_iff.mp hx; exact om86 hi this
    subst hiN
    exact hD _ (fin F.swap rfl)
  rw [List.getElem?_toArray] at hx
  have hil := (List.getElem?_eq_some_iff.mp hx).1
  have hxd : vs.getD i .none = x := by rw [List.getD_eq_getElem?_getD, hx]; rfl
  refine wpAny_assign_Name (stL F.swap fun s₃ F => sMono (E := Y) ?_ (fun _ _ q => q) fun _ _ q => hX2 _ _ (hpass _ _ q))
  have st := N.still (upd m "elem" x)
  refine sExecs (sAssign (sEvalCall (nmC F rfl (.tail _ (.tail _ (.head _))) (sCallFn (by rfl) (evalArgs_plain (args_cons (nmL F rfl (args_nil ⟨F.post.ext.func N.fS N.fn, ?_⟩))))))))
  refine N.key i x hx A s₃ _ _ _ (N.rm.le (by decide)) N.hA F.kg (st.f _ _ F) N.frs F.post.ext (fun he t' s₄ P' => ?_) fun cls he ee hR s₄ hs hx' hX => ?_
  rotate_left
  · refine hY _ _ (F.relay hs hX ⟨hn, i, hil, hok, he, F.post.ext.trans (hx'.mono fun _ q => nomatch q), fun it' hit' => ?_⟩)
    rw [hio it' hit']
    exact hx'.at (fun q => nomatch q) (F.at (.tail _ (.head _)))
  have F := F.after0 P'
  have hok' : ∀ j, j < i + 1 → err j = none := fun j hj => by
    by_cases q : j < i
    · exact hok j q
    · obtain rfl : j = i := by exact om141 hj q
      exact he
  refine stL F fun s₅ F => toS ?_
  refine ec (wpAny_If (wpAny_isTrue_Compare1 (nmL F m2 (nmL F rfl (lt_bytes (wpAny_truthy_bool (split_bool (fun hb => ?_) fun hb => ?_)))))))
  · refine ec (wpAny_Expr_any (Call_ (nmL F m4 (callF (c := ⟨G, L, S, sE⟩) (i := 1) (cd := 20) (dV := .none) (N.B.fn (1, 21, 20, .none) (by decide)) (args_cons (nmL F m1 (args_cons (Tuple_ (args_cons (nmL F rfl (args_cons (nmL F m3 (args_cons (nmL F rfl (args_nil (wpAny_newTuple ?_ (show (3 : Nat) ≤ sizeLine by rw [sizeLine_eq]; decide)))))))))))))))))
    have fT := F.new
    have F0 := F
    have F := F.pushS (tk := s₅.toks) "tuple" #[.bytes (out i).toArray t', .int od to, x]
    generalize s₅.heap.objs.size = T' at F fT
    have hTa : T' ∉ U.map (·.a) := fun q => by
      have := F.nd
      rw [List.map_cons, List.nodup_cons] at this
      refine this.1 ?_
      simp only [List.map_cons, List.map_append, List.map_map, List.mem_cons, List.mem_append]
      exact .inr (.inr (.inr (.inr (.inl (by simpa using q)))))
    have H' := H.put h0 her hgr (e := ⟨i, T', od, t', to⟩) hb rfl rfl hTa
    have F := (F.perm (ℓ' := (D, .sqn kk a) :: (it, .liter l (i + 1)) :: (L + 1 + 0, .cell (some (.ref f))) :: (l, .list vs) :: (triLed out vs U ++ (T', .trip (out i) t' od to x) :: ℓ)) (List.perm_middle (l₁ := (D, _) :: (it, _) :: (L + 1 + 0, _) :: (l, _) :: triLed out vs U))).ofEq (ℓ' := (D, .sqn kk a) :: (it, .liter l (i + 1)) :: (L + 1 + 0, .cell (some (.ref f))) :: (l, .list vs) :: (triLed out vs (U ++ [⟨i, T', od, t', to⟩]) ++ ℓ)) (by simp [triLed, hx])
    refine args_nil ⟨F.kg, heapreplace_spec (nn := kk) (its := a) (K := triLed out vs (U ++ [⟨i, T', od, t', to⟩])) (ltU out (U ++ [⟨i, T', od, t', to⟩])) N.B F.kg (N.rm.le (by decide)) ?_ ?_ fD.off (cmpOn_U (vs := vs) H'.tab ?_) (by rw [H.sz]; exact h0) (by rw [H.sz]; exact om204 hn16) fun r s₆ P6 ho6 => ?_⟩
    · refine F.nd.sublist ?_
      rw [List.map_cons, List.map_cons, List.map_cons, List.map_cons, List.map_cons, List.map_append]
      exact ((((List.sublist_append_left _ _).cons _).cons _).cons _).cons₂ _
    · intro p hp
      rcases List.mem_cons.mp hp with rfl | hp
      · exact F.at (.head _)
      · exact F.at (.tail _ (.tail _ (.tail _ (.tail _ (List.mem_append_left _ hp)))))
    · intro y hy
      rcases List.mem_cons.mp hy with rfl | hy
      · exact ⟨⟨i, T', od, t', to⟩, List.mem_append_right _ (.head _), rfl⟩
      · obtain ⟨T, h1, h2, _⟩ := H.T
        rw [h1] at hy
        obtain ⟨e, he, rfl⟩ := List.mem_map.mp hy
        exact ⟨e, List.mem_append_left _ (h2 e he), rfl⟩
    have F := F.after1 fD.own P6 ho6
    obtain ⟨e2, he2, hg2, _⟩ := H'.root h0
    have hz2 : (0 : Nat) < (siftup (hlt true out (U ++ [⟨i, T', od, t', to⟩])) (a.setIfInBounds 0 (.ref T')) 0).size := by rw [H'.sz]; exact h0
    have hg2' : (siftup (hlt true out (U ++ [⟨i, T', od, t', to⟩])) (a.setIfInBounds 0 (.ref T')) 0)[(0 : Int).toNat]? = some (.ref e2.a) := by
      rw [← hg2]; exact getElem?_int (k := 0) hz2
    refine ec (Assign_Tuple (Subscript_ (nmL F m1 (ci F fun _ s₇ F => subLx F (.head _) (by decide) (by decide) hg2' ?_))))
    refine unpackT (its := [.bytes (out e2.j).toArray e2.t, .int e2.o e2.u, vs.getD e2.j .none]) F (.tail _ (.tail _ (.tail _ (.tail _ (List.mem_append_left _ (List.mem_map.mpr ⟨e2, he2, rfl⟩)))))) hh rfl rfl fun s₈ F => ?_
    refine assignInOrder_cons (wpAny_assign_Name (stL F fun s₉ F => assignInOrder_cons (wpAny_assign_Name (stL F fun s₁₀ F => assignInOrder_cons (wpAny_assign_Name (stL F fun s₁₁ F => assignInOrder_nil ?_))))))
    refine ec (wpAny_AugAssign_Name (loadL F m3 (ci F fun _ s₁₂ F => PyProof.Rows.isub_int (stL (F.toks _) fun s₁₃ F => wpAny_execs_nil (wpAny_execs_nil ?_)))))
    exact hW .next _ ⟨vs.length - (i + 1), by exact om85 hil, i + 1, _, _, od - 1, _, e2, _, e2.t, _, F, H', hil, .inl rfl, hok', he2, hg2, m1, rfl, rfl, m4, rfl⟩
  · refine wpAny_execs_nil (wpAny_execs_nil (hW .next _ ⟨vs.length - (i + 1), by exact om85 hil, i + 1, U, a, od, _, er, _, tt, to, F, H.skip h0 her hgr hb, hil, .inl rfl, hok', her, hgr, m1, m2, m3, m4, rfl⟩))
end
end Mine
namespace Mine
open PySem PySem.Calls PyProof.Rows PySem.W
/-! ## the first n: by a sort, by one look, by the heap -/
theorem Tops.take {ah : Nat → Nat → Bool} (W : Strict ah) {N : Nat} {idx : List Nat} (hp : idx.Perm (List.range N)) (pw : idx.Pairwise fun i j => ah i j = true) (n : Nat) : Tops ah N n (idx.take n) := by
  have hl : idx.length = N := by rw [hp.length_eq, List.length_range]
  refine ⟨by rw [List.length_take, hl], fun i hi => ?_, pw.sublist (List.take_sublist _ _), fun j hj hn i hi => ?_⟩
  · have := hp.mem_iff.mp (List.mem_of_mem_take hi); exact List.mem_range.mp this
  · have hm : j ∈ idx := hp.mem_iff.mpr (List.mem_range.mpr hj)
    have e : idx = idx.take n ++ idx.drop n := (List.take_append_drop n idx).symm
    rw [e] at hm pw
    rcases List.mem_append.mp hm with hm | hm
    · exact absurd hm hn
    · exact (List.pairwise_append.mp pw).2.2 i hi j hm
theorem perm_pw {c : Nat → Nat → Bool} (W : Weak c) {N : Nat} (hN : 1 ≤ N) : (permOf c N).Perm (List.range N) ∧ (permOf c N).Pairwise (Before c) := by
  obtain ⟨h1, h2, h3⟩ := sort_run W hN
  refine ⟨by have := Array.perm_iff_toList_perm.mp h3; simpa using this, ?_⟩
  rw [List.pairwise_iff_getElem]
  intro i j hi hj hij
  have := h1 i j hij (by simp at hj; exact om146 h2 hj)
  have e : ∀ k (hk : k < (permOf c N).length), gt0 (KasT.run c (kas_sort N)) k = (permOf c N)[k] := fun k hk => by
    have hk' : k < (KasT.run c (kas_sort N)).size := by simpa using hk
    simp [gt0, Array.getD, hk']
  rw [e i hi, e j hj] at this
  exact this
theorem weak_on {α : Type} {lt : α → α → Bool} (irr : ∀ x, lt x x = false) (tr : ∀ x y z, lt x y = true → lt y z = true → lt x z = true) (neg : ∀ x y z, lt x z = true → lt x y = true ∨ lt y z = true) (f : Nat → α) : Weak fun i j => lt (f i) (f j) := ⟨fun _ => irr _, fun _ _ _ => tr _ _ _, fun _ _ _ => neg _ _ _⟩
theorem blt_neg (x y z : List UInt8) (h : blt x z = true) : blt x y = true ∨ blt y z = true := by
  cases q : blt x y with
  | true => exact .inl rfl
  | false =>
    cases r : blt y x with
    | true => exact .inr (blt_tr r h)
    | false => rw [← blt_tot q r]; exact .inr h
theorem rv_lt {b : Bool} {N i : Nat} (h : i < N) : rv b N i < N := by unfold rv; cases b <;> simp <;> omega
theorem rv_rv {b : Bool} {N i : Nat} (h : i < N) : rv b N (rv b N i) = i := by unfold rv; cases b <;> simp <;> exact om348 h
theorem getD_rv {vs : List Value} {b : Bool} {i : Nat} (h : i < vs.length) : (katRev b vs).getD i .none = vs.getD (rv b vs.length i) .none := by
  unfold katRev rv
  cases b
  · rfl
  · simp only [if_true]
    rw [List.getD_eq_getElem?_getD, List.getD_eq_getElem?_getD, List.getElem?_reverse h]
theorem map_rv_perm {b : Bool} {N : Nat} {p : List Nat} (h : p.Perm (List.range N)) : (p.map (rv b N)).Perm (List.range N) := by
  refine (h.map _).trans ?_
  cases b
  · have : (List.range N).map (rv false N) = List.range N := by
      conv => rhs; rw [← List.map_id (List.range N)]
      exact List.map_congr_left fun i _ => rfl
    rw [this]
  · have : (List.range N).map (rv true N) = (List.range N).reverse := by
      refine List.ext_getElem (by simp) fun i h1 h2 => ?_
      simp [rv]
    rw [this]
    exact List.reverse_perm _
theorem katRev_perm {α : Type} (b : Bool) (l : List α) : (katRev b l).Perm l := by
  unfold katRev; cases b
  · exact .refl _
  · exact List.reverse_perm _
/-- sorted with a key -/
theorem sorted_tops (g : Bool) (out : Nat → List UInt8) {vs : List Value} (hN : 1 ≤ vs.length) (n : Nat) :
    ∃ idx, Tops (ahead g out) vs.length n idx ∧ (katRev g ((permOf (fun i j => blt (out (rv g vs.length i)) (out (rv g vs.length j))) vs.length).map fun i => (katRev g vs).getD i .none)).take n = idx.map fun i => vs.getD i .none := by
  have W : Weak fun i j => blt (out (rv g vs.length i)) (out (rv g vs.length j)) := weak_on blt_irr (fun _ _ _ => blt_tr) blt_neg fun i => out (rv g vs.length i)
  obtain ⟨hp, pw⟩ := perm_pw W hN
  generalize permOf (fun i j => blt (out (rv g vs.length i)) (out (rv g vs.length j))) vs.length = p at hp pw
  have hlt : ∀ i ∈ p, i < vs.length := fun i hi => List.mem_range.mp (hp.mem_iff.mp hi)
  refine ⟨(katRev g (p.map (rv g vs.length))).take n, Tops.take (ahead_strict g out) ((katRev_perm g _).trans (map_rv_perm hp)) ?_ n, ?_⟩
  · cases g
    · show (p.map (rv false vs.length)).Pairwise _
      rw [List.pairwise_map]
      refine pw.imp_of_mem fun {x y} hx hy h => ?_
      show ahead false out x y = true
      rw [ahead_iff]
      rcases h with h | ⟨h1, h2⟩
      · exact .inl h
      · cases q : blt (out x) (out y) with
        | true => exact .inl q
        | false => exact .inr ⟨blt_tot q h1, h2⟩
    · show (p.map (rv true vs.length)).reverse.Pairwise _
      rw [List.pairwise_reverse, List.pairwise_map]
      refine pw.imp_of_mem fun {x y} hx hy h => ?_
      have lx := hlt x hx
      have ly := hlt y hy
      rw [ahead_iff]
      rcases h with h | ⟨h1, h2⟩
      · exact .inl h
      · cases q : blt (out (rv true vs.length x)) (out (rv true vs.length y)) with
        | true => exact .inl q
        | false => refine .inr ⟨(blt_tot q h1).symm, ?_⟩; unfold rv; simp; exact om349 ly h2
  · rw [List.map_take]
    congr 1
    cases g
    · show p.map _ = (p.map (rv false vs.length)).map _
      rw [List.map_map]
      exact List.map_congr_left fun i hi => getD_rv (hlt i hi)
    · show (p.map _).reverse = ((p.map (rv true vs.length)).reverse).map _
      rw [List.map_reverse, List.map_map]
      congr 1
      exact List.map_congr_left fun i hi => getD_rv (hlt i hi)
/-- min, max -/
theorem best_tops (g : Bool) (out : Nat → List UInt8) {N : Nat} (hN : 1 ≤ N) : Tops (ahead g out) N 1 [bestAt g out (N - 1)] := by
  have key : ∀ k, bestAt g out k ≤ k ∧ ∀ j, j ≤ k → j ≠ bestAt g out k → ahead g out (bestAt g out k) j = true := by
    intro k
    induction k with
    | zero => exact ⟨Nat.le_refl _, fun j hj hne => absurd (Nat.le_zero.mp hj) hne⟩
    | succ k ih =>
      have e : bestAt g out (k + 1) = if better g (out (k + 1)) (out (bestAt g out k)) = true then k + 1 else bestAt g out k := rfl
      by_cases q : better g (out (k + 1)) (out (bestAt g out k)) = true
      · rw [e, if_pos q]
        refine ⟨Nat.le_refl _, fun j hj hne => ?_⟩
        have hb := ahead_of_better q
        by_cases r : j = bestAt g out k
        · rw [r]; exact hb
        · exact ahead_tr hb (ih.2 j (by omega) r)
      · rw [e, if_neg q]
        refine ⟨Nat.le_succ_of_le ih.1, fun j hj hne => ?_⟩
        by_cases r : j ≤ k
        · exact ih.2 j r hne
        · obtain rfl : j = k + 1 := by exact om350 hj r
          rw [ahead_iff]
          have q' : better g (out (k + 1)) (out (bestAt g out k)) = false := by simpa using q
          cases s : better g (out (bestAt g out k)) (out (k + 1)) with
          | true => exact .inl rfl
          | false => exact .inr ⟨better_tot s q', by have := ih.1; omega⟩
  have := key (N - 1)
  refine ⟨by simp; exact om351 hN, fun i hi => ?_, List.pairwise_singleton _ _, fun j hj hn i hi => ?_⟩
  · rw [List.mem_singleton.mp hi]; omega
  · rw [List.mem_singleton.mp hi]
    exact this.2 j (by exact om352 hj) fun q => hn (q ▸ .head _)
end Mine
namespace Mine
open PySem PySem.Calls PyProof.Rows PySem.W
theorem MadeT.tab {g : Bool} {vs : List Value} {err : Nat → Option String} {n : Int} {U : List Tri} (M : MadeT g vs err n U) (hn : (U.map (·.a)).Nodup) : TabU g U := by
  have ix : ∀ e ∈ U, ∃ i, U[i]? = some e ∧ e.j = i ∧ e.o = odOf g i := fun e he => by
    obtain ⟨i, hi, rfl⟩ := List.getElem_of_mem he
    have := M.ix i _ (List.getElem?_eq_getElem hi)
    exact ⟨i, List.getElem?_eq_getElem hi, this⟩
  refine ⟨hn, fun e he e' he' q => ?_, fun e he e' he' q => ?_⟩
  · obtain ⟨i, h1, h2, _⟩ := ix e he
    obtain ⟨i', h1', h2', _⟩ := ix e' he'
    rw [h2, h2'] at q
    rw [q, h1'] at h1
    injection h1 with h1
    exact h1.symm
  · obtain ⟨i, _, h2, h3⟩ := ix e he
    obtain ⟨i', _, h2', h3'⟩ := ix e' he'
    rw [h3, h3']
    unfold odOf
    cases g <;> simp <;> exact om353 q h2 h2'
theorem HInv.init {g : Bool} {out : Nat → List UInt8} {vs : List Value} {err : Nat → Option String} {n : Int} {U : List Tri} (M : MadeT g vs err n U) (hn : (U.map (·.a)).Nodup) {od : Int} (hod' : if g then od ≤ -(U.length : Int) else (U.length : Int) ≤ od) :
    HInv g out U.length U.length U (heapify (hlt g out U) (triRefs U).toArray) od := by
  have T := M.tab hn
  have hp := Array.perm_iff_toList_perm.mp (heapify_perm (lt := hlt g out U) (triRefs U).toArray)
  obtain ⟨T2, q1, q2⟩ := perm_map_inv (f := fun e : Tri => Value.ref e.a) hp U (by simp)
  have ub : ∀ e ∈ U, e.j < U.length ∧ e.o = odOf g e.j := fun e he => by
    obtain ⟨i, hi, rfl⟩ := List.getElem_of_mem he
    have := M.ix i _ (List.getElem?_eq_getElem hi)
    exact ⟨by exact om354 hi this, by rw [this.1]; exact this.2⟩
  refine ⟨T, ?_, heapify_heap (hlt_weak g out U) _, ⟨T2, q2, fun e he => q1.mem_iff.mp he, ?_, fun j hj hn' e he => ?_⟩, fun e he => (ub e he).1, fun e he => ?_⟩
  · have := hp.length_eq
    simpa using this
  · refine (q1.map _).nodup_iff.mpr ?_
    have : U.map (·.j) = List.range U.length := by
      refine List.ext_getElem (by simp) fun i h1 h2 => ?_
      have hi : i < U.length := by simpa using h1
      have := (M.ix i _ (List.getElem?_eq_getElem hi)).1
      simpa using this
    rw [this]
    exact List.nodup_range
  · exfalso
    refine hn' (List.mem_map.mpr ⟨U[j], q1.mem_iff.mpr (List.getElem_mem hj), ?_⟩)
    exact (M.ix j _ (List.getElem?_eq_getElem hj)).1
  · obtain ⟨h1, h2⟩ := ub e he
    rw [h2]
    unfold odOf
    cases g <;> simp only [Bool.false_eq_true, if_false, if_true] at hod' ⊢ <;> omega
/-- the heap, sorted -/
theorem HInv.sorted {g : Bool} {out : Nat → List UInt8} {n N : Nat} {U : List Tri} {a : Array Value} {od : Int} (H : HInv g out n N U a od) (h0 : 0 < n) (hN : n ≤ N) :
    ∃ T2 : List Tri, (∀ e ∈ T2, e ∈ U) ∧ Tops (ahead g out) N n (T2.map (·.j)) ∧ katRev g ((permOf (fun i j => ltU out U ((katRev g a.toList).getD i .none) ((katRev g a.toList).getD j .none)) a.toList.length).map fun i => (katRev g a.toList).getD i .none) = triRefs T2 := by
  obtain ⟨T, h1, h2, h3, h4⟩ := H.T
  have hl : a.toList.length = n := by rw [Array.length_toList]; exact H.sz
  have hTl : T.length = n := by rw [h1] at hl; simpa using hl
  have W0 := ltU_weak out U
  have W : Weak fun i j => ltU out U ((katRev g a.toList).getD i .none) ((katRev g a.toList).getD j .none) := weak_on W0.irr W0.tr W0.neg fun i => (katRev g a.toList).getD i .none
  rw [hl]
  obtain ⟨hp, pw⟩ := perm_pw W (N := n) h0
  generalize permOf (fun i j => ltU out U ((katRev g a.toList).getD i .none) ((katRev g a.toList).getD j .none)) n = p at hp pw
  have hlt : ∀ i ∈ p, i < n := fun i hi => List.mem_range.mp (hp.mem_iff.mp hi)
  have hit : ∀ i, i < n → ∃ e, (katRev g T)[i]? = some e ∧ (katRev g a.toList).getD i .none = .ref e.a := fun i hi => by
    have hk : i < (katRev g T).length := by rw [kat_len, hTl]; exact hi
    refine ⟨(katRev g T)[i], List.getElem?_eq_getElem hk, ?_⟩
    have e : katRev g a.toList = (katRev g T).map fun e => .ref e.a := by
      rw [h1]; unfold katRev triRefs; cases g
      · rfl
      · simp only [if_true]; rw [List.map_reverse]
    rw [e, List.getD_eq_getElem?_getD, List.getElem?_map, List.getElem?_eq_getElem hk]; rfl
  let dflt : Tri := ⟨0, 0, 0, 0, 0⟩
  let el : Nat → Tri := fun i => ((katRev g T)[i]?).getD dflt
  have hel : ∀ i, i < n → (katRev g a.toList).getD i .none = .ref (el i).a ∧ el i ∈ T ∧ (katRev g T)[i]? = some (el i) := fun i hi => by
    obtain ⟨e, e1, e2⟩ := hit i hi
    have : el i = e := by show ((katRev g T)[i]?).getD dflt = e; rw [e1]; rfl
    rw [this]
    exact ⟨e2, (katRev_perm g T).mem_iff.mp (List.mem_of_getElem? e1), e1⟩
  have hnd : (katRev g T).Nodup := by
    refine (katRev_perm g T).nodup_iff.mpr ?_
    exact (List.pairwise_map.mp h3).imp fun {x y} q r => q (by rw [r])
  have inj : ∀ i j, i < n → j < n → el i = el j → i = j := fun i j hi hj q => by
    have a1 := (hel i hi).2.2
    have a2 := (hel j hj).2.2
    rw [← q] at a2
    have b1 : i < (katRev g T).length := by rw [kat_len, hTl]; exact hi
    exact (List.getElem?_inj b1 hnd).mp (a1.trans a2.symm)
  have step : ∀ x ∈ p, ∀ y ∈ p, x ≠ y → Before (fun i j => ltU out U ((katRev g a.toList).getD i .none) ((katRev g a.toList).getD j .none)) x y → tlt (out (el x).j) (el x).o (out (el y).j) (el y).o = true := fun x hx y hy hne hb => by
    obtain ⟨a1, a2, _⟩ := hel x (hlt x hx)
    obtain ⟨b1, b2, _⟩ := hel y (hlt y hy)
    have c1 : ltU out U (.ref (el x).a) (.ref (el y).a) = tlt (out (el x).j) (el x).o (out (el y).j) (el y).o := ltU_eq H.tab.nd (h2 _ a2) (h2 _ b2)
    have c2 : ltU out U (.ref (el y).a) (.ref (el x).a) = tlt (out (el y).j) (el y).o (out (el x).j) (el x).o := ltU_eq H.tab.nd (h2 _ b2) (h2 _ a2)
    unfold Before at hb
    dsimp only at hb
    rw [a1, b1, c1, c2] at hb
    rcases hb with hb | ⟨hb, _⟩
    · exact hb
    · have hj : (el x).j ≠ (el y).j := fun q => hne (inj x y (hlt x hx) (hlt y hy) (H.tab.uj _ (h2 _ a2) _ (h2 _ b2) q))
      have ho : (el x).o ≠ (el y).o := fun q => by
        rcases Nat.lt_or_gt_of_ne hj with r | r
        · have := H.tab.ord _ (h2 _ a2) _ (h2 _ b2) r; cases g <;> simp only [Bool.false_eq_true, if_false, if_true] at this <;> omega
        · have := H.tab.ord _ (h2 _ b2) _ (h2 _ a2) r; cases g <;> simp only [Bool.false_eq_true, if_false, if_true] at this <;> omega
      rw [tlt_iff]
      have hb' : ¬ (blt (out (el y).j) (out (el x).j) = true ∨ (out (el y).j = out (el x).j ∧ (el y).o < (el x).o)) := fun q => by rw [tlt_iff.mpr q] at hb; cases hb
      cases q : blt (out (el x).j) (out (el y).j) with
      | true => exact .inl rfl
      | false =>
        have q2 : blt (out (el y).j) (out (el x).j) = false := by
          cases r : blt (out (el y).j) (out (el x).j) with
          | false => rfl
          | true => exact absurd (.inl r) hb'
        have e := blt_tot q q2
        exact .inr ⟨e, by have : ¬ (el y).o < (el x).o := fun r => hb' (.inr ⟨e.symm, r⟩); exact om355 ho this⟩
  have pne : p.Nodup := hp.nodup_iff.mpr List.nodup_range
  have pw' : p.Pairwise fun x y => tlt (out (el x).j) (el x).o (out (el y).j) (el y).o = true := by
    refine (List.Pairwise.and pw pne).imp_of_mem fun {x y} hx hy h => step x hx y hy h.2 h.1
  have perm2 : (p.map el).Perm T := by
    refine (hp.map el).trans ?_
    have : (List.range n).map el = katRev g T := by
      refine List.ext_getElem (by rw [List.length_map, List.length_range, kat_len, hTl]) fun i q1 q2 => ?_
      have hi : i < n := by simpa using q1
      have := (hel i hi).2.2
      rw [List.getElem?_eq_getElem q2] at this
      injection this with this
      rw [this]; simp
    rw [this]
    exact katRev_perm g T
  refine ⟨katRev g (p.map el), fun e he => h2 e (perm2.mem_iff.mp ((katRev_perm g _).mem_iff.mp he)), ?_, ?_⟩
  · have hmem : ∀ x, x ∈ (katRev g (p.map el)).map (·.j) ↔ x ∈ T.map (·.j) := fun x => (((katRev_perm g _).trans perm2).map _).mem_iff
    refine ⟨?_, fun i hi => ?_, ?_, fun j hj hn i hi => ?_⟩
    · rw [List.length_map, kat_len, perm2.length_eq, hTl]; exact om356 hN
    · obtain ⟨e, he, rfl⟩ := List.mem_map.mp ((hmem i).mp hi)
      exact H.ub e (h2 e he)
    · rw [List.pairwise_map]
      cases g
      · show (p.map el).Pairwise _
        rw [List.pairwise_map]
        refine pw'.imp_of_mem fun {x y} hx hy h => ?_
        have a2 := h2 _ (hel x (hlt x hx)).2.1
        have b2 := h2 _ (hel y (hlt y hy)).2.1
        rw [← hlt_ahead H.tab b2 a2]
        show ltU out U (.ref (el x).a) (.ref (el y).a) = true
        rw [ltU_eq H.tab.nd a2 b2]; exact h
      · show (p.map el).reverse.Pairwise _
        rw [List.pairwise_reverse, List.pairwise_map]
        refine pw'.imp_of_mem fun {x y} hx hy h => ?_
        have a2 := h2 _ (hel x (hlt x hx)).2.1
        have b2 := h2 _ (hel y (hlt y hy)).2.1
        rw [← hlt_ahead H.tab a2 b2]
        show ltU out U (.ref (el x).a) (.ref (el y).a) = true
        rw [ltU_eq H.tab.nd a2 b2]; exact h
    · obtain ⟨e, he, rfl⟩ := List.mem_map.mp ((hmem i).mp hi)
      exact h4 j hj (fun q => hn ((hmem j).mpr q)) e he
  · have : (p.map fun i => (katRev g a.toList).getD i .none) = (p.map el).map fun e => .ref e.a := by
      rw [List.map_map]
      exact List.map_congr_left fun i hi => (hel i (hlt i hi)).1
    rw [this]
    unfold katRev triRefs
    cases g
    · rfl
    · simp only [if_true]; rw [List.map_reverse]
end Mine
namespace Mine
open PySem PySem.Calls PyProof.Rows PySem.W
open Sem (wp)
/-! ## from the triples to the answer -/
section
variable {prog : Program} {w : World} {A : Around} {E : Value → Shared → Prop} {s : Shared} {c : Cx} {m : Str → Option Value} {ℓ : List (Addr × Kn)} {env : Env}
theorem callWithM {pos : Pos} {id : String} {first : List Value} {args : List (Bool × Sem Value)} {kws : List (Option Str × Sem Value)} {Q : Value → Shared → Prop} (hp : (args.any (·.1) || kws.any (·.1.isNone)) = false) (h : wpAny (model prog w) A (evalArgs (.builtin id) true args kws) (fun a s₁ => wpAny (model prog w) A (call (.builtin id) (first ++ a.pos) a.kw) Q E s₁) E s) :
    wpAny (model prog w) A (callWith pos (.builtin id) first args kws) Q E s :=
  callWith_of (P := fun _ => True) hp (fun _ _ => ⟨.machine, .inr (.inl rfl), Looks.of_pure rfl⟩) (wpAny_mono h (fun _ _ x => ⟨trivial, x⟩) fun _ _ x => x)
theorem tupKind {vs fs : List Value} {T : String} {Q : SortKind → Shared → Prop} (t : KatTups s.heap vs fs) (h0 : 0 < fs.length) (hT : ∀ v ∈ fs, typeOf v = pure (.type T)) (hne : (Value.type T != Value.type "tuple") = true) (h : Q (tuples' true) s) : wpAny (model prog w) A (keyKind' vs.toArray) Q E s :=
  kat_kind (T := .type T) t h0 (fun v hv => Looks.of_pure (hT v hv)) (by simp) (by rw [hne]; exact h)
theorem katTups_U {out : Nat → List UInt8} {ws : List Value} {h : Heap} : ∀ (T : List Tri), (∀ e ∈ T, At h e.a (e.kn out ws)) → KatTups h (triRefs T) (T.map fun e => .bytes (out e.j).toArray e.t)
  | [], _ => .nil
  | e :: T, hh => by
    obtain ⟨o, ho, hc, n, hd⟩ := hh e (.head _)
    exact .cons ho hc hd rfl (katTups_U T fun e' he' => hh e' (.tail _ he'))
/-- the triples sorted where they lie -/
theorem sortTri {g : Bool} {out : Nat → List UInt8} {ws : List Value} {U T : List Tri} {D : Addr} {k : Nat} {kw : List (Str × Value)} {Q : Value → Shared → Prop} (F : Fx c m ((D, .lst (triRefs T) k) :: ℓ) s) (ow : Own c D) (tab : TabU g U) (hT : ∀ e ∈ T, e ∈ U) (hK : ∀ p ∈ triLed out ws U, p ∈ ℓ) (h2 : 2 ≤ T.length) (h16 : T.length ≤ 16)
    (hkw : (g = false ∧ kw = []) ∨ (g = true ∧ kw = [(Str.ofString "reverse", .bool true)]))
    (h : ∀ k s', Fx c m ((D, .lst (katRev g ((permOf (fun i j => ltU out U ((katRev g (triRefs T)).getD i .none) ((katRev g (triRefs T)).getD j .none)) (triRefs T).length).map fun i => (katRev g (triRefs T)).getD i .none)) k) :: ℓ) s' → Q .none s') :
    wpAny (model prog w) A (call (.builtin "list.sort") [.ref D] kw) Q E s := by
  have hl : (triRefs T).length = T.length := List.length_map _
  refine sortL (κ := tuples' true) (b := g) F ow (by rw [hl]; exact h2) (by rw [hl]; exact om205 h16) hkw (fun s' hs Q' hq => ?_) (fun s' hs i j hi hj C hC => ?_) h
  · exact tupKind (T := "bytes") (katTups_U (out := out) (ws := ws) T fun e he => hs _ (hK _ (List.mem_map.mpr ⟨e, hT e he, rfl⟩))) (by rw [List.length_map]; exact om126 h2) (fun v hv => by obtain ⟨e, _, rfl⟩ := List.mem_map.mp hv; rfl) (by decide) hq
  · have it : ∀ i, i < (triRefs T).length → ∃ e ∈ U, (katRev g (triRefs T)).getD i .none = .ref e.a := fun i hi => by
      rw [getD_rv hi]
      have hr := rv_lt (b := g) hi
      rw [hl] at hr
      refine ⟨T[rv g (triRefs T).length i]'(by rw [hl]; exact hr), hT _ (List.getElem_mem _), ?_⟩
      rw [List.getD_eq_getElem?_getD, List.getElem?_map, List.getElem?_eq_getElem (by rw [hl]; exact hr)]; rfl
    obtain ⟨e1, h1, q1⟩ := it i hi
    obtain ⟨e2, h2', q2⟩ := it j hj
    rw [q1, q2] at hC ⊢
    rw [ltU_eq tab.nd h1 h2'] at hC
    refine key_trip (hs _ (hK _ (List.mem_map.mpr ⟨e1, h1, rfl⟩))) (hs _ (hK _ (List.mem_map.mpr ⟨e2, h2', rfl⟩))) (fun _ ho => ?_) hC
    have : e1.j = e2.j := by
      rcases Nat.lt_trichotomy e1.j e2.j with r | r | r
      · have := tab.ord e1 h1 e2 h2' r; cases g <;> simp only [Bool.false_eq_true, if_false, if_true] at this <;> omega
      · exact r
      · have := tab.ord e2 h2' e1 h1 r; cases g <;> simp only [Bool.false_eq_true, if_false, if_true] at this <;> omega
    rw [this]
theorem sortM0 {D : Addr} {its : List Value} {k : Nat} {pos : Pos} {Q : Value → Shared → Prop} (F : Fx c m ((D, .lst its k) :: ℓ) s) (h : wpAny (model prog w) A (call (.builtin "list.sort") [.ref D]) Q E s) : MethodOnS prog w A E "sort" (.ref D) pos [] Q s := by
  refine ⟨"list", "list.sort", PySem.F.plainAttrs_list, slot_list_sort, rfl, ⟨_, (F.at (.head _)).get, rfl⟩, fun a ha => ?_, callWithM rfl (PyProof.Rows.evalArgs_none h)⟩
  injection ha with ha
  rw [← ha]
  exact ⟨_, (F.at (.head _)).get, rfl⟩
theorem sortMR {o : Expr} {apos pos p p' : Pos} {kx : Nat} {Q : Value → Shared → Prop} {pl : Sem Bool} (hall : (backToKw pos (keywordEach [⟨some "reverse", .Constant (.bool true) kx p, p'⟩] env)).all (·.1.isSome) = true)
    (hpl : ((backTo pos (starEach [] env)).any (·.1) || (backToKw pos (keywordEach [⟨some "reverse", .Constant (.bool true) kx p, p'⟩] env)).any (·.1.isNone)) = false)
    (he : eval (.Call (.Attribute o "sort" apos) [] [⟨some "reverse", .Constant (.bool true) kx p, p'⟩] pos) env = (do
      let ov ← eval o env
      standAt apos.atName
      let (f, first) ← holding [ov] (getMethod ov "sort" pl)
      callWith pos f first (backTo pos (starEach [] env)) (backToKw pos (keywordEach [⟨some "reverse", .Constant (.bool true) kx p, p'⟩] env))))
    (h : wpAny (model prog w) A (eval o env) (fun ov s₁ => s₁.TypeIs ov "list" ∧ (∀ a, ov = .ref a → ∃ ob, s₁.heap.get? a = some ob ∧ ob.dict = none) ∧ wpAny (model prog w) A (call (.builtin "list.sort") [ov] [(Str.ofString "reverse", .bool true)]) Q E s₁) E s) :
    wpAny (model prog w) A (eval (.Call (.Attribute o "sort" apos) [] [⟨some "reverse", .Constant (.bool true) kx p, p'⟩] pos) env) Q E s := by
  refine methodCall_KW (wpAny_mono h (fun ov s₁ h₁ => ?_) fun _ _ x => x) he
  refine getMethod_builtin h₁.1 PySem.F.plainAttrs_list slot_list_sort rfl h₁.2.1 ?_
  refine callWithM hpl (evalArgs_kw2_nil hall (kwAll_cons (wpAny_Constant_bool (kwAll_nil ?_))))
  exact h₁.2.2
theorem sortMR' {D : Addr} {its : List Value} {k : Nat} {Q : Value → Shared → Prop} (F : Fx c m ((D, .lst its k) :: ℓ) s) (h : wpAny (model prog w) A (call (.builtin "list.sort") [.ref D] [(Str.ofString "reverse", .bool true)]) Q E s) :
    s.TypeIs (.ref D) "list" ∧ (∀ a, Value.ref D = .ref a → ∃ ob, s.heap.get? a = some ob ∧ ob.dict = none) ∧ wpAny (model prog w) A (call (.builtin "list.sort") [.ref D] [(Str.ofString "reverse", .bool true)]) Q E s := by
  refine ⟨⟨_, (F.at (.head _)).get, rfl⟩, fun a ha => ?_, h⟩
  injection ha with ha
  rw [← ha]
  exact ⟨_, (F.at (.head _)).get, rfl⟩
end
theorem Fx.toList {c : Cx} {m : Str → Option Value} {ℓ : List (Addr × Kn)} {s : Shared} {D : Addr} {its : List Value} {k : Nat} (F : Fx c m ((D, .lst its k) :: ℓ) s) : Fx c m ((D, .list its) :: ℓ) s :=
  ⟨F.sh, F.kg, F.ns, F.nd, fun p hp => by
    rcases List.mem_cons.mp hp with rfl | hp
    · exact ⟨F.neL (.head _), lstL (F.at (.head _))⟩
    · exact F.led p (.tail _ hp), F.ext, F.sal, F.gl, F.el⟩
def dropBody (i k : Nat) : List Stmt := (fdAt i).body.drop k
section
variable {prog : Program} {w : World} {A : Around} {s : Shared} {m : Str → Option Value} {ℓ : List (Addr × Kn)} {G : Heap} {fr : List Env} {sE : Shared} {L : Addr} {S : List Addr} {f : Addr} {vs : List Value} {err : Nat → Option String} {out : Nat → List UInt8}
set_option maxHeartbeats 2000000 in
theorem tailNs9 {nz : Int} {tn : Tok} {io : Option Addr} {it l D : Addr} {k : Nat} {U : List Tri} {Q : Flow → Shared → Prop} (N : NS prog w G fr (envC 9 L 76 75) A sE L S f vs err out (L + 1 + 0))
    (F : Fx ⟨G, L, S, sE⟩ m ((D, .lst (triRefs U) k) :: (it, itEnd l vs.length nz U.length) :: (L + 1 + 0, .cell (some (.ref f))) :: (l, .list vs) :: (triLed out vs U ++ ℓ)) s) (wi : Own ⟨G, L, S, sE⟩ it) (fD : Fresh ⟨G, L, S, sE⟩ D) (hio : ∀ x, io = some x → x = it) (M : MadeT false vs err nz U)
    (hlen : (U.length : Int) = max nz 0 ∨ U.length = vs.length) (hn1 : nz ≠ 1) (hN : 2 ≤ vs.length) (m1 : m "result" = some (.ref D)) (m2 : m "n" = some (.int nz tn)) (m5 : m "it" = some (.ref it))
    (hQ : ∀ D idx m' ℓ' s', Fx ⟨G, L, S, sE⟩ m' ((D, .list (idx.map fun i => vs.getD i .none)) :: (it, if nz ≤ 0 then .liter l 0 else .lidone vs.length) :: ℓ') s' → Fresh ⟨G, L, S, sE⟩ D → Tops (ahead false out) vs.length nz.toNat idx → (1 ≤ nz → ∀ j, j < vs.length → err j = none) → Q (.ret (.ref D)) s') :
    wpS (model prog w) A (execs (dropBody 9 5) (envC 9 L 76 75)) Q (EX sE G (envC 9 L 76 75) fr L (ErrP vs.length nz err sE S io l)) s := by
  have hh : A.handled = none := N.rm.hh
  have hU16 : U.length ≤ 16 := Nat.le_trans M.leN N.N
  refine sExecs (toS (wpAny_If (isTrue_not (isTrue_plain (nmL F m1 (truthyL F (lstL (F.at (.head _))) (by rw [List.length_map]; exact om206 hU16) fun s₁ F => ?_))))))
  by_cases hU : U = []
  · subst hU
    rw [if_pos (by simp)]
    have hz : nz ≤ 0 := by
      rcases hlen with q | q
      · simp at q; exact om207 q
      · simp at q; exact om208 hN q
    refine ec (wpAny_Return_some (nmL F m1 ?_))
    refine hQ D [] m _ _ (F.toList.ofEq (ℓ' := (D, .list []) :: (it, if nz ≤ 0 then .liter l 0 else .lidone vs.length) :: _) (by rw [if_pos hz]; unfold itEnd; rw [if_neg (by exact om210 hz)]; rfl)) fD ⟨by rw [Int.toNat_of_nonpos hz]; simp, (fun i q => nomatch q), .nil, fun j _ _ i q => nomatch q⟩ fun q => by exact (om209 hz q).elim
  · have hnz : 2 ≤ nz := by
      have : 0 < U.length := List.length_pos_iff.mpr hU
      rcases hlen with q | q
      · exact om211 hn1 this q
      · have := M.le; omega
    have hU2 : 2 ≤ U.length := by rcases hlen with q | q <;> omega
    have hUn : (U.length : Int) ≤ nz := by have := M.le; exact om212 hnz this
    rw [if_neg (by simp [hU])]
    refine wpAny_execs_nil ?_
    have ndU : (U.map (·.a)).Nodup := by
      have := F.nd
      rw [List.map_cons, List.nodup_cons, List.map_cons, List.nodup_cons, List.map_cons, List.nodup_cons, List.map_cons, List.nodup_cons, List.map_append, List.nodup_append] at this
      have := this.2.2.2.2.1
      rw [triLed, List.map_map] at this
      exact this
    have tabU := M.tab ndU
    refine sExecs (toS (wpAny_Expr_any (Call_ (nmG N.B F rfl (callF (c := ⟨G, L, S, sE⟩) (i := 4) (cd := 41) (dV := .none) (N.B.fn (4, 42, 41, .none) (by decide)) (args_cons (nmL F m1 (args_nil ⟨F.kg, heapify_max_spec (nn := k) (its := (triRefs U).toArray) (K := triLed out vs U) (ltU out U) N.B F.kg (N.rm.le (by decide)) ?_ ?_ fD.off (cmpOn_U (vs := vs) tabU ?_) (by simp; exact om213 hU16) fun s₂ P2 ho2 => ?_⟩))))))))
    · refine F.nd.sublist ?_
      rw [List.map_cons, List.map_cons, List.map_cons, List.map_cons, List.map_cons, List.map_append]
      exact ((((List.sublist_append_left _ _).cons _).cons _).cons _).cons₂ _
    · intro p hp
      rcases List.mem_cons.mp hp with rfl | hp
      · exact F.at (.head _)
      · exact F.at (.tail _ (.tail _ (.tail _ (.tail _ (List.mem_append_left _ hp)))))
    · intro y hy
      have hy : y ∈ triRefs U := by simpa using hy
      obtain ⟨e, he, rfl⟩ := List.mem_map.mp hy
      exact ⟨e, he, rfl⟩
    have F := F.after1 (k' := .sqn k (heapify (hlt false out U) (triRefs U).toArray)) fD.own P2 ho2
    have H := HInv.init (out := out) (od := nz) M ndU (by simp; exact om214 hUn)
    obtain ⟨er, her, hgr, _⟩ := H.root (by exact om126 hU2)
    have hz0 : (0 : Nat) < (heapify (hlt false out U) (triRefs U).toArray).size := by rw [H.sz]; exact om126 hU2
    have hg0 : (heapify (hlt false out U) (triRefs U).toArray)[(0 : Int).toNat]? = some (.ref er.a) := by rw [← hgr]; exact getElem?_int (k := 0) hz0
    refine sExecs (toS (wpAny_Assign_Name (Subscript_ (Subscript_ (nmL F m1 (ci F fun _ _ F => subLx F (.head _) (by decide) (by decide) hg0 (ci F fun _ _ F => subT F (.tail _ (.tail _ (.tail _ (.tail _ (List.mem_append_left _ (List.mem_map.mpr ⟨er, her, rfl⟩)))))) (by decide) (by decide) rfl (stL F fun s₃ F => ?_))))))))
    refine sExecs (toS (wpAny_Assign_Name (nmL F m2 (stL F fun s₄ F => ?_))))
    refine sExecs (toS (wpAny_Assign_Name (nmG N.B F rfl (stL F fun s₅ F => ?_))))
    refine sExecs (loopNs9 (io := io) N F wi fD hio (by exact om215 hnz) H M.leN (by exact om126 hU2) hU16 ?_ M.ok er her hgr m1 rfl rfl rfl m5 fun U' a' od' m' s₆ F H' m1' hok => ?_)
    · unfold itEnd
      by_cases q : (vs.length : Int) < nz
      · rw [if_pos q]; exact .inr ⟨rfl, by rcases hlen with r | r <;> have := M.leN <;> omega⟩
      · rw [if_neg q]; exact .inl rfl
    obtain ⟨T, t1, t2, t3, t4⟩ := H'.T
    have hTl : T.length = U.length := by have := congrArg List.length t1; simp [H'.sz] at this; exact this.symm
    have ha : a' = (triRefs T).toArray := by rw [← t1]
    obtain ⟨T2, u1, u2, u3⟩ := H'.sorted (by exact om126 hU2) M.leN
    rw [ha] at F u3
    refine sExecs (toS (wpAny_Expr_any (Call_method0 (by rfl) (by rfl) (nmL F m1' (sortM0 F (sortTri (out := out) (ws := vs) F fD.own H'.tab t2 (fun p hp => .tail _ (.tail _ (.tail _ (List.mem_append_left _ hp)))) (by exact om145 hU2 hTl) (by exact om216 hU16 hTl) ?_ fun k2 s₇ F => ?_))))))
    · first | exact .inl ⟨rfl, rfl⟩ | exact .inr ⟨rfl, rfl⟩
    simp only [List.toList_toArray] at u3
    rw [u3] at F
    have F := F.toList
    have hn' : nz.toNat = U.length ∨ vs.length = U.length := by rcases hlen with r | r <;> omega
    have u2' : Tops (ahead false out) vs.length nz.toNat (T2.map (·.j)) := ⟨by rw [u2.len]; have := M.leN; rcases hn' with r | r <;> omega, u2.lt, u2.pw, u2.rest⟩
    have hD16 : T2.length ≤ 16 := by have := u2.len; rw [List.length_map] at this; exact om217 hU16 this
    refine toS (ec (wpAny_Return_some ?_))
    refine aComp (cl := []) (by rfl) (by rfl) (by decide) (by decide) (nmL F m1' (iterL F (.head _) fun jt s₈ F fj => ?_))
    intro h₁ hns hk hacc
    obtain ⟨F', ac, ow, bk⟩ := F.compKit [(jt, .liter D 0)] (fun p hp => by rw [List.mem_singleton.mp hp]; exact .head _) (fun p hp => by rw [List.mem_singleton.mp hp]; exact fj.own) hns hk hacc
    have oj := ow _ (.head _)
    have fR := F.new_of (get?_size s₈.heap)
    refine ⟨fun hq => wpAny_pyIter_listiter (F'.at (.tail _ (.head _))).isIter hq, ?_⟩
    have O : EnvOk ⟨G, s₈.heap.objs.size + 1, [jt], s₈⟩ (compEnvC (nsScope 9 1) [] (s₈.heap.objs.size + 1) (envC 9 L 76 75)) := ⟨rfl, rfl, rfl, rfl⟩
    refine aLoop (fun n s' => ∃ (p : Nat) (m' : Str → Option Value), Fx ⟨G, s₈.heap.objs.size + 1, [jt], s₈⟩ m' ((s₈.heap.objs.size, .list ((T2.take p).map fun e => vs.getD e.j .none)) :: (jt, .liter D p) :: (D, .list (triRefs T2)) :: (it, .lidone vs.length) :: (L + 1 + 0, .cell (some (.ref f))) :: (l, .list vs) :: (triLed out vs U' ++ ℓ)) s' ∧ p ≤ T2.length ∧ n = T2.length - p) ?_ T2.length ⟨0, _, F', Nat.zero_le _, rfl⟩
    clear F F'
    rintro W D' X n s₉ hW hD - ⟨p, m₉, F, hp, rfl⟩
    refine nextL F.swap (.tail _ (.head _)) oj hh (fun x hx s₁₀ F => ?_) fun hx s₁₀ F => ?_
    · rw [List.getElem?_toArray, List.getElem?_map] at hx
      obtain ⟨e, he, rfl⟩ := Option.map_eq_some_iff.mp hx
      have hpl := (List.getElem?_eq_some_iff.mp he).1
      have heU := u1 e (List.mem_of_getElem? he)
      have F := F.swap
      refine wpAny_letOwnedTupleGo_listiter (F.at (.tail _ (.head _))).isIter ?_
      refine unpackT (its := [.bytes (out e.j).toArray e.t, .int e.o e.u, vs.getD e.j .none]) F (.tail _ (.tail _ (.tail _ (.tail _ (.tail _ (.tail _ (List.mem_append_left _ (List.mem_map.mpr ⟨e, heU, rfl⟩)))))))) hh rfl rfl fun s₁₁ F => ?_
      refine assignInOrder_cons (wpAny_assign_Name (gst O F fun s₁₂ F => assignInOrder_cons (wpAny_assign_Name (gst O F fun s₁₃ F => assignInOrder_cons (wpAny_assign_Name (gst O F fun s₁₄ F => assignInOrder_nil (wpAny_pure ?_)))))))
      rw [if_pos rfl]
      refine gnL O F rfl (appL F ac.own (by rw [List.length_map, List.length_take]; exact om218 hD16) fun s₁₅ F => ?_)
      refine hW _ ⟨T2.length - (p + 1), by exact om85 hpl, p + 1, _, F.ofEq ?_, hpl, rfl⟩
      rw [List.take_add_one, he, List.map_append]; rfl
    · rw [List.getElem?_toArray, List.getElem?_map] at hx
      have hpl : p = T2.length := by have := List.getElem?_eq_none_iff.mp (Option.map_eq_none_iff.mp hx); exact om86 hp this
      subst hpl
      refine hD _ ⟨⟨_, F.ns⟩, fun h' hs => ?_⟩
      have F := bk F.swap hs
      refine hQ _ (T2.map (·.j)) _ ((L + 1 + 0, .cell (some (.ref f))) :: (l, .list vs) :: (triLed out vs U' ++ ℓ)) _ ((F.drop2nd.drop2nd).ofEq ?_) fR u2' fun _ => hok
      rw [List.take_length, List.map_map, if_neg (by exact om219 hnz)]; rfl

set_option maxHeartbeats 2000000 in
theorem tailNs10 {nz : Int} {tn : Tok} {io : Option Addr} {it l D : Addr} {k : Nat} {U : List Tri} {Q : Flow → Shared → Prop} (N : NS prog w G fr (envC 10 L 82 81) A sE L S f vs err out (L + 1 + 0))
    (F : Fx ⟨G, L, S, sE⟩ m ((D, .lst (triRefs U) k) :: (it, itEnd l vs.length nz U.length) :: (L + 1 + 0, .cell (some (.ref f))) :: (l, .list vs) :: (triLed out vs U ++ ℓ)) s) (wi : Own ⟨G, L, S, sE⟩ it) (fD : Fresh ⟨G, L, S, sE⟩ D) (hio : ∀ x, io = some x → x = it) (M : MadeT true vs err nz U)
    (hlen : (U.length : Int) = max nz 0 ∨ U.length = vs.length) (hn1 : nz ≠ 1) (hN : 2 ≤ vs.length) (m1 : m "result" = some (.ref D)) (m2 : m "n" = some (.int nz tn)) (m5 : m "it" = some (.ref it))
    (hQ : ∀ D idx m' ℓ' s', Fx ⟨G, L, S, sE⟩ m' ((D, .list (idx.map fun i => vs.getD i .none)) :: (it, if nz ≤ 0 then .liter l 0 else .lidone vs.length) :: ℓ') s' → Fresh ⟨G, L, S, sE⟩ D → Tops (ahead true out) vs.length nz.toNat idx → (1 ≤ nz → ∀ j, j < vs.length → err j = none) → Q (.ret (.ref D)) s') :
    wpS (model prog w) A (execs (dropBody 10 5) (envC 10 L 82 81)) Q (EX sE G (envC 10 L 82 81) fr L (ErrP vs.length nz err sE S io l)) s := by
  have hh : A.handled = none := N.rm.hh
  have hU16 : U.length ≤ 16 := Nat.le_trans M.leN N.N
  refine sExecs (toS (wpAny_If (isTrue_not (isTrue_plain (nmL F m1 (truthyL F (lstL (F.at (.head _))) (by rw [List.length_map]; exact om206 hU16) fun s₁ F => ?_))))))
  by_cases hU : U = []
  · subst hU
    rw [if_pos (by simp)]
    have hz : nz ≤ 0 := by
      rcases hlen with q | q
      · simp at q; exact om207 q
      · simp at q; exact om208 hN q
    refine ec (wpAny_Return_some (nmL F m1 ?_))
    refine hQ D [] m _ _ (F.toList.ofEq (ℓ' := (D, .list []) :: (it, if nz ≤ 0 then .liter l 0 else .lidone vs.length) :: _) (by rw [if_pos hz]; unfold itEnd; rw [if_neg (by exact om210 hz)]; rfl)) fD ⟨by rw [Int.toNat_of_nonpos hz]; simp, (fun i q => nomatch q), .nil, fun j _ _ i q => nomatch q⟩ fun q => by exact (om209 hz q).elim
  · have hnz : 2 ≤ nz := by
      have : 0 < U.length := List.length_pos_iff.mpr hU
      rcases hlen with q | q
      · exact om211 hn1 this q
      · have := M.le; omega
    have hU2 : 2 ≤ U.length := by rcases hlen with q | q <;> omega
    have hUn : (U.length : Int) ≤ nz := by have := M.le; exact om212 hnz this
    rw [if_neg (by simp [hU])]
    refine wpAny_execs_nil ?_
    have ndU : (U.map (·.a)).Nodup := by
      have := F.nd
      rw [List.map_cons, List.nodup_cons, List.map_cons, List.nodup_cons, List.map_cons, List.nodup_cons, List.map_cons, List.nodup_cons, List.map_append, List.nodup_append] at this
      have := this.2.2.2.2.1
      rw [triLed, List.map_map] at this
      exact this
    have tabU := M.tab ndU
    refine sExecs (toS (wpAny_Expr_any (Call_ (nmG N.B F rfl (callF (c := ⟨G, L, S, sE⟩) (i := 2) (cd := 27) (dV := .none) (N.B.fn (2, 28, 27, .none) (by decide)) (args_cons (nmL F m1 (args_nil ⟨F.kg, heapify_spec (nn := k) (its := (triRefs U).toArray) (K := triLed out vs U) (ltU out U) N.B F.kg (N.rm.le (by decide)) ?_ ?_ fD.off (cmpOn_U (vs := vs) tabU ?_) (by simp; exact om213 hU16) fun s₂ P2 ho2 => ?_⟩))))))))
    · refine F.nd.sublist ?_
      rw [List.map_cons, List.map_cons, List.map_cons, List.map_cons, List.map_cons, List.map_append]
      exact ((((List.sublist_append_left _ _).cons _).cons _).cons _).cons₂ _
    · intro p hp
      rcases List.mem_cons.mp hp with rfl | hp
      · exact F.at (.head _)
      · exact F.at (.tail _ (.tail _ (.tail _ (.tail _ (List.mem_append_left _ hp)))))
    · intro y hy
      have hy : y ∈ triRefs U := by simpa using hy
      obtain ⟨e, he, rfl⟩ := List.mem_map.mp hy
      exact ⟨e, he, rfl⟩
    have F := F.after1 (k' := .sqn k (heapify (hlt true out U) (triRefs U).toArray)) fD.own P2 ho2
    have H := HInv.init (out := out) (od := (-nz)) M ndU (by simp; exact om214 hUn)
    obtain ⟨er, her, hgr, _⟩ := H.root (by exact om126 hU2)
    have hz0 : (0 : Nat) < (heapify (hlt true out U) (triRefs U).toArray).size := by rw [H.sz]; exact om126 hU2
    have hg0 : (heapify (hlt true out U) (triRefs U).toArray)[(0 : Int).toNat]? = some (.ref er.a) := by rw [← hgr]; exact getElem?_int (k := 0) hz0
    refine sExecs (toS (wpAny_Assign_Name (Subscript_ (Subscript_ (nmL F m1 (ci F fun _ _ F => subLx F (.head _) (by decide) (by decide) hg0 (ci F fun _ _ F => subT F (.tail _ (.tail _ (.tail _ (.tail _ (List.mem_append_left _ (List.mem_map.mpr ⟨er, her, rfl⟩)))))) (by decide) (by decide) rfl (stL F fun s₃ F => ?_))))))))
    refine sExecs (toS (wpAny_Assign_Name (UnaryOp_ (nmL F m2 (iNeg F fun _ _ F => (stL F fun s₄ F => ?_))))))
    refine sExecs (toS (wpAny_Assign_Name (nmG N.B F rfl (stL F fun s₅ F => ?_))))
    refine sExecs (loopNs10 (io := io) N F wi fD hio (by exact om215 hnz) H M.leN (by exact om126 hU2) hU16 ?_ M.ok er her hgr m1 rfl rfl rfl m5 fun U' a' od' m' s₆ F H' m1' hok => ?_)
    · unfold itEnd
      by_cases q : (vs.length : Int) < nz
      · rw [if_pos q]; exact .inr ⟨rfl, by rcases hlen with r | r <;> have := M.leN <;> omega⟩
      · rw [if_neg q]; exact .inl rfl
    obtain ⟨T, t1, t2, t3, t4⟩ := H'.T
    have hTl : T.length = U.length := by have := congrArg List.length t1; simp [H'.sz] at this; exact this.symm
    have ha : a' = (triRefs T).toArray := by rw [← t1]
    obtain ⟨T2, u1, u2, u3⟩ := H'.sorted (by exact om126 hU2) M.leN
    rw [ha] at F u3
    refine sExecs (toS (wpAny_Expr_any (sortMR (by rfl) (by rfl) (by rfl) (nmL F m1' (sortMR' F (sortTri (out := out) (ws := vs) F fD.own H'.tab t2 (fun p hp => .tail _ (.tail _ (.tail _ (List.mem_append_left _ hp)))) (by exact om145 hU2 hTl) (by exact om216 hU16 hTl) ?_ fun k2 s₇ F => ?_))))))
    · first | exact .inl ⟨rfl, rfl⟩ | exact .inr ⟨rfl, rfl⟩
    simp only [List.toList_toArray] at u3
    rw [u3] at F
    have F := F.toList
    have hn' : nz.toNat = U.length ∨ vs.length = U.length := by rcases hlen with r | r <;> omega
    have u2' : Tops (ahead true out) vs.length nz.toNat (T2.map (·.j)) := ⟨by rw [u2.len]; have := M.leN; rcases hn' with r | r <;> omega, u2.lt, u2.pw, u2.rest⟩
    have hD16 : T2.length ≤ 16 := by have := u2.len; rw [List.length_map] at this; exact om217 hU16 this
    refine toS (ec (wpAny_Return_some ?_))
    refine aComp (cl := []) (by rfl) (by rfl) (by decide) (by decide) (nmL F m1' (iterL F (.head _) fun jt s₈ F fj => ?_))
    intro h₁ hns hk hacc
    obtain ⟨F', ac, ow, bk⟩ := F.compKit [(jt, .liter D 0)] (fun p hp => by rw [List.mem_singleton.mp hp]; exact .head _) (fun p hp => by rw [List.mem_singleton.mp hp]; exact fj.own) hns hk hacc
    have oj := ow _ (.head _)
    have fR := F.new_of (get?_size s₈.heap)
    refine ⟨fun hq => wpAny_pyIter_listiter (F'.at (.tail _ (.head _))).isIter hq, ?_⟩
    have O : EnvOk ⟨G, s₈.heap.objs.size + 1, [jt], s₈⟩ (compEnvC (nsScope 10 1) [] (s₈.heap.objs.size + 1) (envC 10 L 82 81)) := ⟨rfl, rfl, rfl, rfl⟩
    refine aLoop (fun n s' => ∃ (p : Nat) (m' : Str → Option Value), Fx ⟨G, s₈.heap.objs.size + 1, [jt], s₈⟩ m' ((s₈.heap.objs.size, .list ((T2.take p).map fun e => vs.getD e.j .none)) :: (jt, .liter D p) :: (D, .list (triRefs T2)) :: (it, .lidone vs.length) :: (L + 1 + 0, .cell (some (.ref f))) :: (l, .list vs) :: (triLed out vs U' ++ ℓ)) s' ∧ p ≤ T2.length ∧ n = T2.length - p) ?_ T2.length ⟨0, _, F', Nat.zero_le _, rfl⟩
    clear F F'
    rintro W D' X n s₉ hW hD - ⟨p, m₉, F, hp, rfl⟩
    refine nextL F.swap (.tail _ (.head _)) oj hh (fun x hx s₁₀ F => ?_) fun hx s₁₀ F => ?_
    · rw [List.getElem?_toArray, List.getElem?_map] at hx
      obtain ⟨e, he, rfl⟩ := Option.map_eq_some_iff.mp hx
      have hpl := (List.getElem?_eq_some_iff.mp he).1
      have heU := u1 e (List.mem_of_getElem? he)
      have F := F.swap
      refine wpAny_letOwnedTupleGo_listiter (F.at (.tail _ (.head _))).isIter ?_
      refine unpackT (its := [.bytes (out e.j).toArray e.t, .int e.o e.u, vs.getD e.j .none]) F (.tail _ (.tail _ (.tail _ (.tail _ (.tail _ (.tail _ (List.mem_append_left _ (List.mem_map.mpr ⟨e, heU, rfl⟩)))))))) hh rfl rfl fun s₁₁ F => ?_
      refine assignInOrder_cons (wpAny_assign_Name (gst O F fun s₁₂ F => assignInOrder_cons (wpAny_assign_Name (gst O F fun s₁₃ F => assignInOrder_cons (wpAny_assign_Name (gst O F fun s₁₄ F => assignInOrder_nil (wpAny_pure ?_)))))))
      rw [if_pos rfl]
      refine gnL O F rfl (appL F ac.own (by rw [List.length_map, List.length_take]; exact om218 hD16) fun s₁₅ F => ?_)
      refine hW _ ⟨T2.length - (p + 1), by exact om85 hpl, p + 1, _, F.ofEq ?_, hpl, rfl⟩
      rw [List.take_add_one, he, List.map_append]; rfl
    · rw [List.getElem?_toArray, List.getElem?_map] at hx
      have hpl : p = T2.length := by have := List.getElem?_eq_none_iff.mp (Option.map_eq_none_iff.mp hx); exact om86 hp this
      subst hpl
      refine hD _ ⟨⟨_, F.ns⟩, fun h' hs => ?_⟩
      have F := bk F.swap hs
      refine hQ _ (T2.map (·.j)) _ ((L + 1 + 0, .cell (some (.ref f))) :: (l, .list vs) :: (triLed out vs U' ++ ℓ)) _ ((F.drop2nd.drop2nd).ofEq ?_) fR u2' fun _ => hok
      rw [List.take_length, List.map_map, if_neg (by exact om219 hnz)]; rfl
end
end Mine
namespace Mine
open PySem PySem.Calls PyProof.Rows PySem.W
open Sem (wp)
def ifBody (i k : Nat) : List Stmt := match (fdAt i).body[k]? with
  | some (.If _ b _ _) => b
  | _ => []
theorem EX.ofExc {sE : Shared} {G : Heap} {env : Env} {fr : List Env} {L : Addr} {P : String → Heap → Prop} {e : Addr} {hR : Heap} {cls : String} {fl : Value} {s' : Shared} (hs : ∃ h tk, s' = { sE with heap := h, toks := tk }) (x : Exc G hR (env :: fr) e cls (.at fl) s'.heap) (hl : fl = .none ∨ fl = rawInt L) (hP : P cls hR) : EX sE G env fr L P (.ref e) s' :=
  ⟨e, hR, _, cls, rfl, hP, hs, x, hl⟩
section
variable {prog : Program} {w : World} {A : Around} {s : Shared} {m : Str → Option Value} {ℓ : List (Addr × Kn)} {G : Heap} {fr : List Env} {sE : Shared} {L : Addr} {S : List Addr} {f : Addr} {vs : List Value} {err : Nat → Option String} {out : Nat → List UInt8}
set_option maxHeartbeats 2000000 in
theorem compNs9 {nz : Int} {tn : Tok} {io : Option Addr} {it l : Addr} {Q : Flow → Shared → Prop} (N : NS prog w G fr (envC 9 L 76 75) A sE L S f vs err out (L + 1 + 0))
    (F : Fx ⟨G, L, S, sE⟩ m ((it, .liter l 0) :: (L + 1 + 0, .cell (some (.ref f))) :: (l, .list vs) :: ℓ) s) (wi : Own ⟨G, L, S, sE⟩ it) (hio : ∀ x, io = some x → x = it) (hn : -100 ≤ nz ∧ nz ≤ 100) (hn1 : nz ≠ 1) (hN : 2 ≤ vs.length) (m2 : m "n" = some (.int nz tn)) (m5 : m "it" = some (.ref it))
    (hQ : ∀ D idx m' ℓ' s', Fx ⟨G, L, S, sE⟩ m' ((D, .list (idx.map fun i => vs.getD i .none)) :: (it, if nz ≤ 0 then .liter l 0 else .lidone vs.length) :: ℓ') s' → Fresh ⟨G, L, S, sE⟩ D → Tops (ahead false out) vs.length nz.toNat idx → (1 ≤ nz → ∀ j, j < vs.length → err j = none) → Q (.ret (.ref D)) s') :
    wpS (model prog w) A (execs (dropBody 9 4) (envC 9 L 76 75)) Q (EX sE G (envC 9 L 76 75) fr L (ErrP vs.length nz err sE S io l)) s := by
  refine sExecs (mkTri9 N F wi hn m2 m5 (fun D U k s₁ F fD hUf M hlen => ?_) fun i cls hi h1 hj he e hR s' hs hx ha hX => ?_)
  · exact tailNs9 (io := io) N F wi fD hio M hlen hn1 hN rfl m2 m5 hQ
  · exact EX.ofExc hs hX (.inr rfl) ⟨h1, i, hi, hj, he, hx, fun x hx' => by rw [hio x hx']; exact ha⟩
set_option maxHeartbeats 2000000 in
theorem oneNs9 {tn : Tok} {io : Option Addr} {it l : Addr} {Q : Flow → Shared → Prop} (N : NS prog w G fr (envC 9 L 76 75) A sE L S f vs err out (L + 1 + 0))
    (F : Fx ⟨G, L, S, sE⟩ m ((it, .liter l 0) :: (L + 1 + 0, .cell (some (.ref f))) :: (l, .list vs) :: ℓ) s) (wi : Own ⟨G, L, S, sE⟩ it) (hio : ∀ x, io = some x → x = it) (hN : 2 ≤ vs.length) (hvr : ∀ v ∈ vs, ∃ a its, v = .ref a ∧ At sE.heap a (.tup its) ∧ a ∉ S) (m2 : m "n" = some (.int 1 tn)) (m5 : m "it" = some (.ref it))
    (hQ : ∀ D idx m' ℓ' s', Fx ⟨G, L, S, sE⟩ m' ((D, .list (idx.map fun i => vs.getD i .none)) :: (it, .lidone vs.length) :: ℓ') s' → Fresh ⟨G, L, S, sE⟩ D → Tops (ahead false out) vs.length 1 idx → (∀ j, j < vs.length → err j = none) → Q (.ret (.ref D)) s') :
    wpS (model prog w) A (execs ((ifBody 9 0).drop 1) (envC 9 L 76 75)) Q (EX sE G (envC 9 L 76 75) fr L (ErrP vs.length 1 err sE S io l)) s := by
  have hh : A.handled = none := N.rm.hh
  refine sExecs (toS (wpAny_Assign_Name (Call_ (nmB N.B F rfl (callWith_type0 (callObject (stL (F.pushE obj0) fun s₁ F => ?_)))))))
  have hbest : bestAt false out (vs.length - 1) < vs.length := (best_tops false out (N := vs.length) (by exact om220 hN)).lt _ (.head _)
  obtain ⟨ra, rits, hra, hrat, hraS⟩ := hvr (vs.getD (bestAt false out (vs.length - 1)) .none) (by rw [List.getD_eq_getElem?_getD, List.getElem?_eq_getElem hbest]; exact List.getElem_mem hbest)
  refine sExecs (sAssign (sEvalCall (nmB N.B F rfl (sCallM rfl rfl (evalArgs_kw2 (by rfl) (args_cons (nmL F m5 (args_nil (kwAll_cons (nmL F rfl (kwAll_cons (nmC F rfl (.tail _ (.tail _ (.head _))) (kwAll_nil ?_)))))))))))))
  refine sBest (g := false) (N.still _) F.swap wi (.tail _ (.tail _ (.head _))) (N.rm.le (by decide)) N.hA N.key (by exact om126 hN) (fun ok s₂ F => ?_) fun i cls hi hj he e hR s' hs hx ha hX => ?_
  rotate_left
  · exact EX.ofExc hs hX (.inl rfl) ⟨by decide, i, hi, hj, he, hx, fun x hx' => by rw [hio x hx']; exact ha⟩
  refine stL F fun s₃ F => toS ?_
  have hrb : At s₃.heap ra (.tup rits) := F.post.ext.at hraS hrat
  have hne : ra ≠ s.heap.objs.size := fun q => by
    obtain ⟨o, ho, hc, _⟩ := hrb
    have := (F.at (.tail _ (.head _))).get
    rw [← q, ho] at this
    injection this with this
    rw [this] at hc
    injection hc with hc
    exact absurd hc (by decide)
  obtain ⟨ro, hro, _⟩ := id hrb
  have hso := (F.at (.tail _ (.head _))).get
  refine ec (wpAny_Return_some (IfExp_ (wpAny_isTrue_Compare1 (nmL F rfl (nmL F rfl ?_)))))
  rw [hra]
  refine isOther hne hro hso (by decide) (wpAny_truthy_bool ?_)
  rw [if_neg Bool.false_ne_true]
  refine List_ (args_cons (nmL F rfl (args_nil (wpAny_newList ?_ (show (1 : Nat) ≤ sizeLine by rw [sizeLine_eq]; decide)))))
  have fD := F.new
  have F := (F.pushS (tk := s₃.toks) "list" [vs.getD (bestAt false out (vs.length - 1)) .none].toArray)
  exact hQ _ [bestAt false out (vs.length - 1)] _ _ _ F fD (best_tops false out (by exact om220 hN)) ok

set_option maxHeartbeats 2000000 in
theorem compNs10 {nz : Int} {tn : Tok} {io : Option Addr} {it l : Addr} {Q : Flow → Shared → Prop} (N : NS prog w G fr (envC 10 L 82 81) A sE L S f vs err out (L + 1 + 0))
    (F : Fx ⟨G, L, S, sE⟩ m ((it, .liter l 0) :: (L + 1 + 0, .cell (some (.ref f))) :: (l, .list vs) :: ℓ) s) (wi : Own ⟨G, L, S, sE⟩ it) (hio : ∀ x, io = some x → x = it) (hn : -100 ≤ nz ∧ nz ≤ 100) (hn1 : nz ≠ 1) (hN : 2 ≤ vs.length) (m2 : m "n" = some (.int nz tn)) (m5 : m "it" = some (.ref it))
    (hQ : ∀ D idx m' ℓ' s', Fx ⟨G, L, S, sE⟩ m' ((D, .list (idx.map fun i => vs.getD i .none)) :: (it, if nz ≤ 0 then .liter l 0 else .lidone vs.length) :: ℓ') s' → Fresh ⟨G, L, S, sE⟩ D → Tops (ahead true out) vs.length nz.toNat idx → (1 ≤ nz → ∀ j, j < vs.length → err j = none) → Q (.ret (.ref D)) s') :
    wpS (model prog w) A (execs (dropBody 10 4) (envC 10 L 82 81)) Q (EX sE G (envC 10 L 82 81) fr L (ErrP vs.length nz err sE S io l)) s := by
  refine sExecs (mkTri10 N F wi hn m2 m5 (fun D U k s₁ F fD hUf M hlen => ?_) fun i cls hi h1 hj he e hR s' hs hx ha hX => ?_)
  · exact tailNs10 (io := io) N F wi fD hio M hlen hn1 hN rfl m2 m5 hQ
  · exact EX.ofExc hs hX (.inr rfl) ⟨h1, i, hi, hj, he, hx, fun x hx' => by rw [hio x hx']; exact ha⟩
set_option maxHeartbeats 2000000 in
theorem oneNs10 {tn : Tok} {io : Option Addr} {it l : Addr} {Q : Flow → Shared → Prop} (N : NS prog w G fr (envC 10 L 82 81) A sE L S f vs err out (L + 1 + 0))
    (F : Fx ⟨G, L, S, sE⟩ m ((it, .liter l 0) :: (L + 1 + 0, .cell (some (.ref f))) :: (l, .list vs) :: ℓ) s) (wi : Own ⟨G, L, S, sE⟩ it) (hio : ∀ x, io = some x → x = it) (hN : 2 ≤ vs.length) (hvr : ∀ v ∈ vs, ∃ a its, v = .ref a ∧ At sE.heap a (.tup its) ∧ a ∉ S) (m2 : m "n" = some (.int 1 tn)) (m5 : m "it" = some (.ref it))
    (hQ : ∀ D idx m' ℓ' s', Fx ⟨G, L, S, sE⟩ m' ((D, .list (idx.map fun i => vs.getD i .none)) :: (it, .lidone vs.length) :: ℓ') s' → Fresh ⟨G, L, S, sE⟩ D → Tops (ahead true out) vs.length 1 idx → (∀ j, j < vs.length → err j = none) → Q (.ret (.ref D)) s') :
    wpS (model prog w) A (execs ((ifBody 10 0).drop 1) (envC 10 L 82 81)) Q (EX sE G (envC 10 L 82 81) fr L (ErrP vs.length 1 err sE S io l)) s := by
  have hh : A.handled = none := N.rm.hh
  refine sExecs (toS (wpAny_Assign_Name (Call_ (nmB N.B F rfl (callWith_type0 (callObject (stL (F.pushE obj0) fun s₁ F => ?_)))))))
  have hbest : bestAt true out (vs.length - 1) < vs.length := (best_tops true out (N := vs.length) (by exact om220 hN)).lt _ (.head _)
  obtain ⟨ra, rits, hra, hrat, hraS⟩ := hvr (vs.getD (bestAt true out (vs.length - 1)) .none) (by rw [List.getD_eq_getElem?_getD, List.getElem?_eq_getElem hbest]; exact List.getElem_mem hbest)
  refine sExecs (sAssign (sEvalCall (nmB N.B F rfl (sCallM rfl rfl (evalArgs_kw2 (by rfl) (args_cons (nmL F m5 (args_nil (kwAll_cons (nmL F rfl (kwAll_cons (nmC F rfl (.tail _ (.tail _ (.head _))) (kwAll_nil ?_)))))))))))))
  refine sBest (g := true) (N.still _) F.swap wi (.tail _ (.tail _ (.head _))) (N.rm.le (by decide)) N.hA N.key (by exact om126 hN) (fun ok s₂ F => ?_) fun i cls hi hj he e hR s' hs hx ha hX => ?_
  rotate_left
  · exact EX.ofExc hs hX (.inl rfl) ⟨by decide, i, hi, hj, he, hx, fun x hx' => by rw [hio x hx']; exact ha⟩
  refine stL F fun s₃ F => toS ?_
  have hrb : At s₃.heap ra (.tup rits) := F.post.ext.at hraS hrat
  have hne : ra ≠ s.heap.objs.size := fun q => by
    obtain ⟨o, ho, hc, _⟩ := hrb
    have := (F.at (.tail _ (.head _))).get
    rw [← q, ho] at this
    injection this with this
    rw [this] at hc
    injection hc with hc
    exact absurd hc (by decide)
  obtain ⟨ro, hro, _⟩ := id hrb
  have hso := (F.at (.tail _ (.head _))).get
  refine ec (wpAny_Return_some (IfExp_ (wpAny_isTrue_Compare1 (nmL F rfl (nmL F rfl ?_)))))
  rw [hra]
  refine isOther hne hro hso (by decide) (wpAny_truthy_bool ?_)
  rw [if_neg Bool.false_ne_true]
  refine List_ (args_cons (nmL F rfl (args_nil (wpAny_newList ?_ (show (1 : Nat) ≤ sizeLine by rw [sizeLine_eq]; decide)))))
  have fD := F.new
  have F := (F.pushS (tk := s₃.toks) "list" [vs.getD (bestAt true out (vs.length - 1)) .none].toArray)
  exact hQ _ [bestAt true out (vs.length - 1)] _ _ _ F fD (best_tops true out (by exact om220 hN)) ok
end
end Mine
namespace Mine
open PySem PySem.Calls PyProof.Rows PySem.W
open Sem (wp)
namespace AE
theorem exc : isSubtype (.type "AttributeError") (.type "BaseException") = pure true := by rw [isSubtype_type]; kernel_rfl
theorem nt : isSubtype (.type ((Manifest.find? "AttributeError").elim "type" fun x => x.metatype)) (.type "tuple") = pure false := by rw [isSubtype_type]; kernel_rfl
end AE
section
variable {prog : Program} {w : World} {A : Around} {E : Value → Shared → Prop} {s : Shared} {Q : Value → Shared → Prop} {G : Heap} {fr : List Env} {f : Addr} {vs : List Value} {err : Nat → Option String} {out : Nat → List UInt8}
set_option maxHeartbeats 2000000 in
theorem nsIter9 {n : Int} {tn : Tok} {it l : Addr} (B : Base G) (kg : G.StaysIn s.heap) (rm : Rm A 13) (hA : A.frames = some fr) (hf : Frs s.heap fr) (hg : ∀ a ∈ frsOf fr, G.get? a = none) (k1 : At s.heap it (.liter l 0)) (k2 : At s.heap l (.list vs)) (hil : it ≠ l) (git : G.get? it = none)
    (hfn : ∃ o fd, s.heap.get? f = some o ∧ o.data = .func fd) (hfi : f ≠ it) (hkey : ∀ i v, vs[i]? = some v → KeyOn prog w G s.heap [it] f v (err i) (out i)) (hvr : ∀ v ∈ vs, ∃ a its, v = .ref a ∧ At s.heap a (.tup its) ∧ a ∉ [it]) (hN : 2 ≤ vs.length) (hN16 : vs.length ≤ 16) (hn : -100 ≤ n ∧ n ≤ 100)
    (hQ : ∀ D idx s', Post G [it] s s' → At s'.heap D (.list (idx.map fun i => vs.getD i .none)) → At s'.heap it (if n ≤ 0 then .liter l 0 else .lidone vs.length) → s.heap.get? D = none → Tops (ahead false out) vs.length n.toNat idx → (1 ≤ n → ∀ j, j < vs.length → err j = none) → Q (.ref D) s')
    (hE : 1 ≤ n → ∀ i cls, i < vs.length → (∀ j, j < i → err j = none) → err i = some cls → ∀ e hR s', (∃ h tk, s' = { s with heap := h, toks := tk }) → Ext [it] s.heap hR → At hR it (.liter l (i + 1)) → Exc G hR fr e cls (.at .none) s'.heap → E (.ref e) s') :
    wpS (model prog w) A (call (.ref 76) [.int n tn, .ref it] [(Str.ofString "key", .ref f)]) Q E s := by
  refine sEnterC (i := 9) (cd := 75) (dV := .ref 71) (args := ⟨[.int n tn, .ref it], [(Str.ofString "key", .ref f)]⟩) (binds := [("n", .int n tn), ("iterable", .ref it), ("key", .ref f)]) B kg (B.fn (9, 76, 75, .ref 71) (by decide)) rm [it] (allc ⟨git, let ⟨o, e, _⟩ := k1; ⟨o, e⟩⟩ all0) [(it, .liter l 0), (l, .list vs)] (by simp [hil]) (allc k1 (allc k2 all0)) (fun doc pm an ct => ?_) ?_
  · obtain ⟨o, ho, hc, nn, hd⟩ := B.dflt.1
    exact BindsTo.of_defaults rfl (kg _ _ ho) hd rfl rfl
  intro L A' Z X s₁ rm' hAe hfc hZ hX F
  have F : Fx ⟨G, L, [it], s⟩ _ [(L + 1 + 0, .cell (some (.ref f))), (it, .liter l 0), (l, .list vs)] s₁ := F
  have hA' : A'.frames = some (envC 9 L 76 75 :: fr) := by rw [hAe]; show A.frames.map _ = _; rw [hA]; rfl
  have N : NS prog w G fr (envC 9 L 76 75) A' s L [it] f vs err out (L + 1 + 0) :=
    ⟨B, rm', hA', hf, fun a ha => ⟨hg a ha, fun q => At.notFrs hf k1 (List.mem_singleton.mp q ▸ ha)⟩, hkey, hfn, fun q => hfi (List.mem_singleton.mp q), show (fdAt 9).scope.kind ≠ .module by decide, rfl, F.gl, hN16⟩
  have hh : A'.handled = none := rm'.hh
  refine sMono (Q := Z) (E := EX s G (envC 9 L 76 75) fr L (ErrP vs.length n err s [it] (some it) l)) ?_ (fun _ _ x => x) fun v s' x => hX _ _ (EX.leave hA' rfl x fun e cls hR s'' hv hP hs hx => ?_)
  rotate_left
  · obtain ⟨h1, i, hi, hj, he, hxt, ha⟩ := hP
    rw [hv]; exact hE h1 i cls hi hj he e hR s'' hs hxt (ha it rfl) hx
  have F := F.swap
  have wi : Own ⟨G, L, [it], s⟩ it := ⟨.inl (.head _), git⟩
  refine sExecs (sIf (toS (wpAny_isTrue_Compare1 (nmL F rfl (ci F fun _ s₂ F => PyProof.Rows.eq_int (wpAny_truthy_bool ?_))))))
  by_cases h1 : n = 1
  · rw [if_pos (by simp [h1])]
    subst h1
    refine sExecs (toS (wpAny_Assign_Name (Call_ (nmB B F rfl (callWith_builtin1 (args_cons (nmL F rfl (args_nil (callIter (wpAny_pyIter_listiter (F.at (.head _)).isIter (stL F fun s₃ F => ?_)))))))))))
    refine oneNs9 (io := some it) N F wi (fun x hx => by injection hx with hx; exact hx.symm) hN hvr rfl rfl fun D idx m' ℓ' s₄ F fD T ok => ?_
    exact hZ _ _ (hQ D idx s₄ F.post (F.at (.head _)) (F.at (.tail _ (.head _))) fD.may.1 T fun _ => ok)
  · rw [if_neg (by simpa using h1)]
    refine toS (wpAny_execs_nil ?_)
    refine sExecs (sTry (toS (ec (wpAny_Assign_Name (Call_ (nmB B F rfl (callWith_builtin1 (args_cons (nmL F rfl (args_nil (lenNo (let ⟨o, ho, hc, _⟩ := F.at (.head _); ⟨o, ho, hc⟩) hh fun h' tk e hx => ?_)))))))))))
    obtain ⟨f1, _⟩ := F.frs N.hfr N.hg N.kind N.frame
    have x0 : Exc G s₂.heap (envC 9 L 76 75 :: fr) e "TypeError" .new h' := Exc.ofNew f1 F.kg N.frs hx
    refine wpAny_bind (exc_note (s := { s₂ with heap := h', toks := tk }) N.hA N.frame x0 trivial fun hq1 x1 => wpAny_bind (exc_flight (s := { s₂ with heap := hq1, toks := tk }) x1 fun h2 x2 => ?_))
    have F2 := F.ofExc (s' := { s₂ with heap := h2, toks := tk }) ⟨h2, tk, rfl⟩ x2
    refine wpAny_handleBy_tup2 (T1 := "TypeError") (T2 := "AttributeError") (X := "TypeError") (b1 := true) (b2 := false) PySem.F.isExc_TypeError PySem.F.notTuple_TypeError AE.exc AE.nt (by rw [isSubtype_type]; kernel_rfl) (by rw [isSubtype_type]; kernel_rfl) ?_
    refine Tuple_ (args_cons (nmB B F2 rfl (args_cons (nmB B F2 rfl (args_nil (wpAny_newTuple ?_ (show (2 : Nat) ≤ sizeLine by rw [sizeLine_eq]; decide)))))))
    have x3 := x2.grow (h' := h2.push { cls := .type "tuple", data := .seq #[.type "TypeError", .type "AttributeError"] }) fun b o q => Heap.get?_push_of_some _ q
    refine ⟨_, rfl, ⟨_, Heap.get?_push_size _ rfl, rfl, _, rfl⟩, x3.typeIs, ?_⟩
    rw [if_pos (show (true || false) = true from rfl)]
    refine exc_flight (s := { s₂ with heap := h2.push { cls := .type "tuple", data := .seq #[.type "TypeError", .type "AttributeError"] }, toks := tk }) x3 fun h4 x4 => ?_
    have F := F.ofExc (s' := { s₂ with heap := h4, toks := tk }) ⟨h4, tk, rfl⟩ x4
    refine ec (wpAny_Pass (wpAny_execs_nil ?_))
    refine sExecs (toS (wpAny_If (wpAny_isTrue_Compare1 (nmC F rfl (.tail _ (.head _)) (wpAny_Constant_none (is_ref_none (wpAny_truthy_bool ?_)))))))
    rw [if_neg Bool.false_ne_true]
    refine wpAny_execs_nil ?_
    refine sExecs (toS (wpAny_Assign_Name (Call_ (nmB B F rfl (callWith_builtin1 (args_cons (nmL F rfl (args_nil (callIter (wpAny_pyIter_listiter (F.at (.head _)).isIter (stL F fun s₃ F => ?_)))))))))))
    refine compNs9 (io := some it) N F wi (fun x hx => by injection hx with hx; exact hx.symm) hn h1 hN rfl rfl fun D idx m' ℓ' s₄ F fD T ok => ?_
    exact hZ _ _ (hQ D idx s₄ F.post (F.at (.head _)) (F.at (.tail _ (.head _))) fD.may.1 T ok)

set_option maxHeartbeats 2000000 in
theorem nsIter10 {n : Int} {tn : Tok} {it l : Addr} (B : Base G) (kg : G.StaysIn s.heap) (rm : Rm A 13) (hA : A.frames = some fr) (hf : Frs s.heap fr) (hg : ∀ a ∈ frsOf fr, G.get? a = none) (k1 : At s.heap it (.liter l 0)) (k2 : At s.heap l (.list vs)) (hil : it ≠ l) (git : G.get? it = none)
    (hfn : ∃ o fd, s.heap.get? f = some o ∧ o.data = .func fd) (hfi : f ≠ it) (hkey : ∀ i v, vs[i]? = some v → KeyOn prog w G s.heap [it] f v (err i) (out i)) (hvr : ∀ v ∈ vs, ∃ a its, v = .ref a ∧ At s.heap a (.tup its) ∧ a ∉ [it]) (hN : 2 ≤ vs.length) (hN16 : vs.length ≤ 16) (hn : -100 ≤ n ∧ n ≤ 100)
    (hQ : ∀ D idx s', Post G [it] s s' → At s'.heap D (.list (idx.map fun i => vs.getD i .none)) → At s'.heap it (if n ≤ 0 then .liter l 0 else .lidone vs.length) → s.heap.get? D = none → Tops (ahead true out) vs.length n.toNat idx → (1 ≤ n → ∀ j, j < vs.length → err j = none) → Q (.ref D) s')
    (hE : 1 ≤ n → ∀ i cls, i < vs.length → (∀ j, j < i → err j = none) → err i = some cls → ∀ e hR s', (∃ h tk, s' = { s with heap := h, toks := tk }) → Ext [it] s.heap hR → At hR it (.liter l (i + 1)) → Exc G hR fr e cls (.at .none) s'.heap → E (.ref e) s') :
    wpS (model prog w) A (call (.ref 82) [.int n tn, .ref it] [(Str.ofString "key", .ref f)]) Q E s := by
  refine sEnterC (i := 10) (cd := 81) (dV := .ref 77) (args := ⟨[.int n tn, .ref it], [(Str.ofString "key", .ref f)]⟩) (binds := [("n", .int n tn), ("iterable", .ref it), ("key", .ref f)]) B kg (B.fn (10, 82, 81, .ref 77) (by decide)) rm [it] (allc ⟨git, let ⟨o, e, _⟩ := k1; ⟨o, e⟩⟩ all0) [(it, .liter l 0), (l, .list vs)] (by simp [hil]) (allc k1 (allc k2 all0)) (fun doc pm an ct => ?_) ?_
  · obtain ⟨o, ho, hc, nn, hd⟩ := B.dflt.2
    exact BindsTo.of_defaults rfl (kg _ _ ho) hd rfl rfl
  intro L A' Z X s₁ rm' hAe hfc hZ hX F
  have F : Fx ⟨G, L, [it], s⟩ _ [(L + 1 + 0, .cell (some (.ref f))), (it, .liter l 0), (l, .list vs)] s₁ := F
  have hA' : A'.frames = some (envC 10 L 82 81 :: fr) := by rw [hAe]; show A.frames.map _ = _; rw [hA]; rfl
  have N : NS prog w G fr (envC 10 L 82 81) A' s L [it] f vs err out (L + 1 + 0) :=
    ⟨B, rm', hA', hf, fun a ha => ⟨hg a ha, fun q => At.notFrs hf k1 (List.mem_singleton.mp q ▸ ha)⟩, hkey, hfn, fun q => hfi (List.mem_singleton.mp q), show (fdAt 10).scope.kind ≠ .module by decide, rfl, F.gl, hN16⟩
  have hh : A'.handled = none := rm'.hh
  refine sMono (Q := Z) (E := EX s G (envC 10 L 82 81) fr L (ErrP vs.length n err s [it] (some it) l)) ?_ (fun _ _ x => x) fun v s' x => hX _ _ (EX.leave hA' rfl x fun e cls hR s'' hv hP hs hx => ?_)
  rotate_left
  · obtain ⟨h1, i, hi, hj, he, hxt, ha⟩ := hP
    rw [hv]; exact hE h1 i cls hi hj he e hR s'' hs hxt (ha it rfl) hx
  have F := F.swap
  have wi : Own ⟨G, L, [it], s⟩ it := ⟨.inl (.head _), git⟩
  refine sExecs (sIf (toS (wpAny_isTrue_Compare1 (nmL F rfl (ci F fun _ s₂ F => PyProof.Rows.eq_int (wpAny_truthy_bool ?_))))))
  by_cases h1 : n = 1
  · rw [if_pos (by simp [h1])]
    subst h1
    refine sExecs (toS (wpAny_Assign_Name (Call_ (nmB B F rfl (callWith_builtin1 (args_cons (nmL F rfl (args_nil (callIter (wpAny_pyIter_listiter (F.at (.head _)).isIter (stL F fun s₃ F => ?_)))))))))))
    refine oneNs10 (io := some it) N F wi (fun x hx => by injection hx with hx; exact hx.symm) hN hvr rfl rfl fun D idx m' ℓ' s₄ F fD T ok => ?_
    exact hZ _ _ (hQ D idx s₄ F.post (F.at (.head _)) (F.at (.tail _ (.head _))) fD.may.1 T fun _ => ok)
  · rw [if_neg (by simpa using h1)]
    refine toS (wpAny_execs_nil ?_)
    refine sExecs (sTry (toS (ec (wpAny_Assign_Name (Call_ (nmB B F rfl (callWith_builtin1 (args_cons (nmL F rfl (args_nil (lenNo (let ⟨o, ho, hc, _⟩ := F.at (.head _); ⟨o, ho, hc⟩) hh fun h' tk e hx => ?_)))))))))))
    obtain ⟨f1, _⟩ := F.frs N.hfr N.hg N.kind N.frame
    have x0 : Exc G s₂.heap (envC 10 L 82 81 :: fr) e "TypeError" .new h' := Exc.ofNew f1 F.kg N.frs hx
    refine wpAny_bind (exc_note (s := { s₂ with heap := h', toks := tk }) N.hA N.frame x0 trivial fun hq1 x1 => wpAny_bind (exc_flight (s := { s₂ with heap := hq1, toks := tk }) x1 fun h2 x2 => ?_))
    have F2 := F.ofExc (s' := { s₂ with heap := h2, toks := tk }) ⟨h2, tk, rfl⟩ x2
    refine wpAny_handleBy_tup2 (T1 := "TypeError") (T2 := "AttributeError") (X := "TypeError") (b1 := true) (b2 := false) PySem.F.isExc_TypeError PySem.F.notTuple_TypeError AE.exc AE.nt (by rw [isSubtype_type]; kernel_rfl) (by rw [isSubtype_type]; kernel_rfl) ?_
    refine Tuple_ (args_cons (nmB B F2 rfl (args_cons (nmB B F2 rfl (args_nil (wpAny_newTuple ?_ (show (2 : Nat) ≤ sizeLine by rw [sizeLine_eq]; decide)))))))
    have x3 := x2.grow (h' := h2.push { cls := .type "tuple", data := .seq #[.type "TypeError", .type "AttributeError"] }) fun b o q => Heap.get?_push_of_some _ q
    refine ⟨_, rfl, ⟨_, Heap.get?_push_size _ rfl, rfl, _, rfl⟩, x3.typeIs, ?_⟩
    rw [if_pos (show (true || false) = true from rfl)]
    refine exc_flight (s := { s₂ with heap := h2.push { cls := .type "tuple", data := .seq #[.type "TypeError", .type "AttributeError"] }, toks := tk }) x3 fun h4 x4 => ?_
    have F := F.ofExc (s' := { s₂ with heap := h4, toks := tk }) ⟨h4, tk, rfl⟩ x4
    refine ec (wpAny_Pass (wpAny_execs_nil ?_))
    refine sExecs (toS (wpAny_If (wpAny_isTrue_Compare1 (nmC F rfl (.tail _ (.head _)) (wpAny_Constant_none (is_ref_none (wpAny_truthy_bool ?_)))))))
    rw [if_neg Bool.false_ne_true]
    refine wpAny_execs_nil ?_
    refine sExecs (toS (wpAny_Assign_Name (Call_ (nmB B F rfl (callWith_builtin1 (args_cons (nmL F rfl (args_nil (callIter (wpAny_pyIter_listiter (F.at (.head _)).isIter (stL F fun s₃ F => ?_)))))))))))
    refine compNs10 (io := some it) N F wi (fun x hx => by injection hx with hx; exact hx.symm) hn h1 hN rfl rfl fun D idx m' ℓ' s₄ F fD T ok => ?_
    exact hZ _ _ (hQ D idx s₄ F.post (F.at (.head _)) (F.at (.tail _ (.head _))) fD.may.1 T ok)
end
end Mine
namespace Mine
open PySem PySem.Calls PyProof.Rows PySem.W
open Sem (wp)
theorem sorted_len (g : Bool) (out : Nat → List UInt8) {N : Nat} (hN : 1 ≤ N) : (permOf (fun i j => blt (out (rv g N i)) (out (rv g N j))) N).length = N := by
  have W : Weak fun i j => blt (out (rv g N i)) (out (rv g N j)) := weak_on blt_irr (fun _ _ _ => blt_tr) blt_neg fun i => out (rv g N i)
  rw [(perm_pw W hN).1.length_eq, List.length_range]
section
variable {prog : Program} {w : World} {A : Around} {E : Value → Shared → Prop} {s : Shared} {Q : Value → Shared → Prop} {G : Heap} {fr : List Env} {f : Addr} {vs : List Value} {err : Nat → Option String} {out : Nat → List UInt8}
set_option maxHeartbeats 2000000 in
theorem nsList9 {n : Int} {tn : Tok} {l : Addr} (B : Base G) (kg : G.StaysIn s.heap) (rm : Rm A 13) (hA : A.frames = some fr) (hf : Frs s.heap fr) (hg : ∀ a ∈ frsOf fr, G.get? a = none) (k2 : At s.heap l (.list vs))
    (hfn : ∃ o fd, s.heap.get? f = some o ∧ o.data = .func fd) (hkey : ∀ i v, vs[i]? = some v → KeyOn prog w G s.heap [] f v (err i) (out i)) (hvr : ∀ v ∈ vs, ∃ a its, v = .ref a ∧ At s.heap a (.tup its)) (hN : 2 ≤ vs.length) (hN16 : vs.length ≤ 16) (hn : -100 ≤ n ∧ n ≤ 100)
    (hQ : ∀ D idx s', Post G [] s s' → At s'.heap D (.list (idx.map fun i => vs.getD i .none)) → s.heap.get? D = none → Tops (ahead false out) vs.length n.toNat idx → (1 ≤ n → ∀ j, j < vs.length → err j = none) → Q (.ref D) s')
    (hE : 1 ≤ n → ∀ i cls, i < vs.length → (∀ j, j < i → err j = none) → err i = some cls → ∀ e hR s', (∃ h tk, s' = { s with heap := h, toks := tk }) → Ext [] s.heap hR → Exc G hR fr e cls (.at .none) s'.heap → E (.ref e) s') :
    wpS (model prog w) A (call (.ref 76) [.int n tn, .ref l] [(Str.ofString "key", .ref f)]) Q E s := by
  refine sEnterC (i := 9) (cd := 75) (dV := .ref 71) (args := ⟨[.int n tn, .ref l], [(Str.ofString "key", .ref f)]⟩) (binds := [("n", .int n tn), ("iterable", .ref l), ("key", .ref f)]) B kg (B.fn (9, 76, 75, .ref 71) (by decide)) rm [] (fun a ha => nomatch ha) [(l, .list vs)] (by simp) (allc k2 all0) (fun doc pm an ct => ?_) ?_
  · obtain ⟨o, ho, hc, nn, hd⟩ := B.dflt.1
    exact BindsTo.of_defaults rfl (kg _ _ ho) hd rfl rfl
  intro L A' Z X s₁ rm' hAe hfc hZ hX F
  have F : Fx ⟨G, L, [], s⟩ _ [(L + 1 + 0, .cell (some (.ref f))), (l, .list vs)] s₁ := F
  have hA' : A'.frames = some (envC 9 L 76 75 :: fr) := by rw [hAe]; show A.frames.map _ = _; rw [hA]; rfl
  have N : NS prog w G fr (envC 9 L 76 75) A' s L [] f vs err out (L + 1 + 0) :=
    ⟨B, rm', hA', hf, fun a ha => ⟨hg a ha, fun q => nomatch q⟩, hkey, hfn, (fun q => nomatch q), show (fdAt 9).scope.kind ≠ .module by decide, rfl, F.gl, hN16⟩
  have hh : A'.handled = none := rm'.hh
  refine sMono (Q := Z) (E := EX s G (envC 9 L 76 75) fr L (ErrP vs.length n err s [] none l)) ?_ (fun _ _ x => x) fun v s' x => hX _ _ (EX.leave hA' rfl x fun e cls hR s'' hv hP hs hx => ?_)
  rotate_left
  · obtain ⟨h1, i, hi, hj, he, hxt, _⟩ := hP
    rw [hv]; exact hE h1 i cls hi hj he e hR s'' hs hxt hx
  refine sExecs (sIf (toS (wpAny_isTrue_Compare1 (nmL F rfl (ci F fun _ s₂ F => PyProof.Rows.eq_int (wpAny_truthy_bool ?_))))))
  by_cases h1 : n = 1
  · rw [if_pos (by simp [h1])]
    subst h1
    refine sExecs (toS (wpAny_Assign_Name (Call_ (nmB B F rfl (callWith_builtin1 (args_cons (nmL F rfl (args_nil (callIter (iterL F (.tail _ (.head _)) fun it s₃ F fi => stL F fun s₄ F => ?_))))))))))
    refine oneNs9 (io := none) N F fi.own (fun x hx => nomatch hx) hN (fun v hv => let ⟨a, its, e1, e2⟩ := hvr v hv; ⟨a, its, e1, e2, fun q => nomatch q⟩) rfl rfl fun D idx m' ℓ' s₅ F fD T ok => ?_
    exact hZ _ _ (hQ D idx s₅ F.post (F.at (.head _)) fD.may.1 T fun _ => ok)
  · rw [if_neg (by simpa using h1)]
    refine toS (wpAny_execs_nil ?_)
    refine sExecs (sTry (toS (ec (wpAny_Assign_Name (Call_ (nmB B F rfl (callWith_builtin1 (args_cons (nmL F rfl (args_nil (lenL F (.tail _ (.head _)) (by simp; exact om213 hN16) fun _ s₃ F => stL F fun s₄ F => wpAny_execs_nil ?_)))))))))))
    refine sExecs (sIf (toS (wpAny_isTrue_Compare1 (nmL F rfl (nmL F rfl (PyProof.Rows.ge_int (wpAny_truthy_bool ?_)))))))
    have rest : ∀ {s₅ : Shared} {m₅ : Str → Option Value}, Fx ⟨G, L, [], s⟩ m₅ [(L + 1 + 0, .cell (some (.ref f))), (l, .list vs)] s₅ → m₅ "n" = some (.int n tn) → m₅ "iterable" = some (.ref l) → wpS (model prog w) A' (execs (dropBody 9 2) (envC 9 L 76 75)) Z (EX s G (envC 9 L 76 75) fr L (ErrP vs.length n err s [] none l)) s₅ := by
      intro s₅ m₅ F e1 e2
      refine sExecs (toS (wpAny_If (wpAny_isTrue_Compare1 (nmC F rfl (.head _) (wpAny_Constant_none (is_ref_none (wpAny_truthy_bool ?_)))))))
      rw [if_neg Bool.false_ne_true]
      refine wpAny_execs_nil ?_
      refine sExecs (toS (wpAny_Assign_Name (Call_ (nmB B F rfl (callWith_builtin1 (args_cons (nmL F e2 (args_nil (callIter (iterL F (.tail _ (.head _)) fun it s₆ F fi => stL F fun s₇ F => ?_))))))))))
      refine compNs9 (io := none) N F fi.own (fun x hx => nomatch hx) hn h1 hN e1 rfl fun D idx m' ℓ' s₈ F fD T ok => ?_
      exact hZ _ _ (hQ D idx s₈ F.post (F.at (.head _)) fD.may.1 T ok)
    by_cases h2 : (vs.length : Int) ≤ n
    · rw [if_pos (by simpa using h2)]
      refine sExecs (sReturn (sSubscript (sEvalCall (nmB B F rfl (sCallM rfl rfl (evalArgs_kw2 (by rfl) (args_cons (nmL F rfl (args_nil (kwAll_cons (nmC F rfl (.head _) (kwAll_nil ?_))))))))))))
      obtain ⟨k, rfl⟩ := Int.eq_ofNat_of_zero_le (show 0 ≤ n by exact om221 h2)
      refine sSorted (b := false) (f := f) (N.still _) F (.tail _ (.head _)) hN (by exact om205 hN16) (N.rm.le (by decide)) N.hA N.key (fun ok D kk s₅ F fD => ?_) fun i cls hi hj he e hR s' hs hx hX => ?_
      · refine upTo (nmL F rfl ?_)
        have F := F.pushE (tk := s₅.toks) (sliceOb .none (.int (k : Nat) tn))
        obtain ⟨idx, T, hidx⟩ := sorted_tops false out (vs := vs) (by exact om220 hN) k
        refine sliceTo F (lstL (F.at (.tail _ (.head _)))) (F.at (.head _)) (by rw [kat_len, List.length_map, sorted_len false out (by exact om220 hN)]; exact om206 hN16) fun D' s₆ F fD' => ?_
        rw [hidx] at F
        exact hZ _ _ (hQ D' idx s₆ F.post (lstL (F.at (.head _))) fD'.may.1 T fun _ => ok)
      · obtain ⟨_, _, q⟩ := F.sh
        obtain ⟨h5, t5, rfl⟩ := hs
        exact EX.ofExc ⟨h5, t5, by rw [q]⟩ hX (.inl rfl) ⟨by exact om222 h2 hi, i, hi, hj, he, F.post.ext.trans hx, fun _ q => nomatch q⟩
    · rw [if_neg (by simpa using h2)]
      refine toS (wpAny_execs_nil (toS (wpAny_execs_nil ?_)))
      exact rest F rfl rfl

set_option maxHeartbeats 2000000 in
theorem nsList10 {n : Int} {tn : Tok} {l : Addr} (B : Base G) (kg : G.StaysIn s.heap) (rm : Rm A 13) (hA : A.frames = some fr) (hf : Frs s.heap fr) (hg : ∀ a ∈ frsOf fr, G.get? a = none) (k2 : At s.heap l (.list vs))
    (hfn : ∃ o fd, s.heap.get? f = some o ∧ o.data = .func fd) (hkey : ∀ i v, vs[i]? = some v → KeyOn prog w G s.heap [] f v (err i) (out i)) (hvr : ∀ v ∈ vs, ∃ a its, v = .ref a ∧ At s.heap a (.tup its)) (hN : 2 ≤ vs.length) (hN16 : vs.length ≤ 16) (hn : -100 ≤ n ∧ n ≤ 100)
    (hQ : ∀ D idx s', Post G [] s s' → At s'.heap D (.list (idx.map fun i => vs.getD i .none)) → s.heap.get? D = none → Tops (ahead true out) vs.length n.toNat idx → (1 ≤ n → ∀ j, j < vs.length → err j = none) → Q (.ref D) s')
    (hE : 1 ≤ n → ∀ i cls, i < vs.length → (∀ j, j < i → err j = none) → err i = some cls → ∀ e hR s', (∃ h tk, s' = { s with heap := h, toks := tk }) → Ext [] s.heap hR → Exc G hR fr e cls (.at .none) s'.heap → E (.ref e) s') :
    wpS (model prog w) A (call (.ref 82) [.int n tn, .ref l] [(Str.ofString "key", .ref f)]) Q E s := by
  refine sEnterC (i := 10) (cd := 81) (dV := .ref 77) (args := ⟨[.int n tn, .ref l], [(Str.ofString "key", .ref f)]⟩) (binds := [("n", .int n tn), ("iterable", .ref l), ("key", .ref f)]) B kg (B.fn (10, 82, 81, .ref 77) (by decide)) rm [] (fun a ha => nomatch ha) [(l, .list vs)] (by simp) (allc k2 all0) (fun doc pm an ct => ?_) ?_
  · obtain ⟨o, ho, hc, nn, hd⟩ := B.dflt.2
    exact BindsTo.of_defaults rfl (kg _ _ ho) hd rfl rfl
  intro L A' Z X s₁ rm' hAe hfc hZ hX F
  have F : Fx ⟨G, L, [], s⟩ _ [(L + 1 + 0, .cell (some (.ref f))), (l, .list vs)] s₁ := F
  have hA' : A'.frames = some (envC 10 L 82 81 :: fr) := by rw [hAe]; show A.frames.map _ = _; rw [hA]; rfl
  have N : NS prog w G fr (envC 10 L 82 81) A' s L [] f vs err out (L + 1 + 0) :=
    ⟨B, rm', hA', hf, fun a ha => ⟨hg a ha, fun q => nomatch q⟩, hkey, hfn, (fun q => nomatch q), show (fdAt 10).scope.kind ≠ .module by decide, rfl, F.gl, hN16⟩
  have hh : A'.handled = none := rm'.hh
  refine sMono (Q := Z) (E := EX s G (envC 10 L 82 81) fr L (ErrP vs.length n err s [] none l)) ?_ (fun _ _ x => x) fun v s' x => hX _ _ (EX.leave hA' rfl x fun e cls hR s'' hv hP hs hx => ?_)
  rotate_left
  · obtain ⟨h1, i, hi, hj, he, hxt, _⟩ := hP
    rw [hv]; exact hE h1 i cls hi hj he e hR s'' hs hxt hx
  refine sExecs (sIf (toS (wpAny_isTrue_Compare1 (nmL F rfl (ci F fun _ s₂ F => PyProof.Rows.eq_int (wpAny_truthy_bool ?_))))))
  by_cases h1 : n = 1
  · rw [if_pos (by simp [h1])]
    subst h1
    refine sExecs (toS (wpAny_Assign_Name (Call_ (nmB B F rfl (callWith_builtin1 (args_cons (nmL F rfl (args_nil (callIter (iterL F (.tail _ (.head _)) fun it s₃ F fi => stL F fun s₄ F => ?_))))))))))
    refine oneNs10 (io := none) N F fi.own (fun x hx => nomatch hx) hN (fun v hv => let ⟨a, its, e1, e2⟩ := hvr v hv; ⟨a, its, e1, e2, fun q => nomatch q⟩) rfl rfl fun D idx m' ℓ' s₅ F fD T ok => ?_
    exact hZ _ _ (hQ D idx s₅ F.post (F.at (.head _)) fD.may.1 T fun _ => ok)
  · rw [if_neg (by simpa using h1)]
    refine toS (wpAny_execs_nil ?_)
    refine sExecs (sTry (toS (ec (wpAny_Assign_Name (Call_ (nmB B F rfl (callWith_builtin1 (args_cons (nmL F rfl (args_nil (lenL F (.tail _ (.head _)) (by simp; exact om213 hN16) fun _ s₃ F => stL F fun s₄ F => wpAny_execs_nil ?_)))))))))))
    refine sExecs (sIf (toS (wpAny_isTrue_Compare1 (nmL F rfl (nmL F rfl (PyProof.Rows.ge_int (wpAny_truthy_bool ?_)))))))
    have rest : ∀ {s₅ : Shared} {m₅ : Str → Option Value}, Fx ⟨G, L, [], s⟩ m₅ [(L + 1 + 0, .cell (some (.ref f))), (l, .list vs)] s₅ → m₅ "n" = some (.int n tn) → m₅ "iterable" = some (.ref l) → wpS (model prog w) A' (execs (dropBody 10 2) (envC 10 L 82 81)) Z (EX s G (envC 10 L 82 81) fr L (ErrP vs.length n err s [] none l)) s₅ := by
      intro s₅ m₅ F e1 e2
      refine sExecs (toS (wpAny_If (wpAny_isTrue_Compare1 (nmC F rfl (.head _) (wpAny_Constant_none (is_ref_none (wpAny_truthy_bool ?_)))))))
      rw [if_neg Bool.false_ne_true]
      refine wpAny_execs_nil ?_
      refine sExecs (toS (wpAny_Assign_Name (Call_ (nmB B F rfl (callWith_builtin1 (args_cons (nmL F e2 (args_nil (callIter (iterL F (.tail _ (.head _)) fun it s₆ F fi => stL F fun s₇ F => ?_))))))))))
      refine compNs10 (io := none) N F fi.own (fun x hx => nomatch hx) hn h1 hN e1 rfl fun D idx m' ℓ' s₈ F fD T ok => ?_
      exact hZ _ _ (hQ D idx s₈ F.post (F.at (.head _)) fD.may.1 T ok)
    by_cases h2 : (vs.length : Int) ≤ n
    · rw [if_pos (by simpa using h2)]
      refine sExecs (sReturn (sSubscript (sEvalCall (nmB B F rfl (sCallM rfl rfl (evalArgs_kw2 (by rfl) (args_cons (nmL F rfl (args_nil (kwAll_cons (nmC F rfl (.head _) (kwAll_cons (wpAny_Constant_bool (kwAll_nil ?_))))))))))))))
      obtain ⟨k, rfl⟩ := Int.eq_ofNat_of_zero_le (show 0 ≤ n by exact om221 h2)
      refine sSorted (b := true) (f := f) (N.still _) F (.tail _ (.head _)) hN (by exact om205 hN16) (N.rm.le (by decide)) N.hA N.key (fun ok D kk s₅ F fD => ?_) fun i cls hi hj he e hR s' hs hx hX => ?_
      · refine upTo (nmL F rfl ?_)
        have F := F.pushE (tk := s₅.toks) (sliceOb .none (.int (k : Nat) tn))
        obtain ⟨idx, T, hidx⟩ := sorted_tops true out (vs := vs) (by exact om220 hN) k
        refine sliceTo F (lstL (F.at (.tail _ (.head _)))) (F.at (.head _)) (by rw [kat_len, List.length_map, sorted_len true out (by exact om220 hN)]; exact om206 hN16) fun D' s₆ F fD' => ?_
        rw [hidx] at F
        exact hZ _ _ (hQ D' idx s₆ F.post (lstL (F.at (.head _))) fD'.may.1 T fun _ => ok)
      · obtain ⟨_, _, q⟩ := F.sh
        obtain ⟨h5, t5, rfl⟩ := hs
        exact EX.ofExc ⟨h5, t5, by rw [q]⟩ hX (.inl rfl) ⟨by exact om222 h2 hi, i, hi, hj, he, F.post.ext.trans hx, fun _ q => nomatch q⟩
    · rw [if_neg (by simpa using h2)]
      refine toS (wpAny_execs_nil (toS (wpAny_execs_nil ?_)))
      exact rest F rfl rfl
end
end Mine
namespace Mine
open PySem PySem.Calls PyProof.Rows PySem.W
open Sem (wp)
/-! ## _law_asked -/
theorem Ext.codeRec {S : List Addr} {h h' : Heap} (x : Ext S h h') {c : Addr} {q : Str} (hc : c ∉ S) (e : h.CodeRec (.ref c) q) : h'.CodeRec (.ref c) q := by
  obtain ⟨c', o, vs, t, e1, e2, e3, e4⟩ := e
  injection e1 with e1
  subst e1
  obtain ⟨o', e5, sl, rfl, _⟩ := x c o hc e2
  exact ⟨c, _, vs, t, rfl, e5, e3, e4⟩
theorem keyLam {prog : Program} {w : World} {G h₀ : Heap} {S₀ : List Addr} {f wc c' item : Addr} {g : Bool} {pm ctv pv : Value} {row : List UInt8} {td tw : Tok} {width : Int} (B : Base G) (hn : row.length ≤ 1000) (hw : -2 ≤ width ∧ width ≤ 4)
    (k1 : At h₀ f (.ex (lamObj g wc pm c' ctv))) (k2 : h₀.CodeRec (.ref c') lamQ) (k3 : At h₀ wc (.cell (some (.int width tw)))) (k4 : At h₀ item (.tup [pv, .bytes row.toArray td])) (k5 : wc ≠ item) (hS : f ∉ S₀ ∧ c' ∉ S₀ ∧ wc ∉ S₀ ∧ item ∉ S₀) :
    KeyOn prog w G h₀ S₀ f (.ref item) (bswErr width row.length) (bswOut width row) :=
  fun A s fr Q E rm hA kg hf hg x h hE => lam_spec B kg rm hA hf hg hn hw (x.at hS.1 k1) (x.codeRec hS.2.1 k2) (x.at hS.2.2.1 k3) (x.at hS.2.2.2 k4) k5 h hE
def hds15 : List ExceptHandler := match (fdAt 15).body with
  | [.Try _ hs _ _ _] => hs
  | _ => []
def msgOf (cls : String) : Str := if cls == "IndexError" then "not whole words" else "no width"
section
variable {prog : Program} {w : World} {A : Around} {E : Value → Shared → Prop} {s : Shared} {c : Cx} {m : Str → Option Value} {ℓ : List (Addr × Kn)} {fr : List Env} {cls : String} {e f : Addr} {hR : Heap}
theorem bswErr_cls {width : Int} {n : Nat} (h : bswErr width n = some cls) : cls = "ValueError" ∨ cls = "IndexError" := by
  unfold bswErr at h
  split at h
  · injection h with h; exact .inl h.symm
  · split at h
    · injection h with h; exact .inr h.symm
    · cases h
theorem askedCatch {Q : Flow → Shared → Prop} (B : Base c.G) (ok : ∀ {h3 : Heap} {st : XSt}, Exc c.G hR (envC 15 c.L f 100 :: fr) e cls st h3 → Fx c m ℓ { s with heap := h3 }) (hA : A.frames = some (envC 15 c.L f 100 :: fr)) (x : Exc c.G hR (envC 15 c.L f 100 :: fr) e cls (.at .none) s.heap) (hc : cls = "ValueError" ∨ cls = "IndexError")
    (h : ∀ t s', Fx c m ℓ s' → Ext [] hR s'.heap → Q (.ret (.str (msgOf cls) t)) s') : wpAny (model prog w) A (do noteFrame (.ref e) (envC 15 c.L f 100); setFlight (.ref e) none; handleBy (.ref e) (envC 15 c.L f 100) hds15) Q E s := by
  refine wpAny_bind (exc_note hA rfl x (.inl rfl) fun h1 x1 => wpAny_bind (exc_flight (s := { s with heap := h1 }) x1 fun h2 x2 => ?_))
  rcases hc with rfl | rfl
  · refine wpAny_handleBy_builtin (X := "ValueError") (T := "IndexError") (b := false) PySem.F.isExc_IndexError PySem.F.notTuple_IndexError (by rw [isSubtype_type]; kernel_rfl) (nmB B (ok x2) rfl ⟨rfl, x2.typeIs, ?_⟩)
    rw [if_neg Bool.false_ne_true]
    refine wpAny_handleBy_builtin (X := "ValueError") (T := "ValueError") (b := true) PySem.F.isExc_ValueError PySem.F.notTuple_ValueError (by rw [isSubtype_type]; kernel_rfl) (nmB B (ok x2) rfl ⟨rfl, x2.typeIs, ?_⟩)
    rw [if_pos rfl]
    refine exc_flight (s := { s with heap := h2 }) x2 fun h4 x4 => wpAny_execs_cons (wpAny_Return_some (wpAny_Constant_str (h _ _ ((ok x4).toks _) x4.ext)))
  · refine wpAny_handleBy_builtin (X := "IndexError") (T := "IndexError") (b := true) PySem.F.isExc_IndexError PySem.F.notTuple_IndexError (by rw [isSubtype_type]; kernel_rfl) (nmB B (ok x2) rfl ⟨rfl, x2.typeIs, ?_⟩)
    rw [if_pos rfl]
    refine exc_flight (s := { s with heap := h2 }) x2 fun h4 x4 => wpAny_execs_cons (wpAny_Return_some (wpAny_Constant_str (h _ _ ((ok x4).toks _) x4.ext)))
/-- what a refused key leaves in the frame of _law_asked -/
theorem Fx.refused {env : Env} {it l : Addr} {k k' : Kn} {s₂ : Shared} (F : Fx c m ((it, k) :: ℓ) s) (wi : Own c it) (hs : ∃ h tk, s₂ = { s with heap := h, toks := tk }) (x : Ext [it] s.heap hR) (ha : At hR it k') {h3 : Heap} {st : XSt} (X : Exc c.G hR (env :: fr) e cls st h3) : Fx c m ((it, k') :: ℓ) { s₂ with heap := h3 } := by
  obtain ⟨h, tk, rfl⟩ := hs
  have at3 : At h3 it k' := X.ext.at (fun q => nomatch q) ha
  refine F.after1 wi ⟨⟨h3, tk, rfl⟩, X.kg, x.trans (X.ext.mono fun _ q => nomatch q), fun a ha' => ?_⟩ at3
  rw [List.mem_singleton.mp ha']
  obtain ⟨o, q, _⟩ := at3
  exact ⟨o, q⟩
theorem Fx.refused0 {env : Env} {s₂ : Shared} (F : Fx c m ℓ s) (hs : ∃ h tk, s₂ = { s with heap := h, toks := tk }) (x : Ext [] s.heap hR) {h3 : Heap} {st : XSt} (X : Exc c.G hR (env :: fr) e cls st h3) : Fx c m ℓ { s₂ with heap := h3 } := by
  obtain ⟨h, tk, rfl⟩ := hs
  exact F.after0 ⟨⟨h3, tk, rfl⟩, X.kg, x.trans X.ext, fun _ q => nomatch q⟩
end
end Mine
namespace Mine
open PySem PySem.Calls PyProof.Rows PySem.W
open Sem (wp)
theorem TabOk.ext {S : List Addr} {h h' : Heap} {ps : Array Value} (T : TabOk h ps) (x : Ext S h h') (hS : ∀ a ∈ S, ¬ h.CodeRec (.ref a) lamQ) : TabOk h' ps :=
  ⟨T.tri, fun pos cv e => by
    have q := T.codes pos cv e
    obtain ⟨c, o, vs, t, rfl, e2, e3, e4⟩ := id q
    exact x.codeRec (fun r => hS c r q) q⟩
theorem liter_noCode {h : Heap} {it l : Addr} {i : Nat} {q : Str} (e : At h it (.liter l i)) : ¬ h.CodeRec (.ref it) q := fun r => by
  obtain ⟨o, ho, hc, hd⟩ := e
  obtain ⟨c, o', vs, t, e1, e2, e3, e4⟩ := r
  injection e1 with e1
  rw [← e1, ho] at e2
  injection e2 with e2
  rw [← e2, hd] at e3
  injection e3 with e3
  rw [← e3] at e4
  injection e4 with e4
  cases e4
abbrev outOf (width : Int) (rs : List (List UInt8 × Tok)) (i : Nat) : List UInt8 := bswOut width (rs.getD i ([], 0)).1
abbrev errOf (width : Int) (rs : List (List UInt8 × Tok)) (i : Nat) : Option String := bswErr width (rs.getD i ([], 0)).1.length
/-- what _law_asked answers, and how far it has read -/
inductive Asked (g : Bool) (wish width : Int) (rs : List (List UInt8 × Tok)) (as : List (Addr × Tok)) (l : Addr) (h : Heap) : Value → Kn → Prop
  | good (D : Addr) (idx : List Nat) : At h D (.list (idx.map fun i => (refsOf as).getD i .none)) → Tops (ahead g (outOf width rs)) as.length wish.toNat idx → (1 ≤ wish → ∀ j, j < as.length → errOf width rs j = none) → Asked g wish width rs as l h (.ref D) (if wish ≤ 0 then .liter l 0 else .lidone as.length)
  | bad (i : Nat) (cls : String) (t : Tok) : 1 ≤ wish → i < as.length → (∀ j, j < i → errOf width rs j = none) → errOf width rs i = some cls → Asked g wish width rs as l h (.str (msgOf cls) t) (.liter l (i + 1))
theorem pl_at {g : Bool} {rows : List Value} {h : Heap} : ∀ (k : Nat) (as : List (Addr × Tok)), (∀ p ∈ pl g rows k as, At h p.1 p.2) → ∀ i a t, as[i]? = some (a, t) → At h a (pairKn g (k + i) t (rows.getD (k + i) .none))
  | k, [], _, i, a, t, e => by simp at e
  | k, (b, u) :: r, hh, 0, a, t, e => by
    simp at e
    obtain ⟨rfl, rfl⟩ := e
    exact hh _ (.head _)
  | k, (b, u) :: r, hh, i + 1, a, t, e => by
    have := pl_at (k + 1) r (fun p hp => hh p (.tail _ hp)) i a t (by simpa using e)
    rw [show k + (i + 1) = k + 1 + i by exact om223]; exact this
section
variable {prog : Program} {w : World} {A : Around} {E : Value → Shared → Prop} {s : Shared} {Q : Value → Shared → Prop} {G : Heap} {fr : List Env}
/-- the keys of the pairs -/
theorem keysOf {g : Bool} {width : Int} {f wc c' : Addr} {pm ctv : Value} {tw : Tok} {as : List (Addr × Tok)} {rs : List (List UInt8 × Tok)} {h₀ : Heap} {S₀ : List Addr} (B : Base G) (hw : -2 ≤ width ∧ width ≤ 4) (hr : ∀ r ∈ rs, r.1.length ≤ 1000) (hlen : as.length = rs.length)
    (k1 : At h₀ f (.ex (lamObj g wc pm c' ctv))) (k2 : h₀.CodeRec (.ref c') lamQ) (k3 : At h₀ wc (.cell (some (.int width tw)))) (kp : ∀ p ∈ pl g (rowsOf rs) 0 as, At h₀ p.1 p.2) (hS : f ∉ S₀ ∧ c' ∉ S₀ ∧ wc ∉ S₀) (hp : ∀ a ∈ as, a.1 ∉ S₀) :
    ∀ i v, (refsOf as)[i]? = some v → KeyOn prog w G h₀ S₀ f v (errOf width rs i) (outOf width rs i) := by
  intro i v hv
  rw [List.getElem?_map] at hv
  obtain ⟨⟨a, t⟩, ha, rfl⟩ := Option.map_eq_some_iff.mp hv
  have hi : i < rs.length := by rw [← hlen]; exact (List.getElem?_eq_some_iff.mp ha).1
  have kat := pl_at 0 as kp i a t ha
  rw [Nat.zero_add] at kat
  have hrow : (rowsOf rs).getD i .none = .bytes (rs.getD i ([], 0)).1.toArray (rs.getD i ([], 0)).2 := by
    rw [List.getD_eq_getElem?_getD, List.getElem?_map, List.getElem?_eq_getElem hi, List.getD_eq_getElem?_getD, List.getElem?_eq_getElem hi]; rfl
  rw [hrow] at kat
  refine keyLam (td := (rs.getD i ([], 0)).2) B (hr _ ?_) hw k1 k2 k3 kat (fun q => ?_) ⟨hS.1, hS.2.1, hS.2.2, hp (a, t) (List.mem_of_getElem? ha)⟩
  · rw [List.getD_eq_getElem?_getD, List.getElem?_eq_getElem hi]; exact List.getElem_mem hi
  · obtain ⟨o, e1, e2⟩ := k3
    obtain ⟨o', e3, _, n, e4⟩ := kat
    rw [q, e3] at e1
    injection e1 with e1
    have e2 : o.data = _ := e2
    rw [← e1, e4] at e2; cases e2
end
end Mine
namespace Mine
open PySem PySem.Calls PyProof.Rows PySem.W
open Sem (wp)
theorem tab_noCode {h : Heap} {a : Addr} {ps : Array Value} {q : Str} (e : At h a (.ex (tabObj ps))) (T : TriplesOk ps.toList) : ¬ h.CodeRec (.ref a) q := fun r => by
  obtain ⟨c, o', vs, t, e1, e2, e3, e4⟩ := r
  injection e1 with e1
  rw [← e1, e.get] at e2
  injection e2 with e2
  rw [← e2] at e3
  injection e3 with e3
  rw [← e3] at e4
  exact triples_one T _ _ (by rw [← Array.getElem?_toList] at e4; exact e4)
theorem pl_fst {g : Bool} {rows : List Value} : ∀ (k : Nat) (as : List (Addr × Tok)), (pl g rows k as).map (·.1) = as.map (·.1)
  | _, [] => rfl
  | k, (a, t) :: r => by show a :: (pl g rows (k + 1) r).map (·.1) = _; rw [pl_fst (k + 1) r]; rfl
section
variable {prog : Program} {w : World} {A : Around} {E : Value → Shared → Prop} {s : Shared} {Q : Value → Shared → Prop} {G : Heap} {fr : List Env}
set_option maxHeartbeats 4000000 in
theorem askedIter {g : Bool} {wish width : Int} {tw twd : Tok} {it l : Addr} {as : List (Addr × Tok)} {rs : List (List UInt8 × Tok)} {ps : Array Value} (B : Base G) (BL : BaseL G) (kg : G.StaysIn s.heap) (rm : Rm A 15) (hA : A.frames = some fr) (hf : Frs s.heap fr) (hg : ∀ a ∈ frsOf fr, G.get? a = none) (T : TabOk s.heap ps)
    (nd : ((((96, Kn.ex (tabObj ps)) :: (it, .liter l 0) :: (l, .list (refsOf as)) :: pl g (rowsOf rs) 0 as) : List (Addr × Kn)).map (·.1)).Nodup) (hK : ∀ p ∈ (96, Kn.ex (tabObj ps)) :: (it, .liter l 0) :: (l, .list (refsOf as)) :: pl g (rowsOf rs) 0 as, At s.heap p.1 p.2) (git : G.get? it = none)
    (hlen : as.length = rs.length) (hr : ∀ r ∈ rs, r.1.length ≤ 1000) (hN : 2 ≤ as.length) (hN16 : as.length ≤ 16) (hn : -100 ≤ wish ∧ wish ≤ 100) (hw : -2 ≤ width ∧ width ≤ 4)
    (hQ : ∀ v k ps' s', Post G [96, it] s s' → At s'.heap 96 (.ex (tabObj ps')) → TabOk s'.heap ps' → At s'.heap it k → Asked g wish width rs as l s'.heap v k → (∀ D, v = .ref D → s.heap.get? D = none) → Q v s') :
    wpS (model prog w) A (call (.ref 101) [.bool g, .int wish tw, .ref it, .int width twd]) Q E s := by
  have k0 := hK _ (.head _)
  have k1 := hK _ (.tail _ (.head _))
  refine sEnterC (i := 15) (cd := 100) (dV := .none) (args := ⟨[.bool g, .int wish tw, .ref it, .int width twd], []⟩) (binds := [("greatest", .bool g), ("wish", .int wish tw), ("items", .ref it), ("width", .int width twd)]) B kg (B.fn (15, 101, 100, .none) (by decide)) rm [96, it] (allc ⟨BL.no, let ⟨o, e, _⟩ := k0; ⟨o, e⟩⟩ (allc ⟨git, let ⟨o, e, _⟩ := k1; ⟨o, e⟩⟩ all0)) _ nd hK (fun doc pm an ct => BindsTo.of_eq rfl) ?_
  intro L A' Z X s₁ rm' hAe hfc hZ hX F
  have F : Fx ⟨G, L, [96, it], s⟩ _ ((L + 1 + 0, .cell (some (.int width twd))) :: (96, .ex (tabObj ps)) :: (it, .liter l 0) :: (l, .list (refsOf as)) :: pl g (rowsOf rs) 0 as) s₁ := F
  have hA' : A'.frames = some (envC 15 L 101 100 :: fr) := by rw [hAe]; show A.frames.map _ = _; rw [hA]; rfl
  have hkind : (envC 15 L 101 100).scope.kind ≠ .module := show (fdAt 15).scope.kind ≠ .module by decide
  have hgS : ∀ a ∈ frsOf fr, G.get? a = none ∧ a ∉ [96, it] := fun a ha => ⟨hg a ha, fun q => allc (P := fun x => x ∉ frsOf fr) (At.notFrs hf k0) (allc (At.notFrs hf k1) all0) a q ha⟩
  have o96 : Own ⟨G, L, [96, it], s⟩ 96 := ⟨.inl (.head _), BL.no⟩
  have wi : Own ⟨G, L, [96, it], s⟩ it := ⟨.inl (.tail _ (.head _)), git⟩
  have T1 : TabOk s₁.heap ps := T.ext F.post.ext (allc (tab_noCode k0 T.tri) (allc (liter_noCode k1) all0))
  have hNr : ∀ {s₂ : Shared} {m₂ : Str → Option Value} {fa c' : Addr} {pm ctv : Value} {ps' : Array Value}, Fx ⟨G, L, [96, it], s⟩ m₂ ((fa, .ex (lamObj g (L + 1 + 0) pm c' ctv)) :: (96, .ex (tabObj ps')) :: (L + 1 + 0, .cell (some (.int width twd))) :: (it, .liter l 0) :: (l, .list (refsOf as)) :: pl g (rowsOf rs) 0 as) s₂ → s₂.heap.CodeRec (.ref c') lamQ → TabOk s₂.heap ps' →
      ∀ {E' : Value → Shared → Prop}, (∀ e cls hR s', (∃ i, 1 ≤ wish ∧ i < as.length ∧ (∀ j, j < i → errOf width rs j = none) ∧ errOf width rs i = some cls ∧ Ext [it] s₂.heap hR ∧ At hR it (.liter l (i + 1))) → (∃ h tk, s' = { s₂ with heap := h, toks := tk }) → Exc G hR (envC 15 L 101 100 :: fr) e cls (.at .none) s'.heap → E' (.ref e) s') →
        wpS (model prog w) A' (call (.ref (if g then 82 else 76)) [.int wish tw, .ref it] [(Str.ofString "key", .ref fa)]) (fun v s' => Q v s') E' s₂ := by
    intro s₂ m₂ fa c' pm ctv ps' F hrec T2 E' hE'
    obtain ⟨f1, f2⟩ := F.frs hf hgS hkind rfl
    have ai := F.at (show (it, Kn.liter l 0) ∈ _ from .tail _ (.tail _ (.tail _ (.head _))))
    have ndF := F.nd
    simp only [List.map_cons, List.nodup_cons, List.mem_cons, not_or] at ndF
    have key := keysOf (prog := prog) (w := w) (G := G) (S₀ := [it]) (h₀ := s₂.heap) B hw hr hlen (F.at (.head _)) hrec (F.at (.tail _ (.tail _ (.head _)))) (fun p hp => F.at (.tail _ (.tail _ (.tail _ (.tail _ (.tail _ hp)))))) ⟨fun q => ndF.1.2.2.1 (List.mem_singleton.mp q), fun q => liter_noCode ai (List.mem_singleton.mp q ▸ hrec), fun q => ndF.2.2.1.1 (List.mem_singleton.mp q)⟩ fun a ha q => ndF.2.2.2.1.2 (by rw [← List.mem_singleton.mp q, pl_fst]; exact List.mem_map_of_mem ha)
    have hl : (refsOf as).length = as.length := List.length_map _
    have fin : ∀ D idx s', Post G [it] s₂ s' → At s'.heap D (.list (idx.map fun i => (refsOf as).getD i .none)) → At s'.heap it (if wish ≤ 0 then .liter l 0 else .lidone (refsOf as).length) → s₂.heap.get? D = none → Tops (ahead g (outOf width rs)) (refsOf as).length wish.toNat idx → (1 ≤ wish → ∀ j, j < (refsOf as).length → errOf width rs j = none) → Q (.ref D) s' := fun D idx s' P hD hit hno Tp ok => by
      rw [hl] at hit Tp ok
      have F' := F.br3.after1 wi P hit
      exact hQ (.ref D) _ ps' s' F'.post (F'.at (.tail _ (.tail _ (.head _)))) (T2.ext P.ext (allc (liter_noCode ai) all0)) hit (.good D idx hD Tp ok) fun D' e => by injection e with e; rw [← e]; exact F.fresh_of hno
    have hvr : ∀ v ∈ refsOf as, ∃ a its, v = .ref a ∧ At s₂.heap a (.tup its) ∧ a ∉ [it] := fun v hv => by
      obtain ⟨⟨a, t⟩, ha, rfl⟩ := List.mem_map.mp hv
      obtain ⟨i, hi, hia⟩ := List.getElem_of_mem ha
      have := pl_at (h := s₂.heap) 0 as (fun p hp => F.at (.tail _ (.tail _ (.tail _ (.tail _ (.tail _ hp)))))) i a t (by rw [List.getElem?_eq_getElem hi, hia])
      exact ⟨a, _, rfl, this, fun q => ndF.2.2.2.1.2 (by rw [← List.mem_singleton.mp q, pl_fst]; exact List.mem_map_of_mem ha)⟩
    have hfn : ∃ o fd, s₂.heap.get? fa = some o ∧ o.data = .func fd := ⟨_, _, (F.at (.head _)).get, rfl⟩
    have al := F.at (show (l, Kn.list (refsOf as)) ∈ _ from .tail _ (.tail _ (.tail _ (.tail _ (.head _)))))
    cases g
    · exact nsIter9 B F.kg (rm'.le (by decide)) hA' f1 f2 ai al ndF.2.2.2.1.1 git hfn ndF.1.2.2.1 key hvr (by rw [hl]; exact hN) (by rw [hl]; exact hN16) hn fin fun h1 i cls hi hj he e hR s' hs hx ha hX => hE' e cls hR s' ⟨i, h1, by rw [hl] at hi; exact hi, hj, he, hx, ha⟩ hs hX
    · exact nsIter10 B F.kg (rm'.le (by decide)) hA' f1 f2 ai al ndF.2.2.2.1.1 git hfn ndF.1.2.2.1 key hvr (by rw [hl]; exact hN) (by rw [hl]; exact hN16) hn fin fun h1 i cls hi hj he e hR s' hs hx ha hX => hE' e cls hR s' ⟨i, h1, by rw [hl] at hi; exact hi, hj, he, hx, ha⟩ hs hX
  have bad : ∀ {s₂ : Shared} {m₂ : Str → Option Value} {fa : Addr} {k : Kn} {ps' : Array Value}, Fx ⟨G, L, [96, it], s⟩ m₂ ((fa, k) :: (96, .ex (tabObj ps')) :: (L + 1 + 0, .cell (some (.int width twd))) :: (it, .liter l 0) :: (l, .list (refsOf as)) :: pl g (rowsOf rs) 0 as) s₂ → TabOk s₂.heap ps' → ∀ {E' : Value → Shared → Prop} e cls hR s', (∃ i, 1 ≤ wish ∧ i < as.length ∧ (∀ j, j < i → errOf width rs j = none) ∧ errOf width rs i = some cls ∧ Ext [it] s₂.heap hR ∧ At hR it (.liter l (i + 1))) → (∃ h tk, s' = { s₂ with heap := h, toks := tk }) → Exc G hR (envC 15 L 101 100 :: fr) e cls (.at .none) s'.heap →
      wpAny (model prog w) A' (do noteFrame (.ref e) (envC 15 L 101 100); setFlight (.ref e) none; handleBy (.ref e) (envC 15 L 101 100) hds15) (fun fl s' => ∃ v, fl = .ret v ∧ Q v s') E' s' := by
    intro s₂ m₂ fa k ps' F T2 E' e cls hR s' hi hs hX
    obtain ⟨i, h1, hi, hj, he, hx, ha⟩ := hi
    have ai := F.at (show (it, Kn.liter l 0) ∈ _ from .tail _ (.tail _ (.tail _ (.head _))))
    refine askedCatch (c := ⟨G, L, [96, it], s⟩) B (fun X => F.br3.refused (l := l) wi hs hx ha X) hA' hX (bswErr_cls he) fun t s'' F'' x'' => ?_
    exact ⟨_, rfl, hQ (.str (msgOf cls) t) _ ps' s'' F''.post (F''.at (.tail _ (.tail _ (.head _)))) (T2.ext (hx.trans (x''.mono fun _ q => nomatch q)) (allc (liter_noCode ai) all0)) (F''.at (.head _)) (.bad i cls t h1 hi hj he) fun D q => nomatch q⟩
  refine sExecs (sTry (sExecs (sIf (toS (wpAny_isTrue_value (nmL F rfl (wpAny_truthy_bool ?_)))))))
  cases g
  · rw [if_neg Bool.false_ne_true]
    refine toS (wpAny_execs_nil ?_)
    refine sExecs (sReturn (sEvalCall (nmG B F rfl (sCallFn (by rfl) (evalArgs_kw2 (by rfl) (args_cons (nmL F rfl (args_cons (nmL F rfl (args_nil (kwAll_cons (mkLam (g := false) BL F.swap o96 T1 fun fa c' pm ctv ps' s₂ F ffa hrec T2 => kwAll_nil ⟨(B.fn (9, 76, 75, .ref 71) (by decide)).isFn F.kg, ?_⟩))))))))))))
    exact sMono (hNr F hrec T2 fun e cls hR s' hi hs hX => wpAny_mono (bad F T2 e cls hR s' hi hs hX) (fun fl s'' hq => by obtain ⟨v, rfl, q⟩ := hq; exact hZ (.ret v) _ q) fun _ _ x => x) (fun v _ q => hZ (.ret v) _ q) fun _ _ x => x
  · rw [if_pos rfl]
    refine sExecs (sReturn (sEvalCall (nmG B F rfl (sCallFn (by rfl) (evalArgs_kw2 (by rfl) (args_cons (nmL F rfl (args_cons (nmL F rfl (args_nil (kwAll_cons (mkLam (g := true) BL F.swap o96 T1 fun fa c' pm ctv ps' s₂ F ffa hrec T2 => kwAll_nil ⟨(B.fn (10, 82, 81, .ref 77) (by decide)).isFn F.kg, ?_⟩))))))))))))
    exact sMono (hNr F hrec T2 fun e cls hR s' hi hs hX => wpAny_mono (bad F T2 e cls hR s' hi hs hX) (fun fl s'' hq => by obtain ⟨v, rfl, q⟩ := hq; exact hZ (.ret v) _ q) fun _ _ x => x) (fun v _ q => hZ (.ret v) _ q) fun _ _ x => x
end
end Mine
namespace Mine
open PySem PySem.Calls PyProof.Rows PySem.W
open Sem (wp)
section
variable {prog : Program} {w : World} {A : Around} {E : Value → Shared → Prop} {s : Shared} {Q : Value → Shared → Prop} {G : Heap} {fr : List Env}
set_option maxHeartbeats 4000000 in
theorem askedList {g : Bool} {wish width : Int} {tw twd : Tok} {l : Addr} {as : List (Addr × Tok)} {rs : List (List UInt8 × Tok)} {ps : Array Value} (B : Base G) (BL : BaseL G) (kg : G.StaysIn s.heap) (rm : Rm A 15) (hA : A.frames = some fr) (hf : Frs s.heap fr) (hg : ∀ a ∈ frsOf fr, G.get? a = none) (T : TabOk s.heap ps)
    (nd : ((((96, Kn.ex (tabObj ps)) :: (l, .list (refsOf as)) :: pl g (rowsOf rs) 0 as) : List (Addr × Kn)).map (·.1)).Nodup) (hK : ∀ p ∈ (96, Kn.ex (tabObj ps)) :: (l, .list (refsOf as)) :: pl g (rowsOf rs) 0 as, At s.heap p.1 p.2)
    (hlen : as.length = rs.length) (hr : ∀ r ∈ rs, r.1.length ≤ 1000) (hN : 2 ≤ as.length) (hN16 : as.length ≤ 16) (hn : -100 ≤ wish ∧ wish ≤ 100) (hw : -2 ≤ width ∧ width ≤ 4)
    (hQ : ∀ v k ps' s', Post G [96] s s' → At s'.heap 96 (.ex (tabObj ps')) → TabOk s'.heap ps' → Asked g wish width rs as l s'.heap v k → (∀ D, v = .ref D → s.heap.get? D = none) → Q v s') :
    wpS (model prog w) A (call (.ref 101) [.bool g, .int wish tw, .ref l, .int width twd]) Q E s := by
  have k0 := hK _ (.head _)
  refine sEnterC (i := 15) (cd := 100) (dV := .none) (args := ⟨[.bool g, .int wish tw, .ref l, .int width twd], []⟩) (binds := [("greatest", .bool g), ("wish", .int wish tw), ("items", .ref l), ("width", .int width twd)]) B kg (B.fn (15, 101, 100, .none) (by decide)) rm [96] (allc ⟨BL.no, let ⟨o, e, _⟩ := k0; ⟨o, e⟩⟩ all0) _ nd hK (fun doc pm an ct => BindsTo.of_eq rfl) ?_
  intro L A' Z X s₁ rm' hAe hfc hZ hX F
  have F : Fx ⟨G, L, [96], s⟩ _ ((L + 1 + 0, .cell (some (.int width twd))) :: (96, .ex (tabObj ps)) :: (l, .list (refsOf as)) :: pl g (rowsOf rs) 0 as) s₁ := F
  have hA' : A'.frames = some (envC 15 L 101 100 :: fr) := by rw [hAe]; show A.frames.map _ = _; rw [hA]; rfl
  have hkind : (envC 15 L 101 100).scope.kind ≠ .module := show (fdAt 15).scope.kind ≠ .module by decide
  have hgS : ∀ a ∈ frsOf fr, G.get? a = none ∧ a ∉ [96] := fun a ha => ⟨hg a ha, fun q => allc (P := fun x => x ∉ frsOf fr) (At.notFrs hf k0) all0 a q ha⟩
  have o96 : Own ⟨G, L, [96], s⟩ 96 := ⟨.inl (.head _), BL.no⟩
  have T1 : TabOk s₁.heap ps := T.ext F.post.ext (allc (tab_noCode k0 T.tri) all0)
  have hNr : ∀ {s₂ : Shared} {m₂ : Str → Option Value} {fa c' : Addr} {pm ctv : Value} {ps' : Array Value}, Fx ⟨G, L, [96], s⟩ m₂ ((fa, .ex (lamObj g (L + 1 + 0) pm c' ctv)) :: (96, .ex (tabObj ps')) :: (L + 1 + 0, .cell (some (.int width twd))) :: (l, .list (refsOf as)) :: pl g (rowsOf rs) 0 as) s₂ → s₂.heap.CodeRec (.ref c') lamQ → TabOk s₂.heap ps' →
      ∀ {E' : Value → Shared → Prop}, (∀ e cls hR s', (∃ i, 1 ≤ wish ∧ i < as.length ∧ (∀ j, j < i → errOf width rs j = none) ∧ errOf width rs i = some cls ∧ Ext [] s₂.heap hR) → (∃ h tk, s' = { s₂ with heap := h, toks := tk }) → Exc G hR (envC 15 L 101 100 :: fr) e cls (.at .none) s'.heap → E' (.ref e) s') →
        wpS (model prog w) A' (call (.ref (if g then 82 else 76)) [.int wish tw, .ref l] [(Str.ofString "key", .ref fa)]) (fun v s' => Q v s') E' s₂ := by
    intro s₂ m₂ fa c' pm ctv ps' F hrec T2 E' hE'
    obtain ⟨f1, f2⟩ := F.frs hf hgS hkind rfl
    have ndF := F.nd
    simp only [List.map_cons, List.nodup_cons, List.mem_cons, not_or] at ndF
    have key := keysOf (prog := prog) (w := w) (G := G) (S₀ := []) (h₀ := s₂.heap) B hw hr hlen (F.at (.head _)) hrec (F.at (.tail _ (.tail _ (.head _)))) (fun p hp => F.at (.tail _ (.tail _ (.tail _ (.tail _ hp))))) ⟨(fun q => nomatch q), (fun q => nomatch q), fun q => nomatch q⟩ fun a ha q => nomatch q
    have hl : (refsOf as).length = as.length := List.length_map _
    have fin : ∀ D idx s', Post G [] s₂ s' → At s'.heap D (.list (idx.map fun i => (refsOf as).getD i .none)) → s₂.heap.get? D = none → Tops (ahead g (outOf width rs)) (refsOf as).length wish.toNat idx → (1 ≤ wish → ∀ j, j < (refsOf as).length → errOf width rs j = none) → Q (.ref D) s' := fun D idx s' P hD hno Tp ok => by
      rw [hl] at Tp ok
      have F' := F.after0 P
      exact hQ (.ref D) _ ps' s' F'.post (F'.at (.tail _ (.head _))) (T2.ext P.ext fun a ha => nomatch ha) (.good D idx hD Tp ok) fun D' e => by injection e with e; rw [← e]; exact F.fresh_of hno
    have hvr : ∀ v ∈ refsOf as, ∃ a its, v = .ref a ∧ At s₂.heap a (.tup its) := fun v hv => by
      obtain ⟨⟨a, t⟩, ha, rfl⟩ := List.mem_map.mp hv
      obtain ⟨i, hi, hia⟩ := List.getElem_of_mem ha
      have := pl_at (h := s₂.heap) 0 as (fun p hp => F.at (.tail _ (.tail _ (.tail _ (.tail _ hp))))) i a t (by rw [List.getElem?_eq_getElem hi, hia])
      exact ⟨a, _, rfl, this⟩
    have hfn : ∃ o fd, s₂.heap.get? fa = some o ∧ o.data = .func fd := ⟨_, _, (F.at (.head _)).get, rfl⟩
    have al := F.at (show (l, Kn.list (refsOf as)) ∈ _ from .tail _ (.tail _ (.tail _ (.head _))))
    cases g
    · exact nsList9 B F.kg (rm'.le (by decide)) hA' f1 f2 al hfn key hvr (by rw [hl]; exact hN) (by rw [hl]; exact hN16) hn fin fun h1 i cls hi hj he e hR s' hs hx hX => hE' e cls hR s' ⟨i, h1, by rw [hl] at hi; exact hi, hj, he, hx⟩ hs hX
    · exact nsList10 B F.kg (rm'.le (by decide)) hA' f1 f2 al hfn key hvr (by rw [hl]; exact hN) (by rw [hl]; exact hN16) hn fin fun h1 i cls hi hj he e hR s' hs hx hX => hE' e cls hR s' ⟨i, h1, by rw [hl] at hi; exact hi, hj, he, hx⟩ hs hX
  have bad : ∀ {s₂ : Shared} {m₂ : Str → Option Value} {fa : Addr} {k : Kn} {ps' : Array Value}, Fx ⟨G, L, [96], s⟩ m₂ ((fa, k) :: (96, .ex (tabObj ps')) :: (L + 1 + 0, .cell (some (.int width twd))) :: (l, .list (refsOf as)) :: pl g (rowsOf rs) 0 as) s₂ → TabOk s₂.heap ps' → ∀ {E' : Value → Shared → Prop} e cls hR s', (∃ i, 1 ≤ wish ∧ i < as.length ∧ (∀ j, j < i → errOf width rs j = none) ∧ errOf width rs i = some cls ∧ Ext [] s₂.heap hR) → (∃ h tk, s' = { s₂ with heap := h, toks := tk }) → Exc G hR (envC 15 L 101 100 :: fr) e cls (.at .none) s'.heap →
      wpAny (model prog w) A' (do noteFrame (.ref e) (envC 15 L 101 100); setFlight (.ref e) none; handleBy (.ref e) (envC 15 L 101 100) hds15) (fun fl s' => ∃ v, fl = .ret v ∧ Q v s') E' s' := by
    intro s₂ m₂ fa k ps' F T2 E' e cls hR s' hi hs hX
    obtain ⟨i, h1, hi, hj, he, hx⟩ := hi
    refine askedCatch (c := ⟨G, L, [96], s⟩) B (fun X => F.refused0 hs hx X) hA' hX (bswErr_cls he) fun t s'' F'' x'' => ?_
    exact ⟨_, rfl, hQ (.str (msgOf cls) t) _ ps' s'' F''.post (F''.at (.tail _ (.head _))) (T2.ext (hx.trans x'') fun a ha => nomatch ha) (.bad i cls t h1 hi hj he) fun D q => nomatch q⟩
  refine sExecs (sTry (sExecs (sIf (toS (wpAny_isTrue_value (nmL F rfl (wpAny_truthy_bool ?_)))))))
  cases g
  · rw [if_neg Bool.false_ne_true]
    refine toS (wpAny_execs_nil ?_)
    refine sExecs (sReturn (sEvalCall (nmG B F rfl (sCallFn (by rfl) (evalArgs_kw2 (by rfl) (args_cons (nmL F rfl (args_cons (nmL F rfl (args_nil (kwAll_cons (mkLam (g := false) BL F.swap o96 T1 fun fa c' pm ctv ps' s₂ F ffa hrec T2 => kwAll_nil ⟨(B.fn (9, 76, 75, .ref 71) (by decide)).isFn F.kg, ?_⟩))))))))))))
    exact sMono (hNr F hrec T2 fun e cls hR s' hi hs hX => wpAny_mono (bad F T2 e cls hR s' hi hs hX) (fun fl s'' hq => by obtain ⟨v, rfl, q⟩ := hq; exact hZ (.ret v) _ q) fun _ _ x => x) (fun v _ q => hZ (.ret v) _ q) fun _ _ x => x
  · rw [if_pos rfl]
    refine sExecs (sReturn (sEvalCall (nmG B F rfl (sCallFn (by rfl) (evalArgs_kw2 (by rfl) (args_cons (nmL F rfl (args_cons (nmL F rfl (args_nil (kwAll_cons (mkLam (g := true) BL F.swap o96 T1 fun fa c' pm ctv ps' s₂ F ffa hrec T2 => kwAll_nil ⟨(B.fn (10, 82, 81, .ref 77) (by decide)).isFn F.kg, ?_⟩))))))))))))
    exact sMono (hNr F hrec T2 fun e cls hR s' hi hs hX => wpAny_mono (bad F T2 e cls hR s' hi hs hX) (fun fl s'' hq => by obtain ⟨v, rfl, q⟩ := hq; exact hZ (.ret v) _ q) fun _ _ x => x) (fun v _ q => hZ (.ret v) _ q) fun _ _ x => x
end
end Mine
namespace Mine
open PySem PySem.Calls PyProof.Rows PySem.W
open Sem (wp)
/-! ## _law_due: the sort and the answer -/
structure Rk where
  a : Addr
  r : Int
  t : Tok
  i : Nat
  u : Tok
abbrev Rk.led (e : Rk) : Addr × Kn := (e.a, .tup [.int e.r e.t, .int e.i e.u])
abbrev rkRefs (T : List Rk) : List Value := T.map fun e => .ref e.a
structure Pq where
  a : Addr
  i : Nat
  t : Tok
abbrev Pq.led (g : Bool) (rs : List (List UInt8 × Tok)) (e : Pq) : Addr × Kn := (e.a, pairKn g e.i e.t ((rowsOf rs).getD e.i .none))
abbrev pqRefs (P : List Pq) : List Value := P.map fun e => .ref e.a
abbrev dueLed (g : Bool) (rs : List (List UInt8 × Tok)) (v l : Addr) (t : Tok) (n : Int) (P : List Pq) : List (Addr × Kn) := (v, .tup [.ref l, .int n t]) :: (l, .list (pqRefs P)) :: P.map (Pq.led g rs)
theorem katTups_R {h : Heap} : ∀ (T : List Rk), (∀ e ∈ T, At h e.led.1 e.led.2) → KatTups h (rkRefs T) (T.map fun e => .int e.r e.t)
  | [], _ => .nil
  | e :: T, hh => by
    obtain ⟨o, ho, hc, n, hd⟩ := hh e (.head _)
    exact .cons ho hc hd rfl (katTups_R T fun e' he' => hh e' (.tail _ he'))
abbrev rkPerm (rk : Nat → Int) (N : Nat) : List Nat := permOf (fun i j => ilt2 (rk i, (i : Int)) (rk j, (j : Int))) N
theorem pl_mem (g : Bool) (rows : List Value) : ∀ (k : Nat) (as : List (Addr × Tok)) (i : Nat) (a : Addr) (t : Tok), as[i]? = some (a, t) → (a, pairKn g (k + i) t (rows.getD (k + i) .none)) ∈ pl g rows k as
  | k, (b, u) :: r, 0, a, t, h => by
    injection h with h; injection h with h1 h2; subst h1; subst h2
    exact .head _
  | k, x :: r, i + 1, a, t, h => by
    have := pl_mem g rows (k + 1) r i a t h
    rw [Nat.add_assoc, Nat.add_comm 1 i] at this
    exact .tail _ this
section
variable {prog : Program} {w : World} {A : Around} {E : Value → Shared → Prop} {s : Shared} {m : Str → Option Value} {ℓ : List (Addr × Kn)} {G : Heap} {L : Addr} {s0 : Shared}
set_option maxHeartbeats 2000000 in
theorem dueTail {g : Bool} {wish : Int} {tw : Tok} {rl D : Addr} {k : Nat} {T : List Rk} {rs : List (List UInt8 × Tok)} {rk : Nat → Int} {Q : Flow → Shared → Prop} (B : Base G) (rm : Rm A 4)
    (F : Fx ⟨G, L, [], s0⟩ m ((D, .lst (rkRefs T) k) :: (L + 1 + 0, .cell (some (.bool g))) :: (L + 1 + 1, .cell (some (.ref rl))) :: (rl, .list (rowsOf rs)) :: (T.map Rk.led ++ ℓ)) s) (fD : Fresh ⟨G, L, [], s0⟩ D)
    (m1 : m "ranks" = some (.ref D)) (m2 : m "wish" = some (.int wish tw)) (h1 : 1 ≤ wish) (hN : 2 ≤ rs.length) (hN16 : rs.length ≤ 16) (hT : T.map (fun e => (e.r, e.i)) = (List.range rs.length).map fun i => (rk i, i))
    (hQ : ∀ l v t P s', Post G [] s0 s' → ((dueLed g rs v l t (rs.length : Int) P).map (·.1)).Nodup → (∀ p ∈ dueLed g rs v l t (rs.length : Int) P, At s'.heap p.1 p.2) → (∀ p ∈ dueLed g rs v l t (rs.length : Int) P, s0.heap.get? p.1 = none) → P.map (·.i) = (rkPerm rk rs.length).take wish.toNat → Q (.ret (.ref v)) s') :
    wpAny (model prog w) A (execs (dropBody 18 5) (envC 18 L 116 115)) Q E s := by
  have hh : A.handled = none := rm.hh
  have hTl : T.length = rs.length := by have := congrArg List.length hT; simpa using this
  have hRl : (rkRefs T).length = rs.length := by rw [List.length_map]; exact hTl
  have hTi : ∀ i, i < rs.length → ∃ e, T[i]? = some e ∧ e ∈ T ∧ e.r = rk i ∧ e.i = i := fun i hi => by
    have h := congrArg (fun x => x[i]?) hT
    simp only [List.getElem?_map] at h
    rw [List.getElem?_eq_getElem (by exact om118 hTl hi : i < T.length), List.getElem?_range hi] at h
    injection h with h
    injection h with h2 h3
    exact ⟨T[i], List.getElem?_eq_getElem _, List.getElem_mem _, h2, h3⟩
  have hgd : ∀ i e, T[i]? = some e → (rkRefs T).getD i .none = .ref e.a := fun i e h => by rw [List.getD_eq_getElem?_getD, List.getElem?_map, h]; rfl
  refine ec (wpAny_Expr_any (Call_method0 (by rfl) (by rfl) (nmL F m1 (sortM0 F (sortL (κ := tuples' true) (b := false) (lt := fun i j => ilt2 (rk i, (i : Int)) (rk j, (j : Int))) F fD.own (by rw [hRl]; exact hN) (by rw [hRl]; exact om205 hN16) (.inl ⟨rfl, rfl⟩) (fun s' hs Q' hq => ?_) (fun s' hs i j hi hj C hC => ?_) fun k2 s₁ F => ?_)))))
  · exact tupKind (T := "int") (katTups_R T fun e he => hs _ (.tail _ (.tail _ (.tail _ (List.mem_append_left _ (List.mem_map.mpr ⟨e, he, rfl⟩)))))) (by rw [List.length_map]; exact om237 hN hTl) (fun v hv => by obtain ⟨e, _, rfl⟩ := List.mem_map.mp hv; rfl) (by decide) hq
  · rw [hRl] at hi hj
    obtain ⟨e1, q1, i1, r1, n1⟩ := hTi i hi
    obtain ⟨e2, q2, i2, r2, n2⟩ := hTi j hj
    show wpAny _ _ (keyLt' _ ((rkRefs T).getD i .none) ((rkRefs T).getD j .none)) _ _ _
    rw [hgd i e1 q1, hgd j e2 q2]
    refine key_pair (hs _ (.tail _ (.tail _ (.tail _ (List.mem_append_left _ (List.mem_map.mpr ⟨e1, i1, rfl⟩)))))) (hs _ (.tail _ (.tail _ (.tail _ (List.mem_append_left _ (List.mem_map.mpr ⟨e2, i2, rfl⟩)))))) ?_
    rw [r1, r2, n1, n2]
    exact hC
  · have hperm : (rkPerm rk rs.length).Perm (List.range rs.length) := (perm_pw (weak_on (lt := ilt2) (f := fun i => (rk i, (i : Int))) (fun x => by simp [ilt2]) (fun x y z => by simp only [ilt2]; intro p q; split at p <;> split at q <;> split <;> simp_all <;> omega) (fun x y z p => by simp only [ilt2] at p ⊢; split at p <;> split <;> split <;> simp_all <;> omega)) (by exact om220 hN)).1
    have hpm : ∀ p ∈ rkPerm rk rs.length, p < rs.length := fun p hp => List.mem_range.mp (hperm.mem_iff.mp hp)
    have hpl : (rkPerm rk rs.length).length = rs.length := by rw [hperm.length_eq, List.length_range]
    rw [hRl] at F
    have F : Fx ⟨G, L, [], s0⟩ m ((D, .lst ((rkPerm rk rs.length).map fun i => (rkRefs T).getD i .none) k2) :: (L + 1 + 0, .cell (some (.bool g))) :: (L + 1 + 1, .cell (some (.ref rl))) :: (rl, .list (rowsOf rs)) :: (T.map Rk.led ++ ℓ)) s₁ := F
    generalize hpi : rkPerm rk rs.length = pi at F hperm hpm hpl hQ
    obtain ⟨n, rfl⟩ := Int.eq_ofNat_of_zero_le (show 0 ≤ wish by exact om238 h1)
    refine ec (wpAny_Return_some (Tuple_ (args_cons ?_)))
    refine aComp (cl := [("rows", L + 1 + 1), ("greatest", L + 1 + 0)]) (by rfl) (by rfl) (by decide) (by decide) (Subscript_ (nmL F m1 (upTo (nmL F m2 ?_))))
    have F2 := F.pushE (tk := s₁.toks) (sliceOb .none (.int n tw))
    refine sliceTo F2 (lstL (F2.at (.tail _ (.head _)))) (F2.at (.head _)) (by rw [List.length_map, hpl]; exact om206 hN16) fun D2 s₂ F2 fD2 => ?_
    have F2 := F2.drop2nd.drop2nd.toList
    refine iterL F2 (.head _) fun jt s₃ F fj => ?_
    intro h₁ hns hk hacc
    obtain ⟨F', ac, ow, bk⟩ := F.compKit [(jt, .liter D2 0)] (fun p hp => by rw [List.mem_singleton.mp hp]; exact .head _) (fun p hp => by rw [List.mem_singleton.mp hp]; exact fj.own) hns hk hacc
    have oj := ow _ (.head _)
    refine ⟨fun hq => wpAny_pyIter_listiter (F'.at (.tail _ (.head _))).isIter hq, ?_⟩
    refine useEnv (c := ⟨G, s₃.heap.objs.size + 1, [jt], s₃⟩) ⟨rfl, rfl, rfl, rfl⟩ fun O => ?_
    rw [← List.map_take] at F'
    have hK : (pi.take n).length ≤ 16 := by rw [List.length_take]; exact om239 hN16 hpl
    refine aLoop (fun N s' => ∃ (P : List Pq) (m' : Str → Option Value), Fx ⟨G, s₃.heap.objs.size + 1, [jt], s₃⟩ m' ((s₃.heap.objs.size, .list (pqRefs P)) :: (jt, .liter D2 P.length) :: (D2, .list ((pi.take n).map fun i => (rkRefs T).getD i .none)) :: (L + 1 + 0, .cell (some (.bool g))) :: (L + 1 + 1, .cell (some (.ref rl))) :: (rl, .list (rowsOf rs)) :: (T.map Rk.led ++ (P.map (Pq.led g rs) ++ ℓ))) s' ∧ P.map (·.i) = (pi.take n).take P.length ∧ P.length ≤ (pi.take n).length ∧ (∀ e ∈ P, s₃.heap.get? e.a = none) ∧ N = (pi.take n).length - P.length) ?_ (pi.take n).length ⟨[], _, F', rfl, Nat.zero_le _, (fun _ q => nomatch q), rfl⟩
    clear F'
    have F0 := F
    rintro W Dd X N s₄ hW hD - ⟨P, m₄, F4, hP, hPl, hPf, rfl⟩
    refine nextL F4.swap (.tail _ (.head _)) oj hh (fun x hx s₅ F => ?_) fun hx s₅ F => ?_
    · rw [List.getElem?_toArray, List.getElem?_map] at hx
      obtain ⟨p, hp, rfl⟩ := Option.map_eq_some_iff.mp hx
      have hplt := (List.getElem?_eq_some_iff.mp hp).1
      have hpN : p < rs.length := hpm p (List.mem_of_mem_take (List.mem_of_getElem? hp))
      obtain ⟨e, q, he, er, ei⟩ := hTi p hpN
      have F := F.swap
      rw [hgd p e q]
      refine wpAny_letOwnedTupleGo_listiter (F.at (.tail _ (.head _))).isIter ?_
      refine unpackT (its := [.int e.r e.t, .int e.i e.u]) F (.tail _ (.tail _ (.tail _ (.tail _ (.tail _ (.tail _ (List.mem_append_left _ (List.mem_map.mpr ⟨e, he, rfl⟩)))))))) hh rfl rfl fun s₆ F => ?_
      refine assignInOrder_cons (wpAny_assign_Name (gst O F fun s₇ F => assignInOrder_cons (wpAny_assign_Name (gst O F fun s₈ F => assignInOrder_nil (wpAny_pure ?_)))))
      rw [if_pos rfl]
      refine Subscript_ (Call_ (gnG O B F rfl (callF (c := ⟨G, s₃.heap.objs.size + 1, [jt], s₃⟩) (i := 17) (cd := 110) (dV := .none) (B.fn (17, 111, 110, .none) (by decide)) (args_cons (gnC O F rfl (.tail _ (.tail _ (.tail _ (.head _)))) (args_cons (gnC O F rfl (.tail _ (.tail _ (.tail _ (.tail _ (.head _))))) (args_nil ⟨F.kg, pairs_spec B F.kg (rm.le (by decide)) (F.at (.tail _ (.tail _ (.tail _ (.tail _ (.tail _ (.head _))))))) (by rw [List.length_map]; exact om240 hN16) fun l as s₉ P9 hal nd9 hat9 hno9 => ?_⟩))))))))
      obtain ⟨F, fg⟩ := F.grow P9 nd9 hat9 hno9
      have hal' : as.length = rs.length := by rw [hal, List.length_map]
      have hia : as[p]? = some (as[p]'(by exact om241 hpN hal')) := List.getElem?_eq_getElem _
      generalize as[p]'(by exact om241 hpN hal') = at' at hia
      obtain ⟨a, t⟩ := at'
      have hmem := pl_mem g (rowsOf rs) 0 as p a t hia
      rw [Nat.zero_add] at hmem
      refine gnL O F rfl (subL F (.head _) (by exact om26) (by exact om242 hN16 hpN ei) (v := .ref a) (by rw [ei, Int.toNat_natCast, List.getElem?_toArray, List.getElem?_map, hia]; rfl) ?_)
      obtain ⟨lA, lB, hAB⟩ := List.append_of_mem hmem
      have F := F.sublist (ℓ' := (a, pairKn g p t ((rowsOf rs).getD p .none)) :: (s₃.heap.objs.size, .list (pqRefs P)) :: (jt, .liter D2 (P.length + 1)) :: (D2, .list ((pi.take n).map fun i => (rkRefs T).getD i .none)) :: (L + 1 + 0, .cell (some (.bool g))) :: (L + 1 + 1, .cell (some (.ref rl))) :: (rl, .list (rowsOf rs)) :: (T.map Rk.led ++ (P.map (Pq.led g rs) ++ ℓ))) (by
        rw [hAB]
        refine List.Sublist.cons _ ?_
        show List.Sublist _ ((lA ++ (a, pairKn g p t ((rowsOf rs).getD p Value.none)) :: lB) ++ _)
        rw [List.append_assoc]
        exact (List.Sublist.cons₂ _ (List.sublist_append_right _ _)).trans (List.sublist_append_right _ _))
      refine appL F.swap ac.own (by rw [List.length_map]; exact om243 hK hplt) fun s₁₀ F => ?_
      have e1 : pqRefs (P ++ [⟨a, p, t⟩]) = pqRefs P ++ [.ref a] := by simp [pqRefs]
      have e2 : (P ++ [(⟨a, p, t⟩ : Pq)]).length = P.length + 1 := by rw [List.length_append]; rfl
      have F := F.perm (ℓ' := (s₃.heap.objs.size, .list (pqRefs (P ++ [⟨a, p, t⟩]))) :: (jt, .liter D2 (P ++ [(⟨a, p, t⟩ : Pq)]).length) :: (D2, .list ((pi.take n).map fun i => (rkRefs T).getD i .none)) :: (L + 1 + 0, .cell (some (.bool g))) :: (L + 1 + 1, .cell (some (.ref rl))) :: (rl, .list (rowsOf rs)) :: (T.map Rk.led ++ ((P ++ [(⟨a, p, t⟩ : Pq)]).map (Pq.led g rs) ++ ℓ))) (by
        rw [e1, e2, List.map_append]
        refine List.Perm.cons _ ?_
        refine (List.Perm.of_eq ?_).trans ((List.perm_middle (l₁ := (jt, Kn.liter D2 (P.length + 1)) :: (D2, Kn.list ((pi.take n).map fun i => (rkRefs T).getD i .none)) :: (L + 1 + 0, .cell (some (.bool g))) :: (L + 1 + 1, .cell (some (.ref rl))) :: (rl, .list (rowsOf rs)) :: (T.map Rk.led ++ P.map (Pq.led g rs))) (a := Pq.led g rs ⟨a, p, t⟩) (l₂ := ℓ)).trans (List.Perm.of_eq ?_))
        · simp only [List.cons_append, List.append_assoc, List.map_cons, List.map_nil, List.nil_append]
        · simp only [List.cons_append, List.append_assoc])
      refine hW _ ⟨(pi.take n).length - (P.length + 1), by exact om85 hplt, P ++ [⟨a, p, t⟩], _, F, ?_, by rw [List.length_append]; exact hplt, fun e he => ?_, by rw [List.length_append]; rfl⟩
      · rw [List.map_append, hP, List.length_append]
        show _ = (pi.take n).take (P.length + 1)
        rw [List.take_add_one, hp]; rfl
      · rcases List.mem_append.mp he with he | he
        · exact hPf e he
        · rw [List.mem_singleton.mp he]; exact (fg _ (.tail _ hmem)).may.1
    · rw [List.getElem?_toArray, List.getElem?_map] at hx
      have hpl' : P.length = (pi.take n).length := by
        have := List.getElem?_eq_none_iff.mp (Option.map_eq_none_iff.mp hx)
        exact om86 hPl this
      refine hD _ ⟨⟨_, F.ns⟩, fun h' hs => ?_⟩
      have F := bk F.swap hs
      refine args_cons (Call_ (nmB B F rfl (callWith_builtin1 (args_cons (nmC F rfl (.tail _ (.tail _ (.tail _ (.tail _ (.head _))))) (args_nil (lenL F (.tail _ (.tail _ (.tail _ (.tail _ (.tail _ (.head _)))))) (by simp; exact om213 hN16) fun t s₆ F => args_nil ?_)))))))
      rw [show (rowsOf rs).toArray.size = rs.length by simp]
      have F6 := F.pushS (tk := s₆.toks) "tuple" #[.ref s₃.heap.objs.size, .int (rs.length : Nat) t]
      have F7 := F6.sublist (ℓ' := dueLed g rs s₆.heap.objs.size s₃.heap.objs.size t (rs.length : Int) P) (.cons₂ _ (.cons₂ _ (.cons _ (.cons _ (.cons _ (.cons _ (.cons _ ((List.sublist_append_left _ _).trans (List.sublist_append_right _ _)))))))))
      refine wpAny_newObj_type (hQ s₃.heap.objs.size _ t P _ F7.post F7.nd (fun p hp => (F7.led p hp).2) (allc (F.fresh_of (get?_size _)) (allc (F0.fresh_of (get?_size _)) fun p hp => ?_)) ?_) (by size_fits)
      · obtain ⟨e, he, rfl⟩ := List.mem_map.mp hp
        exact F0.fresh_of (hPf e he)
      · rw [hP, hpl', List.take_length]; rfl
end
end Mine
namespace Mine
open PySem PySem.Calls PyProof.Rows PySem.W
open Sem (wp)
/-! ## _law_due: the ranks -/
structure Ky where
  a : Addr
  vs : List Value
  ns : List Int
abbrev Ky.led (e : Ky) : Addr × Kn := (e.a, .list e.vs)
abbrev kyRefs (K : List Ky) : List Value := K.map fun e => .ref e.a
section
variable {prog : Program} {w : World} {A : Around} {E : Value → Shared → Prop} {s : Shared} {m : Str → Option Value} {ℓ : List (Addr × Kn)}
theorem ifs1 {env : Env} {cond : Expr} {Q : Bool → Shared → Prop} (h : wpAny (model prog w) A (isTrue cond env (eval cond env)) Q E s) :
    wpAny (model prog w) A (forIn [cond] true fun c r => if r = true then do let ok ← isTrue c env (eval c env); pure (ForInStep.yield ok) else pure (ForInStep.yield r)) Q E s := by
  simp only [List.forIn_cons, List.forIn_nil, if_true]
  exact wpAny_bind (wpAny_bind (wpAny_mono h (fun b s₁ hb => wpAny_pure (wpAny_pure hb)) fun _ _ x => x))
theorem aFilter {c : Cx} {cond iter : Expr} {p1 p2 pos : Pos} {scope : Scope} {cenv : Env} {acc jt D2 : Addr} {K : List Ky} {f : Ky → Bool} {R : Result → Shared → Prop} (O : EnvOk c cenv) (hx : cenv.kindOf "other" = some .local) (hh : A.handled = none) (oj : Own c jt) (ac : Own c acc) (hD : (D2, Kn.list (kyRefs K)) ∈ ℓ) (hz : K.length ≤ 64)
    (hc : ∀ e ∈ K, ∀ m' p s', Fx c m' ((acc, .list (kyRefs ((K.take p).filter f))) :: (jt, .liter D2 (p + 1)) :: ℓ) s' → m' "other" = some (.ref e.a) → ∀ (Q' : Bool → Shared → Prop) (E' : Value → Shared → Prop), Q' (f e) s' → wpAny (model prog w) A (isTrue cond cenv (eval cond cenv)) Q' E' s')
    (F : Fx c m ((acc, .list []) :: (jt, .liter D2 0) :: ℓ) s)
    (h : ∀ m' s', Fx c m' ((acc, .list (kyRefs (K.filter f))) :: (jt, .lidone K.length) :: ℓ) s' → R (.ok .next) s') :
    codeAny (model prog w) A (.compLoop (.ListComp (.Name "other" p1) [⟨.Name "other" p2, iter, [cond], 0⟩] scope pos) 0 (.ref jt) (.ref acc) cenv) R s := by
  refine aLoop (fun n s' => ∃ (p : Nat) (m' : Str → Option Value), Fx c m' ((acc, .list (kyRefs ((K.take p).filter f))) :: (jt, .liter D2 p) :: ℓ) s' ∧ p ≤ K.length ∧ n = K.length - p) ?_ K.length ⟨0, _, F, Nat.zero_le _, rfl⟩
  clear F
  rintro W Dd X n s₁ hW hDd - ⟨p, m₁, F, hp, rfl⟩
  refine nextL F.swap (.tail _ hD) oj hh (fun x hx' s₂ F => ?_) fun hx' s₂ F => ?_
  · rw [List.getElem?_toArray, List.getElem?_map] at hx'
    obtain ⟨e, he, rfl⟩ := Option.map_eq_some_iff.mp hx'
    have hpl := (List.getElem?_eq_some_iff.mp he).1
    refine wpAny_pure (wpAny_assign_Name (gst O F.swap (fun s₃ F => ifs1 (hc e (List.mem_of_getElem? he) _ p s₃ F (if_pos rfl) _ _ ?_)) hx))
    have et : K.take (p + 1) = K.take p ++ [e] := by rw [List.take_add_one, he]; rfl
    cases hf : f e with
    | true =>
      rw [if_pos rfl]
      refine gnL O F (if_pos rfl) (appL F ac (by rw [List.length_map]; have := List.length_filter_le f (K.take p); rw [List.length_take] at this; exact om244 hz this) fun s₄ F => ?_) hx
      refine hW _ ⟨K.length - (p + 1), by exact om85 hpl, p + 1, _, F.ofEq ?_, hpl, rfl⟩
      rw [et, List.filter_append, List.filter_cons_of_pos (by exact hf)]
      simp [kyRefs]
    | false =>
      rw [if_neg Bool.false_ne_true]
      refine hW _ ⟨K.length - (p + 1), by exact om85 hpl, p + 1, _, F.ofEq ?_, hpl, rfl⟩
      rw [et, List.filter_append, List.filter_cons_of_neg (by rw [hf]; decide)]
      simp
  · rw [List.getElem?_toArray, List.getElem?_map] at hx'
    have hpl : p = K.length := by
      have := List.getElem?_eq_none_iff.mp (Option.map_eq_none_iff.mp hx')
      exact om86 hp this
    subst hpl
    refine hDd _ (h _ _ (F.swap.ofEq ?_))
    rw [List.take_length]
end
section
variable {prog : Program} {w : World} {A : Around} {E : Value → Shared → Prop} {s : Shared} {m : Str → Option Value} {ℓ : List (Addr × Kn)} {G : Heap} {L : Addr} {s0 : Shared}
set_option maxHeartbeats 2000000 in
theorem dueBefore {K : List Ky} {o : Ky} {kl : Addr} {i : Nat} {t : Tok} {Q : Flow → Shared → Prop} (B : Base G) (hh : A.handled = none) (hu : A.units < cLine) (F : Fx ⟨G, L, [], s0⟩ m ℓ s) (hk : (kl, Kn.list (kyRefs K)) ∈ ℓ) (hK : ∀ e ∈ K, e.led ∈ ℓ) (hI : ∀ e ∈ K, IntsAre e.vs e.ns) (ho : o ∈ K) (hc : (L + 1 + 3, Kn.cell (some (.ref o.a))) ∈ ℓ) (hz : K.length ≤ 64)
    (m1 : m "keys" = some (.ref kl)) (m2 : m "place" = some (.int i t))
    (h : ∀ D s', Fx ⟨G, L, [], s0⟩ (upd m "before" (.ref D)) ((D, .list (kyRefs ((K.take i).filter fun e => decide (e.ns = o.ns)))) :: ℓ) s' → wpAny (model prog w) A (execs ((forBody 18 4).drop 1) (envC 18 L 116 115)) Q E s') :
    wpAny (model prog w) A (execs (forBody 18 4) (envC 18 L 116 115)) Q E s := by
  refine ec (aCompU (cl := [("own", L + 1 + 3)]) (by rfl) (by rfl) (by decide) (by decide) (Subscript_ (nmL F m1 (upTo (nmL F m2 ?_)))))
  have F2 := F.pushE (tk := s.toks) (sliceOb .none (.int i t))
  refine sliceTo F2 (F2.at (.tail _ hk)) (F2.at (.head _)) (by rw [List.length_map]; exact om245 hz) fun D2 s₂ F2 fD2 => ?_
  have F2 := F2.drop2nd.toList
  rw [← List.map_take] at F2
  refine iterL F2 (.head _) fun jt s₃ F3 fj => ?_
  intro h₁ hns hk' hacc
  obtain ⟨F', ac, ow, bk⟩ := F3.compKit [(jt, .liter D2 0)] (fun p hp => by rw [List.mem_singleton.mp hp]; exact .head _) (fun p hp => by rw [List.mem_singleton.mp hp]; exact fj.own) hns hk' ⟨_, hacc.get, rfl, _, rfl⟩
  have kst := F3.kitOwn [(jt, .liter D2 0)] (fun p hp => by rw [List.mem_singleton.mp hp]; exact .head _) (fun p hp => by rw [List.mem_singleton.mp hp]; exact fj.own)
  have oj := ow _ (.head _)
  refine ⟨fun hq => wpAny_pyIter_listiter (F'.at (.tail _ (.head _))).isIter hq, ?_⟩
  refine useEnv (c := ⟨G, s₃.heap.objs.size + 1, [jt], s₃⟩) ⟨rfl, rfl, rfl, rfl⟩ fun O => ?_
  refine aFilter (f := fun e => decide (e.ns = o.ns)) O rfl hh oj ac.own (.head _) (by rw [List.length_take]; exact om246 hz) (fun e he m' p s' F m3 Q' E' hq => ?_) F' fun m' s' F => ?_
  · have he' := List.mem_of_mem_take he
    exact wpAny_isTrue_Compare1 (gnL O F m3 (gnC O F rfl (.tail _ (.tail _ (.tail _ hc))) (eq_intsL (F.at (.tail _ (.tail _ (.tail _ (hK e he'))))) (F.at (.tail _ (.tail _ (.tail _ (hK o ho))))) (hI e he') (hI o ho) hu (wpAny_truthy_bool hq))))
  · exact F3.storeUp F kst fun s2 F => h _ _ (F.drop2nd.drop2nd)
set_option maxHeartbeats 2000000 in
theorem dueAhead {g : Bool} {K : List Ky} {o : Ky} {kl : Addr} {Q : Flow → Shared → Prop} (B : Base G) (hh : A.handled = none) (hu : A.units < cLine) (F : Fx ⟨G, L, [], s0⟩ m ℓ s) (hk : (kl, Kn.list (kyRefs K)) ∈ ℓ) (hK : ∀ e ∈ K, e.led ∈ ℓ) (hI : ∀ e ∈ K, IntsAre e.vs e.ns) (ho : o ∈ K) (hc : (L + 1 + 3, Kn.cell (some (.ref o.a))) ∈ ℓ) (hg : (L + 1 + 0, Kn.cell (some (.bool g))) ∈ ℓ) (hz : K.length ≤ 64)
    (m1 : m "keys" = some (.ref kl))
    (h : ∀ D s', Fx ⟨G, L, [], s0⟩ (upd m "ahead" (.ref D)) ((D, .list (kyRefs (K.filter fun e => if g then iord o.ns e.ns == .lt else iord e.ns o.ns == .lt))) :: ℓ) s' → wpAny (model prog w) A (execs ((forBody 18 4).drop 2) (envC 18 L 116 115)) Q E s') :
    wpAny (model prog w) A (execs ((forBody 18 4).drop 1) (envC 18 L 116 115)) Q E s := by
  refine ec (aCompU (cl := [("own", L + 1 + 3), ("greatest", L + 1 + 0)]) (by rfl) (by rfl) (by decide) (by decide) (nmL F m1 (iterL F hk fun jt s₃ F3 fj => ?_)))
  intro h₁ hns hk' hacc
  obtain ⟨F', ac, ow, bk⟩ := F3.compKit [(jt, .liter kl 0)] (fun p hp => by rw [List.mem_singleton.mp hp]; exact .head _) (fun p hp => by rw [List.mem_singleton.mp hp]; exact fj.own) hns hk' ⟨_, hacc.get, rfl, _, rfl⟩
  have kst := F3.kitOwn [(jt, .liter kl 0)] (fun p hp => by rw [List.mem_singleton.mp hp]; exact .head _) (fun p hp => by rw [List.mem_singleton.mp hp]; exact fj.own)
  have oj := ow _ (.head _)
  refine ⟨fun hq => wpAny_pyIter_listiter (F'.at (.tail _ (.head _))).isIter hq, ?_⟩
  refine useEnv (c := ⟨G, s₃.heap.objs.size + 1, [jt], s₃⟩) ⟨rfl, rfl, rfl, rfl⟩ fun O => ?_
  refine aFilter (f := fun e => if g then iord o.ns e.ns == .lt else iord e.ns o.ns == .lt) O rfl hh oj ac.own hk hz (fun e he m' p s' F m3 Q' E' hq => ?_) F' fun m' s' F => ?_
  · refine isTrue_IfExp (wpAny_isTrue_value (gnC O F rfl (.tail _ (.tail _ hg)) (wpAny_truthy_bool ?_)))
    cases g
    · rw [if_neg Bool.false_ne_true]
      exact wpAny_isTrue_Compare1 (gnL O F m3 (gnC O F rfl (.tail _ (.tail _ hc)) (lt_intsL (F.at (.tail _ (.tail _ (hK e he)))) (F.at (.tail _ (.tail _ (hK o ho)))) (hI e he) (hI o ho) hu (wpAny_truthy_bool hq))))
    · rw [if_pos rfl]
      exact wpAny_isTrue_Compare1 (gnC O F rfl (.tail _ (.tail _ hc)) (gnL O F m3 (lt_intsL (F.at (.tail _ (.tail _ (hK o ho)))) (F.at (.tail _ (.tail _ (hK e he)))) (hI o ho) (hI e he) hu (wpAny_truthy_bool hq))))
  · exact F3.storeUp F kst fun s2 F => h _ _ (F.drop2nd)
end
end Mine
namespace Mine
open PySem PySem.Calls PyProof.Rows PySem.W
open Sem (wp)
/-- how many go ahead of the one at place i -/
def rkOf (g : Bool) (X : List (List Int)) (i : Nat) : Int :=
  (((X.take i).filter fun e => decide (e = X.getD i [])).length : Nat) + ((X.filter fun e => if g then iord (X.getD i []) e == .lt else iord e (X.getD i []) == .lt).length : Nat)
section
variable {prog : Program} {w : World} {A : Around} {E : Value → Shared → Prop} {s : Shared} {m : Str → Option Value} {ℓ : List (Addr × Kn)} {G : Heap} {L : Addr} {s0 : Shared}
set_option maxHeartbeats 4000000 in
theorem dueRanks {g : Bool} {wish : Int} {tw : Tok} {rl kl : Addr} {K : List Ky} {rs : List (List UInt8 × Tok)} {v₀ : Option Value} {Q : Flow → Shared → Prop} (B : Base G) (rm : Rm A 4)
    (F : Fx ⟨G, L, [], s0⟩ m ((L + 1 + 3, .cell v₀) :: (L + 1 + 0, .cell (some (.bool g))) :: (L + 1 + 1, .cell (some (.ref rl))) :: (rl, .list (rowsOf rs)) :: (kl, .list (kyRefs K)) :: (K.map Ky.led ++ ℓ)) s) (fce : Own ⟨G, L, [], s0⟩ (L + 1 + 3)) (hI : ∀ e ∈ K, IntsAre e.vs e.ns)
    (m1 : m "keys" = some (.ref kl)) (m2 : m "wish" = some (.int wish tw)) (h1 : 1 ≤ wish) (hN : 2 ≤ rs.length) (hN16 : rs.length ≤ 16) (hKl : K.length = rs.length)
    (hQ : ∀ l v t P s', Post G [] s0 s' → ((dueLed g rs v l t (rs.length : Int) P).map (·.1)).Nodup → (∀ p ∈ dueLed g rs v l t (rs.length : Int) P, At s'.heap p.1 p.2) → (∀ p ∈ dueLed g rs v l t (rs.length : Int) P, s0.heap.get? p.1 = none) → P.map (·.i) = (rkPerm (rkOf g (K.map (·.ns))) rs.length).take wish.toNat → Q (.ret (.ref v)) s') :
    wpAny (model prog w) A (execs (dropBody 18 3) (envC 18 L 116 115)) Q E s := by
  have hh : A.handled = none := rm.hh
  have fD := F.new
  refine ec (wpAny_Assign_Name (List_ (args_nil (wpAny_newList (stL (F.pushE _) fun s₁ F => ?_)))))
  generalize s.heap.objs.size = D at F fD
  have F : Fx ⟨G, L, [], s0⟩ _ ((D, .lst [] 0) :: (L + 1 + 3, .cell v₀) :: (L + 1 + 0, .cell (some (.bool g))) :: (L + 1 + 1, .cell (some (.ref rl))) :: (rl, .list (rowsOf rs)) :: (kl, .list (kyRefs K)) :: (K.map Ky.led ++ ℓ)) s₁ := F
  refine ec (wpAny_For (Call_ (nmB B F rfl (PyProof.Rows.callWith_type1 (args_cons (nmL F m1 (args_nil (enumNew F (.tail _ (.tail _ (.tail _ (.tail _ (.tail _ (.head _)))))) fun e it s₂ F fe fi => enumIter F ?_))))))))
  refine aForT (fun n s' => ∃ (T : List Rk) (old : Value) (v₁ : Option Value) (m' : Str → Option Value), Fx ⟨G, L, [], s0⟩ m' ((e, .enum it (T.length : Nat) old) :: (it, .liter kl T.length) :: (D, .lst (rkRefs T) T.length) :: (L + 1 + 3, .cell v₁) :: (L + 1 + 0, .cell (some (.bool g))) :: (L + 1 + 1, .cell (some (.ref rl))) :: (rl, .list (rowsOf rs)) :: (kl, .list (kyRefs K)) :: (K.map Ky.led ++ (T.map Rk.led ++ ℓ))) s' ∧
    m' "ranks" = some (.ref D) ∧ m' "keys" = some (.ref kl) ∧ m' "wish" = some (.int wish tw) ∧ T.map (fun e => (e.r, e.i)) = ((List.range T.length).map fun i => (rkOf g (K.map (·.ns)) i, i)) ∧ T.length ≤ K.length ∧ n = K.length - T.length) ?_ K.length ⟨[], .none, v₀, _, F, rfl, m1, m2, rfl, Nat.zero_le _, rfl⟩
  clear F
  rintro W Dd X n s₃ hW hDd - ⟨T, old, v₁, m₃, F, k1, k2, k3, hT, hTl, rfl⟩
  refine enumStep F (.tail _ (.tail _ (.tail _ (.tail _ (.tail _ (.head _)))))) fe.own fi.own hh (fun x hx t a s₄ F fa => ?_) fun hx s₄ F => ?_
  · rw [List.getElem?_toArray, List.getElem?_map] at hx
    obtain ⟨o, ho, rfl⟩ := Option.map_eq_some_iff.mp hx
    have hpl := (List.getElem?_eq_some_iff.mp ho).1
    have hoK := List.mem_of_getElem? ho
    refine enumOwned F.swap fe.own fun s₅ F => ?_
    refine unpackT F (.tail _ (.head _)) hh rfl rfl fun s₆ F => ?_
    have F := F.drop2nd
    refine assignInOrder_cons (wpAny_assign_Name (stL F fun s₇ F => assignInOrder_cons (wpAny_assign_Name (stC F.br3 fce rfl fun s₈ F => assignInOrder_nil ?_))))
    refine dueBefore (K := K) (o := o) (kl := kl) (i := T.length) (t := t) B hh rm.units F (.tail _ (.tail _ (.tail _ (.tail _ (.tail _ (.tail _ (.tail _ (.head _)))))))) (fun e he => .tail _ (.tail _ (.tail _ (.tail _ (.tail _ (.tail _ (.tail _ (.tail _ (List.mem_append_left _ (List.mem_map.mpr ⟨e, he, rfl⟩)))))))))) hI hoK (.head _) (by exact om247 hN16 hKl) k2 rfl fun D1 s₉ F => ?_
    refine dueAhead (g := g) (K := K) (o := o) (kl := kl) B hh rm.units F (.tail _ (.tail _ (.tail _ (.tail _ (.tail _ (.tail _ (.tail _ (.tail _ (.head _))))))))) (fun e he => .tail _ (.tail _ (.tail _ (.tail _ (.tail _ (.tail _ (.tail _ (.tail _ (.tail _ (List.mem_append_left _ (List.mem_map.mpr ⟨e, he, rfl⟩))))))))))) hI hoK (.tail _ (.head _)) (.tail _ (.tail _ (.tail _ (.tail _ (.tail _ (.head _)))))) (by exact om247 hN16 hKl) k2 fun D2 s₁₀ F => ?_
    have lf : ∀ (f : Ky → Bool) (X : List Ky), X.length ≤ 16 → (kyRefs (X.filter f)).toArray.size < 2 ^ 60 := fun f X hX => by
      rw [List.size_toArray, List.length_map]
      have := List.length_filter_le f X
      exact om248 hX this
    refine ec (wpAny_Expr_any (wpAny_Call_append rfl rfl rfl rfl (nmL F k1 ⟨D, _, rfl, ⟨_, _, (F.at (.tail _ (.tail _ (.tail _ (.tail _ (.tail _ (.head _))))))).get, rfl, rfl, rfl⟩, ?_⟩)))
    refine Tuple_ (args_cons (wpAny_BinOp (Call_ (nmB B F rfl (callWith_builtin1 (args_cons (nmL F rfl (args_nil (lenL F (.tail _ (.head _)) (lf _ _ (by rw [List.length_take]; exact om239 hN16 hKl)) fun t1 s₁₁ F => ?_)))))))))
    refine Call_ (nmB B F rfl (callWith_builtin1 (args_cons (nmL F rfl (args_nil (lenL F (.head _) (lf _ _ (by exact om216 hN16 hKl)) fun t2 s₁₂ F => iAdd F fun t3 s₁₃ F => args_cons (nmL F rfl (args_nil ?_))))))))
    have F := F.tail.tail
    have hr : (((kyRefs ((K.take T.length).filter fun e => decide (e.ns = o.ns))).toArray.size : Nat) : Int) + (((kyRefs (K.filter fun e => if g then iord o.ns e.ns == .lt else iord e.ns o.ns == .lt)).toArray.size : Nat) : Int) = rkOf g (K.map (·.ns)) T.length := by
      have e0 : (K.map (·.ns)).getD T.length [] = o.ns := by rw [List.getD_eq_getElem?_getD, List.getElem?_map, ho]; rfl
      unfold rkOf
      rw [e0, ← List.map_take, List.filter_map, List.filter_map, List.length_map, List.length_map, List.size_toArray, List.size_toArray, List.length_map, List.length_map]
      rfl
    rw [hr]
    refine wpAny_newObj_type ?_ (by size_fits)
    have F := F.pushS (tk := s₁₃.toks) "tuple" #[.int (rkOf g (K.map (·.ns)) T.length) t3, .int (T.length : Nat) t]
    generalize s₁₃.heap.objs.size = N at F
    refine appX F.br4 fD.own (by rw [List.length_map]; exact om249 hN16 hKl hpl) fun s₁₄ F => wpAny_execs_nil ?_
    have e1 : rkRefs (T ++ [⟨N, rkOf g (K.map (·.ns)) T.length, t3, T.length, t⟩]) = rkRefs T ++ [.ref N] := by simp [rkRefs]
    have e2 : (T ++ [(⟨N, rkOf g (K.map (·.ns)) T.length, t3, T.length, t⟩ : Rk)]).length = T.length + 1 := by rw [List.length_append]; rfl
    have F := F.swap.br4.br4.br2
    have F := F.perm (ℓ' := (e, .enum it ((T ++ [(⟨N, rkOf g (K.map (·.ns)) T.length, t3, T.length, t⟩ : Rk)]).length : Nat) (.ref o.a)) :: (it, .liter kl (T ++ [(⟨N, rkOf g (K.map (·.ns)) T.length, t3, T.length, t⟩ : Rk)]).length) :: (D, .lst (rkRefs (T ++ [⟨N, rkOf g (K.map (·.ns)) T.length, t3, T.length, t⟩])) (T ++ [(⟨N, rkOf g (K.map (·.ns)) T.length, t3, T.length, t⟩ : Rk)]).length) :: (L + 1 + 3, .cell (some (.ref o.a))) :: (L + 1 + 0, .cell (some (.bool g))) :: (L + 1 + 1, .cell (some (.ref rl))) :: (rl, .list (rowsOf rs)) :: (kl, .list (kyRefs K)) :: (K.map Ky.led ++ ((T ++ [(⟨N, rkOf g (K.map (·.ns)) T.length, t3, T.length, t⟩ : Rk)]).map Rk.led ++ ℓ))) (by
      rw [e1, e2, List.map_append]
      refine (List.Perm.of_eq ?_).trans ((List.perm_middle (l₁ := (e, .enum it ((T.length + 1 : Nat) : Int) (.ref o.a)) :: (it, .liter kl (T.length + 1)) :: (D, .lst (rkRefs T ++ [.ref N]) (T.length + 1)) :: (L + 1 + 3, .cell (some (.ref o.a))) :: (L + 1 + 0, .cell (some (.bool g))) :: (L + 1 + 1, .cell (some (.ref rl))) :: (rl, .list (rowsOf rs)) :: (kl, .list (kyRefs K)) :: (K.map Ky.led ++ T.map Rk.led)) (a := Rk.led ⟨N, rkOf g (K.map (·.ns)) T.length, t3, T.length, t⟩) (l₂ := ℓ)).trans (List.Perm.of_eq ?_))
      · simp only [List.cons_append, List.append_assoc, List.map_cons, List.map_nil, List.nil_append]
      · simp only [List.cons_append, List.append_assoc]; rfl)
    have hlt : K.length - (T.length + 1) < K.length - T.length := by exact om85 hpl
    have hTT : (T ++ [(⟨N, rkOf g (K.map (·.ns)) T.length, t3, T.length, t⟩ : Rk)]).map (fun e => (e.r, e.i)) = ((List.range (T ++ [(⟨N, rkOf g (K.map (·.ns)) T.length, t3, T.length, t⟩ : Rk)]).length).map fun i => (rkOf g (K.map (·.ns)) i, i)) := by
      rw [e2, List.range_succ, List.map_append, List.map_append, hT]
      simp only [List.map_cons, List.map_nil]
    have hle : (T ++ [(⟨N, rkOf g (K.map (·.ns)) T.length, t3, T.length, t⟩ : Rk)]).length ≤ K.length := by rw [e2]; exact hpl
    have heq : K.length - (T.length + 1) = K.length - (T ++ [(⟨N, rkOf g (K.map (·.ns)) T.length, t3, T.length, t⟩ : Rk)]).length := by rw [e2]
    generalize hm : upd (upd (upd m₃ "place" (.int (↑T.length) t)) "before" (.ref D1)) "ahead" (.ref D2) = m' at F
    have k1' : m' "ranks" = some (.ref D) := by rw [← hm]; exact k1
    have k2' : m' "keys" = some (.ref kl) := by rw [← hm]; exact k2
    have k3' : m' "wish" = some (.int wish tw) := by rw [← hm]; exact k3
    exact hW .next _ ⟨K.length - (T.length + 1), hlt, T ++ [(⟨N, rkOf g (K.map (·.ns)) T.length, t3, T.length, t⟩ : Rk)], .ref o.a, some (.ref o.a), m', F, k1', k2', k3', hTT, hle, heq⟩
  · rw [List.getElem?_toArray, List.getElem?_map] at hx
    have hpl : T.length = K.length := by
      have := List.getElem?_eq_none_iff.mp (Option.map_eq_none_iff.mp hx)
      exact om86 hTl this
    have F := F.sublist (ℓ' := (D, .lst (rkRefs T) T.length) :: (L + 1 + 0, .cell (some (.bool g))) :: (L + 1 + 1, .cell (some (.ref rl))) :: (rl, .list (rowsOf rs)) :: (T.map Rk.led ++ ℓ)) (.cons _ (.cons _ (.cons₂ _ (.cons _ (.cons₂ _ (.cons₂ _ (.cons₂ _ (.cons _ (List.sublist_append_right _ _)))))))))
    exact hDd _ (dueTail B rm F fD k1 k3 h1 hN hN16 (by rw [hT, hpl, hKl]) hQ)
end
end Mine
namespace Mine
open PySem PySem.Calls PyProof.Rows PySem.W
open Sem (wp)
/-! ## _law_due: the keys -/
section
variable {prog : Program} {w : World} {A : Around} {E : Value → Shared → Prop} {s : Shared} {m : Str → Option Value} {ℓ : List (Addr × Kn)} {G : Heap} {L : Addr} {s0 : Shared}
set_option maxHeartbeats 4000000 in
theorem dueKeys {g : Bool} {wish width : Int} {tw twd : Tok} {rl : Addr} {rs : List (List UInt8 × Tok)} {v₀ : Option Value} {Q : Flow → Shared → Prop} (B : Base G) (rm : Rm A 4)
    (F : Fx ⟨G, L, [], s0⟩ m ((L + 1 + 3, .cell v₀) :: (L + 1 + 0, .cell (some (.bool g))) :: (L + 1 + 1, .cell (some (.ref rl))) :: (L + 1 + 2, .cell (some (.int width twd))) :: (rl, .list (rowsOf rs)) :: ℓ) s) (fce : Own ⟨G, L, [], s0⟩ (L + 1 + 3))
    (m2 : m "wish" = some (.int wish tw)) (h1 : 1 ≤ wish) (hN : 2 ≤ rs.length) (hN16 : rs.length ≤ 16) (hr : ∀ r ∈ rs, r.1.length ≤ 1000) (hw : -2 ≤ width ∧ width ≤ 4) (hok : ∀ j, j < rs.length → errOf width rs j = none)
    (hQ : ∀ l v t P s', Post G [] s0 s' → ((dueLed g rs v l t (rs.length : Int) P).map (·.1)).Nodup → (∀ p ∈ dueLed g rs v l t (rs.length : Int) P, At s'.heap p.1 p.2) → (∀ p ∈ dueLed g rs v l t (rs.length : Int) P, s0.heap.get? p.1 = none) → P.map (·.i) = (rkPerm (rkOf g (rs.map fun r => numsOf width r.1)) rs.length).take wish.toNat → Q (.ret (.ref v)) s') :
    wpAny (model prog w) A (execs (dropBody 18 2) (envC 18 L 116 115)) Q E s := by
  have hh : A.handled = none := rm.hh
  refine ec (aCompU (cl := [("width", L + 1 + 2)]) (by rfl) (by rfl) (by decide) (by decide) (nmC F rfl (.tail _ (.tail _ (.head _))) (iterL F (.tail _ (.tail _ (.tail _ (.tail _ (.head _))))) fun jt s₃ F3 fj => ?_)))
  intro h₁ hns hk' hacc
  obtain ⟨F', ac, ow, bk⟩ := F3.compKit [(jt, .liter rl 0)] (fun p hp => by rw [List.mem_singleton.mp hp]; exact .head _) (fun p hp => by rw [List.mem_singleton.mp hp]; exact fj.own) hns hk' ⟨_, hacc.get, rfl, _, rfl⟩
  have kst := F3.kitOwn [(jt, .liter rl 0)] (fun p hp => by rw [List.mem_singleton.mp hp]; exact .head _) (fun p hp => by rw [List.mem_singleton.mp hp]; exact fj.own)
  have oj := ow _ (.head _)
  refine ⟨fun hq => wpAny_pyIter_listiter (F'.at (.tail _ (.head _))).isIter hq, ?_⟩
  refine useEnv (c := ⟨G, s₃.heap.objs.size + 1, [jt], s₃⟩) ⟨rfl, rfl, rfl, rfl⟩ fun O => ?_
  refine aLoop (fun n s' => ∃ (K : List Ky) (m' : Str → Option Value), Fx ⟨G, s₃.heap.objs.size + 1, [jt], s₃⟩ m' ((s₃.heap.objs.size, .list (kyRefs K)) :: (jt, .liter rl K.length) :: (L + 1 + 3, .cell v₀) :: (L + 1 + 0, .cell (some (.bool g))) :: (L + 1 + 1, .cell (some (.ref rl))) :: (L + 1 + 2, .cell (some (.int width twd))) :: (rl, .list (rowsOf rs)) :: (K.map Ky.led ++ ℓ)) s' ∧ (∀ e ∈ K, IntsAre e.vs e.ns) ∧ K.map (·.ns) = (rs.take K.length).map (fun r => numsOf width r.1) ∧ K.length ≤ rs.length ∧ n = rs.length - K.length) ?_ rs.length ⟨[], _, F', (fun _ q => nomatch q), rfl, Nat.zero_le _, rfl⟩
  clear F'
  rintro W Dd X n s₄ hW hDd - ⟨K, m₄, F4, hI, hK, hKl, rfl⟩
  refine nextL F4.swap (.tail _ (.tail _ (.tail _ (.tail _ (.tail _ (.head _)))))) oj hh (fun x hx s₅ F => ?_) fun hx s₅ F => ?_
  · rw [List.getElem?_toArray, List.getElem?_map] at hx
    obtain ⟨r, hrr, rfl⟩ := Option.map_eq_some_iff.mp hx
    have hpl := (List.getElem?_eq_some_iff.mp hrr).1
    have hrm := List.mem_of_getElem? hrr
    have herr : bswErr width r.1.length = none := by
      have := hok K.length hpl
      unfold errOf at this
      rw [List.getD_eq_getElem?_getD, hrr] at this
      exact this
    refine wpAny_pure (wpAny_assign_Name (gst O F.swap fun s₆ F => wpAny_pure ?_))
    rw [if_pos rfl]
    refine Call_ (gnG O B F rfl (callF (c := ⟨G, s₃.heap.objs.size + 1, [jt], s₃⟩) (i := 16) (cd := 105) (dV := .none) (B.fn (16, 106, 105, .none) (by decide)) (args_cons (gnL O F rfl (args_cons (gnC O F rfl (.tail _ (.tail _ (.tail _ (.tail _ (.tail _ (.head _)))))) (args_nil ⟨F.kg, numbers_spec B F.kg (rm.le (by decide)) (hr r hrm) hw herr fun l vs s₇ P7 hin hat hno => ?_⟩)))))))
    obtain ⟨F, _⟩ := F.grow (new := [(l, .list vs)]) P7 (by simp) (fun p hp => by rw [List.mem_singleton.mp hp]; exact hat) (fun p hp => by rw [List.mem_singleton.mp hp]; exact hno)
    have F := Fx.swap F
    refine appL F ac.own (by rw [List.length_map]; exact om243 hN16 hpl) fun s₈ F => ?_
    have e1 : kyRefs (K ++ [⟨l, vs, numsOf width r.1⟩]) = kyRefs K ++ [.ref l] := by simp [kyRefs]
    have e2 : (K ++ [(⟨l, vs, numsOf width r.1⟩ : Ky)]).length = K.length + 1 := by rw [List.length_append]; rfl
    have F := F.perm (ℓ' := (s₃.heap.objs.size, .list (kyRefs (K ++ [⟨l, vs, numsOf width r.1⟩]))) :: (jt, .liter rl (K ++ [(⟨l, vs, numsOf width r.1⟩ : Ky)]).length) :: (L + 1 + 3, .cell v₀) :: (L + 1 + 0, .cell (some (.bool g))) :: (L + 1 + 1, .cell (some (.ref rl))) :: (L + 1 + 2, .cell (some (.int width twd))) :: (rl, .list (rowsOf rs)) :: ((K ++ [(⟨l, vs, numsOf width r.1⟩ : Ky)]).map Ky.led ++ ℓ)) (by
      rw [e1, e2, List.map_append]
      refine List.Perm.cons _ ?_
      refine (List.Perm.of_eq ?_).trans ((List.perm_middle (l₁ := (jt, Kn.liter rl (K.length + 1)) :: (L + 1 + 3, .cell v₀) :: (L + 1 + 0, .cell (some (.bool g))) :: (L + 1 + 1, .cell (some (.ref rl))) :: (L + 1 + 2, .cell (some (.int width twd))) :: (rl, .list (rowsOf rs)) :: K.map Ky.led) (a := (l, .list vs)) (l₂ := ℓ)).trans (List.Perm.of_eq ?_))
      · simp only [List.cons_append, List.append_assoc, List.map_cons, List.map_nil, List.nil_append]
      · simp only [List.cons_append])
    refine hW _ ⟨rs.length - (K.length + 1), by exact om85 hpl, K ++ [⟨l, vs, numsOf width r.1⟩], _, F, fun e he => ?_, ?_, by rw [e2]; exact hpl, by rw [e2]⟩
    · rcases List.mem_append.mp he with he | he
      · exact hI e he
      · rw [List.mem_singleton.mp he]; exact hin
    · rw [e2, List.take_add_one, hrr, List.map_append, List.map_append, hK]
      simp
  · rw [List.getElem?_toArray, List.getElem?_map] at hx
    have hpl : K.length = rs.length := by
      have := List.getElem?_eq_none_iff.mp (Option.map_eq_none_iff.mp hx)
      exact om86 hKl this
    refine hDd _ (F3.storeUp F.swap kst fun s2 F => ?_)
    have F := F.drop2nd
    have F := F.perm (ℓ' := (L + 1 + 3, .cell v₀) :: (L + 1 + 0, .cell (some (.bool g))) :: (L + 1 + 1, .cell (some (.ref rl))) :: (L + 1 + 2, .cell (some (.int width twd))) :: (rl, .list (rowsOf rs)) :: (s₃.heap.objs.size, .list (kyRefs K)) :: (K.map Ky.led ++ ℓ)) (List.perm_middle (l₁ := [_, _, _, _, _]))
    have F := F.sublist (ℓ' := (L + 1 + 3, .cell v₀) :: (L + 1 + 0, .cell (some (.bool g))) :: (L + 1 + 1, .cell (some (.ref rl))) :: (rl, .list (rowsOf rs)) :: (s₃.heap.objs.size, .list (kyRefs K)) :: (K.map Ky.led ++ ℓ)) (.cons₂ _ (.cons₂ _ (.cons₂ _ (.cons _ (List.Sublist.refl _)))))
    rw [hpl, List.take_length] at hK
    exact dueRanks (K := K) B rm F fce hI rfl m2 h1 hN hN16 hpl (by rw [hK]; exact hQ)
end
end Mine
namespace Mine
open PySem PySem.Calls PyProof.Rows PySem.W
/-! ## the ranks put the places in order -/
theorem count_lt {p q : Nat → Bool} : ∀ (l : List Nat), (∀ x ∈ l, p x = true → q x = true) → (∃ x ∈ l, q x = true ∧ p x = false) → l.countP p < l.countP q
  | [], _, h => by obtain ⟨x, hx, _⟩ := h; cases hx
  | a :: l, h1, h2 => by
    have hm : l.countP p ≤ l.countP q := List.countP_mono_left fun x hx => h1 x (.tail _ hx)
    rw [List.countP_cons, List.countP_cons]
    obtain ⟨x, hx, q1, q2⟩ := h2
    rcases List.mem_cons.mp hx with rfl | hx
    · rw [q1, q2]; simp; exact om357 hm
    · have := count_lt l (fun x hx => h1 x (.tail _ hx)) ⟨x, hx, q1, q2⟩
      cases r : p a with
      | true => rw [h1 a (.head _) r]; simp; exact om358 this
      | false => simp; exact om359 this
theorem count_or {p q : Nat → Bool} : ∀ (l : List Nat), (∀ x ∈ l, p x = true → q x = true → False) → l.countP (fun x => p x || q x) = l.countP p + l.countP q
  | [], _ => rfl
  | a :: l, h => by
    rw [List.countP_cons, List.countP_cons, List.countP_cons, count_or l fun x hx => h x (.tail _ hx)]
    cases r : p a <;> cases t : q a <;> simp
    · exact om360
    · exact om361
    · exact (h a (.head _) r t).elim
theorem count_below (p : Nat → Bool) (i : Nat) : ∀ N, i ≤ N → (List.range N).countP (fun j => p j && decide (j < i)) = (List.range i).countP p := fun N h => by
  obtain ⟨k, rfl⟩ := Nat.exists_eq_add_of_le h
  clear h
  induction k with
  | zero =>
    refine List.countP_congr fun x hx => ?_
    have : x < i := List.mem_range.mp hx
    simp [this]
  | succ k ih =>
    rw [← Nat.add_assoc, List.range_succ, List.countP_append, ih, List.countP_cons, List.countP_nil]
    simp
theorem iord_refl : ∀ x : List Int, iord x x = .eq
  | [] => rfl
  | a :: x => by simp [iord, icmp, iord_refl x]
theorem iord_eq : ∀ {x y : List Int}, iord x y = .eq → x = y
  | [], [], _ => rfl
  | [], _ :: _, h => by simp [iord] at h
  | _ :: _, [], h => by simp [iord] at h
  | a :: x, b :: y, h => by
    simp only [iord, icmp] at h
    by_cases h1 : a < b
    · simp [h1, Ordering.then] at h
    · by_cases h2 : b < a
      · simp [h1, h2, Ordering.then] at h
      · have : a = b := by exact om362 h1 h2
        subst this
        simp [Ordering.then] at h
        rw [iord_eq h]
theorem order_refl : ∀ x : List UInt8, Builtin.Bytes.order x x = .eq
  | [] => rfl
  | a :: x => by
    show (if a < a then Ordering.lt else if a > a then .gt else Builtin.Bytes.order x x) = _
    rw [if_neg (by simp), if_neg (by simp), order_refl x]
theorem order_zeros : ∀ a b : Nat, Builtin.Bytes.order (List.replicate a 0) (List.replicate b 0) = icmp a b
  | 0, 0 => rfl
  | 0, b + 1 => by
    show Ordering.lt = _
    unfold icmp; rw [if_pos (by exact om363)]
  | a + 1, 0 => by
    show Ordering.gt = _
    unfold icmp; rw [if_neg (by exact om364), if_pos (by exact om363)]
  | a + 1, b + 1 => by
    show (if (0 : UInt8) < 0 then Ordering.lt else if (0 : UInt8) > 0 then .gt else Builtin.Bytes.order (List.replicate a 0) (List.replicate b 0)) = _
    rw [if_neg (by decide), if_neg (by decide), order_zeros a b]
    unfold icmp
    have e1 : ((a : Int) < b) ↔ (((a + 1 : Nat) : Int) < ((b + 1 : Nat) : Int)) := by exact om365
    have e2 : ((b : Int) < a) ↔ (((b + 1 : Nat) : Int) < ((a + 1 : Nat) : Int)) := by exact om365
    simp only [e1, e2]
/-- the order of the swapped rows is the order of their numbers -/
theorem out_order {width : Int} {x y : List UInt8} (hx : bswErr width x.length = none) (hy : bswErr width y.length = none) : Builtin.Bytes.order (bswOut width x) (bswOut width y) = iord (numsOf width x) (numsOf width y) := by
  have hz : width ≠ 0 := fun q => by unfold bswErr at hx; rw [if_pos q] at hx; cases hx
  by_cases hw : width < 0
  · unfold bswOut numsOf
    rw [if_pos (by exact om366 hw), if_pos (by exact om366 hw), if_pos hw, if_pos hw, order_zeros]
    simp [iord, icmp]
  · have hp : 0 < width := by exact om367 hz hw
    have hd : ∀ {z : List UInt8}, bswErr width z.length = none → z.length % width.toNat = 0 := fun {z} h => by
      unfold bswErr at h
      rw [if_neg hz] at h
      by_cases q : z.length % width.toNat = 0
      · exact q
      · rw [if_pos ⟨hp, q⟩] at h; cases h
    have h1 := Nat.div_mul_cancel (Nat.dvd_of_mod_eq_zero (hd hx))
    have h2 := Nat.div_mul_cancel (Nat.dvd_of_mod_eq_zero (hd hy))
    unfold bswOut numsOf
    rw [if_neg (by exact om75 hp), if_neg (by exact om75 hp), if_neg hw, if_neg hw]
    exact swap_order (by exact om368 hp) _ _ x y h1.symm h2.symm
section
variable {g : Bool} {width : Int} {rs : List (List UInt8 × Tok)}
abbrev numsAt (width : Int) (rs : List (List UInt8 × Tok)) (i : Nat) : List Int := numsOf width (rs.getD i ([], 0)).1
theorem nums_getD {i : Nat} (hi : i < rs.length) : (rs.map fun r => numsOf width r.1).getD i [] = numsAt width rs i := by
  unfold numsAt
  rw [List.getD_eq_getElem?_getD, List.getElem?_map, List.getElem?_eq_getElem hi, List.getD_eq_getElem?_getD, List.getElem?_eq_getElem hi]; rfl
theorem take_range {X : List (List Int)} {i : Nat} (hi : i ≤ X.length) : X.take i = (List.range i).map fun j => X.getD j [] := by
  refine List.ext_getElem (by simp; exact om369 hi) fun j h1 h2 => ?_
  have hj : j < X.length := by simp at h1; exact om370 h1
  simp [hj]
theorem rk_count (hok : ∀ j, j < rs.length → errOf width rs j = none) {i : Nat} (hi : i < rs.length) : rkOf g (rs.map fun r => numsOf width r.1) i = ((List.range rs.length).countP (fun j => ahead g (outOf width rs) j i) : Nat) := by
  have hl : (rs.map fun r => numsOf width r.1).length = rs.length := List.length_map _
  have od : ∀ a b, a < rs.length → b < rs.length → Builtin.Bytes.order (outOf width rs a) (outOf width rs b) = iord (numsAt width rs a) (numsAt width rs b) := fun a b ha hb => out_order (hok a ha) (hok b hb)
  have c1 : (List.range rs.length).countP (fun j => ahead g (outOf width rs) j i) = (List.range rs.length).countP (fun j => better g (outOf width rs j) (outOf width rs i) || (decide (outOf width rs j = outOf width rs i) && decide (j < i))) := by
    refine List.countP_congr fun j _ => ?_
    rw [ahead_iff]; simp
  rw [c1, count_or _ (fun j _ h1 h2 => by
    have h2 : outOf width rs j = outOf width rs i := by simp at h2; exact h2.1
    rw [h2, better_irr] at h1; cases h1), count_below _ i rs.length (Nat.le_of_lt hi)]
  have t1 : (rs.map fun r => numsOf width r.1) = (List.range rs.length).map fun j => (rs.map fun r => numsOf width r.1).getD j [] := by
    have := take_range (X := rs.map fun r => numsOf width r.1) (i := rs.length) (by rw [hl]; exact Nat.le_refl _)
    rw [← this, List.take_of_length_le (by rw [hl]; exact Nat.le_refl _)]
  have e1 : (((rs.map fun r => numsOf width r.1).take i).filter fun e => decide (e = (rs.map fun r => numsOf width r.1).getD i [])).length = (List.range i).countP fun j => decide (outOf width rs j = outOf width rs i) := by
    rw [take_range (by rw [hl]; exact om371 hi), List.filter_map, List.length_map, ← List.countP_eq_length_filter]
    refine List.countP_congr fun j hj => ?_
    have hj : j < rs.length := by have := List.mem_range.mp hj; exact om372 hi this
    simp only [Function.comp, nums_getD hj, nums_getD hi, decide_eq_true_iff]
    constructor
    · intro q
      have := od j i hj hi
      rw [q, iord_refl] at this
      have h2 := od i j hi hj
      rw [q, iord_refl] at h2
      exact blt_tot (by unfold blt; rw [this]; rfl) (by unfold blt; rw [h2]; rfl)
    · intro q
      have := od j i hj hi
      rw [q, order_refl] at this
      exact iord_eq this.symm
  have e2 : ((rs.map fun r => numsOf width r.1).filter fun e => if g then iord ((rs.map fun r => numsOf width r.1).getD i []) e == .lt else iord e ((rs.map fun r => numsOf width r.1).getD i []) == .lt).length = (List.range rs.length).countP fun j => better g (outOf width rs j) (outOf width rs i) := by
    conv => lhs; arg 1; arg 2; rw [t1]
    rw [List.filter_map, List.length_map, ← List.countP_eq_length_filter]
    refine List.countP_congr fun j hj => ?_
    have hj : j < rs.length := List.mem_range.mp hj
    simp only [Function.comp, nums_getD hj, nums_getD hi]
    unfold better blt
    cases g
    · simp only [Bool.false_eq_true, if_false]; rw [od j i hj hi]
    · simp only [if_true]; rw [od i j hi hj]
  unfold rkOf
  rw [e1, e2]
  exact om373
theorem ilt2_weak (f : Nat → Int) : Weak fun i j => ilt2 (f i, (i : Int)) (f j, (j : Int)) := weak_on (lt := ilt2) (f := fun i => (f i, (i : Int))) (fun x => by simp [ilt2]) (fun x y z => by simp only [ilt2]; intro p q; split at p <;> split at q <;> split <;> simp_all <;> omega) (fun x y z p => by simp only [ilt2] at p ⊢; split at p <;> split <;> split <;> simp_all <;> omega)
theorem ilt2_of {a b c d : Int} (h : a < c) : ilt2 (a, b) (c, d) = true := by
  unfold ilt2
  rw [if_neg (by simp; exact om374 h)]
  exact decide_eq_true h
theorem due_tops (hok : ∀ j, j < rs.length → errOf width rs j = none) (hN : 1 ≤ rs.length) (n : Nat) : Tops (ahead g (outOf width rs)) rs.length n ((rkPerm (rkOf g (rs.map fun r => numsOf width r.1)) rs.length).take n) := by
  have W := ilt2_weak (rkOf g (rs.map fun r => numsOf width r.1))
  obtain ⟨hp, pw⟩ := perm_pw W hN
  have nd : (rkPerm (rkOf g (rs.map fun r => numsOf width r.1)) rs.length).Nodup := hp.nodup_iff.mpr List.nodup_range
  refine Tops.take (ahead_strict g _) hp ((pw.and nd).imp_of_mem fun {x y} hx hy h => ?_) n
  have lx : x < rs.length := List.mem_range.mp (hp.mem_iff.mp hx)
  have ly : y < rs.length := List.mem_range.mp (hp.mem_iff.mp hy)
  rcases ahead_tot (g := g) (out := outOf width rs) h.2 with q | q
  · exact q
  · exfalso
    have hr : rkOf g (rs.map fun r => numsOf width r.1) y < rkOf g (rs.map fun r => numsOf width r.1) x := by
      rw [rk_count hok lx, rk_count hok ly]
      have := count_lt (p := fun j => ahead g (outOf width rs) j y) (q := fun j => ahead g (outOf width rs) j x) (List.range rs.length) (fun k _ hk => ahead_tr hk q) ⟨y, List.mem_range.mpr ly, q, ahead_irr y⟩
      exact om375 this
    have hc := ilt2_of (b := (y : Int)) (d := (x : Int)) hr
    rcases h.1 with r | ⟨r, _⟩
    · exact Bool.false_ne_true ((W.asym r).symm.trans hc)
    · exact Bool.false_ne_true (Eq.trans (Eq.symm r) hc)
end
end Mine
namespace Mine
open PySem PySem.Calls PyProof.Rows PySem.W
open Sem (wp)
/-! ## _law_due -/
inductive Due (g : Bool) (wish width : Int) (rs : List (List UInt8 × Tok)) (h₀ h : Heap) : Value → Prop
  | good (v l : Addr) (t : Tok) (P : List Pq) : ((dueLed g rs v l t (if wish ≤ 0 then 0 else (rs.length : Int)) P).map (·.1)).Nodup → (∀ p ∈ dueLed g rs v l t (if wish ≤ 0 then 0 else (rs.length : Int)) P, At h p.1 p.2) → (∀ p ∈ dueLed g rs v l t (if wish ≤ 0 then 0 else (rs.length : Int)) P, h₀.get? p.1 = none) → Tops (ahead g (outOf width rs)) rs.length wish.toNat (P.map (·.i)) → (1 ≤ wish → ∀ j, j < rs.length → errOf width rs j = none) → Due g wish width rs h₀ h (.ref v)
  | bad (v : Addr) (i : Nat) (cls : String) (t u : Tok) : At h v (.tup [.str (msgOf cls) t, .int ((i : Int) + 1) u]) → h₀.get? v = none → 1 ≤ wish → i < rs.length → (∀ j, j < i → errOf width rs j = none) → errOf width rs i = some cls → Due g wish width rs h₀ h (.ref v)
section
variable {prog : Program} {w : World} {A : Around} {E : Value → Shared → Prop} {s : Shared} {Q : Value → Shared → Prop}
set_option maxHeartbeats 4000000 in
theorem due_spec {G : Heap} {g : Bool} {wish width : Int} {tw twd : Tok} {rl : Addr} {rs : List (List UInt8 × Tok)} (B : Base G) (kg : G.StaysIn s.heap) (rm : Rm A 6) (hrl : At s.heap rl (.list (rowsOf rs))) (hN : 2 ≤ rs.length) (hN16 : rs.length ≤ 16) (hr : ∀ r ∈ rs, r.1.length ≤ 1000) (hw : -2 ≤ width ∧ width ≤ 4)
    (h : ∀ v s', Post G [] s s' → Due g wish width rs s.heap s'.heap v → Q v s') :
    wpAny (model prog w) A (call (.ref 116) [.bool g, .int wish tw, .ref rl, .int width twd]) Q E s := by
  refine enterC (i := 18) (cd := 115) (vals := [.bool g, .int wish tw, .ref rl, .int width twd]) (binds := [("greatest", .bool g), ("wish", .int wish tw), ("rows", .ref rl), ("width", .int width twd)]) B kg (B.fn (18, 116, 115, .none) (by decide)) rm [] (fun _ q => nomatch q) [(rl, .list (rowsOf rs))] (by simp) (fun p hp => by rw [List.mem_singleton.mp hp]; exact hrl) (fun doc pm an ct => rfl) ?_
  intro L A' Z X s₁ rm' hfc hZ F
  have hh : A'.handled = none := rm'.hh
  have rm' : Rm A' 4 := rm'.le (by decide)
  have F : Fx ⟨G, L, [], s⟩ _ [(L + 1 + 3, .cell none), (L + 1 + 2, .cell (some (.int width twd))), (L + 1 + 1, .cell (some (.ref rl))), (L + 1 + 0, .cell (some (.bool g))), (rl, .list (rowsOf rs))] s₁ := F
  have fce := hfc 3
  refine ec (wpAny_If (wpAny_isTrue_Compare1 (nmL F rfl (ci F fun _ s₂ F => PyProof.Rows.lt_int (wpAny_truthy_bool (split_bool (fun hb => ?_) fun hb => ?_))))))
  · have hb' : wish < 1 := of_decide_eq_true hb
    refine ec (wpAny_Return_some (Tuple_ (args_cons (List_ (args_nil (wpAny_newList ?_))))))
    have f1 := F.fresh_of (get?_size s₂.heap)
    refine args_cons (ci (F.pushS (tk := s₂.toks) "list" #[]) fun t s₃ F => args_nil ?_)
    have F2 := F.pushS (tk := s₃.toks) "tuple" #[.ref s₂.heap.objs.size, .int 0 t]
    have f2 := F.fresh_of (get?_size s₃.heap)
    have hc : (0 : Int) = if wish ≤ 0 then 0 else (rs.length : Int) := by rw [if_pos (by exact om250 hb')]
    rw [hc] at F2
    have F7 := F2.sublist (ℓ' := dueLed g rs s₃.heap.objs.size s₂.heap.objs.size t (if wish ≤ 0 then 0 else (rs.length : Int)) []) (.cons₂ _ (.cons₂ _ (List.nil_sublist _)))
    rw [hc]
    refine wpAny_newObj_type (hZ _ _ (h _ _ F7.post (.good _ s₂.heap.objs.size t [] F7.nd (fun p hp => (F7.led p hp).2) (allc f2 (allc f1 all0)) ⟨by rw [Int.toNat_of_nonpos (by exact om250 hb')]; simp, (fun i q => nomatch q), .nil, fun j _ _ i q => nomatch q⟩ fun q => by exact (om251 hb' q).elim))) (by size_fits)
  · have hb' : ¬ wish < 1 := of_decide_eq_false hb
    have h1 : 1 ≤ wish := by exact om252 hb'
    refine wpAny_execs_nil (ec (wpAny_For (Call_ (nmB B F rfl (PyProof.Rows.callWith_type1 (args_cons (nmC F rfl (.tail _ (.tail _ (.head _))) (args_nil (enumNew F (.tail _ (.tail _ (.tail _ (.tail _ (.head _))))) fun e it s₂ F fe fi => enumIter F ?_)))))))))
    refine aForT (fun n s' => ∃ (i : Nat) (old : Value) (m' : Str → Option Value), Fx ⟨G, L, [], s⟩ m' ((e, .enum it i old) :: (it, .liter rl i) :: (L + 1 + 3, .cell none) :: (L + 1 + 2, .cell (some (.int width twd))) :: (L + 1 + 1, .cell (some (.ref rl))) :: (L + 1 + 0, .cell (some (.bool g))) :: (rl, .list (rowsOf rs)) :: []) s' ∧ m' "wish" = some (.int wish tw) ∧ (∀ j, j < i → errOf width rs j = none) ∧ i ≤ rs.length ∧ n = rs.length - i) ?_ rs.length ⟨0, .none, _, F, rfl, (fun j q => absurd q (Nat.not_lt_zero _)), Nat.zero_le _, rfl⟩
    clear F
    rintro W D X n s₃ hW hD - ⟨i, old, m₃, F, k1, hok, hi, rfl⟩
    refine enumStep F (.tail _ (.tail _ (.tail _ (.tail _ (.head _))))) fe.own fi.own hh (fun x hx t a s₄ F fa => ?_) fun hx s₄ F => ?_
    · rw [List.getElem?_toArray, List.getElem?_map] at hx
      obtain ⟨r, hrr, rfl⟩ := Option.map_eq_some_iff.mp hx
      have hil := (List.getElem?_eq_some_iff.mp hrr).1
      have hrm := List.mem_of_getElem? hrr
      have herr : errOf width rs i = bswErr width r.1.length := by unfold errOf; rw [List.getD_eq_getElem?_getD, hrr]; rfl
      refine enumOwned F.swap fe.own fun s₅ F => ?_
      refine unpackT F (.tail _ (.head _)) hh rfl rfl fun s₆ F => ?_
      have F := F.drop2nd
      refine assignInOrder_cons (wpAny_assign_Name (stL F fun s₇ F => assignInOrder_cons (wpAny_assign_Name (stL F fun s₈ F => assignInOrder_nil ?_))))
      refine ec (wpAny_If (wpAny_isTrue_Compare1 (nmC F rfl (.tail _ (.tail _ (.tail _ (.head _)))) (ci F fun _ s₉ F => PyProof.Rows.eq_int (wpAny_truthy_bool (split_bool (fun hz => ?_) fun hz => ?_))))))
      · have hz' : width = 0 := by simpa using hz
        refine ec (wpAny_Return_some (Tuple_ (args_cons (wpAny_Constant_str (args_cons (wpAny_BinOp (nmL (F.toks _) rfl (ci (F.toks _) fun _ _ F => iAdd F fun u s₁₀ F => args_nil ?_))))))))
        have F2 := F.pushS (tk := s₁₀.toks) "tuple" #[.str "no width" s₉.toks, .int ((i : Int) + 1) u]
        refine wpAny_newObj_type (hW (.ret _) _ (hZ _ _ (h _ _ F2.post (.bad _ i "ValueError" s₉.toks u (F2.at (.head _)) (F.fresh_of (get?_size _)) h1 hil hok (by rw [herr]; unfold bswErr; rw [if_pos hz']))))) (by size_fits)
      · have hz' : width ≠ 0 := by simpa using hz
        refine wpAny_execs_nil ?_
        have cont : ∀ {s' : Shared} {m' : Str → Option Value}, Fx ⟨G, L, [], s⟩ m' ((e, .enum it ((i : Int) + 1) (.bytes r.1.toArray r.2)) :: (it, .liter rl (i + 1)) :: (L + 1 + 3, .cell none) :: (L + 1 + 2, .cell (some (.int width twd))) :: (L + 1 + 1, .cell (some (.ref rl))) :: (L + 1 + 0, .cell (some (.bool g))) :: (rl, .list (rowsOf rs)) :: []) s' → m' "wish" = some (.int wish tw) → errOf width rs i = none →
            W .next s' := fun F k1 he => by
          refine hW .next _ ⟨rs.length - (i + 1), by exact om85 hil, i + 1, _, _, F, k1, fun j hj => ?_, hil, rfl⟩
          rcases Nat.lt_succ_iff_lt_or_eq.mp hj with q | q
          · exact hok j q
          · rw [q]; exact he
        refine ec (wpAny_If (isTrue_and (wpAny_isTrue_Compare1 (nmC F rfl (.tail _ (.tail _ (.tail _ (.head _)))) (ci F fun _ s₁₀ F => PySem.P.gt_int (wpAny_truthy_bool (split_bool (fun hp => ?_) fun hp => ?_)))))))
        · have hp' : 0 < width := of_decide_eq_true hp
          have hmod : ((r.1.length : Nat) : Int).fmod width = ((r.1.length % width.toNat : Nat) : Int) := by
            obtain ⟨v, rfl⟩ := Int.eq_ofNat_of_zero_le (show 0 ≤ width by exact om253 hp')
            rw [Int.fmod_eq_emod_of_nonneg _ (by exact om26), Int.toNat_natCast]; rfl
          refine isTrue_and (wpAny_isTrue_Compare1 (wpAny_BinOp (Call_ (nmB B F rfl (callWith_builtin1 (args_cons (nmL F rfl (args_nil (lenB F (by have := hr r hrm; exact om24 this) fun _ s₁₁ F => nmC F rfl (.tail _ (.tail _ (.tail _ (.head _)))) (iMod F hz' fun _ s₁₂ F => ci F fun _ s₁₃ F => PySem.P.ne_int (wpAny_truthy_bool (split_bool (fun hm => ?_) fun hm => ?_))))))))))))
          · refine isTrue_and_nil ?_
            show wpAny _ _ (execs _ _) _ _ _
            refine ec (wpAny_Return_some (Tuple_ (args_cons (wpAny_Constant_str (args_cons (wpAny_BinOp (nmL (F.toks _) rfl (ci (F.toks _) fun _ _ F => iAdd F fun u s₁₄ F => args_nil ?_))))))))
            have F2 := F.pushS (tk := s₁₄.toks) "tuple" #[.str "not whole words" s₁₃.toks, .int ((i : Int) + 1) u]
            refine wpAny_newObj_type (hW (.ret _) _ (hZ _ _ (h _ _ F2.post (.bad _ i "IndexError" s₁₃.toks u (F2.at (.head _)) (F.fresh_of (get?_size _)) h1 hil hok ?_)))) (by size_fits)
            have hne : r.1.length % width.toNat ≠ 0 := fun q => by
              rw [hmod, q] at hm; simp at hm
            rw [herr]; unfold bswErr; rw [if_neg hz', if_pos ⟨hp', hne⟩]
          · rw [if_neg Bool.false_ne_true]
            refine wpAny_execs_nil (wpAny_execs_nil (cont F k1 ?_))
            rw [hmod] at hm
            have h0 : ((r.1.length % width.toNat : Nat) : Int) = 0 := by simpa using hm
            have h0' : r.1.length % width.toNat = 0 := by exact_mod_cast h0
            rw [herr]; unfold bswErr; rw [if_neg hz', if_neg (fun q => q.2 h0')]
        · rw [if_neg Bool.false_ne_true]
          refine wpAny_execs_nil (wpAny_execs_nil (cont F k1 ?_))
          rw [herr]; unfold bswErr; rw [if_neg hz', if_neg (fun q => of_decide_eq_false hp q.1)]
    · rw [List.getElem?_toArray, List.getElem?_map] at hx
      have hil : i = rs.length := by
        have := List.getElem?_eq_none_iff.mp (Option.map_eq_none_iff.mp hx)
        exact om86 hi this
      subst hil
      have F := F.tail.tail
      have F := F.br2.br3.br2
      refine hD _ (dueKeys (tw := tw) B rm' F fce.own k1 h1 hN hN16 hr hw hok fun l v t P s' Po nd hat hno hi => ?_)
      have hc : (rs.length : Int) = if wish ≤ 0 then 0 else (rs.length : Int) := by rw [if_neg (by exact om254 hb')]
      rw [hc] at nd hat hno
      exact hZ _ _ (h _ _ Po (.good v l t P nd hat hno (by rw [hi]; exact due_tops hok (by exact om220 hN) _) fun _ => hok))
end
end Mine
namespace Mine
open PySem PySem.Calls PyProof.Rows PySem.W
open Sem (wp)
/-! ## law: the compares -/
/-- a list of pairs, by the places -/
def PairsAre (h : Heap) (g : Bool) (rs : List (List UInt8 × Tok)) (idx : List Nat) (vs : List Value) : Prop := vs.length = idx.length ∧ ∀ (j i : Nat) (v : Value), idx[j]? = some i → vs[j]? = some v → ∃ (a : Addr) (t : Tok), v = Value.ref a ∧ At h a (pairKn g i t ((rowsOf rs).getD i .none))
theorem all_true (n : Nat) : ((List.range n).all fun _ => true) = true := List.all_eq_true.mpr fun _ _ => rfl
section
variable {A : Around} {s : Shared}
theorem eqAt_pair {g : Bool} {rs : List (List UInt8 × Tok)} {i : Nat} {a b : Addr} {t u : Tok} (hi : i < rs.length) (ha : At s.heap a (pairKn g i t ((rowsOf rs).getD i .none))) (hb : At s.heap b (pairKn g i u ((rowsOf rs).getD i .none))) (hu : A.units < cLine) : SeqAt.EqAt A s (.ref a) (.ref b) true := by
  obtain ⟨r, hr⟩ : ∃ r, rs[i]? = some r := ⟨_, List.getElem?_eq_getElem hi⟩
  have hrow : (rowsOf rs).getD i .none = .bytes r.1.toArray r.2 := by rw [List.getD_eq_getElem?_getD, List.getElem?_map, hr]; rfl
  rw [hrow] at ha hb
  by_cases q : a = b
  · subst q; exact SeqAt.EqAt.same _
  refine .of_refs q ?_
  have := SeqAt.RcAt.tuples (e := fun _ => true) (A := A) ha.isTuple hb.isTuple hu (fun j h1 h2 => ?_)
  · rw [all_true] at this; simpa using this
  · simp at h1
    rcases j with _ | _ | j
    · have := SeqAt.EqAt.int_int (A := A.in1) (s := s) (if g then (i : Int) else -(i : Int)) t (if g then (i : Int) else -(i : Int)) u
      rw [beq_self_eq_true] at this
      exact this
    · exact SeqAt.EqAt.same _
    · omega
theorem neLists {g : Bool} {rs : List (List UInt8 × Tok)} {idx : List Nat} {l b : Addr} {vs ws : List Value} (hl : At s.heap l (.list vs)) (hb : At s.heap b (.list ws)) (pv : PairsAre s.heap g rs idx vs) (pw : PairsAre s.heap g rs idx ws) (hi : ∀ i ∈ idx, i < rs.length) (hu : A.in1.units < cLine) (hu' : A.units < cLine) : SeqAt.RcNeAt A s (.ref l) (.ref b) false := by
  have := SeqAt.RcNeAt.lists (e := fun _ => true) hl.isList hb.isList (by simp; rw [pv.1, pw.1]) hu' fun j h1 h2 => ?_
  · rw [all_true] at this; simpa using this
  · have h1' : j < vs.length := by simpa using h1
    have h2' : j < ws.length := by simpa using h2
    have hj : j < idx.length := by rw [← pv.1]; exact h1'
    obtain ⟨a, t, e1, k1⟩ := pv.2 j idx[j] vs[j] (List.getElem?_eq_getElem hj) (List.getElem?_eq_getElem h1')
    obtain ⟨c, u, e2, k2⟩ := pw.2 j idx[j] ws[j] (List.getElem?_eq_getElem hj) (List.getElem?_eq_getElem h2')
    rw [List.getElem_toArray, List.getElem_toArray, e1, e2]
    exact eqAt_pair (hi _ (List.getElem_mem hj)) k1 k2 hu
end
end Mine
namespace Mine
open PySem PySem.Calls PyProof.Rows PySem.W
open Sem (wp)
section
variable {prog : Program} {w : World} {A : Around} {E : Value → Shared → Prop} {s : Shared} {I : Addr} {fp wr : List Addr} {G : Array GenState → Array GenState → Prop} {n : Nat} {P : Nat → Value → Prop} {St : Nat → Shared → Prop}
set_option maxHeartbeats 2000000 in
theorem listExt {S : Addr} {Q : Fin → Shared → Prop} (hT : s.TypeIs (.ref I) "list_iterator") (hne : S ≠ I) (hself : ∀ Q' : Value → Shared → Prop, Q' (.ref I) s → wpAny (model prog w) A (pyIter (.ref I)) Q' E s)
    (h : Q (.again (.builtin "list.extend.loop" ⟨[.ref S, .ref I, .none], []⟩)) s) : wpAny (model prog w) A (Builtin.List.listExtendWith (.ref S) (.ref I) .none) Q E s := by
  have h1 : Builtin.List.listSameRef (.ref S) (.ref I) = false := by simp [Builtin.List.listSameRef, hne]
  have f1 := PySem.F.nolen_li
  obtain ⟨id, hid, f4, f2⟩ : ∃ id, id = "list_iterator.__length_hint__" ∧ splitId id = some ("list_iterator", "__length_hint__") ∧ typeLookup (.type "list_iterator") "__length_hint__" = pure (some (.builtin id)) := ⟨_, rfl, by decide +kernel, PySem.F.hint_li⟩
  have f3 : isSubtype (.type "list_iterator") (.type "list_iterator") = pure true := by rw [isSubtype_type]; kernel_rfl
  unfold Builtin.List.listExtendWith
  refine wpAny_bind (wpAny_typeOf hT ?_)
  simp only [h1, Bool.false_or]
  rw [if_neg (by decide)]
  refine wpAny_bind (hself _ (wpAny_bind (wpAny_holding ?_)))
  unfold Builtin.List.listLengthHint
  repeat (any_goals (first | assumption | rw [f4] | wp_step))
  subst hid
  refine wpAny_pure ?_
  rw [if_neg (by decide)]
  exact wpAny_pure h
set_option maxHeartbeats 2000000 in
theorem call_list_li {Q : Value → Shared → Prop} (W : WalksS prog w A.in1.in1 I fp wr G n P St) (hT : ∀ i s, St i s → s.TypeIs (.ref I) "list_iterator") (hst : St 0 s) (hfp : ∀ b ∈ fp, b < s.heap.objs.size) (hI : I ∈ fp)
    (hQ : ∀ s' acc' c', Moved (s.heap.objs.size :: wr) G { s with heap := s.heap.push { cls := .type "list", data := .seq #[] } } s' →
      s'.heap.get? s.heap.objs.size = some { cls := .type "list", dict := none, data := .seq acc' c', slots := #[] } → ItemsOf P acc' n → Q (.ref s.heap.objs.size) s') (hn : n ≤ sizeLine := by size_fits) :
    wpAny (model prog w) A (call (.type "list") [.ref I]) Q E s := by
  have out : s.heap.objs.size ∉ fp := fun q => absurd (hfp _ q) (Nat.lt_irrefl _)
  have new : (s.heap.push { cls := .type "list", data := .seq #[] }).get? s.heap.objs.size = some { cls := .type "list", data := .seq #[] } := Heap.get?_push_size _ rfl
  refine callType_codes (Q₁ := fun obj s₁ => obj = .ref s.heap.objs.size ∧ s₁ = { s with heap := s.heap.push { cls := .type "list", data := .seq #[] } }) F.called_list (F.typeCall_list_1 _) F.entry_list_init (code_list_new _ ⟨rfl, rfl⟩) ?_
  rintro _ _ ⟨rfl, rfl⟩
  refine ⟨⟨_, new, rfl⟩, F.args_list_init_2 _ _, ?_⟩
  have empty := Heap.get?_update_self (Obj.mapSeq fun _ => (#[] : Array Value)) new rfl
  have rest : ∀ b o, b ≠ s.heap.objs.size → (s.heap.push { cls := .type "list", data := .seq #[] }).get? b = some o → ((s.heap.push { cls := .type "list", data := .seq #[] }).update s.heap.objs.size (Obj.mapSeq fun _ => (#[] : Array Value))).get? b = some o := fun b o hb e => (Heap.get?_update_other _ _ (Ne.symm hb)).trans e
  have st := W.frame 0 s ((s.heap.push { cls := .type "list", data := .seq #[] }).update s.heap.objs.size (Obj.mapSeq fun _ => (#[] : Array Value))) s.toks hst (Nat.le_refl _) fun b hb o e => rest b o (fun q => out (q ▸ hb)) (Heap.get?_push_of_some _ e)
  generalize hS : s.heap.objs.size = S at *
  unfold Builtin.«list.__init__» Builtin.List.listItems Builtin.List.listUpdate
  have fin := listExt (prog := prog) (w := w) (A := A.in1.in1) (E := fun _ _ => False) (S := S) (hT 0 _ st) (fun q => out (q ▸ hI)) (fun Q' hq => W.self 0 _ _ _ st hq) (Q := fun f s' => f = .again (.builtin "list.extend.loop" ⟨[.ref S, .ref I, .none], []⟩) ∧ s' = _) ⟨rfl, rfl⟩
  repeat (any_goals (first | assumption | refine wpAny_mono fin ?_ fun _ _ q => q.elim | wp_step))
  rintro _ _ ⟨rfl, rfl⟩
  refine ⟨plainId_quiet F.plain_extend_loop _, codeAny_extend_loopS W hn _ out _ n 0 _ _ _ rfl (Nat.zero_le _) st empty (ItemsOf.nil P) fun s' acc c hm hS' hacc => ⟨rfl, hQ s' acc c (Moved.trans W.gtrans ?_ hm) hS' hacc⟩⟩
  exact (Moved.refl W.grefl).then_heap (Nat.le_refl _) fun b o hb e => rest b o (fun q => hb (q ▸ .head _)) e
end
end Mine
namespace Mine
open PySem PySem.Calls PyProof.Rows PySem.W
open Sem (wp)
theorem walksFrom {prog : Program} {w : World} {A : Around} (hh : A.handled = none) (I ax : Addr) (hne : ax ≠ I) (items : Array Value) (k : Nat) (hk : k ≤ items.size) :
    Walks prog w A I [I, ax] [I] (items.size - k) (fun i v => items[k + i]? = some v) (fun i h => h.IsListIter I ax (k + i) ∧ h.IsList ax items) where
  sub := fun b hb => by simp at hb; simp [hb]
  frame := fun _ _ _ st hk => ⟨st.1.at fun o e => hk I (by simp) o e, st.2.at fun o e => hk ax (by simp) o e⟩
  item := fun i s Q E hi st hQ => by
    have hi' : k + i < items.size := by exact om255 hi
    refine wpAny_pyNext_list_item st.1 st.2 (x := items[k + i]) (by simp [hi']) fun h' hit' hs' => ?_
    exact hQ _ h' s.toks (by simp [hi']) ⟨hit', st.2.extBut hs'.extBut hne⟩ fun b o hb e => hs'.extBut b o (fun h => hb (by simp [h])) e
  done := fun s Q E st hQ => wpAny_pyNext_list_end hh st.1 st.2 (by simp; exact om256) fun h' he' => hQ h' s.toks fun b o hb e => he' b o (fun h => hb (by simp [h])) e
  self := fun _ _ _ _ st hQ => wpAny_pyIter_listiter st.1 hQ
section
variable {prog : Program} {w : World} {A : Around} {E : Value → Shared → Prop} {s : Shared} {c : Cx} {m : Str → Option Value} {ℓ : List (Addr × Kn)} {Q : Value → Shared → Prop}
/-- what a walk leaves in the ledger -/
theorem Fx.walked {it : Addr} {k : Kn} {items : List Value} (F : Fx c m ((it, k) :: ℓ) s) (fi : Fresh c it) {s' : Shared} {acc : Array Value} {c' : Nat} (hm : Moved [s.heap.objs.size, it] (fun a b => b = a) { s with heap := s.heap.push { cls := .type "list", data := .seq #[] } } s')
    (hD : s'.heap.get? s.heap.objs.size = some { cls := .type "list", dict := none, data := .seq acc c', slots := #[] }) (hacc : acc = items.toArray) : Fx c m ((s.heap.objs.size, .list items) :: ℓ) s' := by
  have F1 := F.pushS (tk := s.toks) "list" #[]
  have fD := F.new
  have nd := F1.nd
  rw [List.map_cons, List.map_cons, List.nodup_cons, List.nodup_cons] at nd
  have ow : ∀ a ∈ [s.heap.objs.size, it], Own c a ∧ a ≠ c.L ∧ a ∉ c.S := allc ⟨fD.own, F1.neL (.head _), fD.may.2⟩ (allc ⟨fi.own, F1.neL (.tail _ (.head _)), fi.may.2⟩ all0)
  refine F1.turnS (S := [s.heap.objs.size, it]) (fun a ha => ⟨(ow a ha).1, (ow a ha).2.1⟩) ⟨s'.heap, s'.toks, ?_⟩ (fun b o hb e => ⟨o, hm.heap b o hb e, .refl o⟩) (fun b o q => hm.heap b o (fun r => ?_) (F1.kg b o q)) (fun a ha q => absurd q (ow a ha).2.2) ?_ fun p hp => ?_
  · have h1 := hm.gens
    have h2 := hm.drawn
    have h3 := hm.os
    cases s'
    simp only at h1 h2 h3
    subst h1 h2 h3
    rfl
  · rw [(ow b r).1.off] at q; cases q
  · rw [List.map_cons, List.nodup_cons]
    exact ⟨fun q => nd.1 (.tail _ q), nd.2.2⟩
  · rcases List.mem_cons.mp hp with rfl | hp
    · exact .inr ⟨F1.neL (.head _), ⟨_, hD, rfl, _, by rw [hacc]⟩⟩
    · refine .inl ⟨.tail _ (.tail _ hp), fun q => ?_⟩
      rcases List.mem_cons.mp q with q | q
      · exact nd.1 (.tail _ (List.mem_map.mpr ⟨p, hp, q⟩))
      · exact nd.2.1 (List.mem_map.mpr ⟨p, hp, List.mem_singleton.mp q⟩)
theorem listFrom {it l : Addr} {vs : List Value} {k : Nat} (F : Fx c m ((it, .liter l k) :: ℓ) s) (hl : (l, Kn.list vs) ∈ ℓ) (fi : Fresh c it) (hh : A.handled = none) (hk : k ≤ vs.length) (hz : vs.length ≤ 64) (h : ∀ D s', Fx c m ((D, .list (vs.drop k)) :: ℓ) s' → Fresh c D → Q (.ref D) s') :
    wpAny (model prog w) A (call (.type "list") [.ref it]) Q E s := by
  have nd := F.nd
  rw [List.map_cons, List.nodup_cons] at nd
  have hne : l ≠ it := fun q => nd.1 (List.mem_map.mpr ⟨_, hl, q⟩)
  have al : ∀ b ∈ [it, l], b < s.heap.objs.size := allc (let ⟨_, e⟩ := F.alive _ (.head _); Heap.lt_size e) (allc (let ⟨_, e⟩ := F.alive _ (.tail _ hl); Heap.lt_size e) all0)
  refine call_list_li (walksFrom (A := A.in1.in1) hh it l hne vs.toArray k (by simpa using hk)).toS (fun i s st => ?_) ⟨(F.at (.head _)).isIter, (F.at (.tail _ hl)).isList⟩ al (.head _) (fun s' acc c' hm hD hacc => ?_) (by rw [sizeLine_eq]; simp; exact om257 hz)
  · obtain ⟨o, ho, hc, _⟩ := st.1
    exact ⟨o, ho, hc⟩
  · refine h _ s' (F.walked fi hm hD ?_) F.new
    refine Array.ext (by rw [hacc.1]; simp) fun j h1 h2 => ?_
    have := hacc.2 j acc[j] (by simp [h1])
    have h3 : k + j < vs.length := by simp at h2; exact om255 h2
    simp only [List.getElem?_toArray, List.getElem?_eq_getElem h3] at this
    simp only [List.getElem_toArray, List.getElem_drop]
    exact (Option.some.inj this).symm
theorem walksDone {it : Addr} {i : Nat} (hh : A.handled = none) : Walks prog w A it [it] [it] 0 (fun _ _ => False) (fun _ h => At h it (.lidone i)) where
  sub := fun b hb => hb
  frame := fun _ _ _ st hk => let ⟨o, e, q⟩ := st; ⟨o, hk it (.head _) o e, q⟩
  item := fun i s Q E hi st hQ => absurd hi (Nat.not_lt_zero _)
  done := fun s Q E st hQ => by
    refine nextBy fun _ _ _ k2 => ?_
    obtain ⟨o, ho, hc, hd⟩ := st
    have hT : s.TypeIs (.ref it) "list_iterator" := ⟨o, ho, hc⟩
    refine wpAny_callSpecial?_slot (name := Str.ofString "__next__") hT slot_listiter_next (wpAny_call_entry slot_listiter_next hT entry_listiter_next ?_ (args_listiter_next _))
    show wpAny _ _ (field (.ref it) 0 >>= _) _ _ s
    refine wpAny_bind (wpAny_field ho hd (x := .none) rfl ?_)
    rw [if_pos (by rfl)]
    refine wpAny_bind (wpAny_rule (wpAny_bind ?_))
    exact stopRule hh fun h' e hk hs => k2 e _ hs (hQ h' s.toks fun b o _ q => hk b o q)
  self := fun _ s Q E st hQ => by
    obtain ⟨o, ho, hc, hd⟩ := st
    have hT : s.TypeIs (.ref it) "list_iterator" := ⟨o, ho, hc⟩
    refine wpAny_pyIter_slot hT slot_listiter_iter (wpAny_call_entry slot_listiter_iter hT entry_listiter_iter ?_ (args_listiter_iter _))
    show wpAny _ _ (ret (.ref it)) _ _ s
    exact wpAny_pure ⟨_, rfl, "list_iterator", _, hT, slot_listiter_next.lookup, hQ⟩
theorem listDone {it : Addr} {i : Nat} (F : Fx c m ((it, .lidone i) :: ℓ) s) (fi : Fresh c it) (hh : A.handled = none) (h : ∀ D s', Fx c m ((D, .list []) :: ℓ) s' → Fresh c D → Q (.ref D) s') :
    wpAny (model prog w) A (call (.type "list") [.ref it]) Q E s := by
  have al : ∀ b ∈ [it], b < s.heap.objs.size := fun b hb => by
    rw [List.mem_singleton.mp hb]; obtain ⟨o, e⟩ := F.alive _ (.head _); exact Heap.lt_size e
  refine call_list_li (walksDone (A := A.in1.in1) (i := i) hh).toS (fun i s st => ?_) (F.at (.head _)) al (.head _) (fun s' acc c' hm hD hacc => ?_) (Nat.zero_le _)
  · obtain ⟨o, ho, hc, _⟩ := st
    exact ⟨o, ho, hc⟩
  · refine h _ s' (F.walked fi hm hD ?_) F.new
    exact Array.eq_empty_of_size_eq_zero hacc.1
end
end Mine
namespace Mine
open PySem PySem.Calls PyProof.Rows PySem.W
open Sem (wp)
/-- what `due` and `count` are -/
inductive DueV (g : Bool) (wish width : Int) (rs : List (List UInt8 × Tok)) : List (Addr × Kn) → Value → Int → Prop
  | good (l : Addr) (P : List Pq) : Tops (ahead g (outOf width rs)) rs.length wish.toNat (P.map (·.i)) → (1 ≤ wish → ∀ j, j < rs.length → errOf width rs j = none) → DueV g wish width rs ((l, .list (pqRefs P)) :: P.map (Pq.led g rs)) (.ref l) (if wish ≤ 0 then 0 else (rs.length : Int))
  | bad (i : Nat) (cls : String) (t : Tok) : 1 ≤ wish → i < rs.length → (∀ j, j < i → errOf width rs j = none) → errOf width rs i = some cls → DueV g wish width rs [] (.str (msgOf cls) t) ((i : Int) + 1)
section
variable {A : Around} {s : Shared}
theorem pairs_pq {g : Bool} {rs : List (List UInt8 × Tok)} {P : List Pq} {h : Heap} (hP : ∀ e ∈ P, At h (e.led g rs).1 (e.led g rs).2) : PairsAre h g rs (P.map (·.i)) (pqRefs P) := by
  refine ⟨by simp, fun j i v h1 h2 => ?_⟩
  rw [List.getElem?_map] at h1 h2
  obtain ⟨e, he, rfl⟩ := Option.map_eq_some_iff.mp h1
  rw [he] at h2
  injection h2 with h2
  exact ⟨e.a, e.t, h2.symm, hP e (List.mem_of_getElem? he)⟩
theorem pairs_as {g : Bool} {rs : List (List UInt8 × Tok)} {as : List (Addr × Tok)} {idx : List Nat} {h : Heap} (hp : ∀ p ∈ pl g (rowsOf rs) 0 as, At h p.1 p.2) (hi : ∀ i ∈ idx, i < as.length) : PairsAre h g rs idx (idx.map fun i => (refsOf as).getD i .none) := by
  refine ⟨by simp, fun j i v h1 h2 => ?_⟩
  rw [List.getElem?_map, h1] at h2
  injection h2 with h2
  have hil := hi i (List.mem_of_getElem? h1)
  have ha : as[i]? = some as[i] := List.getElem?_eq_getElem hil
  have := pl_at 0 as hp i as[i].1 as[i].2 ha
  rw [Nat.zero_add] at this
  refine ⟨as[i].1, as[i].2, ?_, this⟩
  rw [← h2]
  show (refsOf as).getD i .none = _
  rw [List.getD_eq_getElem?_getD, List.getElem?_map, ha]; rfl
theorem toldDue {g : Bool} {wish width cn : Int} {rs : List (List UInt8 × Tok)} {as : List (Addr × Tok)} {l : Addr} {v dv : Value} {k : Kn} {ℓd : List (Addr × Kn)} (hlen : as.length = rs.length) (hp : ∀ p ∈ pl g (rowsOf rs) 0 as, At s.heap p.1 p.2) (ad : Asked g wish width rs as l s.heap v k) (dd : DueV g wish width rs ℓd dv cn) (hd : ∀ p ∈ ℓd, At s.heap p.1 p.2) (hu : A.in1.units < cLine) (hu' : A.units < cLine) :
    SeqAt.RcNeAt A s v dv false ∧ ((∃ c : Nat, k = .liter l c ∧ cn = c ∧ c ≤ as.length) ∨ (k = .lidone as.length ∧ cn = as.length)) := by
  cases ad with
  | good D idx hD Tp ok =>
    cases dd with
    | good l' P Tp' ok' =>
      rw [hlen] at Tp
      have e := Tops.unique (ahead_strict g _) Tp Tp'
      refine ⟨neLists hD (hd _ (.head _)) (pairs_as hp fun i hi => by rw [hlen]; exact Tp.lt i hi) (by rw [e]; exact pairs_pq fun p hp => hd _ (.tail _ (List.mem_map.mpr ⟨p, hp, rfl⟩))) (fun i hi => Tp.lt i hi) hu hu', ?_⟩
      by_cases q : wish ≤ 0
      · rw [if_pos q, if_pos q]; exact .inl ⟨0, rfl, rfl, Nat.zero_le _⟩
      · rw [if_neg q, if_neg q]; exact .inr ⟨rfl, by rw [hlen]⟩
    | bad i cls t h1 hi hj he => rw [ok h1 i (by rw [hlen]; exact hi)] at he; cases he
  | bad i cls t h1 hi hj he =>
    cases dd with
    | good l' P Tp' ok' => rw [ok' h1 i (by rw [← hlen]; exact hi)] at he; cases he
    | bad i' cls' t' h1' hi' hj' he' =>
      have e : i = i' := by
        rcases Nat.lt_trichotomy i i' with q | q | q
        · rw [hj' i q] at he; cases he
        · exact q
        · rw [hj i' q] at he'; cases he'
      subst e
      rw [he] at he'
      injection he' with he'
      subst he'
      refine ⟨?_, .inl ⟨i + 1, rfl, by push_cast; rfl, by exact om84 hi⟩⟩
      have := SeqAt.RcNeAt.str_str (A := A) (s := s) (msgOf cls) t (msgOf cls) t'
      rwa [beq_self_eq_true] at this
end
end Mine
namespace Mine
open PySem PySem.Calls PyProof.Rows PySem.W
open Sem (wp)
section
variable {M : Model} {A : Around} {E : Value → Shared → Prop} {s : Shared} {env : Env}
theorem assignT {elts : List Expr} {x1} {tp : Pos} {value : Expr} {pos : Pos} {Q : Flow → Shared → Prop} (h : wpAny M A (eval value env) (fun v s₁ => wpAny M A (assign (.Tuple elts x1 tp) env v) (fun _ => Q .next) E s₁) E s)
    (hs : swapsWithSole [.Tuple elts x1 tp] value pos.line env = pure false := by rfl) (hw : swappedStores [.Tuple elts x1 tp] value env = pure none := by rfl) (he : (assignEach [.Tuple elts x1 tp] env).map (·.2) = [assign (.Tuple elts x1 tp) env] := by rfl) :
    wpAny M A (exec (.Assign [.Tuple elts x1 tp] value pos) env) Q E s := by
  refine wpAny_Assign_stores (wpAny_mono h (fun v s₁ h₁ => ?_) fun _ _ x => x) hs hw
  rw [he]
  exact h₁
end
section
variable {prog : Program} {w : World} {A : Around} {E : Value → Shared → Prop} {s : Shared} {m : Str → Option Value} {ℓ : List (Addr × Kn)} {G : Heap} {L : Addr} {S : List Addr} {s0 : Shared}
set_option maxHeartbeats 2000000 in
/-- due, count = _law_due(most, wished, texts, size) -/
theorem lawDue {g : Bool} {wish width : Int} {tw twd : Tok} {tl : Addr} {rs : List (List UInt8 × Tok)} {Q : Flow → Shared → Prop} (B : Base G) (rm : Rm A 6) (F : Fx ⟨G, L, S, s0⟩ m ℓ s) (hr : (tl, Kn.list (rowsOf rs)) ∈ ℓ) (hN : 2 ≤ rs.length) (hN16 : rs.length ≤ 16) (hrz : ∀ r ∈ rs, r.1.length ≤ 1000) (hw : -2 ≤ width ∧ width ≤ 4)
    (m1 : m "most" = some (.bool g)) (m2 : m "wished" = some (.int wish tw)) (m3 : m "texts" = some (.ref tl)) (m4 : m "size" = some (.int width twd))
    (h : ∀ ℓd dv cn t s', Fx ⟨G, L, S, s0⟩ (upd (upd m "due" dv) "count" (.int cn t)) (ℓd ++ ℓ) s' → DueV g wish width rs ℓd dv cn → wpS (model prog w) A (execs ((forBody 19 3).drop 1) (envC 19 L 123 122)) Q E s') :
    wpS (model prog w) A (execs (forBody 19 3) (envC 19 L 123 122)) Q E s := by
  have hh : A.handled = none := rm.hh
  refine sExecs (toS (assignT (Call_ (nmG B F rfl (callF (c := ⟨G, L, S, s0⟩) (i := 18) (cd := 115) (dV := .none) (B.fn (18, 116, 115, .none) (by decide)) (args_cons (nmL F m1 (args_cons (nmL F m2 (args_cons (nmL F m3 (args_cons (nmL F m4 (args_nil ⟨F.kg, due_spec B F.kg rm (F.at hr) hN hN16 hrz hw fun v s₁ P1 D => ?_⟩))))))))))))))
  cases D with
  | good v l t P nd hat hno Tp ok =>
    obtain ⟨F, _⟩ := F.grow P1 nd hat hno
    refine unpackT (its := [.ref l, .int (if wish ≤ 0 then 0 else (rs.length : Int)) t]) F (.head _) hh rfl rfl fun s₂ F => ?_
    refine assignInOrder_cons (wpAny_assign_Name (stL F fun s₃ F => assignInOrder_cons (wpAny_assign_Name (stL F fun s₄ F => assignInOrder_nil ?_))))
    exact h _ _ _ _ _ F.tail (.good l P Tp ok)
  | bad v i cls t u hat hno h1 hi hj he =>
    obtain ⟨F, _⟩ := F.grow (new := [(v, .tup [.str (msgOf cls) t, .int ((i : Int) + 1) u])]) P1 (by simp) (fun p hp => by rw [List.mem_singleton.mp hp]; exact hat) (fun p hp => by rw [List.mem_singleton.mp hp]; exact hno)
    refine unpackT (its := [.str (msgOf cls) t, .int ((i : Int) + 1) u]) F (.head _) hh rfl rfl fun s₂ F => ?_
    refine assignInOrder_cons (wpAny_assign_Name (stL F fun s₃ F => assignInOrder_cons (wpAny_assign_Name (stL F fun s₄ F => assignInOrder_nil ?_))))
    exact h [] _ _ _ _ F.tail (.bad i cls t h1 hi hj he)
end
end Mine
namespace Mine
open PySem PySem.Calls PyProof.Rows PySem.W
open Sem (wp)
theorem Fx.after2 {c : Cx} {m : Str → Option Value} {ℓ : List (Addr × Kn)} {s : Shared} {a b : Addr} {k k' j j' : Kn} (F : Fx c m ((a, k) :: (b, j) :: ℓ) s) (wa : Own c a) (wb : Own c b) {s' : Shared} (P : Post c.G [a, b] s s') (ha : At s'.heap a k') (hb : At s'.heap b j') : Fx c m ((a, k') :: (b, j') :: ℓ) s' := by
  have nd := F.nd
  rw [List.map_cons, List.map_cons, List.nodup_cons, List.nodup_cons] at nd
  refine F.turnS (S := [a, b]) (fun x hx => ?_) P.sh P.ext P.kg (fun x hx _ => P.sal x hx) F.nd fun p hp => ?_
  · rcases List.mem_cons.mp hx with rfl | hx
    · exact ⟨wa, F.neL (.head _)⟩
    · rw [List.mem_singleton.mp hx]; exact ⟨wb, F.neL (.tail _ (.head _))⟩
  · rcases List.mem_cons.mp hp with rfl | hp
    · exact .inr ⟨F.neL (.head _), ha⟩
    · rcases List.mem_cons.mp hp with rfl | hp
      · exact .inr ⟨F.neL (.tail _ (.head _)), hb⟩
      · refine .inl ⟨.tail _ (.tail _ hp), fun q => ?_⟩
        rcases List.mem_cons.mp q with q | q
        · exact nd.1 (.tail _ (List.mem_map.mpr ⟨p, hp, q⟩))
        · exact nd.2.1 (List.mem_map.mpr ⟨p, hp, List.mem_singleton.mp q⟩)
end Mine
namespace Mine
open PySem PySem.Calls PyProof.Rows PySem.W
open Sem (wp)
/-! ## a frame seen anew: what stands now and is not to be changed goes into the ground -/
theorem At.stays {h h' : Heap} {a : Addr} {k : Kn} (x : At h a k) (r : h.StaysIn h') : At h' a k := let ⟨o, e, q⟩ := x; ⟨o, r _ _ e, q⟩
theorem FnIs.stays {h h' : Heap} {i : Nat} {f cd : Addr} {dV : Value} (x : FnIs h i f cd dV) (r : h.StaysIn h') : FnIs h' i f cd dV :=
  let ⟨o, doc, pm, an, ct, ho, hd, hc⟩ := x; ⟨o, doc, pm, an, ct, r _ _ ho, hd, hc.keeps r⟩
theorem Base.stays {h h' : Heap} (x : Base h) (r : h.StaysIn h') : Base h' where
  g := let ⟨mg, a, b⟩ := x.g; ⟨mg, a.keeps r, b⟩
  b := let ⟨mg, a, b⟩ := x.b; ⟨mg, a.keeps r, b⟩
  lim := x.lim.keeps r
  fn := fun e he => (x.fn e he).stays r
  dflt := ⟨x.dflt.1.stays r, x.dflt.2.stays r⟩
theorem BaseL.stays {h h' : Heap} (x : BaseL h) (r : h.StaysIn h') (hn : h'.get? 96 = none) : BaseL h' where
  hd := x.hd.keeps r
  no := hn
  bl := let ⟨mg, a, b⟩ := x.bl; ⟨mg, a.keeps r, b.keeps r⟩
theorem TabOk.stays {h h' : Heap} {ps : Array Value} (T : TabOk h ps) (r : h.StaysIn h') : TabOk h' ps := ⟨T.tri, fun pos cv e => (T.codes pos cv e).keeps r⟩
theorem TabOk.hide {h : Heap} {ps : Array Value} (T : TabOk h ps) {H : List Addr} (hH : ∀ a ∈ H, ¬ h.CodeRec (.ref a) lamQ) : TabOk (hideAll h H) ps := ⟨T.tri, fun pos cv e => by
  have q := T.codes pos cv e
  obtain ⟨c, o, vs, t, rfl, e2, e3, e4⟩ := id q
  exact ⟨c, o, vs, t, rfl, hideAll_get _ e2 (fun r => hH c r q), e3, e4⟩⟩
theorem fd_noCode {h : Heap} {a : Addr} {cls : String} {x : Value} {i : Int} {t : Tok} {q : Str} (e : At h a (.fd cls #[x, .int i t])) : ¬ h.CodeRec (.ref a) q := fun r => by
  obtain ⟨o, ho, hc, hd⟩ := e
  obtain ⟨c, o', vs, t, e1, e2, e3, e4⟩ := r
  injection e1 with e1
  rw [← e1, ho] at e2
  injection e2 with e2
  rw [← e2, hd] at e3
  injection e3 with e3
  rw [← e3] at e4
  injection e4 with e4
  cases e4
theorem ns_noCode {h : Heap} {a : Addr} {m : Str → Option Value} {q : Str} (e : h.Ns a m) : ¬ h.CodeRec (.ref a) q := fun r => by
  obtain ⟨o, es, ep, ho, hd, _⟩ := e
  obtain ⟨c, o', vs, t, e1, e2, e3, e4⟩ := r
  injection e1 with e1
  rw [← e1, ho] at e2
  injection e2 with e2
  rw [← e2, hd] at e3
  cases e3
section
variable {G : Heap} {L : Addr} {S : List Addr} {s0 s : Shared} {m : Str → Option Value} {ℓ : List (Addr × Kn)}
theorem Fx.anew (F : Fx ⟨G, L, S, s0⟩ m ℓ s) {H : List Addr} (hL : L ∈ H) : Fx ⟨hideAll s.heap H, L, S, s0⟩ m ℓ s :=
  ⟨F.sh, fun _ _ e => of_hideAll _ e, F.ns, F.nd, F.led, F.ext, F.sal, hideAll_none _ hL, F.el⟩
theorem Fx.under (F : Fx ⟨G, L, S, s0⟩ m ℓ s) {H : List Addr} (hH : ∀ a ∈ H, G.get? a = none) : G.StaysIn (hideAll s.heap H) := fun b o e => hideAll_get _ (F.kg b o e) fun q => by
  rw [hH b q] at e; cases e
theorem Fresh.anew {h : Heap} {H : List Addr} {a : Addr} (f : Fresh ⟨G, L, S, s0⟩ a) (ha : a ∈ H) : Fresh ⟨hideAll h H, L, S, s0⟩ a := ⟨f.may, hideAll_none _ ha⟩
end
end Mine
namespace Mine
open PySem PySem.Calls PyProof.Rows PySem.W
open Sem (wp)
/-! ## law: or, compares on a clean stack; a tuple's iterator; what was told -/
section
variable {M : Model} {A : Around} {E : Value → Shared → Prop} {s : Shared} {env : Env}
theorem sOr {x : Expr} {rest : List Expr} {pos : Pos} {whole : Sem Value} {Q : Bool → Shared → Prop} (h : wpS M A (isTrue x env (eval x env)) (fun c s' => if c then Q true s' else wpS M A (isTrue (.BoolOp .Or rest pos) env whole) Q E s') E s) :
    wpS M A (isTrue (.BoolOp .Or (x :: rest) pos) env whole) Q E s := by
  show wpS M A (isTrue x env (eval x env) >>= fun c => _) Q E s
  refine sBind (sMono h (fun c s' h' => ?_) fun _ _ q => q)
  cases c with
  | false => exact h'
  | true => exact sPure h'
theorem sCompare1 {l r : Expr} {op : CmpOp} {pos : Pos} {whole : Sem Value} {Q : Bool → Shared → Prop}
    (h : wpS M A (eval l env) (fun a s₁ => wpAny M A (eval r env) (fun b s₂ => wpAny M A (compareOp op a b) (fun c s₃ => wpAny M A (truthy c) Q E s₃) E s₂) E s₁) E s)
    (hm : behindInMarks op r = false := by with_unfolding_all rfl) : wpS M A (isTrue (.Compare l [op] [r] pos) env whole) Q E s := by
  rw [isTrue_Compare1, markedBehindIn_of_false hm]
  refine sBind (sMono h (fun a s₁ h₁ => toS (wpAny_bind (wpAny_holding (wpAny_mono h₁ (fun b s₂ h₂ => ?_) fun _ _ q => q)))) fun _ _ q => q)
  exact wpAny_bind (wpAny_standAt (wpAny_bind (wpAny_operate' (wpAny_mono h₂ (fun c s₃ h₃ => wpAny_holding h₃) fun _ _ q => q))))
end
abbrev Kn.titer (t : Addr) (i : Nat) : Kn := .fd "tuple_iterator" #[.ref t, .int i 0]
section
variable {prog : Program} {w : World} {A : Around} {E : Value → Shared → Prop} {s : Shared} {c : Cx} {m : Str → Option Value} {ℓ : List (Addr × Kn)}
theorem tupIter {t : Addr} {its : List Value} {Q : Value → Shared → Prop} (F : Fx c m ℓ s) (ht : (t, Kn.tup its) ∈ ℓ) (h : ∀ TI s', Fx c m ((TI, .titer t 0) :: ℓ) s' → Fresh c TI → Q (.ref TI) s') : wpAny (model prog w) A (pyIter (.ref t)) Q E s :=
  wpAny_pyIter_tuple (F.at ht).isTuple (h _ _ (F.push _ (.titer t 0) ⟨rfl, rfl⟩) F.new)
theorem tupItem {t TI : Addr} {its : List Value} {i : Nat} {x : Value} {Q : Option Value → Shared → Prop} (F : Fx c m ((TI, .titer t i) :: ℓ) s) (ht : (t, Kn.tup its) ∈ ℓ) (ow : Own c TI) (hx : its[i]? = some x) (h : ∀ s', Fx c m ((TI, .titer t (i + 1)) :: ℓ) s' → Q (some x) s') : wpAny (model prog w) A (pyNext (.ref TI)) Q E s := by
  obtain ⟨o, ho, hc, hd⟩ := F.at (.head _)
  refine wpAny_pyNext_tuple_item ⟨o, ho, hc, hd⟩ (F.at (.tail _ ht)).isTuple (x := x) (by simpa using hx) fun h' hit hs => ?_
  obtain ⟨o', ho', hc', hd'⟩ := hit
  exact h _ (F.turn ow hs.extBut ⟨o', ho', hc', hd'⟩)
theorem tupEnd {t TI : Addr} {its : List Value} {i : Nat} {Q : Option Value → Shared → Prop} (F : Fx c m ((TI, .titer t i) :: ℓ) s) (ht : (t, Kn.tup its) ∈ ℓ) (fr : Fresh c TI) (hh : A.handled = none) (hx : its[i]? = none) (h : ∀ s', Fx c m ℓ s' → Q none s') : wpAny (model prog w) A (pyNext (.ref TI)) Q E s := by
  obtain ⟨o, ho, hc, hd⟩ := F.at (.head _)
  exact wpAny_pyNext_tuple_end hh ⟨o, ho, hc, hd⟩ (F.at (.tail _ ht)).isTuple (by simpa using hx) fun h' hs => h _ (F.drop1 fr hs)
end
theorem refs_range (as : List (Addr × Tok)) : (List.range as.length).map (fun i => (refsOf as).getD i .none) = refsOf as := by
  refine List.ext_getElem (by simp) fun j h1 h2 => ?_
  rw [List.getElem_map, List.getElem_range, List.getD_eq_getElem?_getD, List.getElem?_eq_getElem h2]
  rfl
section
variable {A : Around} {s : Shared}
theorem neSame {l b : Addr} {vs : List Value} (hl : At s.heap l (.list vs)) (hb : At s.heap b (.list vs)) (hr : ∀ v ∈ vs, ∃ a, v = Value.ref a) (hu : A.units < cLine) : SeqAt.RcNeAt A s (.ref l) (.ref b) false := by
  have := SeqAt.RcNeAt.lists (e := fun _ => true) hl.isList hb.isList rfl hu fun j h1 h2 => ?_
  · rw [all_true] at this; simpa using this
  · obtain ⟨a, ha⟩ := hr vs[j] (List.getElem_mem _)
    rw [List.getElem_toArray, ha]
    exact SeqAt.EqAt.same _
end
/-- what _law_asked has told, by the ledger -/
inductive ToldV (g : Bool) (wish width : Int) (rs : List (List UInt8 × Tok)) (as : List (Addr × Tok)) (l : Addr) : List (Addr × Kn) → Value → Kn → Prop
  | good (D : Addr) (idx : List Nat) : Tops (ahead g (outOf width rs)) as.length wish.toNat idx → (1 ≤ wish → ∀ j, j < as.length → errOf width rs j = none) → ToldV g wish width rs as l [(D, .list (idx.map fun i => (refsOf as).getD i .none))] (.ref D) (if wish ≤ 0 then .liter l 0 else .lidone as.length)
  | bad (i : Nat) (cls : String) (t : Tok) : 1 ≤ wish → i < as.length → (∀ j, j < i → errOf width rs j = none) → errOf width rs i = some cls → ToldV g wish width rs as l [] (.str (msgOf cls) t) (.liter l (i + 1))
section
variable {g : Bool} {wish width : Int} {rs : List (List UInt8 × Tok)} {as : List (Addr × Tok)} {l : Addr} {ℓv : List (Addr × Kn)} {v : Value} {k : Kn} {h : Heap} {c : Cx} {m m₀ : Str → Option Value} {ℓ ℓ₀ : List (Addr × Kn)} {s s' : Shared}
theorem ToldV.asked (x : ToldV g wish width rs as l ℓv v k) (hd : ∀ p ∈ ℓv, At h p.1 p.2) : Asked g wish width rs as l h v k := by
  cases x with
  | good D idx Tp ok => exact .good D idx (hd _ (.head _)) Tp ok
  | bad i cls t h1 hi hj he => exact .bad i cls t h1 hi hj he
theorem Asked.told (x : Asked g wish width rs as l s'.heap v k) (F : Fx c m ℓ s') (F₀ : Fx c m₀ ℓ₀ s) (hno : ∀ D, v = .ref D → s.heap.get? D = none) (al : ∀ p ∈ ℓ, ∃ o, s.heap.get? p.1 = some o) : ∃ ℓv, Fx c m (ℓv ++ ℓ) s' ∧ ToldV g wish width rs as l ℓv v k := by
  cases x with
  | good D idx hD Tp ok => exact ⟨_, (F.add F₀ (hno D rfl) al hD).1, .good D idx Tp ok⟩
  | bad i cls t h1 hi hj he => exact ⟨[], F, .bad i cls t h1 hi hj he⟩
end
end Mine
namespace Mine
open PySem PySem.Calls PyProof.Rows PySem.W
open Sem (wp)
/-! ## law: one turn -/
section
variable {prog : Program} {w : World} {A : Around} {E : Value → Shared → Prop} {s : Shared} {m : Str → Option Value} {ℓ : List (Addr × Kn)} {G : Heap} {L : Addr} {S : List Addr} {s0 : Shared}
/-- pairs = ..; stream = iter(pairs) -/
theorem lawPairs {g : Bool} {tl : Addr} {rows : List Value} {Q : Flow → Shared → Prop} (B : Base G) (rm : Rm A 6) (F : Fx ⟨G, L, S, s0⟩ m ℓ s) (hr : (tl, Kn.list rows) ∈ ℓ) (hz : rows.length ≤ 64) (m1 : m "most" = some (.bool g)) (m3 : m "texts" = some (.ref tl))
    (h : ∀ l as it s', as.length = rows.length → Fx ⟨G, L, S, s0⟩ (upd (upd m "pairs" (.ref l)) "stream" (.ref it)) ((it, .liter l 0) :: (l, .list (refsOf as)) :: (pl g rows 0 as ++ ℓ)) s' → Fresh ⟨G, L, S, s0⟩ it → wpS (model prog w) A (execs ((forBody 19 3).drop 3) (envC 19 L 123 122)) Q E s') :
    wpS (model prog w) A (execs ((forBody 19 3).drop 1) (envC 19 L 123 122)) Q E s := by
  refine sExecs (toS (wpAny_Assign_Name (Call_ (nmG B F rfl (callF (c := ⟨G, L, S, s0⟩) (i := 17) (cd := 110) (dV := .none) (B.fn (17, 111, 110, .none) (by decide)) (args_cons (nmL F m1 (args_cons (nmL F m3 (args_nil ⟨F.kg, pairs_spec B F.kg (rm.le (by decide)) (F.at hr) hz fun l as s₁ P hl nd hat hno => ?_⟩))))))))))
  obtain ⟨F, _⟩ := F.grow P nd hat hno
  refine stL F fun s₂ F => ?_
  refine sExecs (toS (wpAny_Assign_Name (Call_ (nmB B F rfl (callWith_builtin1 (args_cons (nmL F rfl (args_nil (callIter (iterL F (.head _) fun it s₃ F fi => stL F fun s₄ F => ?_))))))))))
  exact h l as it _ hl F fi
theorem ToldV.noCode {g : Bool} {wish width : Int} {rs : List (List UInt8 × Tok)} {as : List (Addr × Tok)} {l it : Addr} {ℓv : List (Addr × Kn)} {v : Value} {k : Kn} {h : Heap} {q : Str} (x : ToldV g wish width rs as l ℓv v k) (e : At h it k) : ¬ h.CodeRec (.ref it) q := by
  cases x with
  | good D idx Tp ok =>
    by_cases r : wish ≤ 0
    · rw [if_pos r] at e; exact fd_noCode e
    · rw [if_neg r] at e; exact fd_noCode e
  | bad i cls t h1 hi hj he => exact fd_noCode e
set_option maxHeartbeats 2000000 in
/-- told = _law_asked(most, wished, stream, size) -/
theorem lawTold {g : Bool} {wish width : Int} {tw twd : Tok} {it l TI tp : Addr} {ti : Nat} {as : List (Addr × Tok)} {rs : List (List UInt8 × Tok)} {ps : Array Value} {Q : Flow → Shared → Prop} (B : Base G) (BL : BaseL G) (T : TabOk G ps) (rm : Rm A 15) (hA : A.frames = some [envC 19 L 123 122])
    (F : Fx ⟨G, L, [96], s0⟩ m ((96, .ex (tabObj ps)) :: (it, .liter l 0) :: (l, .list (refsOf as)) :: (pl g (rowsOf rs) 0 as ++ ℓ)) s) (fi : Fresh ⟨G, L, [96], s0⟩ it) (hT : G.get? TI = none) (hTI : (TI, Kn.titer tp ti) ∈ ℓ)
    (hlen : as.length = rs.length) (hr : ∀ r ∈ rs, r.1.length ≤ 1000) (hN : 2 ≤ as.length) (hN16 : as.length ≤ 16) (hn : -100 ≤ wish ∧ wish ≤ 100) (hw : -2 ≤ width ∧ width ≤ 4)
    (m1 : m "most" = some (.bool g)) (m2 : m "wished" = some (.int wish tw)) (m3 : m "stream" = some (.ref it)) (m4 : m "size" = some (.int width twd))
    (h : ∀ G' ps' v k ℓv s', Base G' → BaseL G' → TabOk G' ps' → G.StaysIn G' → G'.get? TI = none → G'.get? it = none → Fx ⟨G', L, [96], s0⟩ (upd m "told" v) (ℓv ++ (96, .ex (tabObj ps')) :: (it, k) :: (l, .list (refsOf as)) :: (pl g (rowsOf rs) 0 as ++ ℓ)) s' → ToldV g wish width rs as l ℓv v k → wpS (model prog w) A (execs ((forBody 19 3).drop 4) (envC 19 L 123 122)) Q E s') :
    wpS (model prog w) A (execs ((forBody 19 3).drop 3) (envC 19 L 123 122)) Q E s := by
  have hkind : (envC 19 L 123 122).scope.kind ≠ .module := show (fdAt 19).scope.kind ≠ .module by decide
  refine sExecs (sAssign (sEvalCall (nmG B F rfl (sCallFn (by rfl) (evalArgs_plain (args_cons (nmL F m1 (args_cons (nmL F m2 (args_cons (nmL F m3 (args_cons (nmL F m4 (args_nil ⟨(B.fn (15, 101, 100, .none) (by decide)).isFn F.kg, ?_⟩))))))))))))))
  obtain ⟨f1, f2⟩ := F.frs (fr := []) (env := envC 19 L 123 122) (fun _ q => nomatch q) (fun _ q => nomatch q) hkind rfl
  have sub : List.Sublist ((96, Kn.ex (tabObj ps)) :: (it, .liter l 0) :: (l, .list (refsOf as)) :: pl g (rowsOf rs) 0 as) ((96, .ex (tabObj ps)) :: (it, .liter l 0) :: (l, .list (refsOf as)) :: (pl g (rowsOf rs) 0 as ++ ℓ)) := (((List.sublist_append_left _ _).cons₂ _).cons₂ _).cons₂ _
  refine askedIter (g := g) (wish := wish) (width := width) (it := it) (l := l) (as := as) (rs := rs) (ps := ps) B BL F.kg rm hA f1 f2 (T.stays F.kg) (F.nd.sublist (sub.map _)) (fun p hp => F.at (sub.subset hp)) fi.off hlen hr hN hN16 hn hw fun v k ps' s' P hat T' hit ad hno => ?_
  have F' := F.after2 (k' := .ex (tabObj ps')) (j' := k) ⟨.inl (.head _), BL.no⟩ fi.own P hat hit
  obtain ⟨ℓv, F3, tv⟩ := ad.told F' F hno (allc (F.alive (96, .ex (tabObj ps)) (.head _)) (allc (F.alive (it, .liter l 0) (.tail _ (.head _))) fun p hp => F.alive p (.tail _ (.tail _ hp))))
  have F3 := F3.anew (H := [L, 96, TI, it]) (.head _)
  have hH : ∀ a ∈ [L, 96, TI, it], G.get? a = none := allc F.gl (allc BL.no (allc hT (allc fi.off all0)))
  have st := F'.under hH
  have T2 : TabOk (hideAll s'.heap [L, 96, TI, it]) ps' := T'.hide (allc (ns_noCode F'.ns) (allc (tab_noCode hat T'.tri) (allc (fd_noCode (F'.at (.tail _ (.tail _ (.tail _ (List.mem_append_right _ hTI)))))) (allc (tv.noCode hit) all0))))
  refine stL F3 fun s₄ F4 => h _ ps' v k ℓv s₄ (B.stays st) (BL.stays st (hideAll_none _ (by simp))) T2 st (hideAll_none _ (by simp)) (hideAll_none _ (by simp)) F4 tv
end
end Mine
namespace Mine
open PySem PySem.Calls PyProof.Rows PySem.W
open Sem (wp)
section
variable {prog : Program} {w : World} {A : Around} {E : Value → Shared → Prop} {s : Shared} {m : Str → Option Value} {ℓ : List (Addr × Kn)} {G : Heap} {L : Addr} {S : List Addr} {s0 : Shared} {c : Cx}
/-- list(stream), wherever it stands -/
theorem listRest {it l : Addr} {vs : List Value} {k : Kn} {cc : Nat} {Q : Value → Shared → Prop} (F : Fx c m ((it, k) :: ℓ) s) (hl : (l, Kn.list vs) ∈ ℓ) (fi : Fresh c it) (hh : A.handled = none) (hz : vs.length ≤ 64) (hk : (k = .liter l cc ∧ cc ≤ vs.length) ∨ (k = .lidone vs.length ∧ cc = vs.length))
    (h : ∀ D s', Fx c m ((D, .list (vs.drop cc)) :: ℓ) s' → Fresh c D → Q (.ref D) s') : wpAny (model prog w) A (call (.type "list") [.ref it]) Q E s := by
  rcases hk with ⟨rfl, hc⟩ | ⟨rfl, rfl⟩
  · exact listFrom F hl fi hh hc hz h
  · exact listDone F fi hh fun D s' F' fD => h D s' (by rw [List.drop_length]; exact F') fD
set_option maxHeartbeats 1000000 in
/-- told != due or list(stream) != pairs[count:] -/
theorem lawIf1 {g : Bool} {wish width cn : Int} {tc : Tok} {it l : Addr} {k : Kn} {v dv : Value} {as : List (Addr × Tok)} {rs : List (List UInt8 × Tok)} {ℓv ℓd : List (Addr × Kn)} {Q : Flow → Shared → Prop} (B : Base G) (rm : Rm A 6)
    (F : Fx ⟨G, L, S, s0⟩ m ((it, k) :: ℓ) s) (fi : Fresh ⟨G, L, S, s0⟩ it) (hl : (l, Kn.list (refsOf as)) ∈ ℓ) (hpl : ∀ p ∈ pl g (rowsOf rs) 0 as, p ∈ ℓ) (hv : ∀ p ∈ ℓv, p ∈ ℓ) (hd : ∀ p ∈ ℓd, p ∈ ℓ) (tv : ToldV g wish width rs as l ℓv v k) (dd : DueV g wish width rs ℓd dv cn)
    (hlen : as.length = rs.length) (hN16 : as.length ≤ 16)
    (mt : m "told" = some v) (md : m "due" = some dv) (ms : m "stream" = some (.ref it)) (mp : m "pairs" = some (.ref l)) (mc : m "count" = some (.int cn tc))
    (h : ∀ s', Fx ⟨G, L, S, s0⟩ m ℓ s' → wpS (model prog w) A (execs ((forBody 19 3).drop 5) (envC 19 L 123 122)) Q E s') :
    wpS (model prog w) A (execs ((forBody 19 3).drop 4) (envC 19 L 123 122)) Q E s := by
  have hh : A.handled = none := rm.hh
  have hu' : A.units < cLine := rm.units
  have hu : A.in1.units < cLine := (rm.le (show 1 ≤ 6 by decide)).in1.units
  have hr : (refsOf as).length = as.length := List.length_map _
  obtain ⟨hne, hk⟩ := toldDue (A := A) hlen (fun p hp => F.at (.tail _ (hpl p hp))) (tv.asked fun p hp => F.at (.tail _ (hv p hp))) dd (fun p hp => F.at (.tail _ (hd p hp))) hu hu'
  obtain ⟨cc, rfl, hkk⟩ : ∃ cc : Nat, cn = (cc : Int) ∧ ((k = Kn.liter l cc ∧ cc ≤ (refsOf as).length) ∨ (k = Kn.lidone (refsOf as).length ∧ cc = (refsOf as).length)) := by
    rcases hk with ⟨c, h1, h2, h3⟩ | ⟨h1, h2⟩
    · exact ⟨c, h2, .inl ⟨h1, by rw [hr]; exact h3⟩⟩
    · exact ⟨as.length, h2, .inr ⟨by rw [hr]; exact h1, hr.symm⟩⟩
  refine sExecs (toS (wpAny_If (isTrue_or (wpAny_isTrue_Compare1 (nmL F mt (nmL F md (hne _ _ _ _ (wpAny_truthy_bool ?_))))))))
  rw [if_neg Bool.false_ne_true]
  refine isTrue_or (wpAny_isTrue_Compare1 (Call_ (nmB B F rfl (PyProof.Rows.callWith_type1 (args_cons (nmL F ms (args_nil (listRest F hl fi hh (by exact om247 hN16 hr) hkk fun D s₁ F1 fD => ?_))))))))
  refine Subscript_ (nmL F1 mp (fromOn (nmL F1 mc ?_)))
  have F2 := F1.pushE (tk := s₁.toks) (sliceOb (.int cc tc) .none)
  refine sliceFrom F2 (F2.at (.tail _ (.tail _ hl))) (F2.at (.head _)) (by exact om267 hN16 hr) fun D2 s₂ F2 fD2 => ?_
  have F3 := F2.drop2nd
  refine neSame (A := A) (F3.at (.tail _ (.head _))) (lstL (F3.at (.head _))) (fun x hx => ?_) hu' _ _ _ _ (wpAny_truthy_bool ?_)
  · obtain ⟨p, _, rfl⟩ := List.mem_map.mp (List.mem_of_mem_drop hx)
    exact ⟨_, rfl⟩
  rw [if_neg Bool.false_ne_true]
  refine isTrue_or_nil ?_
  rw [if_neg Bool.false_ne_true]
  exact wpAny_execs_nil (h _ F3.tail.tail)
set_option maxHeartbeats 2000000 in
/-- _law_asked(most, wished, pairs, size) != due or pairs != _law_pairs(most, texts) -/
theorem lawIf2 {g : Bool} {wish width cn : Int} {tw twd : Tok} {l tl TI tp : Addr} {ti : Nat} {dv : Value} {as : List (Addr × Tok)} {rs : List (List UInt8 × Tok)} {ps : Array Value} {ℓd : List (Addr × Kn)} {Q : Flow → Shared → Prop} (B : Base G) (BL : BaseL G) (T : TabOk G ps) (rm : Rm A 15) (hA : A.frames = some [envC 19 L 123 122])
    (F : Fx ⟨G, L, [96], s0⟩ m ((96, .ex (tabObj ps)) :: (l, .list (refsOf as)) :: (pl g (rowsOf rs) 0 as ++ ℓ)) s) (hT : G.get? TI = none) (hTI : (TI, Kn.titer tp ti) ∈ ℓ) (htl : (tl, Kn.list (rowsOf rs)) ∈ ℓ) (hd : ∀ p ∈ ℓd, p ∈ ℓ) (dd : DueV g wish width rs ℓd dv cn)
    (hlen : as.length = rs.length) (hr : ∀ r ∈ rs, r.1.length ≤ 1000) (hN : 2 ≤ as.length) (hN16 : as.length ≤ 16) (hn : -100 ≤ wish ∧ wish ≤ 100) (hw : -2 ≤ width ∧ width ≤ 4)
    (m1 : m "most" = some (.bool g)) (m2 : m "wished" = some (.int wish tw)) (m3 : m "pairs" = some (.ref l)) (m4 : m "size" = some (.int width twd)) (m5 : m "texts" = some (.ref tl)) (md : m "due" = some dv)
    (h : ∀ G' ps' s', Base G' → BaseL G' → TabOk G' ps' → G.StaysIn G' → G'.get? TI = none → Fx ⟨G', L, [96], s0⟩ m ((96, .ex (tabObj ps')) :: ℓ) s' → Q .next s') :
    wpS (model prog w) A (execs ((forBody 19 3).drop 5) (envC 19 L 123 122)) Q E s := by
  have hkind : (envC 19 L 123 122).scope.kind ≠ .module := show (fdAt 19).scope.kind ≠ .module by decide
  have hu' : A.units < cLine := rm.units
  have hu : A.in1.units < cLine := (rm.le (show 1 ≤ 15 by decide)).in1.units
  refine sExecs (sIf (sOr (sCompare1 (sEvalCall (nmG B F rfl (sCallFn (by rfl) (evalArgs_plain (args_cons (nmL F m1 (args_cons (nmL F m2 (args_cons (nmL F m3 (args_cons (nmL F m4 (args_nil ⟨(B.fn (15, 101, 100, .none) (by decide)).isFn F.kg, ?_⟩))))))))))))))))
  obtain ⟨f1, f2⟩ := F.frs (fr := []) (env := envC 19 L 123 122) (fun _ q => nomatch q) (fun _ q => nomatch q) hkind rfl
  have sub : List.Sublist ((96, Kn.ex (tabObj ps)) :: (l, .list (refsOf as)) :: pl g (rowsOf rs) 0 as) ((96, .ex (tabObj ps)) :: (l, .list (refsOf as)) :: (pl g (rowsOf rs) 0 as ++ ℓ)) := ((List.sublist_append_left _ _).cons₂ _).cons₂ _
  refine askedList (g := g) (wish := wish) (width := width) (l := l) (as := as) (rs := rs) (ps := ps) B BL F.kg rm hA f1 f2 (T.stays F.kg) (F.nd.sublist (sub.map _)) (fun p hp => F.at (sub.subset hp)) hlen hr hN hN16 hn hw fun v k ps' s' P hat T' ad hno => ?_
  have F' := F.after1 (k' := .ex (tabObj ps')) ⟨.inl (.head _), BL.no⟩ P hat
  obtain ⟨ℓv, F3, tv⟩ := ad.told F' F hno (allc (F.alive (96, .ex (tabObj ps)) (.head _)) fun p hp => F.alive p (.tail _ hp))
  have F3 := F3.anew (H := [L, 96, TI]) (.head _)
  have hH : ∀ a ∈ [L, 96, TI], G.get? a = none := allc F.gl (allc BL.no (allc hT all0))
  have st := F'.under hH
  have T2 : TabOk (hideAll s'.heap [L, 96, TI]) ps' := T'.hide (allc (ns_noCode F'.ns) (allc (tab_noCode hat T'.tri) (allc (fd_noCode (F'.at (.tail _ (.tail _ (List.mem_append_right _ hTI))))) all0)))
  have B' := B.stays st
  have BL' := BL.stays st (hideAll_none _ (by simp))
  have inℓ : ∀ p ∈ ℓ, p ∈ ℓv ++ (96, Kn.ex (tabObj ps')) :: (l, .list (refsOf as)) :: (pl g (rowsOf rs) 0 as ++ ℓ) := fun p hp => List.mem_append_right _ (.tail _ (.tail _ (List.mem_append_right _ hp)))
  have inp : ∀ p ∈ pl g (rowsOf rs) 0 as, p ∈ ℓv ++ (96, Kn.ex (tabObj ps')) :: (l, .list (refsOf as)) :: (pl g (rowsOf rs) 0 as ++ ℓ) := fun p hp => List.mem_append_right _ (.tail _ (.tail _ (List.mem_append_left _ hp)))
  have inl : (l, Kn.list (refsOf as)) ∈ ℓv ++ (96, Kn.ex (tabObj ps')) :: (l, .list (refsOf as)) :: (pl g (rowsOf rs) 0 as ++ ℓ) := List.mem_append_right _ (.tail _ (.head _))
  refine nmL F3 md ?_
  obtain ⟨hne, _⟩ := toldDue (A := A) hlen (fun p hp => F3.at (inp p hp)) (tv.asked fun p hp => F3.at (List.mem_append_left _ hp)) dd (fun p hp => F3.at (inℓ p (hd p hp))) hu hu'
  refine hne _ _ _ _ (wpAny_truthy_bool ?_)
  rw [if_neg Bool.false_ne_true]
  refine toS (isTrue_or (wpAny_isTrue_Compare1 (nmL F3 m3 (Call_ (nmG B' F3 rfl (callF (c := ⟨hideAll s'.heap [L, 96, TI], L, [96], s0⟩) (i := 17) (cd := 110) (dV := .none) (B'.fn (17, 111, 110, .none) (by decide)) (args_cons (nmL F3 m1 (args_cons (nmL F3 m5 (args_nil ⟨F3.kg, pairs_spec B' F3.kg (rm.le (by decide)) (F3.at (inℓ _ htl)) (by rw [List.length_map]; exact om268 hlen hN16) fun l2 as2 s₅ P2 hl2 nd2 hat2 hno2 => ?_⟩)))))))))))
  obtain ⟨F5, _⟩ := F3.grow P2 nd2 hat2 hno2
  have hl2' : as2.length = rs.length := by rw [hl2, List.length_map]
  have pa := pairs_as (g := g) (rs := rs) (idx := List.range as.length) (h := s₅.heap) (fun p hp => F5.at (List.mem_append_right _ (inp p hp))) fun i hi => List.mem_range.mp hi
  have pb := pairs_as (g := g) (rs := rs) (idx := List.range as2.length) (h := s₅.heap) (fun p hp => F5.at (List.mem_append_left _ (.tail _ hp))) fun i hi => List.mem_range.mp hi
  rw [refs_range, hlen] at pa
  rw [refs_range, hl2'] at pb
  refine neLists (A := A) (F5.at (List.mem_append_right _ inl)) (F5.at (List.mem_append_left _ (.head _))) pa pb (fun i hi => List.mem_range.mp hi) hu hu' _ _ _ _ (wpAny_truthy_bool ?_)
  rw [if_neg Bool.false_ne_true]
  refine isTrue_or_nil ?_
  rw [if_neg Bool.false_ne_true]
  have sub2 : List.Sublist ((96, Kn.ex (tabObj ps')) :: ℓ) (((l2, Kn.list (refsOf as2)) :: pl g (rowsOf rs) 0 as2) ++ (ℓv ++ (96, Kn.ex (tabObj ps')) :: (l, .list (refsOf as)) :: (pl g (rowsOf rs) 0 as ++ ℓ))) :=
    (((((List.sublist_append_right _ ℓ).cons _).cons₂ _).trans (List.sublist_append_right ℓv _))).trans (List.sublist_append_right _ _)
  exact toS (wpAny_execs_nil (toS (wpAny_execs_nil (h _ ps' _ B' BL' T2 st (hideAll_none _ (by simp)) (F5.sublist sub2)))))
end
end Mine
namespace Mine
open PySem PySem.Calls PyProof.Rows PySem.W
open Sem (wp)
section
variable {prog : Program} {w : World} {A : Around} {E : Value → Shared → Prop} {s : Shared} {m : Str → Option Value} {ℓ : List (Addr × Kn)} {G : Heap} {L : Addr} {S : List Addr} {s0 : Shared} {c : Cx}
/-- a sum of two lists -/
theorem addL {l b : Addr} {vs ws : List Value} {Q : Value → Shared → Prop} (F : Fx c m ℓ s) (hl : (l, Kn.list vs) ∈ ℓ) (hb : At s.heap b (.list ws)) (hz : vs.length + ws.length ≤ 200) (h : ∀ D s', Fx c m ((D, .lst (vs ++ ws) 0) :: ℓ) s' → Fresh c D → Q (.ref D) s') : wpAny (model prog w) A (binaryOp .Add (.ref l) (.ref b)) Q E s := by
  have tl := (F.at hl).isList.typeIs
  have tb := hb.isList.typeIs
  obtain ⟨o1, g1, k1, n1, d1⟩ := F.at hl
  obtain ⟨o2, g2, k2, n2, d2⟩ := hb
  cases o1
  cases o2
  simp only at k1 d1 k2 d2
  subst k1 d1 k2 d2
  refine concat_meets tl tb noFill_list_add seq_list_add PySem.F.slot_list_add PySem.F.entry_list_add (PySem.F.args_list_add_2 _ _) (list_addW l b vs.toArray ws.toArray n1 n2 _ _ _ _ (by rw [List.size_toArray, List.size_toArray, sizeLine_eq]; exact om269 hz)) ⟨g1, g2, ?_⟩
  rw [List.append_toArray]
  exact h _ _ (F.pushE _) F.new
set_option maxHeartbeats 2000000 in
/-- one turn of the law -/
theorem lawTurn {g : Bool} {wish width : Int} {tw twd : Tok} {tl TI tp : Addr} {ti : Nat} {its : List Value} {rs : List (List UInt8 × Tok)} {ps : Array Value} {Q : Flow → Shared → Prop} (B : Base G) (BL : BaseL G) (T : TabOk G ps) (rm : Rm A 15) (hA : A.frames = some [envC 19 L 123 122])
    (F : Fx ⟨G, L, [96], s0⟩ m ((96, .ex (tabObj ps)) :: (TI, .titer tp ti) :: (tp, .tup its) :: (tl, .list (rowsOf rs)) :: []) s) (hT : G.get? TI = none)
    (hN : 2 ≤ rs.length) (hN16 : rs.length ≤ 16) (hr : ∀ r ∈ rs, r.1.length ≤ 1000) (hn : -100 ≤ wish ∧ wish ≤ 100) (hw : -2 ≤ width ∧ width ≤ 4)
    (m1 : m "most" = some (.bool g)) (m2 : m "wished" = some (.int wish tw)) (m3 : m "texts" = some (.ref tl)) (m4 : m "size" = some (.int width twd))
    (h : ∀ G' ps' m' s', Base G' → BaseL G' → TabOk G' ps' → G.StaysIn G' → G'.get? TI = none → Fx ⟨G', L, [96], s0⟩ m' ((96, .ex (tabObj ps')) :: (TI, .titer tp ti) :: (tp, .tup its) :: (tl, .list (rowsOf rs)) :: []) s' → m' "wished" = some (.int wish tw) → m' "texts" = some (.ref tl) → m' "size" = some (.int width twd) → Q .next s') :
    wpS (model prog w) A (execs (forBody 19 3) (envC 19 L 123 122)) Q E s := by
  refine lawDue B (rm.le (by decide)) F (.tail _ (.tail _ (.tail _ (.head _)))) hN hN16 hr hw m1 m2 m3 m4 fun ℓd dv cn tc s₁ F dd => ?_
  refine lawPairs B (rm.le (by decide)) F (List.mem_append_right _ (.tail _ (.tail _ (.tail _ (.head _))))) (by rw [List.length_map]; exact om240 hN16) m1 m3 fun l as it s₂ hlen F fi => ?_
  have hlen : as.length = rs.length := by rw [hlen, List.length_map]
  have F : Fx ⟨G, L, [96], s0⟩ _ ((96, .ex (tabObj ps)) :: (it, .liter l 0) :: (l, .list (refsOf as)) :: (pl g (rowsOf rs) 0 as ++ (ℓd ++ [(TI, .titer tp ti), (tp, .tup its), (tl, .list (rowsOf rs))]))) s₂ := F.perm (by
    have := List.perm_middle (a := ((96, Kn.ex (tabObj ps)) : Addr × Kn)) (l₁ := (it, Kn.liter l 0) :: (l, .list (refsOf as)) :: (pl g (rowsOf rs) 0 as ++ ℓd)) (l₂ := [(TI, .titer tp ti), (tp, .tup its), (tl, .list (rowsOf rs))])
    simpa only [List.cons_append, List.append_assoc] using this.symm)
  refine lawTold (ti := ti) (tp := tp) B BL T rm hA F fi hT (List.mem_append_right _ (.head _)) hlen hr (by omega) (by omega) hn hw m1 m2 rfl m4 fun G' ps' v k ℓv s₃ B' BL' T' st hT' hi' F tv => ?_
  have fi : Fresh ⟨G', L, [96], s0⟩ it := ⟨fi.may, hi'⟩
  have F : Fx ⟨G', L, [96], s0⟩ _ ((it, k) :: (ℓv ++ ((96, Kn.ex (tabObj ps')) :: (l, .list (refsOf as)) :: (pl g (rowsOf rs) 0 as ++ (ℓd ++ [(TI, .titer tp ti), (tp, .tup its), (tl, .list (rowsOf rs))]))))) s₃ := F.perm (by
    have := List.perm_middle (a := ((it, k) : Addr × Kn)) (l₁ := ℓv ++ [(96, Kn.ex (tabObj ps'))]) (l₂ := (l, .list (refsOf as)) :: (pl g (rowsOf rs) 0 as ++ (ℓd ++ [(TI, .titer tp ti), (tp, .tup its), (tl, .list (rowsOf rs))])))
    simpa only [List.cons_append, List.append_assoc, List.nil_append] using this.symm)
  refine lawIf1 (tc := tc) B' (rm.le (by decide)) F fi (List.mem_append_right _ (.tail _ (.head _))) (fun p hp => List.mem_append_right _ (.tail _ (.tail _ (List.mem_append_left _ hp)))) (fun p hp => List.mem_append_left _ hp) (fun p hp => List.mem_append_right _ (.tail _ (.tail _ (List.mem_append_right _ (List.mem_append_left _ hp))))) tv dd hlen (by omega) rfl rfl rfl rfl rfl fun s₄ F => ?_
  have F := F.sublist (List.sublist_append_right ℓv _)
  refine lawIf2 (ti := ti) (tp := tp) (tl := tl) B' BL' T' rm hA F hT' (List.mem_append_right _ (.head _)) (List.mem_append_right _ (.tail _ (.tail _ (.head _)))) (fun p hp => List.mem_append_left _ hp) dd hlen hr (by omega) (by omega) hn hw m1 m2 rfl m4 m3 rfl fun G'' ps'' s₅ B'' BL'' T'' st' hT'' F => ?_
  exact h G'' ps'' _ s₅ B'' BL'' T'' (fun b o e => st' b o (st b o e)) hT'' (F.sublist ((List.sublist_append_right ℓd _).cons₂ _)) m2 m3 m4
end
end Mine
namespace Mine
open PySem PySem.Calls PyProof.Rows PySem.W
open Sem (wp)
theorem rowOf_le {width : Int} (n : Int) (hw : -2 ≤ width ∧ width ≤ 4) : (rowOf width n).length ≤ 1000 := by
  unfold rowOf
  rw [List.length_map, List.length_range]
  unfold rowLen
  have h1 : (n.fmod 3).toNat ≤ 2 := by have := Int.fmod_lt_of_pos n (b := 3) (by decide); exact om90 this
  have h2 : max 1 width.natAbs ≤ 4 := by exact om89 hw
  have h3 := Nat.mul_le_mul h2 h1
  split <;> omega
theorem bools_at {i : Nat} (h : i < 2) : ([.bool false, .bool true] : List Value)[i]? = some (.bool (decide (i = 1))) := by
  rcases i with _ | _ | i
  · rfl
  · rfl
  · exact (om270 h).elim
section
variable {prog : Program} {w : World} {A : Around} {E : Value → Shared → Prop} {s : Shared} {m : Str → Option Value} {ℓ : List (Addr × Kn)} {G : Heap} {L : Addr} {S : List Addr} {s0 : Shared} {c : Cx}
/-- size = (script + [4])[0] % 7 - 2 -/
theorem lawSize {sl : Addr} {ns : List (Int × Tok)} {Q : Flow → Shared → Prop} (B : Base G) (F : Fx ⟨G, L, S, s0⟩ m ℓ s) (hl : (sl, Kn.list (intsOf ns)) ∈ ℓ) (hz : ns.length ≤ 63) (m1 : m "script" = some (.ref sl))
    (h : ∀ width t s', -2 ≤ width ∧ width ≤ 4 → Fx ⟨G, L, S, s0⟩ (upd m "size" (.int width t)) ℓ s' → wpS (model prog w) A (execs ((fdAt 19).body.drop 1) (envC 19 L 123 122)) Q E s') :
    wpS (model prog w) A (execs (fdAt 19).body (envC 19 L 123 122)) Q E s := by
  refine sExecs (toS (wpAny_Assign_Name (wpAny_BinOp (wpAny_BinOp (Subscript_ (wpAny_BinOp (nmL F m1 (List_ (args_cons (ci F fun t₁ s₁ F => args_nil (wpAny_newList ?_)))))))))))
  have F1 := F.pushE (tk := s₁.toks) { cls := .type "list", data := .seq #[.int 4 t₁] }
  refine addL (ws := [.int 4 t₁]) F1 (.tail _ hl) (lstL (n := 0) (F1.at (.head _))) (by simp; exact om271 hz) fun D s₂ F2 fD => ?_
  obtain ⟨a, ta, h0⟩ : ∃ a ta, (intsOf ns ++ [.int 4 t₁])[0]? = some (.int a ta) := by
    cases ns with
    | nil => exact ⟨_, _, rfl⟩
    | cons p r => exact ⟨_, _, rfl⟩
  refine ci F2 fun t₂ s₃ F2 => subLx F2 (.head _) (by decide) (by decide) (v := .int a ta) (by simpa using h0) ?_
  refine ci F2 fun t₃ s₄ F2 => iMod F2 (by decide) fun t₄ s₅ F2 => ci F2 fun t₅ s₆ F2 => iSub F2 fun t₆ s₇ F2 => stL F2 fun s₈ F2 => ?_
  have h1 := Int.fmod_lt_of_pos a (b := 7) (by decide)
  have h2 := Int.fmod_nonneg_of_pos a (b := 7) (by decide)
  exact h _ _ _ (by exact om272 h1 h2) F2.tail.tail
set_option maxHeartbeats 1000000 in
/-- texts = _law_rows((script[1:] + [5, 241, 29])[:8], size) -/
theorem lawTexts {sl : Addr} {ns : List (Int × Tok)} {width : Int} {twd : Tok} {Q : Flow → Shared → Prop} (B : Base G) (rm : Rm A 6) (F : Fx ⟨G, L, S, s0⟩ m ℓ s) (hl : (sl, Kn.list (intsOf ns)) ∈ ℓ) (hz : ns.length ≤ 63) (hw : -2 ≤ width ∧ width ≤ 4) (m1 : m "script" = some (.ref sl)) (m2 : m "size" = some (.int width twd))
    (h : ∀ tl rs s', 3 ≤ rs.length → rs.length ≤ 8 → (∀ r ∈ rs, r.1.length ≤ 1000) → Fx ⟨G, L, S, s0⟩ (upd m "texts" (.ref tl)) ((tl, .list (rowsOf rs)) :: ℓ) s' → wpS (model prog w) A (execs ((fdAt 19).body.drop 2) (envC 19 L 123 122)) Q E s') :
    wpS (model prog w) A (execs ((fdAt 19).body.drop 1) (envC 19 L 123 122)) Q E s := by
  have hh : A.handled = none := rm.hh
  refine sExecs (toS (wpAny_Assign_Name (Call_ (nmG B F rfl (callF (c := ⟨G, L, S, s0⟩) (i := 14) (cd := 93) (dV := .none) (B.fn (14, 94, 93, .none) (by decide)) (args_cons (Subscript_ (wpAny_BinOp (Subscript_ (nmL F m1 (fromOn (ci F fun t₁ s₁ F => ?_))))))))))))
  have F1 := F.pushE (tk := s₁.toks) (sliceOb (.int ((1 : Nat) : Int) t₁) .none)
  refine sliceFrom (n := 1) F1 (F1.at (.tail _ hl)) (F1.at (.head _)) (by rw [List.length_map]; exact om273 hz) fun D s₂ F1 fD => ?_
  refine List_ (args_cons (ci F1 fun t₂ s₃ F1 => args_cons (ci F1 fun t₃ s₄ F1 => args_cons (ci F1 fun t₄ s₅ F1 => args_nil (wpAny_newList ?_)))))
  have F2 := F1.pushE (tk := s₅.toks) { cls := .type "list", data := .seq #[.int 5 t₂, .int 241 t₃, .int 29 t₄] }
  have F2 := F2.swap.toList
  refine addL (ws := [.int 5 t₂, .int 241 t₃, .int 29 t₄]) F2 (.head _) (lstL (n := 0) (F2.at (.tail _ (.head _)))) (by simp; exact om274 hz) fun D2 s₆ F3 fD2 => ?_
  refine upTo (ci F3 fun t₅ s₇ F3 => ?_)
  have F4 := F3.pushE (tk := s₇.toks) (sliceOb .none (.int ((8 : Nat) : Int) t₅))
  refine sliceTo (n := 8) F4 (lstL (F4.at (.tail _ (.head _)))) (F4.at (.head _)) (by simp; exact om275 hz) fun D3 s₈ F4 fD3 => ?_
  have e : (List.drop 1 (intsOf ns) ++ [Value.int 5 t₂, .int 241 t₃, .int 29 t₄]).take 8 = intsOf ((ns.drop 1 ++ [(5, t₂), (241, t₃), (29, t₄)]).take 8) := by
    simp [intsOf, List.map_take, List.map_drop]
  rw [e] at F4
  generalize hns : (ns.drop 1 ++ [(5, t₂), (241, t₃), (29, t₄)]).take 8 = ns2 at F4
  have hl2 : 3 ≤ ns2.length ∧ ns2.length ≤ 8 := by
    rw [← hns, List.length_take, List.length_append, List.length_drop]
    simp only [List.length_cons, List.length_nil]
    exact om276
  refine args_cons (nmL F4 m2 (args_nil ⟨F4.kg, rows_spec (ns := ns2) B F4.kg (rm.le (by decide)) (lstL (F4.at (.head _))) (by exact om277 hl2) hw fun l ts s₉ P hts hat hno => ?_⟩))
  obtain ⟨F5, _⟩ := F4.grow (new := [(l, .list (rowsOf ((ns2.map fun n => rowOf width n.1).zip ts)))]) P (by simp) (fun p hp => by rw [List.mem_singleton.mp hp]; exact hat) (fun p hp => by rw [List.mem_singleton.mp hp]; exact hno)
  have F5 : Fx ⟨G, L, S, s0⟩ m ((l, Kn.list (rowsOf ((ns2.map fun n => rowOf width n.1).zip ts))) :: _) s₉ := F5
  have F5 := F5.drop2nd.drop2nd.drop2nd.drop2nd.drop2nd.drop2nd
  have hrl : ((ns2.map fun n => rowOf width n.1).zip ts).length = ns2.length := by rw [List.length_zip, List.length_map, hts, Nat.min_self]
  refine stL F5 fun s₁₀ F5 => h l _ _ (by exact om279 hl2 hrl) (by exact om278 hl2 hrl) (fun r hr => ?_) F5
  have := (List.of_mem_zip (a := r.1) (b := r.2) hr).1
  obtain ⟨n, _, e2⟩ := List.mem_map.mp this
  rw [← e2]
  exact rowOf_le _ hw
/-- wished = (sum(script) + 3) % (len(texts) + 3) - 1 -/
theorem lawWish {sl tl : Addr} {ns : List (Int × Tok)} {rows : List Value} {Q : Flow → Shared → Prop} (B : Base G) (hh : A.handled = none) (F : Fx ⟨G, L, S, s0⟩ m ℓ s) (hl : (sl, Kn.list (intsOf ns)) ∈ ℓ) (ht : (tl, Kn.list rows) ∈ ℓ) (hz : rows.length ≤ 8) (m1 : m "script" = some (.ref sl)) (m2 : m "texts" = some (.ref tl))
    (h : ∀ wish t s', -100 ≤ wish ∧ wish ≤ 100 → Fx ⟨G, L, S, s0⟩ (upd m "wished" (.int wish t)) ℓ s' → wpS (model prog w) A (execs ((fdAt 19).body.drop 3) (envC 19 L 123 122)) Q E s') :
    wpS (model prog w) A (execs ((fdAt 19).body.drop 2) (envC 19 L 123 122)) Q E s := by
  refine sExecs (toS (wpAny_Assign_Name (wpAny_BinOp (wpAny_BinOp (wpAny_BinOp (Call_ (nmB B F rfl (callWith_builtin1 (args_cons (nmL F m1 (args_nil (sum_intListG (xs := ns.toArray) hh (by have := (F.at hl).isList; simpa [intItems] using this) fun h' tk t' hk => ?_))))))))))))
  have F := F.keep (tk := tk) hk
  refine ci F fun _ s₁ F => iAdd F fun _ s₂ F => wpAny_BinOp (Call_ (nmB B F rfl (callWith_builtin1 (args_cons (nmL F m2 (args_nil (lenL F ht (by rw [List.size_toArray]; exact om280 hz) fun _ s₃ F => ci F fun _ s₄ F => iAdd F fun _ s₅ F => iMod F ?_ fun _ s₆ F => ci F fun _ s₇ F => iSub F fun _ s₈ F => stL F fun s₉ F => h _ _ _ ?_ F)))))))
  · rw [List.size_toArray]; exact om281
  · have hp : (0 : Int) < (rows.toArray.size : Int) + 3 := by exact om282
    have h1 := Int.fmod_lt_of_pos (preSum (numAt ns.toArray) ns.toArray.size + 3) hp
    have h2 := Int.fmod_nonneg_of_pos (preSum (numAt ns.toArray) ns.toArray.size + 3) hp
    have h3 : rows.toArray.size = rows.length := List.size_toArray
    exact om283 hz h1 h2 h3
end
end Mine
namespace Mine
open PySem PySem.Calls PyProof.Rows PySem.W
open Sem (wp)
set_option maxHeartbeats 4000000 in
theorem lawSpec : LawSpec := by
  intro w G s sl ns B BL hf kg k96 ksl hne hz
  have rm : Rm callerA 16 := ⟨by decide, by decide, rfl⟩
  refine sEnterC (i := 19) (cd := 122) (dV := .none) (args := ⟨[.ref sl], []⟩) (binds := [("script", .ref sl)]) B kg hf rm [96] (allc ⟨BL.no, let ⟨o, e, _⟩ := k96; ⟨o, e⟩⟩ all0) [(96, .ex (tabObj #[])), (sl, .list (intsOf ns))] (by simp [Ne.symm hne]) (allc k96 (allc ksl all0)) (fun doc pm an ct => BindsTo.of_eq rfl) ?_
  intro L A' Z X₀ s₁ rm' hAe _ hZ _ F
  have F : Fx ⟨G, L, [96], s⟩ _ ((96, .ex (tabObj #[])) :: (sl, .list (intsOf ns)) :: []) s₁ := F
  have hA : A'.frames = some [envC 19 L 123 122] := by rw [hAe]; rfl
  have hh : A'.handled = none := rm'.hh
  refine lawSize B F (.tail _ (.head _)) hz rfl fun width twd s₂ hw F => ?_
  refine lawTexts B (rm'.le (by decide)) F (.tail _ (.head _)) hz hw rfl rfl fun tl rs s₃ h3 h8 hr F => ?_
  refine lawWish B hh F (.tail _ (.tail _ (.head _))) (.head _) (by rw [List.length_map]; exact h8) rfl rfl fun wish tw s₄ hn F => ?_
  have F := F.to2.drop2nd.swap
  refine sExecs (sFor (Tuple_ (args_cons (Constant_bool (args_cons (Constant_bool (args_nil ?_)))))))
  refine wpAny_newTuple ?_
  have F := F.pushS (tk := s₄.toks) "tuple" #[.bool false, .bool true]
  have F : Fx ⟨G, L, [96], s⟩ _ ((s₄.heap.objs.size, Kn.tup [.bool false, .bool true]) :: _) _ := F
  refine tupIter F (.head _) fun TI s₅ F fTI => ?_
  have F := F.br3
  refine codeSFor (fun n s' => ∃ (i : Nat) (G' : Heap) (ps : Array Value) (m' : Str → Option Value), Fx ⟨G', L, [96], s⟩ m' ((96, .ex (tabObj ps)) :: (TI, .titer s₄.heap.objs.size i) :: (s₄.heap.objs.size, .tup [.bool false, .bool true]) :: (tl, .list (rowsOf rs)) :: []) s' ∧ Base G' ∧ BaseL G' ∧ TabOk G' ps ∧ G.StaysIn G' ∧ G'.get? TI = none ∧ m' "wished" = some (.int wish tw) ∧ m' "texts" = some (.ref tl) ∧ m' "size" = some (.int width twd) ∧ i ≤ 2 ∧ n = 2 - i) ?_ 2 ⟨0, G, #[], _, F, B, BL, ⟨trivial, fun _ _ e => nomatch e⟩, (fun _ _ e => e), fTI.off, rfl, rfl, rfl, by decide, rfl⟩
  clear F
  rintro W D X n s₆ hW hD - ⟨i, G', ps, m', F, B', BL', T', st, hTI, k1, k2, k3, hi, rfl⟩
  by_cases q : i < 2
  · refine toS (tupItem F.swap (.tail _ (.head _)) ⟨.inr fTI.may, hTI⟩ (bools_at q) fun s₇ F => ?_)
    refine wpAny_assign_Name (stL F fun s₈ F => ?_)
    refine lawTurn B' BL' T' rm' hA F.swap hTI (by exact om285 h3) (by exact om284 h8) hr hn hw rfl k1 k2 k3 fun G2 ps2 m2 s₉ B2 BL2 T2 st2 hTI2 F2 j1 j2 j3 => ?_
    exact hW .next _ ⟨2 - (i + 1), by exact om287 q, i + 1, G2, ps2, m2, F2, B2, BL2, T2, (fun b o e => st2 b o (st b o e)), hTI2, j1, j2, j3, by exact om286 q, rfl⟩
  · have hi2 : i = 2 := by exact om288 hi q
    subst hi2
    refine toS (tupEnd F.swap (.tail _ (.head _)) ⟨fTI.may, hTI⟩ hh rfl fun s₇ F => ?_)
    refine hD _ (toS (ec (wpAny_Return_some (Constant_bool (hZ (.ret (.bool true)) _ ⟨rfl, ?_, ps, F.at (.head _)⟩)))))
    have P := F.post
    exact ⟨P.sh, fun b o e => P.kg b o (st b o e), P.ext, P.sal⟩
end Mine
namespace Mine
open PySem PySem.Calls PyProof.Rows PySem.W
open Sem (wp)
theorem le_of_pre {xs : List WData} (h : WTm.holds [] PySem.Challenge.rw_nq0137_01.pre { args := [.list xs] } = true) : xs.length ≤ 63 := by
  unfold WTm.holds OpenLaw.pre at h
  simp only [PySem.Challenge.rw_nq0137_01] at h
  by_cases q : xs.length ≤ 63
  · exact q
  · exfalso
    have e : less? (WData.int 63) (WData.int xs.length) = some true := by simp only [less?, Num.less?]; rw [decide_eq_true (show (63 : Int) < xs.length by exact om0 q)]
    simp [WTm.value, e] at h
theorem post_ok (xs : List WData) : PySem.Challenge.rw_nq0137_01.row.claim.post [WData.list xs] (WData.bool true) [WData.list xs] = true := by
  kernel_rfl
set_option maxHeartbeats 2000000 in
theorem head (spec : LawSpec) (said : PySem.Challenge.rw_nq0137_01.row.wellSaid = true) : PySem.Challenge.rw_nq0137_01.row.Holds := by
  have hch : chainsOk viewQ = true := by decide +kernel
  have bh := fun w => left.behind (XP := fun _ _ => True) (fun _ _ => trivial) hch w
  refine ⟨said, ⟨[.list []], by decide +kernel, by decide +kernel⟩, ⟨⟨rfl, rfl, rfl, rfl, rfl, by decide +kernel⟩, by decide +kernel, rfl⟩, ⟨[.list []], by decide +kernel, by decide +kernel⟩, fun w => ⟨(bh w).1, fun s' hs' => ?_⟩⟩
  refine Classical.byContradiction fun no => ?_
  obtain ⟨s₀, hf, hg0, s, hT, hz, hgens, hg, G, y⟩ := (bh w).2 s' hs'
  have hgens : s.gens = #[] := Array.eq_empty_of_size_eq_zero (beq_iff_eq.mp hgens)
  refine no ⟨s₀, hf, hg0, s, hT, fun n hn => ?_, (fun _ hx => nomatch hx), (fun _ hx => nomatch hx), fun args hpre hlay ord hord => ?_⟩
  all_goals clear no
  · obtain rfl : n = ("law" : Str) := List.mem_singleton.mp hn
    exact pinned_of_view hg G rfl rfl rfl
  have T := topIs hg G y
  refine Classical.byContradiction fun no => ?_
  have hsp := pre_splitW (r := PySem.Challenge.rw_nq0137_01.row.toRowW) hpre
  obtain ⟨⟨vs, s₁⟩, hlaid⟩ := Option.isSome_iff_exists.mp (layAllW_isSome (P := w.params) (ord := ord) (cl := classAt s.heap) (R := []) (fun c hc => nomatch hc) args _ s hsp.1)
  have keeps := layAllW_keeps _ _ _ hlaid
  have hal := layAllW_rest _ _ _ hlaid
  obtain ⟨as, hrd, hin, hold⟩ := reads_layAllW hord _ _ _ hlaid hlay s₁.heap fun _ _ e => e
  obtain ⟨d, r, rfl, hd, hr⟩ := hasAllW_cons hsp.1
  obtain rfl := hasAllW_nil hr
  obtain ⟨xs, rfl, hxs⟩ := hasW_list hd
  have hlen := le_of_pre hsp.2
  dsimp only at keeps hal hrd hold
  cases hrd with
  | cons r1 r2 =>
  rename_i vs' _ _ v
  cases r2
  cases r1 with
  | list k1 k2 k3 k4 =>
  rename_i sl ol its n bs
  obtain ⟨ns, e1, e2⟩ := ints_of k4 fun x hx => hasItemsW_at hxs x hx
  have hal96 : s₁.heap.get? 96 = some (tabObj #[]) := keeps _ _ T.tab.get
  have hsl : sl ≠ 96 := fun q => by
    rw [q, hal96] at k1
    injection k1 with k1
    rw [← k1] at k2
    cases k2
  have st : ∀ b o, s.heap.get? b = some o → b ≠ 96 → (hideAll s₁.heap [96]).get? b = some o := fun b o e hne => hideAll_get _ (keeps b o e) fun q => hne (List.mem_singleton.mp q)
  have BL : BaseL (hideAll s₁.heap [96]) := by
    obtain ⟨o, ws, f1, f2, f3, f4, f5, f6, f7, c1, c2⟩ := T.hd
    obtain ⟨bm, ob, b1, b2, b3, b4, b5, b6⟩ := T.blt
    exact ⟨⟨o, ws, f1, f2, f3, f4, f5, f6, f7, st _ _ c1 (by decide), c2⟩, hideAll_none _ (.head _), _, Ns.keeps' T.g st (by decide), bm, ob, b1, b2, b3, b4, st _ _ b5 b4, b6⟩
  have run := spec w (hideAll s₁.heap [96]) s₁ sl ns (T.b.keeps' st) BL (T.law.keeps st (by decide) (by decide)) (fun b o e => of_hideAll _ e) (At.of hal96) ⟨ol, k1, k2, n, by rw [k3, ← e1]⟩ hsl (by exact om1 hlen e2)
  have old : ∀ s', Post (hideAll s₁.heap [96]) [96] s₁ s' → (∃ ps, At s'.heap 96 (.ex (tabObj ps))) → ∀ b o, s₁.heap.get? b = some o → asItWas s₁.heap s'.heap b o := fun s' P hps b o e => by
    by_cases q : b = 96
    · obtain ⟨ps, hps⟩ := hps
      rw [q, hal96] at e
      injection e with e
      rw [q, ← e]
      obtain ⟨oc, ws, _, _, _, _, _, _, _, c1, c2, c3, c4, _⟩ := T.hd
      exact .inr (.inl ⟨⟨100, oc, ws, keeps _ _ c1, c2, c3, c4⟩, rfl, #[], ps, rfl, by rw [hps.get]; simp⟩)
    · exact .inl (P.kg b o (hideAll_get _ e fun r => q (List.mem_singleton.mp r)))
  obtain ⟨k, res, t', t'', hsched, hrun, hfo, hR⟩ := thread_clean (prog := PySem.Challenge.pw_nq0137_01) (w := w) (s := s₁) (t := (callStub ("law" : Str) [.ref sl]).cur) (R := fun r s' => r = .ok (.ret (.bool true)) ∧ Post (hideAll s₁.heap [96]) [96] s₁ s' ∧ ∃ ps, At s'.heap 96 (.ex (tabObj ps))) (Shared.asleep_of_life hal.2.2.2 hz) (by
    refine sBind (toS (wpAny_nsGet (T.g.keeps keeps) ?_))
    rw [T.name]
    refine sBind (sMono run (fun v s' hq => sPure ?_) fun _ _ q => q.elim)
    obtain ⟨rfl, P, hps⟩ := hq
    obtain ⟨h', tk, rfl⟩ := P.sh
    exact ⟨_, rfl, ⟨rfl, P, hps⟩, by show leftWithCleanup s₁.gens = false; rw [hal.1.trans hgens]; exact leftWithCleanup_false_of_bare AllBare.empty⟩)
  obtain ⟨rfl, P, hps⟩ := hR
  obtain ⟨eh, _, _, eo, _⟩ := Shared.forget_eq hfo
  have hos : t''.os = s.os := by
    rw [eo]
    obtain ⟨h', tk, e⟩ := P.sh
    rw [e]; exact hal.2.2.1
  have hlife : t''.heap.life = s.heap.life := (runN_life _ _ _ hrun).trans hal.2.2.2
  have O := old t' P hps
  rw [← eh] at O
  refine no ⟨[.ref sl], s₁, hlaid, k, _, t'', hsched, .inl ⟨.bool true, rfl, fun _ => rfl, ⟨.bool true, [.list xs], [], sl :: bs ++ [], .bool true, ?_, post_ok xs, fun _ => ⟨.nil, (fun _ q => nomatch q), fun _ q => nomatch q⟩, fun _ _ => ident_freeW (r := PySem.Challenge.rw_nq0137_01.row.toRowW) rfl rfl rfl _ _⟩, (fun _ q => nomatch q), fun b o e _ _ _ => O b o e, fun _ q => nomatch q⟩, fun _ i x hx => by rw [hgens] at hx; simp at hx, fun q => (nomatch q), by rw [hlife], Shared.rest_eq hos⟩
  refine .cons (.list ?_ k2 k3 ?_) .nil
  · rcases O _ _ k1 with q | ⟨_, q, _⟩ | ⟨_, q, _⟩
    · exact q
    · rw [k2] at q; cases q
    · rw [k2] at q; cases q
  · exact k4.keepsK fun b o e hc => by
      rcases O _ _ e with q | ⟨_, q, _⟩ | ⟨_, q, _⟩
      · exact q
      · exact absurd q hc
      · exact absurd q hc
theorem said : PySem.Challenge.rw_nq0137_01.wellSaid = true := by
  unfold OpenLaw.wellSaid OpenRow.wellSaid OpenRow.partSaid looksOpen
  repeat' (first | with_reducible apply look_both | decide +kernel)
theorem whole (spec : LawSpec) : PySem.Challenge.rw_nq0137_01.Holds := PySem.W.holds_law said fun h => head spec h
end Mine
set_option maxHeartbeats 8000000 in
theorem PySem.Challenge.cw_nq0137_01_holds : PySem.Challenge.rw_nq0137_01.Holds :=
  Mine.whole Mine.lawSpec
