import PyProof.Rows.All
import Wide.All
import OpenK.AllK
import Wide.FinOn
import Lean
import PySem.Challenge.RW_dn0038_10
set_option Elab.async false
set_option maxRecDepth 100000
set_option linter.all false
set_option maxHeartbeats 8000000
namespace Mine
open PySem PySem.W PySem.Calls PyProof.Rows PyProof.V PySem.Spec
open_top hd10 for PySem.Challenge.rw_dn0038_10
theorem oh1 {x0 x1 : Nat} (h0 : x0 ≤ 63) (h1 : x1 = x0 / 3) : x1 ≤ 21 := Nat.le_trans (Nat.le_of_eq h1) (Nat.div_le_div_right (c := 3) h0)
theorem oh2 {x2 : Int} {x1 : Nat} (h : x2 < (↑x1 : Int)) : (x2 - (0 : Int)).toNat ≤ x1 := Int.toNat_le.mpr (Int.le_of_lt (Int.lt_of_le_of_lt (Int.sub_le_self _ (Int.le_refl 0)) h))
theorem oh3 {x0 x1 : Nat} {x2 : Int} (h0 : x0 ≤ 63) (h1 : x1 = x0 / 3) (h2 : x2 < (↑x1 : Int)) : (3 : Int) * x2 ≤ 3 * 21 := Int.mul_le_mul_of_nonneg_left (Int.le_of_lt (Int.lt_of_lt_of_le h2 (Int.ofNat_le.mpr (oh1 h0 h1)))) (by decide)
theorem oh4 {x0 : Int} {x1 : Nat} (h0 : x0.toNat < x1) : x0 < (↑x1 : Int) := Int.lt_of_le_of_lt (Int.self_le_toNat x0) (Int.ofNat_lt.mpr h0)
theorem oh5 {a b c d : Nat} (h : d ≤ 20) (h0 : a + 20 * (b + 1) < c) : a + d + 20 * b < c := Nat.lt_of_le_of_lt (Nat.le_trans (Nat.le_of_eq (Nat.add_assoc a d _)) (Nat.add_le_add_left (Nat.le_trans (Nat.le_of_eq (Nat.add_comm _ _)) (Nat.add_le_add_left h _)) a)) h0
theorem oh6 {a b : Nat} (h : min (a + 1) b = 0) (hb : a < b) : False := Nat.lt_irrefl 0 (Nat.lt_of_lt_of_le (Nat.lt_min.mpr ⟨Nat.succ_pos a, Nat.zero_lt_of_lt hb⟩) (Nat.le_of_eq h))
theorem oh7 {a b : Int} {p : Prop} (h : a < b) (q : a = b) : p := absurd q (Int.ne_of_lt h)
theorem om0 {x0 : Nat} {x1 : Nat} {x2 : Nat} (h0 : x0 + (x1 + (1 : Nat)) < x2) : x0 < x2 := Nat.lt_of_le_of_lt (Nat.le_add_right _ _) h0
theorem om1 {x0 : Nat} {x1 : Nat} {x2 : Nat} (h0 : x0 + (x1 + (1 : Nat)) < x2) : x0 + (1 : Nat) + x1 < x2 := Nat.lt_of_le_of_lt (Nat.le_of_eq (Nat.add_right_comm x0 1 x1)) h0
theorem om2 {x0 : Nat} {x1 : Nat} {x2 : Nat} (h0 : x0 + (20 : Nat) * (x1 + (1 : Nat)) < x2) : x0 + (3 : Nat) + (20 : Nat) * x1 < x2 := oh5 (Nat.le_of_ble_eq_true rfl) h0
theorem om3 {x0 : Nat} {x1 : Nat} {x2 : Nat} {x3 : Nat} (h0 : x0 + (20 : Nat) * (x1 + (1 : Nat)) < x2) (h1 : x3 ≤ (4 : Nat)) : x0 + x3 + (20 : Nat) * x1 < x2 := oh5 (Nat.le_trans h1 (Nat.le_of_ble_eq_true rfl)) h0
theorem om4 {x0 : Nat} {x1 : Nat} {x2 : Nat} {x3 : Nat} (h0 : x0 ≤ x1) (h1 : x2 + x1 < x3) : x2 + x0 < x3 := Nat.lt_of_le_of_lt (Nat.add_le_add_left h0 _) h1
theorem om5 {x0 : Nat} {x1 : Nat} {x2 : Nat} {x3 : Nat} (h0 : x0 ≤ x1) (h1 : x2 + (20 : Nat) * x1 < x3) : x2 + (20 : Nat) * x0 < x3 := Nat.lt_of_le_of_lt (Nat.add_le_add_left (Nat.mul_le_mul_left 20 h0) _) h1
theorem om6 {x0 : Nat} (h0 : x0 < (2 : Nat) ^ (62 : Nat)) : (↑x0 : Int) < (2 : Int) ^ (63 : Nat) := by lia
theorem om7 {x0 : Int} (h0 : (0 : Int) ≤ x0) : ¬x0 < (0 : Int) := Int.not_lt.mpr h0
theorem om8 {x0 : Int} {x1 : Nat} {x2 : Nat} (h0 : x0 ≤ (↑x1 : Int)) (h1 : x2 = x1) : x0.toNat ≤ x2 := Nat.le_trans (Int.toNat_le.mpr h0) (Nat.le_of_eq h1.symm)
theorem om9 {x0 : Nat} (h0 : x0 ≤ (16777216 : Nat)) : (↑x0 : Int) ≤ (2 : Int) ^ (24 : Nat) := by lia
theorem om10 {x0 : Int} {x1 : Nat} (h0 : x0 ≤ (↑x1 : Int)) (h1 : (↑x1 : Int) ≤ (2 : Int) ^ (24 : Nat)) : x0 < (2 : Int) ^ (63 : Nat) := Int.lt_of_le_of_lt h0 (Int.lt_of_le_of_lt h1 (by decide))
theorem om11 {x0 : Nat} {x1 : Nat} (h0 : x0 < x1) : x0 + (1 : Nat) ≤ x1 := h0
theorem om12 {x0 : Nat} {x1 : Nat} {x2 : Int} (h0 : x0 = x1) (h1 : x2.toNat < x0) (h2 : (↑x1 : Int) ≤ (2 : Int) ^ (24 : Nat)) : x2 < (2 : Int) ^ (63 : Nat) := Int.lt_of_lt_of_le (oh4 (h0 ▸ h1)) (Int.le_trans h2 (by decide))
theorem om13 {x0 : Int} {x1 : Nat} (h0 : x0.toNat < x1) : x0 < (↑x1 : Int) := oh4 h0
theorem om14 {x0 : Nat} {x1 : Nat} (h0 : x0 < x1) : (0 : Int) < (↑x1 : Int) - (↑x0 : Int) := by lia
theorem om15 {x0 : Int} {x1 : Nat} : x0 + (↑x1 : Int) * (1 : Int) = x0 + (↑x1 : Int) := by lia
theorem om16 {x0 : Int} {x1 : Nat} : x0 + (↑x1 : Int) * (1 : Int) + (1 : Int) = x0 + ((↑x1 : Int) + (1 : Int)) * (1 : Int) := by lia
theorem om17 {x0 : Nat} {x1 : Nat} : (↑x0 : Int) - (↑x1 : Int) - (1 : Int) = (↑x0 : Int) - ((↑x1 : Int) + (1 : Int)) := by lia
theorem om18 {x0 : Nat} {x1 : Nat} (h0 : (0 : Nat) + x0 = x1) : x0 = x1 := (Nat.zero_add _).symm.trans h0
theorem om19 {x0 : Nat} {x1 : Nat} {x2 : Nat} (h0 : x0 + (1 : Nat) + x1 = x2) : x1 < x2 := by lia
theorem om20 {x0 : Nat} {x1 : Nat} {x2 : Nat} (h0 : x0 + (1 : Nat) + x1 = x2) : x0 + (x1 + (1 : Nat)) = x2 := by lia
theorem om21 {x0 : Nat} {x1 : Nat} (h0 : x0 ≤ x1 + (1 : Nat)) : x0 ≤ x1 + (1 : Nat) := h0
theorem om22 {x0 : Nat} {x1 : Nat} {x2 : Nat} (h0 : x0 ≤ (900 : Nat)) (h1 : x1 = x2) (h2 : x2 ≤ x0 + (1 : Nat)) : x1 ≤ (1000 : Nat) := by lia
theorem om23 {x0 : Nat} {x1 : Nat} (h0 : x0 < x1) : x0 ≤ (x0 + x1) / (2 : Nat) := (Nat.le_div_iff_mul_le Nat.two_pos).mpr (Nat.le_trans (Nat.le_of_eq (Nat.mul_two x0)) (Nat.add_le_add_left (Nat.le_of_lt h0) x0))
theorem om24 {x0 : Nat} {x1 : Nat} (h0 : x0 < x1) : (x0 + x1) / (2 : Nat) < x1 := Nat.div_lt_of_lt_mul (Nat.lt_of_lt_of_le (Nat.add_lt_add_right h0 x1) (Nat.le_of_eq (Nat.two_mul x1).symm))
theorem om25 : (0 : Int) ≤ (↑(2 : Nat) : Int) := Int.natCast_nonneg _
theorem om26 {x0 : Nat} {x1 : Nat} {x2 : Nat} (h0 : x0 ≤ x1) (h1 : x1 < x2) : x0 < x2 := Nat.lt_of_le_of_lt h0 h1
theorem om27 {x0 : Nat} (h0 : x0 ≤ (10000 : Nat)) : x0 < (2 : Nat) ^ (62 : Nat) := Nat.lt_of_le_of_lt h0 (by decide)
theorem om28 {x0 : Nat} : (0 : Nat) ≤ x0 := Nat.zero_le _
theorem om29 {x0 : Nat} : x0 ≤ x0 := Nat.le_refl _
theorem om30 {x0 : Nat} : ¬x0 < (0 : Nat) := Nat.not_lt_zero _
theorem om31 {x0 : Nat} {x1 : Nat} (h0 : x0 ≤ x1) : ¬x1 < x0 := Nat.not_lt.mpr h0
theorem om32 {x0 : Nat} {x1 : Nat} (h0 : x0 < x1) : (↑x0 : Int) < (↑x1 : Int) := Int.ofNat_lt.mpr h0
theorem om33 {x0 : Nat} {x1 : Nat} {x2 : Nat} (h0 : x0 ≤ x1) (h1 : x2 < x0) : x2 < x1 := Nat.lt_of_lt_of_le h1 h0
theorem om34 {x0 : Nat} : (0 : Int) ≤ (↑x0 : Int) := Int.natCast_nonneg _
theorem om35 {x0 : Nat} {x1 : Nat} (h0 : x0 ≤ (10000 : Nat)) (h1 : x1 < x0) : (↑x1 : Int) < (2 : Int) ^ (63 : Nat) := Int.lt_trans (Int.ofNat_lt.mpr (Nat.lt_of_lt_of_le h1 h0)) (by decide)
theorem om36 {x0 : Nat} {x1 : Nat} {x2 : Nat} (h0 : x0 + (x1 + (1 : Nat)) < x2) : x0 + (0 : Nat) < x2 := Nat.lt_of_le_of_lt (Nat.le_add_right _ _) h0
theorem om37 {x0 : Nat} {x1 : Nat} {x2 : Nat} (h0 : x0 + (20 : Nat) * (x1 + (1 : Nat)) < x2) : x0 + (20 : Nat) * (0 : Nat) < x2 := Nat.lt_of_le_of_lt (Nat.le_add_right _ _) h0
theorem om38 {x0 : Nat} {x1 : Nat} {x2 : Nat} (h0 : x0 ≤ x1) (h1 : x1 < x2) : x1 - x0 < x2 - x0 := Nat.sub_lt_sub_right h0 h1
theorem om39 {x0 : Nat} {x1 : Nat} (h0 : x0 ≤ x1) : x0 ≤ x1 := h0
theorem om40 {x0 : Nat} {x1 : Nat} (h0 : x0 < x1) : x0 ≤ x1 := Nat.le_of_lt h0
theorem om41 {x0 : Nat} {x1 : Nat} {x2 : Nat} (h0 : x0 ≤ x1) (h1 : x1 < x2) : x2 - (x1 + (1 : Nat)) < x2 - x0 := Nat.sub_lt_sub_left (Nat.lt_of_le_of_lt h0 h1) (Nat.lt_succ_of_le h0)
theorem om42 {x0 : Nat} {x1 : Nat} (h0 : x0 < x1 + (1 : Nat)) : x0 ≤ x1 := Nat.le_of_lt_succ h0
theorem om43 {x0 : Nat} {x1 : Nat} (h0 : ¬x0 < x1) : ¬(↑x0 : Int) < (↑x1 : Int) := by lia
theorem om44 {x0 : Nat} {x1 : Nat} (h0 : x0 ≤ x1) (h1 : ¬x0 < x1) : x0 = x1 := Nat.le_antisymm h0 (Nat.le_of_not_lt h1)
theorem om45 {x0 : Nat} {x1 : Nat} {x2 : Nat} (h0 : x0 + (x1 + (2 : Nat)) < x2) : x0 + (x1 + (1 : Nat)) < x2 := Nat.le_of_lt h0
theorem om46 {x0 : Nat} {x1 : Nat} {x2 : Nat} (h0 : x0 + (20 : Nat) * (x1 + (2 : Nat)) < x2) : x0 + (20 : Nat) * (x1 + (1 : Nat)) < x2 := Nat.lt_of_le_of_lt (Nat.add_le_add_left (Nat.mul_le_mul_left 20 (Nat.le_succ _)) _) h0
theorem om47 {x0 : Nat} {x1 : Nat} (h0 : x0 ≤ x1) : (↑x0 : Int) ≤ (↑x1 : Int) := Int.ofNat_le.mpr h0
theorem om48 {x0 : Nat} (h0 : x0 ≤ (10000 : Nat)) : x0 ≤ (16777216 : Nat) := Nat.le_trans h0 (by decide)
theorem om49 {x0 : Nat} : x0 ≤ x0 + (1 : Nat) := Nat.le_add_right _ _
theorem om50 {x0 : Nat} {x1 : Nat} {x2 : Nat} {x3 : Nat} (h0 : x0 ≤ x1 + x2) (h1 : x1 ≤ x3 + (1 : Nat)) : x0 ≤ x3 + (x2 + (1 : Nat)) := Nat.le_trans h0 (Nat.le_trans (Nat.add_le_add_right h1 x2) (Nat.le_of_eq (Nat.add_right_comm x3 1 x2)))
theorem om51 {x0 : Nat} {x1 : Nat} (h0 : x0 ≤ x1) : x0 ≤ x1 + (1 : Nat) := Nat.le_succ_of_le h0
theorem om52 {x0 : Nat} {x1 : Nat} {x2 : Nat} (h0 : x0 ≤ x1 + (1 : Nat) + x2) : x0 ≤ x1 + (x2 + (1 : Nat)) := by lia
theorem om53 {x0 : Nat} {x1 : Nat} (h0 : x0 + x1 ≤ (9000 : Nat)) : x1 ≤ (16777216 : Nat) := Nat.le_trans (Nat.le_add_left _ _) (Nat.le_trans h0 (Nat.le_of_ble_eq_true rfl))
theorem om54 {x0 : Nat} {x1 : Nat} (h0 : x0 + x1 ≤ (9000 : Nat)) : x0 ≤ (10000 : Nat) := Nat.le_trans (Nat.le_add_right _ _) (Nat.le_trans h0 (Nat.le_of_ble_eq_true rfl))
theorem om55 {x0 : Nat} {x1 : Nat} (h0 : x0 + x1 ≤ (9000 : Nat)) : x1 < (2 : Nat) ^ (62 : Nat) := by lia
theorem om56 {x0 : Nat} {x1 : Nat} {x2 : Nat} {x3 : Nat} {x4 : Nat} (h0 : x0 + x1 ≤ (9000 : Nat)) (h1 : x2 ≤ x3 + min x4 x1) (h2 : x3 ≤ x0 + (1 : Nat)) : x2 ≤ (10000 : Nat) := Nat.le_trans h1 (Nat.le_trans (Nat.add_le_add h2 (Nat.min_le_right _ _)) (Nat.le_trans (Nat.le_of_eq (Nat.add_right_comm x0 1 x1)) (Nat.le_trans (Nat.succ_le_succ h0) (Nat.le_of_ble_eq_true rfl))))
theorem om57 {x0 : Nat} {x1 : Nat} (h0 : x0 + x1 ≤ (9000 : Nat)) : x0 ≤ (9000 : Nat) - x1 := Nat.le_sub_of_add_le h0
theorem om58 {x0 : Nat} {x1 : Nat} {x2 : Nat} {x3 : Nat} (h0 : x0 + x1 ≤ (9000 : Nat)) (h1 : x2 ≤ (9000 : Nat) - x1 + min x3 x1) : x2 ≤ (16777216 : Nat) := Nat.le_trans h1 (Nat.le_trans (Nat.add_le_add (Nat.sub_le _ _) (Nat.le_trans (Nat.min_le_right _ _) (Nat.le_trans (Nat.le_add_left _ _) h0))) (Nat.le_of_ble_eq_true rfl))
theorem om59 {x0 : Nat} (h0 : x0 ≤ (1000 : Nat)) : x0 ≤ (16777216 : Nat) := Nat.le_trans h0 (by decide)
theorem om60 {x0 : Nat} {x1 : Nat} {x2 : Nat} {x3 : Nat} {x4 : Nat} (h0 : x0 ≤ x1) (h1 : x2 ≤ x3) (h2 : x4 + (1 : Nat) + x3 = x0) : x2 ≤ x1 := Nat.le_trans h1 (Nat.le_trans (Nat.le_add_left _ _) (Nat.le_trans (Nat.le_of_eq h2) h0))
theorem om61 {x0 : Nat} {x1 : Nat} (h0 : x0 + (1 : Nat) < x1) : x0 < x1 := Nat.le_of_lt h0
theorem om62 {x0 : Nat} {x1 : Nat} : x0 + x1 = x1 + x0 := Nat.add_comm _ _
theorem om63 {x0 : Nat} {x1 : Nat} {x2 : Nat} : x0 + (x1 + x2) = x0 + x1 + x2 := by lia
theorem om64 {x0 : Nat} : (1 : Nat) + x0 = x0 + (1 : Nat) := Nat.add_comm _ _
theorem om65 {x0 : Nat} {x1 : Nat} (h0 : x0 ≤ (1000 : Nat)) (h1 : x1 ≤ x0) : x1 < (2 : Nat) ^ (62 : Nat) := by lia
theorem om66 {x0 : Nat} : (1 : Int) ≤ (↑x0 : Int) + (1 : Int) := by lia
theorem om67 {x0 : Nat} : ((-1 : Int) + ((↑x0 : Int) + (1 : Int))).toNat = x0 := congrArg Int.toNat ((Int.add_comm _ _).trans (Int.add_neg_cancel_right _ _))
theorem om68 {x0 : Nat} {x1 : Nat} {x2 : Nat} {x3 : Nat} (h0 : x0 + (x1 - x2) ≤ x3) (h1 : x2 < x1) : x0 + (x1 - (x2 + (1 : Nat))) < x3 := Nat.lt_of_lt_of_le (Nat.add_lt_add_left (Nat.sub_lt_sub_left h1 (Nat.lt_succ_self _)) x0) h0
theorem om69 {x0 : Nat} {x1 : Nat} (h0 : x0 ≤ (1000 : Nat)) (h1 : x1 + (1 : Nat) ≤ x0) : x1 < (16777216 : Nat) := Nat.lt_of_lt_of_le h1 (Nat.le_trans h0 (Nat.le_of_ble_eq_true rfl))
theorem om70 {x0 : Nat} {x1 : Nat} (h0 : x0 ≤ (1000 : Nat)) (h1 : x1 + (1 : Nat) ≤ x0) : x1 ≤ (16777215 : Nat) := by lia
theorem om71 {x0 : Nat} {x1 : Nat} {x2 : Nat} {x3 : Nat} (h0 : x0 + (x1 - x2) ≤ x3) : x0 ≤ x3 := Nat.le_of_add_right_le h0
theorem om72 {x0 : Nat} {x1 : Nat} (h0 : x0 + (1 : Nat) ≤ x1) : x0 ≤ x1 := Nat.le_of_lt h0
theorem om73 {x0 : Nat} : (0 : Nat) + x0 = x0 := Nat.add_comm _ _
theorem om74 {x0 : Nat} {x1 : Nat} {x2 : Nat} (h0 : x0 ≤ (1000 : Nat)) (h1 : x1 + x2 = x0) : x1 < (4096 : Nat) := by lia
theorem om75 {x0 : Nat} {x1 : Nat} {x2 : Nat} (h0 : x0 ≤ (1000 : Nat)) (h1 : x1 + x2 = x0) : x1 + (1 : Nat) < (4096 : Nat) := Nat.lt_of_le_of_lt (Nat.succ_le_succ (Nat.le_trans (Nat.le_add_right x1 x2) (Nat.le_trans (Nat.le_of_eq h1) h0))) (Nat.le_of_ble_eq_true rfl)
theorem om76 {x0 : Nat} {x1 : Nat} {x2 : Nat} {x3 : Nat} (h0 : x0 ≤ (1000 : Nat)) (h1 : x1 + x2 = x0) (h2 : x3 ≤ x1) : x3 ≤ (1000 : Nat) := Nat.le_trans h2 (Nat.le_trans (Nat.le_add_right _ _) (Nat.le_trans (Nat.le_of_eq h1) h0))
theorem om77 {x0 : Nat} {x1 : Nat} {x2 : Nat} {x3 : Nat} (h0 : x0 + x1 ≤ x2) (h1 : x3 < x1) : x0 + x3 < x2 := Nat.lt_of_lt_of_le (Nat.add_lt_add_left h1 _) h0
theorem om78 {x0 : Nat} {x1 : Nat} {x2 : Nat} (h0 : x0 ≤ x1) (h1 : x2 ≤ x0) : x2 ≤ x1 := Nat.le_trans h1 h0
theorem om79 {x0 : Nat} {x1 : Nat} {x2 : Nat} {x3 : Nat} (h0 : x0 ≤ (1000 : Nat)) (h1 : x1 + x2 = x0) (h2 : x3 ≤ x1) : x3 ≤ (16777216 : Nat) := by lia
theorem om80 {x0 : Nat} {x1 : Nat} {x2 : Nat} {x3 : Nat} (h0 : x0 ≤ (1000 : Nat)) (h1 : x1 + x2 = x0) (h2 : x3 ≤ x1) : x3 < (2 : Nat) ^ (62 : Nat) := by lia
theorem om81 {x0 : Nat} {x1 : Nat} {x2 : Nat} {x3 : Nat} (h0 : x0 + x1 = x2) (h1 : x1 = x3 + (1 : Nat)) : x0 + (1 : Nat) + x3 = x2 := by lia
theorem om82 {x0 : Nat} {x1 : Nat} {x2 : Nat} {x3 : Nat} (h0 : x0 = x1 + (x2 + (1 : Nat))) : x1 + (x3 + (x2 - (0 : Nat))) ≤ x0 + x3 := by lia
theorem om83 {x0 : Nat} {x1 : Int} {x2 : Int} (h0 : ¬x0 < (x1 - x2).toNat) : (x1 - x2).toNat ≤ x0 := Nat.le_of_not_lt h0
theorem om84 {x0 : Int} {x1 : Int} (h0 : x0 < x1) : min x1 x0 = x0 := Int.min_eq_right (Int.le_of_lt h0)
theorem om85 {x0 : Int} {x1 : Int} (h0 : ¬x0 < x1) : min x1 x0 = x1 := by lia
theorem om86 {x0 : Int} {x1 : Nat} (h0 : (0 : Int) ≤ x0) (h1 : x0 < (↑x1 : Int)) : x0.toNat < x1 := (Int.toNat_lt h0).mpr h1
theorem om87 {x0 : Int} (h0 : (0 : Int) ≤ x0) : (↑x0.toNat : Int) = x0 := Int.toNat_of_nonneg h0
theorem om88 {x0 : Nat} {x1 : Int} (h0 : x0 ≤ (1000 : Nat)) (h1 : x1 < (↑x0 : Int)) : x1 < (2 : Int) ^ (63 : Nat) := Int.lt_trans h1 (Int.lt_of_le_of_lt (Int.ofNat_le.mpr h0) (by decide))
theorem om89 {x0 : Nat} {x1 : Nat} (h0 : x0 < (64 : Nat)) : min x1 x0 ≤ (16777216 : Nat) := Nat.le_trans (Nat.min_le_right _ _) (Nat.le_trans (Nat.le_of_lt h0) (Nat.le_of_ble_eq_true rfl))
theorem om90 {x0 : Nat} (h0 : x0 < (64 : Nat)) : x0 ≤ (16777216 : Nat) := by lia
theorem om91 {x0 : Nat} {x1 : Int} (h0 : x0 ≤ (1000 : Nat)) (h1 : (0 : Int) ≤ x1 ∧ x1 < (↑x0 : Int)) : x1 < (2 : Int) ^ (63 : Nat) := by lia
theorem om92 {x0 : Int} {x1 : Int} : min x0 x1 ≤ x0 := Int.min_le_left _ _
theorem om93 {x0 : Int} {x1 : Int} : min x0 x1 ≤ x1 := Int.min_le_right _ _
theorem om94 {x0 : Int} {x1 : Int} (h0 : x0 ≤ x1) : min x0 x1 = x0 := by lia
theorem om95 {x0 : Int} {x1 : Int} (h0 : ¬x0 ≤ x1) : min x0 x1 = x1 := Int.min_eq_right (Int.le_of_lt (Int.not_le.mp h0))
theorem om96 {x0 : Int} {x1 : Int} {x2 : Int} (h0 : x0 ≤ x1) : x2 + x0 ≤ x2 + x1 := by lia
theorem om97 {x0 : Int} {x1 : Int} {x2 : Int} (h0 : x0 ≤ x1) (h1 : (0 : Int) ≤ x2) : x0 ≤ x2 + x1 := by lia
theorem om98 {x0 : Int} {x1 : Int} (h0 : (0 : Int) ≤ x0) (h1 : (0 : Int) ≤ x1) : (0 : Int) ≤ x1 + x0 := by lia
theorem om99 {x0 : Int} {x1 : Int} (h0 : (0 : Int) ≤ x0) : x1 ≤ x1 + x0 := by lia
theorem om100 {x0 : Int} {x1 : Int} {x2 : Int} (h0 : ¬x0 ≤ x1) (h1 : x2 ≤ x1) : x2 ≤ x0 := by lia
theorem om101 {x0 : Nat} {x1 : Nat} {x2 : Nat} (h0 : x0 < min (x1 + (1 : Nat)) x2) : x0 < x1 + (1 : Nat) := by lia
theorem om102 {x0 : Nat} {x1 : Nat} {x2 : Nat} (h0 : x0 < min (x1 + (1 : Nat)) x2) : x0 < x2 := (Nat.lt_min.mp h0).2
theorem om103 {x0 : Nat} {x1 : Nat} {x2 : Nat} (h0 : x0 < min (x1 + (1 : Nat)) x2) : x0 < min (x0 + (1 : Nat)) x2 := Nat.lt_min.mpr ⟨Nat.lt_succ_self _, (Nat.lt_min.mp h0).2⟩
theorem om104 {x0 : Nat} {x1 : Nat} {x2 : Nat} {x3 : Nat} (h0 : min (x0 + (1 : Nat)) x1 = x2 + (x3 + (1 : Nat))) : x2 + (1 : Nat) ≤ x0 + (1 : Nat) := Nat.le_trans (Nat.add_le_add_left (Nat.succ_le_succ (Nat.zero_le x3)) x2) (Nat.le_trans (Nat.le_of_eq h0.symm) (Nat.min_le_left _ _))
theorem om105 {x0 : Nat} {x1 : Nat} {x2 : Nat} (h0 : x0 < min (x1 + (1 : Nat)) x2) : x0 + (1 : Nat) ≤ x1 + (1 : Nat) := (Nat.lt_min.mp h0).1
theorem om106 {x0 : Nat} {x1 : Nat} (h0 : x0 ≤ x1) : x0 + (1 : Nat) ≤ x1 + (1 : Nat) := Nat.lt_succ_of_le h0
theorem om107 {x0 : Int} {x1 : Int} {x2 : Int} {x3 : Int} {x4 : Int} {x5 : Int} (h0 : x0 = x1) (h1 : x2 ≤ x3) (h2 : x3 ≤ x4) (h3 : x0 ≤ x5) : x2 - x5 ≤ x4 - x1 := Int.sub_le_sub (Int.le_trans h1 h2) (h0 ▸ h3)
theorem om108 {x0 : Nat} {x1 : Nat} {x2 : Nat} (h0 : x0 < x1) (h1 : x2 < x0 + (1 : Nat)) : x2 < x1 := Nat.lt_of_lt_of_le h1 h0
theorem om109 {x0 : Nat} {x1 : Nat} (h0 : x0 < x1 + (1 : Nat)) : x0 + (1 : Nat) ≤ x1 + (1 : Nat) := h0
theorem om110 {x0 : Int} {x1 : Int} {x2 : Int} {x3 : Int} (h0 : (x0 - x1).toNat ≤ (0 : Nat)) (h1 : x1 < x0) : x2 ≤ x3 := absurd h1 (Int.not_lt.mpr (Int.le_of_sub_nonpos (Int.toNat_le.mp h0)))
theorem om111 {x0 : Int} {x1 : Int} {x2 : Nat} {x3 : Int} (h0 : (x0 - x1).toNat ≤ x2 + (1 : Nat)) (h1 : x1 < x3) : (x0 - x3).toNat ≤ x2 := Int.toNat_le.mpr (Int.le_of_lt_add_one (Int.lt_of_lt_of_le (Int.sub_lt_sub_left h1 x0) (Int.toNat_le.mp h0)))
theorem om112 {x0 : Int} {x1 : Int} {x2 : Int} {x3 : Int} (h0 : x0 ≤ x1) (h1 : x2 ≤ x3) : x2 - x1 ≤ x3 - x0 := by lia
theorem om113 {x0 : Int} {x1 : Int} {x2 : Int} {x3 : Int} {x4 : Int} {x5 : Int} (h0 : x0 - x1 = x2) (h1 : x0 - x1 ≤ x3 - x4) (h2 : x3 - x4 ≤ x5) : x2 ≤ x5 := h0 ▸ Int.le_trans h1 h2
theorem om114 {x0 : Int} {x1 : Int} {x2 : Int} {x3 : Int} {x4 : Int} (h0 : x0 - x1 = x2) (h1 : x0 - x1 ≤ x3) (h2 : x3 ≤ x4) : x2 ≤ x4 := h0 ▸ Int.le_trans h1 h2
theorem om115 {x0 : Int} (h0 : x0 = (1 : Int)) : x0 - (1 : Int) = (0 : Int) := by lia
theorem om116 {x0 : Int} (h0 : ¬x0 = (1 : Int)) : ¬x0 - (1 : Int) = (0 : Int) := by lia
theorem om117 {x0 : Nat} {x1 : Nat} {x2 : Int} (h0 : (↑x0 : Int) = (↑x1 : Int) + x2) : (↑x0 : Int) + (1 : Int) = (↑x1 : Int) + (1 : Int) + x2 := by lia
theorem om118 {x0 : Nat} (h0 : (↑x0 : Int) = (0 : Int)) (h1 : (0 : Nat) < x0) : False := by lia
theorem om119 {x0 : Int} {x1 : Int} {x2 : Int} (h0 : x0 = (1 : Int)) (h1 : x0 = x1) (h2 : x1 = x2 + (1 : Int)) : x2 = (0 : Int) := by lia
theorem om120 {x0 : Int} {x1 : Int} {x2 : Int} (h0 : x0 = (0 : Int)) (h1 : x1 = x2) (h2 : x2 = x0 + (1 : Int)) : x1 = (1 : Int) := by lia
theorem om121 {x0 : Int} {x1 : Int} {x2 : Int} (h0 : x0 = x1) (h1 : x1 = x2 + (1 : Int)) : x0 - (1 : Int) = x2 := (congrArg (· - 1) (h0.trans h1)).trans (Int.add_sub_cancel x2 1)
theorem om122 {x0 : Int} {x1 : Int} {x2 : Int} (h0 : x0 = x1) (h1 : x1 = x2 + (0 : Int)) : x0 = x2 := by lia
theorem om123 {x0 : Nat} {x1 : Nat} (h0 : x0 < x1) : x1 - (1 : Nat) - x0 < x1 := Nat.lt_of_le_of_lt (Nat.sub_le _ _) (Nat.sub_lt (Nat.zero_lt_of_lt h0) Nat.one_pos)
theorem om124 {x0 : Nat} {x1 : Nat} : x0 - (x1 + (1 : Nat)) = x0 - (1 : Nat) - x1 := by lia
theorem om125 {x0 : Nat} {x1 : Nat} (h0 : x0 < x1) : x0 < min (x0 + (1 : Nat)) x1 := by lia
theorem om126 {x0 : Nat} (h0 : x0 < (21 : Nat)) : x0 ≤ (21 : Nat) := Nat.le_of_lt h0
theorem om127 {x0 : Nat} (h0 : x0 ≤ (2 : Nat) ^ (21 : Nat)) : x0 < (1073741824 : Nat) := Nat.lt_of_le_of_lt h0 (by decide)
theorem om128 {x0 : Nat} {x1 : Nat} (h0 : x0 < x1) : (0 : Int) ≤ (↑x0 : Int) ∧ (↑x0 : Int) < (↑x1 : Int) := by lia
theorem om129 {x0 : Nat} {x1 : Int} {x2 : Nat} {x3 : Nat} (h0 : (↑x0 : Int) = x1) (h1 : x2 < x3) (h2 : x2 = x0) : x1 = (↑x2 : Int) ∧ x2 < x3 := ⟨h0.symm.trans (congrArg Nat.cast h2.symm), h1⟩
theorem om130 {x0 : Int} {x1 : Nat} {x2 : Int} (h0 : x0 = (↑x1 : Int)) (h1 : x2 < (↑x1 : Int)) : x2 ≤ x0 := h0 ▸ Int.le_of_lt h1
theorem om131 {x0 : Nat} {x1 : Int} {x2 : Int} (h0 : x0 < x1.toNat) (h1 : (↑x0 : Int) = x2) : (0 : Int) ≤ x2 ∧ x2 < x1 := h1 ▸ ⟨Int.natCast_nonneg _, Int.lt_toNat.mp h0⟩
theorem om132 {x0 : Int} {x1 : Int} {x2 : Nat} (h0 : (0 : Int) ≤ x0 ∧ x0 < x1) (h1 : (0 : Int) ≤ x1 ∧ x1 < (↑x2 : Int)) : x0 < (↑x2 : Int) := Int.lt_trans h0.2 h1.2
theorem om133 {x0 : Nat} (h0 : (0 : Int) ≤ (↑x0 : Int) ∧ (↑x0 : Int) < (↑x0 : Int)) : False := by lia
theorem om134 {x0 : Nat} {x1 : Int} (h0 : (↑x0 : Int) < x1) (h1 : x1 < (↑x0 : Int)) : False := Int.lt_irrefl _ (Int.lt_trans h0 h1)
theorem om135 {x0 : Int} (h0 : x0 = (0 : Int)) : (0 : Int) = x0 + (0 : Int) := by lia
theorem om136 {x0 : Int} : x0 = x0 + (0 : Int) := (Int.add_zero _).symm
theorem om137 {x0 : Int} {x1 : Nat} (h0 : (0 : Int) ≤ x0 ∧ x0 < (↑x1 : Int)) : x0 < (↑(x1 + (1 : Nat)) : Int) := Int.lt_trans h0.2 (Int.ofNat_lt.mpr (Nat.lt_succ_self _))
theorem om138 {x0 : Nat} : (↑x0 : Int) < (↑(x0 + (1 : Nat)) : Int) := by lia
theorem om139 {x0 : Int} : x0 + (0 : Int) + (1 : Int) = x0 + (1 : Int) := by lia
theorem om140 {x0 : Nat} (h0 : x0 ≤ (63 : Nat)) : x0 < (2 : Nat) ^ (62 : Nat) := Nat.lt_of_le_of_lt h0 (by decide)
theorem om141 {x0 : Nat} : -(2 : Int) ^ (62 : Nat) ≤ (↑x0 : Int) := by lia
theorem om142 {x0 : Nat} {x1 : Nat} (h0 : x0 ≤ (63 : Nat)) (h1 : x1 = x0 / (3 : Nat)) : (↑x1 : Int) < (2 : Int) ^ (62 : Nat) := Int.lt_of_le_of_lt (Int.ofNat_le.mpr (oh1 h0 h1)) (by decide)
theorem om143 {x0 : Nat} {x1 : Nat} (h0 : x0 ≤ (63 : Nat)) (h1 : x1 = x0 / (3 : Nat)) : ((↑x1 : Int) - (0 : Int)).toNat ≤ (2 : Nat) ^ (24 : Nat) := Nat.le_trans (Int.toNat_le.mpr (Int.sub_le_self _ (Int.le_refl 0))) (Nat.le_trans (oh1 h0 h1) (Nat.le_of_ble_eq_true rfl))
theorem om144 {x0 : Nat} : ((↑x0 : Int) - (0 : Int)).toNat = x0 := rfl
theorem om145 {x0 : Nat} {x1 : Nat} (h0 : x0 = x1 / (3 : Nat)) : (3 : Nat) * x0 ≤ x1 := h0 ▸ Nat.mul_div_le x1 3
theorem om146 {x0 : Nat} {x1 : Nat} (h0 : x0 ≤ (63 : Nat)) (h1 : x1 = x0 / (3 : Nat)) : x1 ≤ (16777216 : Nat) := by lia
theorem om147 {x0 : Int} (h0 : (0 : Int) ≤ x0) : (0 : Int) ≤ (3 : Int) * x0 := by lia
theorem om148 {x0 : Nat} {x1 : Nat} {x2 : Int} (h0 : (3 : Nat) * x0 ≤ x1) (h1 : x2 < (↑x0 : Int)) : (3 : Int) * x2 < (↑x1 : Int) := by lia
theorem om149 {x0 : Nat} {x1 : Nat} {x2 : Int} (h0 : x0 ≤ (63 : Nat)) (h1 : x1 = x0 / (3 : Nat)) (h2 : x2 < (↑x1 : Int)) : (3 : Int) * x2 < (2 : Int) ^ (63 : Nat) := Int.lt_of_le_of_lt (oh3 h0 h1 h2) (by decide)
theorem om150 {x0 : Int} (h0 : (0 : Int) ≤ x0) : (0 : Int) ≤ (3 : Int) * x0 + (1 : Int) := by lia
theorem om151 {x0 : Nat} {x1 : Nat} {x2 : Int} (h0 : (3 : Nat) * x0 ≤ x1) (h1 : x2 < (↑x0 : Int)) : (3 : Int) * x2 + (1 : Int) < (↑x1 : Int) := by lia
theorem om152 {x0 : Nat} {x1 : Nat} {x2 : Int} (h0 : x0 ≤ (63 : Nat)) (h1 : x1 = x0 / (3 : Nat)) (h2 : x2 < (↑x1 : Int)) : (3 : Int) * x2 + (1 : Int) < (2 : Int) ^ (63 : Nat) := by lia
theorem om153 {x0 : Int} (h0 : (0 : Int) ≤ x0) : -(2 : Int) ^ (62 : Nat) ≤ x0 := by lia
theorem om154 {x0 : Nat} {x1 : Nat} {x2 : Int} (h0 : x0 ≤ (63 : Nat)) (h1 : x1 = x0 / (3 : Nat)) (h2 : x2 < (↑x1 : Int)) : x2 < (2 : Int) ^ (62 : Nat) := Int.lt_trans (Int.lt_of_lt_of_le h2 (Int.ofNat_le.mpr (oh1 h0 h1))) (by decide)
theorem om155 {x0 : Nat} {x1 : Nat} {x2 : Int} (h0 : x0 ≤ (63 : Nat)) (h1 : x1 = x0 / (3 : Nat)) (h2 : x2 < (↑x1 : Int)) : (x2 - (0 : Int)).toNat ≤ (16777216 : Nat) := Nat.le_trans (oh2 h2) (Nat.le_trans (oh1 h0 h1) (Nat.le_of_ble_eq_true rfl))
theorem om156 {x0 : Int} (h0 : (0 : Int) ≤ x0) : (0 : Int) ≤ (3 : Int) * x0 + (2 : Int) := by lia
theorem om157 {x0 : Nat} {x1 : Nat} {x2 : Int} (h0 : x0 = x1 / (3 : Nat)) (h1 : x2 < (↑x0 : Int)) : (3 : Int) * x2 + (2 : Int) < (↑x1 : Int) := by lia
theorem om158 {x0 : Nat} {x1 : Nat} {x2 : Int} (h0 : x0 ≤ (63 : Nat)) (h1 : x1 = x0 / (3 : Nat)) (h2 : x2 < (↑x1 : Int)) : (3 : Int) * x2 + (2 : Int) < (2 : Int) ^ (63 : Nat) := Int.lt_of_le_of_lt (Int.add_le_add_right (oh3 h0 h1 h2) 2) (by decide)
theorem om159 {x0 : Nat} {x1 : Nat} {x2 : Int} {x3 : Nat} (h0 : x0 ≤ (63 : Nat)) (h1 : x1 = x0 / (3 : Nat)) (h2 : x2 < (↑x1 : Int)) (h3 : x3 < (x2 - (0 : Int)).toNat) : (2 : Int) * (↑x3 : Int) ≤ (2 : Int) ^ (27 : Nat) := Int.le_trans (Int.mul_le_mul_of_nonneg_left (Int.ofNat_le.mpr (Nat.le_of_lt (Nat.lt_of_lt_of_le h3 (Nat.le_trans (oh2 h2) (oh1 h0 h1))))) (by decide)) (by decide)
theorem om160 {x0 : Nat} {x1 : Nat} {x2 : Int} {x3 : Nat} (h0 : x0 ≤ (63 : Nat)) (h1 : x1 = x0 / (3 : Nat)) (h2 : x2 < (↑x1 : Int)) (h3 : x3 < (x2 - (0 : Int)).toNat) : x3 < (21 : Nat) := Nat.lt_of_lt_of_le h3 (Nat.le_trans (oh2 h2) (oh1 h0 h1))
theorem om161 {x0 : Int} (h0 : (0 : Int) < x0) : x0 ≠ (0 : Int) := by lia
theorem om162 {x0 : Nat} {x1 : Int} (h0 : x0 < (x1 - (0 : Int)).toNat) : x0 < x1.toNat := Int.sub_zero x1 ▸ h0
theorem om163 {x0 : Int} : x0.toNat ≤ (x0 - (0 : Int)).toNat := by lia
theorem om164 {x0 : Nat} {x1 : Nat} (h0 : ¬x0 < x1) : x1 ≤ x0 := Nat.le_of_not_lt h0
theorem om165 {x0 : Nat} {x1 : Nat} (h0 : ¬x0 < x1) (h1 : x0 - x1 = (0 : Nat)) : x0 = x1 := Nat.le_antisymm (Nat.le_of_sub_eq_zero h1) (Nat.le_of_not_lt h0)
theorem om166 {x0 : Nat} {x1 : Nat} {x2 : Nat} {x3 : Int} (h0 : x0 ≤ (21 : Nat)) (h1 : x1 < x0) (h2 : x2 ≤ x3.toNat) (h3 : x3 < (↑x1 : Int)) : x2 ≤ (21 : Nat) := Nat.le_trans h2 (Nat.le_trans (Int.toNat_le.mpr (Int.le_of_lt h3)) (Nat.le_trans (Nat.le_of_lt h1) h0))
theorem om167 {x0 : Nat} {x1 : Nat} (h0 : x0 ≤ (21 : Nat)) (h1 : x1 < x0) : x1 ≤ (21 : Nat) := by lia
theorem om168 {x0 : Nat} (h0 : x0 ≤ (21 : Nat)) : x0 + (0 : Nat) ≤ (9000 : Nat) := Nat.le_trans h0 (by decide)
theorem om169 {x0 : Nat} {x1 : Nat} (h0 : x0 < x1) : x0 < x1 := h0
theorem om170 {x0 : Nat} {x1 : Nat} (h0 : x0 ≤ (21 : Nat)) (h1 : x1 < x0) : (↑x1 : Int) < (2 : Int) ^ (63 : Nat) := by lia
theorem om171 {x0 : Nat} {x1 : Nat} {x2 : Nat} {x3 : Nat} (h0 : x0 ≤ (21 : Nat)) (h1 : x1 < x0) (h2 : x2 ≤ (↑x1 : Int).toNat) : min x3 x2 ≤ (22 : Nat) := Nat.le_trans (Nat.min_le_right _ _) (Nat.le_trans (show x2 ≤ x1 from h2) (Nat.le_of_lt (Nat.lt_of_lt_of_le h1 (Nat.le_trans h0 (Nat.le_of_ble_eq_true rfl)))))
theorem om172 {x0 : Nat} {x1 : Nat} {x2 : Int} {x3 : Nat} (h0 : x0 ≤ (21 : Nat)) (h1 : x1 < x0) (h2 : x2 < (↑(x1 + (1 : Nat)) : Int)) (h3 : x3 ≤ x2.toNat) : x3 ≤ (22 : Nat) := Nat.le_trans h3 (Nat.le_trans (Int.toNat_le.mpr (Int.le_of_lt h2)) (Nat.le_trans h1 (Nat.le_trans h0 (Nat.le_of_ble_eq_true rfl))))
theorem om173 {x0 : Nat} {x1 : Nat} (h0 : x0 ≤ (21 : Nat)) (h1 : x1 < x0) : x1 + (1 : Nat) ≤ (21 : Nat) := Nat.lt_of_lt_of_le h1 h0
theorem om174 {x0 : Nat} (h0 : x0 ≤ (21 : Nat)) : x0 + (1 : Nat) ≤ (9000 : Nat) := Nat.lt_of_le_of_lt h0 (by decide)
theorem om175 {x0 : Nat} (h0 : x0 ≤ (22 : Nat)) : x0 + (1 : Nat) ≤ (9000 : Nat) := Nat.lt_of_le_of_lt h0 (by decide)
theorem om176 {x0 : Nat} {x1 : Nat} {x2 : Int} (h0 : x0 ≤ (21 : Nat)) (h1 : x1 ≤ x2.toNat) (h2 : x2 < (↑x0 : Int)) : x1 ≤ (21 : Nat) := by lia
theorem om177 {x0 : Nat} {x1 : Nat} (h0 : x0 + (8 : Nat) < x1) : x0 + (1 : Nat) < x1 := Nat.lt_of_le_of_lt (Nat.add_le_add_left (Nat.le_of_ble_eq_true rfl) _) h0
theorem om178 {x0 : Nat} (h0 : x0 ≤ (21 : Nat)) : x0 ≤ (1000 : Nat) := Nat.le_trans h0 (by decide)
theorem om179 {x0 : Nat} {x1 : Nat} (h0 : x0 ≤ x1 - (1 : Nat)) (h1 : (0 : Nat) < x1) : x0 + (1 : Nat) ≤ x1 := Nat.add_le_of_le_sub h1 h0
theorem om180 {x0 : Nat} {x1 : Nat} {x2 : Nat} (h0 : x0 < min x1 x2) : x0 < x2 := (Nat.lt_min.mp h0).2
theorem om181 {x0 : Nat} {x1 : Nat} {x2 : Nat} (h0 : x0 < min x1 x2) : x0 < x1 := (Nat.lt_min.mp h0).1
theorem om182 {x0 : Int} {x1 : Int} (h0 : ¬x0 < x1) : x1 ≤ x0 := Int.not_lt.mp h0
theorem om183 {x0 : Nat} {x1 : Nat} {x2 : Nat} (h0 : x0 + x1 < x2) : x1 + x0 < x2 := by lia
theorem om184 {x0 : Nat} {x1 : Nat} : x0 ≤ x0 + x1 := Nat.le_add_right _ _
theorem om185 {x0 : Int} {x1 : Int} (h0 : x0 < x1) : x0 ≤ x1 := Int.le_of_lt h0
theorem om186 {x0 : Int} {x1 : Int} {x2 : Int} (h0 : x0 < x1) (h1 : x1 ≤ x2) : x0 < x2 := Int.lt_of_lt_of_le h0 h1
theorem om187 {x0 : Nat} {x1 : Nat} {x2 : Nat} {x3 : Nat} (h0 : x0 ≤ (21 : Nat)) (h1 : x1 + (x2 + x3) ≤ x0) : x3 ≤ (10000 : Nat) := Nat.le_trans (Nat.le_add_left x3 x2) (Nat.le_trans (Nat.le_add_left _ _) (Nat.le_trans h1 (Nat.le_trans h0 (Nat.le_of_ble_eq_true rfl))))
theorem om188 {x0 : Nat} {x1 : Nat} : (↑x0 : Int) < (↑x0 : Int) + (↑(x1 + (1 : Nat)) : Int) := by lia
theorem om189 {x0 : Nat} {x1 : Nat} {x2 : Nat} {x3 : Nat} {x4 : Nat} {x5 : Nat} (h0 : x0 + (x1 + x2) ≤ x3) (h1 : x4 = x1 + min x5 x2) : x4 ≤ x3 := Nat.le_trans (Nat.le_of_eq h1) (Nat.le_trans (Nat.add_le_add_left (Nat.min_le_right _ _) _) (Nat.le_trans (Nat.le_add_left _ _) h0))
theorem om190 : (0 : Nat) + (3 : Nat) ≤ (8 : Nat) := Nat.le_add_left _ _
theorem om191 {x0 : Nat} {x1 : Nat} (h0 : x0 ≤ (21 : Nat)) (h1 : x1 ≤ x0) : x1 ≤ (10000 : Nat) := by lia
theorem om192 {x0 : Nat} {x1 : Nat} {x2 : Nat} {x3 : Nat} {x4 : Nat} (h0 : x0 ≤ (21 : Nat)) (h1 : x1 + (x2 + x3) ≤ x0) (h2 : x4 + (1 : Nat) = x2 + x3) : x4 < (16777216 : Nat) := Nat.lt_of_lt_of_le (Nat.lt_of_lt_of_le (Nat.lt_succ_self x4) (Nat.le_of_eq h2)) (Nat.le_trans (Nat.le_add_left _ _) (Nat.le_trans h1 (Nat.le_trans h0 (Nat.le_of_ble_eq_true rfl))))
theorem om193 {x0 : Nat} {x1 : Nat} {x2 : Nat} {x3 : Nat} (h0 : x0 ≤ (21 : Nat)) (h1 : x1 + (x2 + x3) ≤ x0) : x1 ≤ (16777216 : Nat) := by lia
theorem om194 {x0 : Nat} {x1 : Nat} {x2 : Int} (h0 : x0 ≤ (21 : Nat)) (h1 : x1 ≤ x2.toNat) (h2 : (0 : Int) ≤ x2 ∧ x2 < (↑x0 : Int)) : x1 ≤ (21 : Nat) := Nat.le_trans h1 (Nat.le_trans (Int.toNat_le.mpr (Int.le_of_lt h2.2)) h0)
theorem om195 {x0 : Nat} {x1 : Nat} {x2 : Int} (h0 : x0 ≤ (21 : Nat)) (h1 : x1 ≤ x2.toNat) (h2 : (0 : Int) ≤ x2 ∧ x2 < (↑x0 : Int)) : x1 ≤ (1000 : Nat) := Nat.le_trans h1 (Nat.le_trans (Int.toNat_le.mpr (Int.le_of_lt h2.2)) (Nat.le_trans h0 (Nat.le_of_ble_eq_true rfl)))
theorem om196 {x0 : Nat} (h0 : x0 ≤ (1 : Nat)) : x0 = (0 : Nat) ∨ x0 = (1 : Nat) := by lia
theorem om197 {x0 : Nat} (h0 : x0 ≤ (21 : Nat)) : (0 : Nat) + x0 ≤ (8000 : Nat) := by lia
theorem om198 {x0 : Nat} {x1 : Nat} {x2 : Nat} {x3 : Nat} {x4 : Nat} (h0 : x0 + (x1 + x2) ≤ x3) (h1 : x4 + (1 : Nat) = x1 + x2) : x3 - (x0 + (1 : Nat)) < x3 - x0 := Nat.sub_lt_sub_left (Nat.lt_of_lt_of_le (Nat.lt_add_of_pos_right (h1 ▸ Nat.succ_pos x4)) h0) (Nat.lt_succ_self _)
theorem om199 {x0 : Nat} {x1 : Nat} {x2 : Nat} {x3 : Nat} (h0 : x0 + (1 : Nat) = x1 + x2) : (↑x3 : Int) + (1 : Int) + (↑x0 : Int) = (↑x3 : Int) + (↑x1 : Int) + (↑x2 : Int) := by lia
theorem om200 {x0 : Nat} {x1 : Nat} (h0 : x0 ≤ (21 : Nat)) (h1 : x1 = x0) : x1 ≤ (16777216 : Nat) := by lia
theorem om201 {x0 : Nat} {x1 : Nat} (h0 : x0 ≤ (21 : Nat)) (h1 : x1 = x0) : x1 < (64 : Nat) := by lia
theorem om202 {x0 : Nat} {x1 : Nat} (h0 : x0 + (20 : Nat) * (8 : Nat) < x1) : x0 + (64 : Nat) < x1 := Nat.lt_of_le_of_lt (Nat.add_le_add_left (Nat.le_of_ble_eq_true rfl) _) h0
theorem om203 {x0 : Nat} {x1 : Nat} {x2 : Nat} (h0 : x0 = x1) (h1 : x2 < x1) : x2 < x0 := by lia
theorem om204 {x0 : Int} {x1 : Nat} (h0 : (0 : Int) ≤ x0 ∧ x0 < (↑x1 : Int)) : x0.toNat < x1 := (Int.toNat_lt h0.1).mpr h0.2
theorem om205 {x0 : Nat} {x1 : Int} (h0 : x0 ≤ (21 : Nat)) (h1 : (0 : Int) ≤ x1 ∧ x1 < (↑x0 : Int)) : x1 < (2 : Int) ^ (63 : Nat) := by lia
theorem om206 {x0 : Int} {x1 : Nat} (h0 : (0 : Int) ≤ x0 ∧ x0 < (↑x1 : Int)) : (↑x0.toNat : Int) = x0 := Int.toNat_of_nonneg h0.1
theorem om207 {x0 : Nat} {x1 : Int} {x2 : Nat} (h0 : x0 ≤ (21 : Nat)) (h1 : (0 : Int) ≤ x1 ∧ x1 < (↑x0 : Int)) (h2 : x2 ≤ x1.toNat) : x2 ≤ (16777216 : Nat) := Nat.le_trans h2 (Nat.le_trans (Int.toNat_le.mpr (Int.le_of_lt h1.2)) (Nat.le_trans h0 (Nat.le_of_ble_eq_true rfl)))
theorem om208 {x0 : Nat} {x1 : Nat} (h0 : x0 ≤ (21 : Nat)) (h1 : x1 < x0) : x1 ≤ (16777216 : Nat) := by lia
theorem om209 {x0 : Nat} : (0 : Nat) < x0 + (1 : Nat) := Nat.le_add_left _ _
theorem om210 {x0 : Nat} : (0 : Int) ≤ (↑x0 : Int) + (1 : Int) := Int.natCast_nonneg _
theorem om211 {x0 : Nat} : ((↑x0 : Int) + (1 : Int)).toNat = x0 + (1 : Nat) := rfl
theorem om212 {x0 : Nat} {x1 : Nat} {x2 : Nat} (h0 : x0 ≤ (21 : Nat)) (h1 : x1 = x0) : min (x2 + (1 : Nat)) x1 < (64 : Nat) := Nat.lt_of_le_of_lt (Nat.min_le_right _ _) (Nat.lt_of_le_of_lt (Nat.le_trans (Nat.le_of_eq h1) h0) (Nat.le_of_ble_eq_true rfl))
theorem om213 {x0 : Nat} {x1 : Nat} (h0 : x0 ≤ (63 : Nat)) (h1 : x1 = x0 / (3 : Nat)) : x1 ≤ (21 : Nat) := oh1 h0 h1

inductive AV where
  | none
  | bool (b : Bool)
  | int (i : Int)
  | str (s : Str)
  | ref (a : Addr)
  | raw (v : Value)

noncomputable def abs : Value → AV
  | .none => .none
  | .bool b => .bool b
  | .int i _ => .int i
  | .str s _ => .str s
  | .ref a => .ref a
  | v => .raw v

theorem abs_none {v : Value} (h : abs v = .none) : v = .none := by cases v <;> simp [abs] at h ⊢
theorem abs_bool {v : Value} {b : Bool} (h : abs v = .bool b) : v = .bool b := by cases v <;> simp [abs] at h ⊢ <;> exact h
theorem abs_int {v : Value} {i : Int} (h : abs v = .int i) : ∃ t, v = .int i t := by cases v <;> simp [abs] at h ⊢ <;> exact h
theorem abs_str {v : Value} {i : Str} (h : abs v = .str i) : ∃ t, v = .str i t := by cases v <;> simp [abs] at h ⊢ <;> exact h
theorem abs_ref {v : Value} {a : Addr} (h : abs v = .ref a) : v = .ref a := by cases v <;> simp [abs] at h ⊢ <;> exact h
inductive AO where
  | list (xs : List AV)
  | tuple (xs : List AV)
  | dict (es : List (Int × AV)) (ep : Nat)
  | inst (C d : Addr) (sl : List (Option AV))
  | attrs (es : List (Str × AV))
  | cell (v : Option AV)
  | ns (r : Str → Option AV)
  | listIter (l : Addr) (i : Nat)
  | rangeIter (a n : Int)
  | obj (P : Obj → Prop)

noncomputable def DictIs (es : List (Int × AV)) (ep : Nat) (o : Obj) : Prop :=
  ∃ (ds : Array DictEntry) (kvs : List (Int × Value)), o.ExactDict ∧ o.data = .dict ds ep ∧ (∀ p w, KeysOf (intKind p w) ds) ∧ (∀ p w, Pairs (intKind p w) ds.toList kvs) ∧ (kvs.map (·.1)).Nodup ∧ kvs.map (fun p => (p.1, abs p.2)) = es

noncomputable def AO.Is : AO → Obj → Prop
  | .list xs, o => ∃ (vs : List Value) (n : Nat), o = listOf vs.toArray n ∧ vs.map abs = xs
  | .tuple xs, o => ∃ (vs : List Value) (n : Nat), o = { cls := .type "tuple", data := .seq vs.toArray n } ∧ vs.map abs = xs
  | .dict es ep, o => DictIs es ep o
  | .inst C d sl, o => ∃ vs : Array (Option Value), o = ⟨.ref C, some d, .plain, vs⟩ ∧ vs.toList.map (Option.map abs) = sl
  | .attrs es, o => ∃ ds n, o = dictOf ds n ∧ ds.map (fun e => (abs e.key, abs e.val)) = es.map (fun p => (AV.str p.1, p.2))
  | .cell v, o => ∃ v', o.data = .cell v' ∧ v'.map abs = v
  | .ns r, o => ∃ es ep, o.data = .dict es ep ∧ StrKeys es ∧ ∀ x av, r x = some av → ∃ v, nsFind es x = some v ∧ abs v = av
  | .listIter l i, o => o.cls = .type "list_iterator" ∧ o.data = .fields #[.ref l, .int i 0]
  | .rangeIter _ _, _ => True
  | .obj P, o => P o

set_option genSizeOf false
set_option genSizeOfSpec false
set_option genInjectivity false
abbrev Ledger := Addr → Option AO
noncomputable def upd (H : Ledger) (a : Addr) (o : AO) : Ledger := fun b => if b = a then some o else H b
noncomputable def del (H : Ledger) (a : Addr) : Ledger := fun b => if b = a then none else H b
@[simp] theorem upd_self (H : Ledger) (a : Addr) (o : AO) : upd H a o a = some o := by simp [upd]
theorem upd_ne {H : Ledger} {a b : Addr} {o : AO} (h : b ≠ a) : upd H a o b = H b := by simp [upd, h]
theorem del_ne {H : Ledger} {a b : Addr} (h : b ≠ a) : del H a b = H b := by simp [del, h]
@[simp] theorem del_self (H : Ledger) (a : Addr) : del H a a = none := by simp [del]


structure Sub (H H' : Ledger) : Prop where
  le : ∀ a ao, H a = some ao → H' a = some ao
theorem Sub.refl (H : Ledger) : Sub H H := ⟨fun _ _ e => e⟩
theorem Sub.trans {H H' H'' : Ledger} (x : Sub H H') (y : Sub H' H'') : Sub H H'' := ⟨fun a ao e => y.le a ao (x.le a ao e)⟩
theorem Sub.upd {H H' : Ledger} {a : Addr} {o : AO} (x : Sub H H') (h : H a = none) : Sub H (upd H' a o) := ⟨fun b ao e => by
  have : b ≠ a := by rintro rfl; rw [h] at e; cases e
  rw [upd_ne this]; exact x.le b ao e⟩

structure Gx where
  prog : Program
  w : World
  K : Frag
  p : Program
  loose : List Str
  mean : ExcName → Option Value
  mg : Str → Option Value
  mb : Str → Option Value
abbrev Gx.M (G : Gx) : Model := model G.prog G.w

structure Cx where
  G : Gx
  A₀ : Around
  base : Heap
  h₀ : Heap
  outer : List Env
  fenv : Env
  s₀ : Shared
abbrev Cx.M (c : Cx) : Model := model c.G.prog c.G.w
abbrev Cx.L (c : Cx) : Addr := c.fenv.locals

structure Cx.Ok (c : Cx) : Prop where
  below : Below c.A₀ c.base c.outer c.h₀
  K : c.G.K.In c.h₀
  T : Top c.G.p c.G.loose c.G.mean c.G.mg c.G.mb c.h₀
  frame : c.fenv.frame = some c.fenv.locals
  fn : c.fenv.scope.kind = .function
  glob : c.fenv.globals = mainGlobals
  blt : c.fenv.builtins = builtinsNs

structure Room (c : Cx) (A : Around) (d : Nat) : Prop where
  frames : A.frames = some (c.fenv :: c.outer)
  depth : A.depth + d < recursionLimit
  units : A.units + 20 * d < cLine
  handled : A.handled = none

noncomputable def OwnAt (c : Cx) (h : Heap) (a : Addr) (ao : AO) : Prop := ∃ o, h.get? a = some o ∧ ao.Is o ∧ a ≠ c.L ∧ c.h₀.get? a = none ∧ 3 < a

structure St (c : Cx) (R : Ledger) (ρ : Str → Option AV) (H : Ledger) (s : Shared) : Prop where
  fr : ∃ m, Fr c.h₀ c.L s.heap m ∧ ∀ x av, ρ x = some av → ∃ v, m x = some v ∧ abs v = av
  own : ∀ a ao, H a = some ao → OwnAt c s.heap a ao
  hid : ∀ a ao, R a = some ao → OwnAt c s.heap a ao
  dis : ∀ a, H a ≠ none → R a = none
  sh : s = { c.s₀ with heap := s.heap, toks := s.toks }

section
variable {c : Cx} {R : Ledger} {ρ : Str → Option AV} {H : Ledger} {s : Shared}

theorem St.toks (st : St c R ρ H s) (tk : Nat) : St c R ρ H { s with toks := tk } :=
  ⟨st.fr, st.own, st.hid, st.dis, by have e := st.sh; rw [e]⟩
theorem St.lt (st : St c R ρ H s) {a ao} (h : H a = some ao) : a < s.heap.objs.size := let ⟨_, e, _⟩ := st.own a ao h; Heap.lt_size e
theorem St.Llt (st : St c R ρ H s) : c.L < s.heap.objs.size := let ⟨_, F, _⟩ := st.fr; F.ns.lt
theorem St.none_size (st : St c R ρ H s) : H s.heap.objs.size = none := by
  cases e : H s.heap.objs.size with
  | none => rfl
  | some ao => exact absurd (st.lt e) (Nat.lt_irrefl _)
theorem St.hid_size (st : St c R ρ H s) : R s.heap.objs.size = none := by
  cases e : R s.heap.objs.size with
  | none => rfl
  | some ao => let ⟨_, e', _⟩ := st.hid _ ao e; exact absurd (Heap.lt_size e') (Nat.lt_irrefl _)
theorem St.size_gt (ok : c.Ok) (st : St c R ρ H s) : 3 < s.heap.objs.size := by
  obtain ⟨m, F, _⟩ := st.fr
  obtain ⟨o, _, _, ho, _⟩ := ok.T.g
  exact Heap.lt_size (F.keep _ _ ho)

theorem OwnAt.mono {h h' : Heap} {a ao} (x : OwnAt c h a ao) (hk : ∀ o, h.get? a = some o → h'.get? a = some o) : OwnAt c h' a ao :=
  let ⟨o, e, r⟩ := x; ⟨o, hk o e, r⟩
theorem St.keeps (st : St c R ρ H s) {h' : Heap} {tk : Nat} (hk : ∀ b o, s.heap.get? b = some o → h'.get? b = some o) : St c R ρ H { s with heap := h', toks := tk } :=
  ⟨let ⟨m, F, r⟩ := st.fr; ⟨m, F.keeps hk, r⟩, fun a ao h => (st.own a ao h).mono (hk a), fun a ao h => (st.hid a ao h).mono (hk a), st.dis, by have e := st.sh; rw [e]⟩
theorem St.alloc (ok : c.Ok) (st : St c R ρ H s) {o : Obj} {ao : AO} (hi : ao.Is o) (hf : o.isFreed = false) : St c R ρ (upd H s.heap.objs.size ao) { s with heap := s.heap.push o } := by
  have k := st.keeps (h' := s.heap.push o) (tk := s.toks) (fun b o' e => Heap.get?_push_of_some o e)
  refine ⟨k.fr, fun a x h => ?_, k.hid, fun a h => ?_, k.sh⟩
  · by_cases e : a = s.heap.objs.size
    · subst e
      rw [upd_self] at h; cases h
      refine ⟨o, Heap.get?_push_size _ hf, hi, Nat.ne_of_gt st.Llt, ?_, st.size_gt ok⟩
      cases q : c.h₀.get? s.heap.objs.size with
      | none => rfl
      | some o' => obtain ⟨m, F, _⟩ := st.fr; exact absurd (Heap.lt_size (F.keep _ _ q)) (Nat.lt_irrefl _)
    · rw [upd_ne e] at h; exact k.own a x h
  · by_cases e : a = s.heap.objs.size
    · subst e; exact st.hid_size
    · rw [upd_ne e] at h; exact st.dis a h
theorem St.set (st : St c R ρ H s) {a : Addr} {ao ao' : AO} {h' : Heap} {o' : Obj} {tk : Nat} (ha : H a = some ao) (hs : Heap.SameBut a s.heap h') (ho : h'.get? a = some o') (hi : ao'.Is o') :
    St c R ρ (upd H a ao') { s with heap := h', toks := tk } := by
  obtain ⟨o, e1, e2, e3, e4, e5⟩ := st.own a ao ha
  refine ⟨let ⟨m, F, r⟩ := st.fr; ⟨m, F.change hs e3 e4, r⟩, fun b x h => ?_, fun b x h => ?_, fun b h => ?_, by have e := st.sh; rw [e]⟩
  · by_cases e : b = a
    · subst e; rw [upd_self] at h; cases h; exact ⟨o', ho, hi, e3, e4, e5⟩
    · rw [upd_ne e] at h; exact (st.own b x h).mono fun o q => (hs.2 b e).trans q
  · refine (st.hid b x h).mono fun o q => (hs.2 b ?_).trans q
    rintro rfl
    rw [st.dis b (by rw [ha]; intro q; cases q)] at h; cases h
  · by_cases e : b = a
    · subst e; exact st.dis b (by rw [ha]; intro q; cases q)
    · rw [upd_ne e] at h; exact st.dis b h
theorem St.setR (st : St c R ρ H s) {a : Addr} {ao ao' : AO} {h' : Heap} {o' : Obj} {tk : Nat} (ha : R a = some ao) (hs : Heap.SameBut a s.heap h') (ho : h'.get? a = some o') (hi : ao'.Is o') :
    St c (upd R a ao') ρ H { s with heap := h', toks := tk } := by
  obtain ⟨o, e1, e2, e3, e4, e5⟩ := st.hid a ao ha
  have hn : ∀ b x, H b = some x → b ≠ a := by
    rintro b x h rfl
    have := st.dis b (by rw [h]; intro q; cases q)
    rw [ha] at this; cases this
  refine ⟨let ⟨m, F, r⟩ := st.fr; ⟨m, F.change hs e3 e4, r⟩, fun b x h => (st.own b x h).mono fun o q => (hs.2 b (hn b x h)).trans q, fun b x h => ?_, fun b h => ?_, by have e := st.sh; rw [e]⟩
  · by_cases e : b = a
    · subst e; rw [upd_self] at h; cases h; exact ⟨o', ho, hi, e3, e4, e5⟩
    · rw [upd_ne e] at h; exact (st.hid b x h).mono fun o q => (hs.2 b e).trans q
  · have e : b ≠ a := by
      cases q : H b with
      | none => exact absurd q h
      | some x => exact hn b x q
    rw [upd_ne e]; exact st.dis b h
theorem St.drop (st : St c R ρ H s) {H' : Ledger} (h : ∀ a ao, H' a = some ao → H a = some ao) : St c R ρ H' s :=
  ⟨st.fr, fun a ao e => st.own a ao (h a ao e), st.hid, fun a e => st.dis a (by
    cases q : H' a with
    | none => exact absurd q e
    | some x => rw [h a x q]; intro z; cases z), st.sh⟩
theorem St.dropR (st : St c R ρ H s) {R' : Ledger} (h : ∀ a ao, R' a = some ao → R a = some ao) : St c R' ρ H s :=
  ⟨st.fr, st.own, fun a ao e => st.hid a ao (h a ao e), fun a e => (by
    cases q : R' a with
    | none => rfl
    | some x => have := st.dis a e; rw [h a x q] at this; cases this), st.sh⟩
theorem St.hide (st : St c R ρ H s) {a : Addr} {ao : AO} (ha : H a = some ao) : St c (upd R a ao) ρ (del H a) s := by
  refine ⟨st.fr, fun b x h => ?_, fun b x h => ?_, fun b h => ?_, st.sh⟩
  · by_cases e : b = a
    · subst e; simp at h
    · rw [del_ne e] at h; exact st.own b x h
  · by_cases e : b = a
    · subst e; rw [upd_self] at h; cases h; exact st.own _ _ ha
    · rw [upd_ne e] at h; exact st.hid b x h
  · by_cases e : b = a
    · subst e; simp at h
    · rw [del_ne e] at h; rw [upd_ne e]; exact st.dis b h
theorem St.show (st : St c R ρ H s) {a : Addr} {ao : AO} (ha : R a = some ao) : St c (del R a) ρ (upd H a ao) s := by
  refine ⟨st.fr, fun b x h => ?_, fun b x h => ?_, fun b h => ?_, st.sh⟩
  · by_cases e : b = a
    · subst e; rw [upd_self] at h; cases h; exact st.hid _ _ ha
    · rw [upd_ne e] at h; exact st.own b x h
  · by_cases e : b = a
    · subst e; simp at h
    · rw [del_ne e] at h; exact st.hid b x h
  · by_cases e : b = a
    · subst e; simp
    · rw [upd_ne e] at h; rw [del_ne e]; exact st.dis b h
theorem St.weaken (st : St c R ρ H s) {ρ' : Str → Option AV} (h : ∀ x av, ρ' x = some av → ρ x = some av) : St c R ρ' H s :=
  ⟨let ⟨m, F, r⟩ := st.fr; ⟨m, F, fun x av e => r x av (h x av e)⟩, st.own, st.hid, st.dis, st.sh⟩
theorem St.get (st : St c R ρ H s) {a ao} (h : H a = some ao) : ∃ o, s.heap.get? a = some o ∧ ao.Is o := let ⟨o, e, i, _⟩ := st.own a ao h; ⟨o, e, i⟩
theorem St.getR (st : St c R ρ H s) {a ao} (h : R a = some ao) : ∃ o, s.heap.get? a = some o ∧ ao.Is o := let ⟨o, e, i, _⟩ := st.hid a ao h; ⟨o, e, i⟩
end

noncomputable def put (ρ : Str → Option AV) (x : Str) (v : AV) : Str → Option AV := fun y => if y = x then some v else ρ y
@[simp] theorem put_self (ρ : Str → Option AV) (x : Str) (v : AV) : put ρ x v x = some v := by simp [put]
theorem put_ne {ρ : Str → Option AV} {x y : Str} {v : AV} (h : y ≠ x) : put ρ x v y = ρ y := by simp [put, h]

noncomputable def lk (l : List (Str × AV)) (x : Str) : Option AV := l.lookup x
noncomputable def AllIn (ρ : Str → Option AV) : List (Str × AV) → Prop
  | [] => True
  | (x, v) :: r => ρ x = some v ∧ AllIn ρ r
theorem AllIn.mem {ρ : Str → Option AV} : ∀ {l : List (Str × AV)}, AllIn ρ l → ∀ x av, lk l x = some av → ρ x = some av
  | [], _, _, _, e => by cases e
  | (y, v) :: r, ⟨h1, h2⟩, x, av, e => by
    unfold lk at e
    rw [List.lookup_cons] at e
    cases hb : x == y with
    | true => rw [hb] at e; cases e; rw [beq_iff_eq.mp hb]; exact h1
    | false => rw [hb] at e; exact AllIn.mem h2 x av e
theorem St.names {c R ρ H s} (st : St c R ρ H s) (l : List (Str × AV)) (h : AllIn ρ l) : St c R (lk l) H s := st.weaken h.mem

noncomputable def SeesL (c : Cx) (H : Ledger) (a : Addr) (xs : List AV) : Prop := H a = some (.list xs) ∨ ∃ vs : List Value, c.h₀.IsList a vs.toArray ∧ vs.map abs = xs
theorem St.list {c R ρ H s} (st : St c R ρ H s) {a xs} (h : SeesL c H a xs) : ∃ vs : List Value, s.heap.IsList a vs.toArray ∧ vs.map abs = xs := by
  rcases h with h | ⟨vs, ⟨o, e, r⟩, i⟩
  · obtain ⟨o, e, vs, n, rfl, i⟩ := st.get h
    exact ⟨vs, ⟨_, e, rfl, n, rfl⟩, i⟩
  · obtain ⟨m, F, _⟩ := st.fr; exact ⟨vs, ⟨o, F.keep _ _ e, r⟩, i⟩


theorem gotIA {P : Value → Prop} {i : Int} (h : ∀ t, P (.int i t)) : ∀ v, abs v = .int i → P v := fun v hv => by obtain ⟨t, rfl⟩ := abs_int hv; exact h t
theorem gotRA {P : Value → Prop} {a : Addr} (h : P (.ref a)) : ∀ v, abs v = .ref a → P v := fun v hv => by obtain rfl := abs_ref hv; exact h
theorem gotBA {P : Value → Prop} {b : Bool} (h : P (.bool b)) : ∀ v, abs v = .bool b → P v := fun v hv => by obtain rfl := abs_bool hv; exact h
theorem gotNA {P : Value → Prop} (h : P .none) : ∀ v, abs v = .none → P v := fun v hv => by obtain rfl := abs_none hv; exact h
theorem gotIS {P : Value → Shared → Prop} {S : Shared → Prop} {i : Int} (h : ∀ t s, S s → P (.int i t) s) : ∀ v s, abs v = .int i → S s → P v s := fun v s hv => by obtain ⟨t, rfl⟩ := abs_int hv; exact h t s
theorem gotRS {P : Value → Shared → Prop} {S : Shared → Prop} {a : Addr} (h : ∀ s, S s → P (.ref a) s) : ∀ v s, abs v = .ref a → S s → P v s := fun v s hv => by obtain rfl := abs_ref hv; exact h s
theorem ifN {c : Prop} [Decidable c] {p q : Prop} (h : ¬c) (hq : q) : if c then p else q := by rw [if_neg h]; exact hq
theorem ifP {c : Prop} [Decidable c] {p q : Prop} (h : c) (hp : p) : if c then p else q := by rw [if_pos h]; exact hp
section
variable {c : Cx} {R : Ledger} {ρ : Str → Option AV} {H : Ledger} {s : Shared} {A : Around} {E : Value → Shared → Prop} {env : Env} {x : Str} {pos : Pos} {av : AV} {a : Addr} {v : Value}

theorem St.ns {r} (st : St c R ρ H s) (ha : H a = some (.ns r)) : ∃ m, s.heap.Ns a m ∧ ∀ x av, r x = some av → ∃ v, m x = some v ∧ abs v = av := by
  obtain ⟨o, e, es, ep, h1, h2, h3⟩ := st.get ha
  exact ⟨nsFind es, ⟨o, es, ep, e, h1, h2, fun _ => rfl⟩, h3⟩
theorem St.isCell {w} (st : St c R ρ H s) (ha : H a = some (.cell w)) : ∃ v', s.heap.IsCell a v' ∧ v'.map abs = w := by
  obtain ⟨o, e, v', h1, h2⟩ := st.get ha
  exact ⟨v', ⟨o, e, h1⟩, h2⟩

theorem nameL {Q : Value → Shared → Prop} (st : St c R ρ H s) (hv : ρ x = some av) (h : ∀ v, abs v = av → Q v s) (hL : env.locals = c.L) (hk : env.scope.kind = .function) (hx : env.kindOf x = some .local)
    (hd : (x == ("__debug__" : Str)) = false) : wpAny c.M A (eval (.Name x pos) env) Q E s := by
  obtain ⟨m, F, r⟩ := st.fr
  obtain ⟨v, h1, h2⟩ := r x av hv
  exact wpAny_Name (wpAny_loadName_local hk hx (hL ▸ F.ns) h1 (h v h2)) hd
theorem nameLI {Q : Value → Shared → Prop} {i : Int} (st : St c R ρ H s) (hv : ρ x = some (.int i)) (h : ∀ t, Q (.int i t) s) (hL : env.locals = c.L) (hk : env.scope.kind = .function) (hx : env.kindOf x = some .local)
    (hd : (x == ("__debug__" : Str)) = false) : wpAny c.M A (eval (.Name x pos) env) Q E s :=
  nameL st hv (fun v hv => by obtain ⟨t, rfl⟩ := abs_int hv; exact h t) hL hk hx hd
theorem nameLR {Q : Value → Shared → Prop} (st : St c R ρ H s) (hv : ρ x = some (.ref a)) (h : Q (.ref a) s) (hL : env.locals = c.L) (hk : env.scope.kind = .function) (hx : env.kindOf x = some .local)
    (hd : (x == ("__debug__" : Str)) = false) : wpAny c.M A (eval (.Name x pos) env) Q E s :=
  nameL st hv (fun v hv => by obtain rfl := abs_ref hv; exact h) hL hk hx hd
theorem nameN {Q : Value → Shared → Prop} {r} (st : St c R ρ H s) (hn : H env.locals = some (.ns r)) (hv : r x = some av) (h : ∀ v, abs v = av → Q v s) (hk : env.scope.kind = .function) (hx : env.kindOf x = some .local)
    (hd : (x == ("__debug__" : Str)) = false) : wpAny c.M A (eval (.Name x pos) env) Q E s := by
  obtain ⟨m, hns, r⟩ := st.ns hn
  obtain ⟨v, h1, h2⟩ := r x av hv
  exact wpAny_Name (wpAny_loadName_local hk hx hns h1 (h v h2)) hd
theorem nameC {Q : Value → Shared → Prop} (st : St c R ρ H s) (hc : env.cells.lookup x = some a) (hv : H a = some (.cell (some av))) (h : ∀ v, abs v = av → Q v s) (hk : env.scope.kind = .function) (hx : env.kindOf x = some .cell)
    (hd : (x == ("__debug__" : Str)) = false) : wpAny c.M A (eval (.Name x pos) env) Q E s := by
  obtain ⟨v', h1, h2⟩ := st.isCell hv
  cases v' with
  | none => cases h2
  | some v => exact wpAny_Name (wpAny_loadName_cell hk hx hc h1 (h v (Option.some.inj h2))) hd
theorem nameF {Q : Value → Shared → Prop} (st : St c R ρ H s) (hc : env.cells.lookup x = some a) (hv : H a = some (.cell (some av))) (h : ∀ v, abs v = av → Q v s) (hk : env.scope.kind = .function) (hx : env.kindOf x = some .free)
    (hd : (x == ("__debug__" : Str)) = false) (hn : (x == ("__classdict__" : Str)) = false) : wpAny c.M A (eval (.Name x pos) env) Q E s := by
  obtain ⟨v', h1, h2⟩ := st.isCell hv
  cases v' with
  | none => cases h2
  | some v => exact wpAny_Name (wpAny_loadName_free hk hx hc h1 (h v (Option.some.inj h2)) hn) hd
theorem nameG {Q : Value → Shared → Prop} (ok : c.Ok) (st : St c R ρ H s) (e : nsIn c.G.K mainGlobals x = some (some v)) (h : Q v s) (hg : env.globals = mainGlobals) (hk : env.scope.kind = .function) (hx : env.kindOf x = some .globalImplicit)
    (hd : (x == ("__debug__" : Str)) = false) : wpAny c.M A (eval (.Name x pos) env) Q E s := by
  obtain ⟨m, F, _⟩ := st.fr
  exact Name_function_global hk hx (loadGlobal_global (env := env) (by rw [hg]; exact ok.T.g.keeps F.keep) (mg_of ok.K ok.T.g e) h) hd
theorem nameB {Q : Value → Shared → Prop} (ok : c.Ok) (st : St c R ρ H s) (e : nsIn c.G.K mainGlobals x = some none) (hv : bootBuiltins x = some v) (hn : x ≠ "__name__") (h : Q v s) (hg : env.globals = mainGlobals) (hb : env.builtins = builtinsNs) (hk : env.scope.kind = .function)
    (hx : env.kindOf x = some .globalImplicit) (hd : (x == ("__debug__" : Str)) = false) : wpAny c.M A (eval (.Name x pos) env) Q E s := by
  obtain ⟨m, F, _⟩ := st.fr
  exact Name_function_global hk hx (loadGlobal_builtin (env := env) (by rw [hg]; exact ok.T.g.keeps F.keep) (mg_none_of ok.K ok.T.g e) (by rw [hb]; exact ok.T.b.keeps F.keep) ((ok.T.builtins x hn).trans hv) h) hd

theorem storeL {Q : Unit → Shared → Prop} (st : St c R ρ H s) (h : ∀ s', St c R (put ρ x (abs v)) H s' → Q () s') (hL : env.locals = c.L) (hk : env.scope.kind = .function) (hx : env.kindOf x = some .local) :
    wpAny c.M A (storeName env x v) Q E s := by
  obtain ⟨m, F, r⟩ := st.fr
  refine wpAny_storeName_local hx (hL ▸ F.ns) (fun h' hn hs => h _ ?_) (by rw [hk]; rfl)
  rw [hL] at hn hs
  refine ⟨⟨_, F.set hn hs, fun y av e => ?_⟩, fun a ao e => (st.own a ao e).mono fun o q => (hs.2 a ?_).trans q, fun a ao e => (st.hid a ao e).mono fun o q => (hs.2 a ?_).trans q, st.dis, by have e := st.sh; rw [e]⟩
  · by_cases q : y = x
    · subst q; rw [put_self] at e; cases e; exact ⟨v, by simp, rfl⟩
    · rw [put_ne q] at e
      obtain ⟨u, h1, h2⟩ := r y av e
      exact ⟨u, by simp [q, h1], h2⟩
  · obtain ⟨_, _, _, z, _⟩ := st.own a ao e; exact z
  · obtain ⟨_, _, _, z, _⟩ := st.hid a ao e; exact z
theorem storeN {Q : Unit → Shared → Prop} {r} (st : St c R ρ H s) (hn : H env.locals = some (.ns r)) (h : ∀ s', St c R ρ (upd H env.locals (.ns (put r x (abs v)))) s' → Q () s') (hk : env.scope.kind = .function) (hx : env.kindOf x = some .local) :
    wpAny c.M A (storeName env x v) Q E s := by
  obtain ⟨m, hns, hr⟩ := st.ns hn
  refine wpAny_storeName_local hx hns (fun h' hn' hs => h _ ?_) (by rw [hk]; rfl)
  obtain ⟨o, es, ep, e1, e2, e3, e4⟩ := hn'
  refine st.set hn hs e1 ⟨es, ep, e2, e3, fun y av e => ?_⟩
  rw [e4]
  by_cases q : y = x
  · subst q; rw [put_self] at e; cases e; exact ⟨v, by simp, rfl⟩
  · rw [put_ne q] at e
    obtain ⟨u, h1, h2⟩ := hr y av e
    exact ⟨u, by simp [q, h1], h2⟩
theorem storeC {Q : Unit → Shared → Prop} {u} (st : St c R ρ H s) (hc : env.cells.lookup x = some a) (hv : H a = some (.cell u)) (h : ∀ s', St c R ρ (upd H a (.cell (some (abs v)))) s' → Q () s') (hk : env.scope.kind = .function) (hx : env.kindOf x = some .cell) :
    wpAny c.M A (storeName env x v) Q E s := by
  obtain ⟨v', h1, h2⟩ := st.isCell hv
  refine wpAny_storeName_cell hk hx hc h1 fun h' hc' hs => h _ ?_
  obtain ⟨o, e1, e2⟩ := hc'
  exact st.set (tk := s.toks) hv hs e1 ⟨_, e2, rfl⟩
end


section
variable {c : Cx} {R : Ledger} {ρ : Str → Option AV} {H : Ledger} {s : Shared} {A : Around} {E : Value → Shared → Prop}

noncomputable def newsOf (h : Heap) (R H : Ledger) : List (Addr × Obj) := (List.range h.objs.size).filterMap fun a =>
  match H a, R a with
  | none, none => none
  | _, _ => (h.get? a).map fun o => (a, o)
theorem mem_newsOf {h : Heap} {R H : Ledger} {p : Addr × Obj} : p ∈ newsOf h R H ↔ (H p.1 ≠ none ∨ R p.1 ≠ none) ∧ h.get? p.1 = some p.2 := by
  obtain ⟨a, o⟩ := p
  unfold newsOf
  rw [List.mem_filterMap]
  constructor
  · rintro ⟨b, hb, e⟩
    cases h1 : H b with
    | none =>
      cases h2 : R b with
      | none => rw [h1, h2] at e; cases e
      | some x =>
        rw [h1, h2] at e
        obtain ⟨o', e1, e2⟩ := Option.map_eq_some_iff.mp e
        cases e2
        exact ⟨.inr (by rw [h2]; intro q; cases q), e1⟩
    | some x =>
      rw [h1] at e
      obtain ⟨o', e1, e2⟩ := Option.map_eq_some_iff.mp e
      cases e2
      exact ⟨.inl (by rw [h1]; intro q; cases q), e1⟩
  · rintro ⟨h1, h2⟩
    refine ⟨a, List.mem_range.mpr (Heap.lt_size h2), ?_⟩
    dsimp only at h1 h2
    cases q1 : H a with
    | none =>
      cases q2 : R a with
      | none => rw [q1, q2] at h1; rcases h1 with z | z <;> exact absurd rfl z
      | some x => simp [h2]
    | some x => simp [h2]
theorem St.news (st : St c R ρ H s) : News c.h₀ c.L s.heap (newsOf s.heap R H) := by
  intro p hp
  obtain ⟨h1, h2⟩ := mem_newsOf.mp hp
  rcases h1 with h1 | h1
  · cases q : H p.1 with
    | none => exact absurd q h1
    | some x => obtain ⟨o, _, _, z1, z2, _⟩ := st.own _ _ q; exact ⟨h2, z1, z2⟩
  · cases q : R p.1 with
    | none => exact absurd q h1
    | some x => obtain ⟨o, _, _, z1, z2, _⟩ := st.hid _ _ q; exact ⟨h2, z1, z2⟩

theorem St.carry {c' : Cx} {ρ' : Str → Option AV} {m' : Str → Option Value} {s' : Shared} (st : St c R ρ H s) (F : Fr c'.h₀ c'.L s'.heap m') (hr : ∀ x av, ρ' x = some av → ∃ v, m' x = some v ∧ abs v = av)
    (N : News c'.h₀ c'.L s'.heap (newsOf s.heap R H)) (sh : s' = { c'.s₀ with heap := s'.heap, toks := s'.toks }) : St c' R ρ' H s' := by
  refine ⟨⟨m', F, hr⟩, fun a ao e => ?_, fun a ao e => ?_, st.dis, sh⟩
  · obtain ⟨o, e1, e2, _, _, e5⟩ := st.own a ao e
    have := N (a, o) (mem_newsOf.mpr ⟨.inl (by rw [e]; intro q; cases q), e1⟩)
    exact ⟨o, this.1, e2, this.2.1, this.2.2, e5⟩
  · obtain ⟨o, e1, e2, _, _, e5⟩ := st.hid a ao e
    have := N (a, o) (mem_newsOf.mpr ⟨.inr (by rw [e]; intro q; cases q), e1⟩)
    exact ⟨o, this.1, e2, this.2.1, this.2.2, e5⟩

noncomputable def retOf : Flow → Value
  | .ret v => v
  | _ => .none

noncomputable def Back (c c' : Cx) (R : Ledger) (ρ : Str → Option AV) (K : Value → Shared → Prop) (fl : Flow) (s : Shared) : Prop :=
  ∃ ρ' H', St c' R ρ' H' s ∧ (St c R ρ H' s → K (retOf fl) s)

variable {name qual : Str} {params : Arguments} {body : List Stmt} {scope : Scope} {cl : List (Str × Addr)} {dV kV doc pm cdv ct : Value} {an : Option Addr} {fo : Obj} {f : Addr} {args : Args} {binds : List (Str × Value)} {d : Nat}

noncomputable def Cx.enter (c : Cx) (A : Around) (g : Heap) (env : Env) : Cx := { c with A₀ := A, h₀ := g, outer := c.fenv :: c.outer, fenv := env }

theorem call_def {Rr : Result → Shared → Prop} (ok : c.Ok) (rm : Room c A (d + 1)) (st : St c R ρ H s) (ho : s.heap.get? f = some fo) (hd : fo.data = .func (fnX name qual params body scope cl dV kV doc pm an cdv ct)) (hcd : s.heap.CodeRec cdv qual)
    (hbind : BindsTo s (fnX name qual params body scope cl dV kV doc pm an cdv ct) args binds) (hloc : ∀ y ∈ binds, scope.names.lookup y.1 = some .local) (hcell : ∀ x ∈ scope.names, x.2 ≠ .cell)
    (hco : scope.isCoroutine = false) (hgen : scope.isGenerator = false) (hk : scope.kind = .function)
    (h : ∀ g L' s', (c.enter A g (envX qual scope L' f cdv cl)).Ok → Room (c.enter A g (envX qual scope L' f cdv cl)) (A.deeper (envX qual scope L' f cdv cl)) d →
      St (c.enter A g (envX qual scope L' f cdv cl)) R (fun x => (binds.reverse.lookup x).map abs) H s' →
      wpAny c.M (A.deeper (envX qual scope L' f cdv cl)) (execs body (envX qual scope L' f cdv cl)) (Back c (c.enter A g (envX qual scope L' f cdv cl)) R ρ fun v s'' => Rr (.ok (.ret v)) s'') (fun _ _ => False) s') :
    codeAny c.M A (.call (.ref f) args) Rr s := by
  obtain ⟨m, F, hr⟩ := st.fr
  refine callX_plain ok.below F st.news ok.T.nolimit rm.frames ok.frame ok.fn ho hd hcd (by have := rm.depth; exact om0 this) hbind hloc (fun g L' h₁ FG F' N' B' stays lt => ?_) hcell hco hgen hk
  have ok' : (c.enter A g (envX qual scope L' f cdv cl)).Ok := ⟨B', ok.K.keeps stays, ok.T.keeps stays, rfl, hk, rfl, rfl⟩
  have rm' : Room (c.enter A g (envX qual scope L' f cdv cl)) (A.deeper (envX qual scope L' f cdv cl)) d := by
    refine ⟨?_, ?_, ?_, rm.handled⟩
    · show A.frames.map _ = _; rw [rm.frames]; rfl
    · have := rm.depth; show A.depth + 1 + d < _; exact om1 this
    · have := rm.units; show A.units + 3 + 20 * d < _; exact om2 this
  have sh := st.sh
  have st' : St (c.enter A g (envX qual scope L' f cdv cl)) R (fun x => (binds.reverse.lookup x).map abs) H { s with heap := h₁, toks := s.toks + binds.length } := by
    refine st.carry (c' := c.enter A g (envX qual scope L' f cdv cl)) F' (fun x av e => ?_) N' (by rw [sh]; rfl)
    obtain ⟨v, e1, e2⟩ := Option.map_eq_some_iff.mp e
    exact ⟨v, e1, e2⟩
  refine wpAny_mono (h g L' _ ok' rm' st') (fun fl s'' hb => ?_) fun _ _ z => z.elim
  obtain ⟨ρ', H', sb, k⟩ := hb
  obtain ⟨m', F'', _⟩ := sb.fr
  refine ⟨L', m', newsOf s''.heap R H', F'', sb.news, fun Fb Nb => ?_⟩
  have z := k (sb.carry (c' := c) Fb hr Nb sb.sh)
  cases fl <;> exact z

noncomputable def addCells (cm : Str → Option Value) : List (Str × Addr) → Ledger → Ledger
  | [], H => H
  | (n, a) :: r, H => upd (addCells cm r H) a (.cell ((cm n).map abs))
theorem addCells_cases (cm : Str → Option Value) {b : Addr} {ao : AO} : ∀ {cs : List (Str × Addr)} {H : Ledger}, addCells cm cs H b = some ao → (∃ n, (n, b) ∈ cs ∧ ao = .cell ((cm n).map abs)) ∨ ((∀ n, (n, b) ∉ cs) ∧ H b = some ao)
  | [], H, e => .inr ⟨fun _ q => (nomatch q), e⟩
  | (n, a) :: r, H, e => by
    unfold addCells at e
    by_cases q : b = a
    · subst q; rw [upd_self] at e; cases e; exact .inl ⟨n, .head _, rfl⟩
    · rw [upd_ne q] at e
      rcases addCells_cases cm e with ⟨n', h1, h2⟩ | ⟨h1, h2⟩
      · exact .inl ⟨n', .tail _ h1, h2⟩
      · refine .inr ⟨fun n' q' => ?_, h2⟩
        cases q' with
        | head => exact q rfl
        | tail _ q' => exact h1 n' q'
theorem CellsAre.mem {cm : Str → Option Value} : ∀ {cs : List (Str × Addr)} {cells : List (Addr × Obj)}, CellsAre cm cs cells → ∀ n a, (n, a) ∈ cs → ∃ o, (a, o) ∈ cells ∧ o.data = .cell (cm n)
  | _, _, .cons (n := n') (c := c') (o := o') h r, n, a, q => by
    rcases List.mem_cons.mp q with q | q
    · cases q; exact ⟨o', .head _, h⟩
    · obtain ⟨o, h1, h2⟩ := CellsAre.mem r n a q
      exact ⟨o, .tail _ h1, h2⟩
theorem cellsFrom_ge : ∀ (names : List (Str × NameKind)) (n : Nat) (acc : List (Str × Addr)) (lo : Nat), lo ≤ n → (∀ p ∈ acc, lo ≤ p.2) → ∀ p ∈ cellsFrom n names acc, lo ≤ p.2
  | [], _, _, _, _, h => h
  | (x, k) :: r, n, acc, lo, hl, h => by
    unfold cellsFrom
    split
    · refine cellsFrom_ge r (n + 1) _ lo (Nat.le_succ_of_le hl) fun p hp => ?_
      cases hp with
      | head => exact hl
      | tail _ q => exact h p q
    · exact cellsFrom_ge r n acc lo hl h

theorem call_defC {Rr : Result → Shared → Prop} (ok : c.Ok) (rm : Room c A (d + 1)) (st : St c R ρ H s) (ho : s.heap.get? f = some fo) (hd : fo.data = .func (fnX name qual params body scope [] dV kV doc pm an cdv ct)) (hcd : s.heap.CodeRec cdv qual)
    (hbind : BindsTo s (fnX name qual params body scope [] dV kV doc pm an cdv ct) args binds) (hkind : (binds.all fun y => scope.names.lookup y.1 == some .local || scope.names.lookup y.1 == some .cell) = true)
    (hnd : ((cellsFrom 0 scope.names []).map (·.1)).Nodup)
    (hco : scope.isCoroutine = false) (hgen : scope.isGenerator = false) (hk : scope.kind = .function)
    (h : ∀ g L' s', (c.enter A g (envX qual scope L' f cdv (cellsFrom (L' + 1) scope.names []))).Ok → Room (c.enter A g (envX qual scope L' f cdv (cellsFrom (L' + 1) scope.names []))) (A.deeper (envX qual scope L' f cdv (cellsFrom (L' + 1) scope.names []))) d →
      (∀ a, H a ≠ none → a < L') →
      St (c.enter A g (envX qual scope L' f cdv (cellsFrom (L' + 1) scope.names []))) R (fun x => (bindL (envX qual scope L' f cdv (cellsFrom (L' + 1) scope.names [])).kindOf binds (fun _ => none) x).map abs)
        (addCells (bindC (envX qual scope L' f cdv (cellsFrom (L' + 1) scope.names [])).kindOf binds fun _ => none) (cellsFrom (L' + 1) scope.names []) H) s' →
      wpAny c.M (A.deeper (envX qual scope L' f cdv (cellsFrom (L' + 1) scope.names []))) (execs body (envX qual scope L' f cdv (cellsFrom (L' + 1) scope.names [])))
        (Back c (c.enter A g (envX qual scope L' f cdv (cellsFrom (L' + 1) scope.names []))) R ρ fun v s'' => Rr (.ok (.ret v)) s'') (fun _ _ => False) s') :
    codeAny c.M A (.call (.ref f) args) Rr s := by
  obtain ⟨m, F, hr⟩ := st.fr
  refine callX_cells ok.below F st.news ok.T.nolimit rm.frames ok.frame ok.fn ho hd hcd (by have := rm.depth; exact om0 this) hbind (kindsX hkind) hnd (fun g L' h₁ tk cells FG F' N' Y B' stays lt => ?_) hco hgen hk
  have ok' : (c.enter A g (envX qual scope L' f cdv (cellsFrom (L' + 1) scope.names []))).Ok := ⟨B', ok.K.keeps stays, ok.T.keeps stays, rfl, hk, rfl, rfl⟩
  have rm' : Room (c.enter A g (envX qual scope L' f cdv (cellsFrom (L' + 1) scope.names []))) (A.deeper (envX qual scope L' f cdv (cellsFrom (L' + 1) scope.names []))) d := by
    refine ⟨?_, ?_, ?_, rm.handled⟩
    · show A.frames.map _ = _; rw [rm.frames]; rfl
    · have := rm.depth; show A.depth + 1 + d < _; exact om1 this
    · have := rm.units; show A.units + 3 + 20 * d < _; exact om2 this
  have sh := st.sh
  have hlt : ∀ a, H a ≠ none ∨ R a ≠ none → a < L' := fun a e => by
    have : ∃ o, s.heap.get? a = some o := by
      rcases e with e | e
      · cases q : H a with
        | none => exact absurd q e
        | some x => obtain ⟨o, h1, _⟩ := st.own a x q; exact ⟨o, h1⟩
      · cases q : R a with
        | none => exact absurd q e
        | some x => obtain ⟨o, h1, _⟩ := st.hid a x q; exact ⟨o, h1⟩
    obtain ⟨o, h1⟩ := this
    exact lt (a, o) (mem_newsOf.mpr ⟨e, h1⟩)
  have N1 : News g L' h₁ (newsOf s.heap R H) := fun p hp => N' p (List.mem_append_right _ hp)
  have st1 : St (c.enter A g (envX qual scope L' f cdv (cellsFrom (L' + 1) scope.names []))) R (fun x => (bindL (envX qual scope L' f cdv (cellsFrom (L' + 1) scope.names [])).kindOf binds (fun _ => none) x).map abs) H { s with heap := h₁, toks := tk } := by
    refine st.carry (c' := c.enter A g (envX qual scope L' f cdv (cellsFrom (L' + 1) scope.names []))) F' (fun x av e => ?_) N1 (by rw [sh]; rfl)
    obtain ⟨v, e1, e2⟩ := Option.map_eq_some_iff.mp e
    exact ⟨v, e1, e2⟩
  have st' : St (c.enter A g (envX qual scope L' f cdv (cellsFrom (L' + 1) scope.names []))) R (fun x => (bindL (envX qual scope L' f cdv (cellsFrom (L' + 1) scope.names [])).kindOf binds (fun _ => none) x).map abs)
      (addCells (bindC (envX qual scope L' f cdv (cellsFrom (L' + 1) scope.names [])).kindOf binds fun _ => none) (cellsFrom (L' + 1) scope.names []) H) { s with heap := h₁, toks := tk } := by
    refine ⟨st1.fr, fun a ao e => ?_, st1.hid, fun a e => ?_, st1.sh⟩
    · rcases addCells_cases _ e with ⟨n, h1, rfl⟩ | ⟨_, h2⟩
      · obtain ⟨o, h3, h4⟩ := CellsAre.mem Y n a h1
        have z := N' (a, o) (List.mem_append_left _ h3)
        have hge := cellsFrom_ge scope.names (L' + 1) [] (L' + 1) (Nat.le_refl _) (fun _ q => nomatch q) _ h1
        have h3L : 3 < L' := by
          have := F'.above
          obtain ⟨o, _, _, ho, _⟩ := ok'.T.g
          exact Nat.lt_of_lt_of_le (Heap.lt_size ho) this
        exact ⟨o, z.1, ⟨_, h4, rfl⟩, z.2.1, z.2.2, Nat.lt_trans h3L hge⟩
      · exact st1.own a ao h2
    · cases q : R a with
      | none => rfl
      | some x =>
        have h1 := hlt a (.inr (by rw [q]; intro z; cases z))
        cases q2 : addCells (bindC (envX qual scope L' f cdv (cellsFrom (L' + 1) scope.names [])).kindOf binds fun _ => none) (cellsFrom (L' + 1) scope.names []) H a with
        | none => exact absurd q2 e
        | some y =>
          rcases addCells_cases _ q2 with ⟨n, h2, _⟩ | ⟨_, h2⟩
          · have hge : L' + 1 ≤ a := cellsFrom_ge scope.names (L' + 1) [] (L' + 1) (Nat.le_refl _) (fun _ q => nomatch q) _ h2
            exact absurd (Nat.lt_trans h1 hge) (Nat.lt_irrefl _)
          · have := st1.dis a (by rw [h2]; intro z; cases z)
            rw [q] at this; cases this
  refine wpAny_mono (h g L' _ ok' rm' (fun a e => hlt a (.inl e)) st') (fun fl s'' hb => ?_) fun _ _ z => z.elim
  obtain ⟨ρ', H', sb, k⟩ := hb
  obtain ⟨m', F'', _⟩ := sb.fr
  refine ⟨L', m', newsOf s''.heap R H', F'', sb.news, fun Fb Nb => ?_⟩
  have z := k (sb.carry (c' := c) Fb hr Nb sb.sh)
  cases fl <;> exact z
end
section
variable {c : Cx} {R : Ledger} {ρ : Str → Option AV} {H : Ledger} {s : Shared} {A : Around} {E : Value → Shared → Prop}
variable {name qual : Str} {params : Arguments} {body : List Stmt} {scope : Scope} {cl : List (Str × Addr)} {dV kV doc pm cdv ct : Value} {an : Option Addr} {fo : Obj} {f : Addr} {args : Args} {binds : List (Str × Value)} {d : Nat}

theorem enter_def {Rr : Result → Shared → Prop} (ok : c.Ok) (rm : Room c A (d + 1)) (st : St c R ρ H s) (hloc : ∀ y ∈ binds, scope.names.lookup y.1 = some .local) (hcell : ∀ x ∈ scope.names, x.2 ≠ .cell) (hk : scope.kind = .function)
    (h : ∀ g L' s', (c.enter A g (envX qual scope L' f cdv cl)).Ok → Room (c.enter A g (envX qual scope L' f cdv cl)) (A.deeper (envX qual scope L' f cdv cl)) d →
      St (c.enter A g (envX qual scope L' f cdv cl)) R (fun x => (binds.reverse.lookup x).map abs) H s' →
      wpAny c.M (A.deeper (envX qual scope L' f cdv cl)) (execs body (envX qual scope L' f cdv cl)) (Back c (c.enter A g (envX qual scope L' f cdv cl)) R ρ fun v s'' => Rr (.ok (.ret v)) s'') (fun _ _ => False) s') :
    wpAny c.M A.in1 (newFunctionEnv scope mainGlobals cl binds (qual ++ ".<locals>.") (some f) cdv none builtinsNs) (fun env' s₂ => s₂.heap.NoLimit ∧ codeAny c.M A (.func body env') Rr s₂) E s := by
  obtain ⟨m, F, hr⟩ := st.fr
  refine kp_frame ok.below F st.news ok.T.nolimit rm.frames ok.frame ok.fn hloc (fun g L' h₁ FG F' N' B' stays => ?_) hcell hk
  have ok' : (c.enter A g (envX qual scope L' f cdv cl)).Ok := ⟨B', ok.K.keeps stays, ok.T.keeps stays, rfl, hk, rfl, rfl⟩
  have rm' : Room (c.enter A g (envX qual scope L' f cdv cl)) (A.deeper (envX qual scope L' f cdv cl)) d := by
    refine ⟨?_, ?_, ?_, rm.handled⟩
    · show A.frames.map _ = _; rw [rm.frames]; rfl
    · have := rm.depth; show A.depth + 1 + d < _; exact om1 this
    · have := rm.units; show A.units + 3 + 20 * d < _; exact om2 this
  have sh := st.sh
  have st' : St (c.enter A g (envX qual scope L' f cdv cl)) R (fun x => (binds.reverse.lookup x).map abs) H { s with heap := h₁, toks := s.toks + binds.length } := by
    refine st.carry (c' := c.enter A g (envX qual scope L' f cdv cl)) F' (fun x av e => ?_) N' (by rw [sh]; rfl)
    obtain ⟨v, e1, e2⟩ := Option.map_eq_some_iff.mp e
    exact ⟨v, e1, e2⟩
  refine wpAny_mono (h g L' _ ok' rm' st') (fun fl s'' hb => ?_) fun _ _ z => z.elim
  obtain ⟨ρ', H', sb, k⟩ := hb
  obtain ⟨m', F'', _⟩ := sb.fr
  refine ⟨L', m', newsOf s''.heap R H', F'', sb.news, fun Fb Nb => ?_⟩
  have z := k (sb.carry (c' := c) Fb hr Nb sb.sh)
  cases fl <;> exact z

theorem call_defV {Rr : Result → Shared → Prop} {vs : List Value} {binds : Value → List (Str × Value)} (ok : c.Ok) (rm : Room c A (d + 1)) (st : St c R ρ H s) (ho : s.heap.get? f = some fo) (hd : fo.data = .func (fnX name qual params body scope cl dV kV doc pm an cdv ct)) (hcd : s.heap.CodeRec cdv qual)
    (hsz : vs.length ≤ sizeLine) (hbind : bindArgs (fnX name qual params body scope cl dV kV doc pm an cdv ct) args = (newTuple vs >>= fun t => pure (binds t)))
    (hloc : ∀ D : Addr, ∀ y ∈ binds (.ref D), scope.names.lookup y.1 = some .local) (hcell : ∀ x ∈ scope.names, x.2 ≠ .cell)
    (hco : scope.isCoroutine = false) (hgen : scope.isGenerator = false) (hk : scope.kind = .function)
    (h : ∀ D g L' s', H D = none → (c.enter A g (envX qual scope L' f cdv cl)).Ok → Room (c.enter A g (envX qual scope L' f cdv cl)) (A.deeper (envX qual scope L' f cdv cl)) d →
      St (c.enter A g (envX qual scope L' f cdv cl)) R (fun x => ((binds (.ref D)).reverse.lookup x).map abs) (upd H D (.tuple (vs.map abs))) s' →
      wpAny c.M (A.deeper (envX qual scope L' f cdv cl)) (execs body (envX qual scope L' f cdv cl)) (Back c (c.enter A g (envX qual scope L' f cdv cl)) R ρ fun v s'' => Rr (.ok (.ret v)) s'') (fun _ _ => False) s') :
    codeAny c.M A (.call (.ref f) args) Rr s := by
  refine codeAny_call_function (fd := fnX name qual params body scope cl dV kV doc pm an cdv ct) (body := body) (by have := rm.depth; exact om0 this) ho hd hco hgen rfl hcd ?_
  rw [hbind]
  refine wpAny_bind (wpAny_newObj_type ?_ (by show vs.toArray.size ≤ sizeLine; rw [List.size_toArray]; exact hsz))
  refine wpAny_pure ?_
  have st1 := st.alloc ok (o := { cls := .type "tuple", data := .seq vs.toArray }) (ao := .tuple (vs.map abs)) ⟨vs, 0, rfl, rfl⟩ rfl
  exact enter_def ok rm st1 (hloc _) hcell hk fun g L' s' ok' rm' st' => h _ g L' s' st.none_size ok' rm' st'
end


noncomputable def AV.isNone : AV → Bool
  | .none => true
  | _ => false

section
variable {c : Cx} {R : Ledger} {ρ : Str → Option AV} {H : Ledger} {s : Shared} {A : Around} {E : Value → Shared → Prop} {a b : Int} {t u : Tok} {Q : Value → Shared → Prop}

theorem cInt {env : Env} {i : Int} {k : Nat} {pos : Pos} (st : St c R ρ H s) (h : ∀ t s', St c R ρ H s' → Q (.int i t) s') : wpAny c.M A (eval (.Constant (.int i) k pos) env) Q E s :=
  wpAny_Constant_int (h _ _ (st.toks _))
theorem addI (st : St c R ρ H s) (h : ∀ t s', St c R ρ H s' → Q (.int (a + b) t) s') : wpAny c.M A (binaryOp .Add (.int a t) (.int b u)) Q E s := P.add_int (h _ _ (st.toks _))
theorem subI (st : St c R ρ H s) (h : ∀ t s', St c R ρ H s' → Q (.int (a - b) t) s') : wpAny c.M A (binaryOp .Sub (.int a t) (.int b u)) Q E s := P.sub_int (h _ _ (st.toks _))
theorem mulI (st : St c R ρ H s) (hm : IntMulOk a b) (h : ∀ t s', St c R ρ H s' → Q (.int (a * b) t) s') : wpAny c.M A (binaryOp .Mult (.int a t) (.int b u)) Q E s := P.mul_int (h _ _ (st.toks _)) hm
theorem negI (st : St c R ρ H s) (h : ∀ t s', St c R ρ H s' → Q (.int (-a) t) s') : wpAny c.M A (unaryOp .USub (.int a t)) Q E s := P.neg_int (h _ _ (st.toks _))
theorem iaddI (st : St c R ρ H s) (h : ∀ t s', St c R ρ H s' → Q (.int (a + b) t) s') : wpAny c.M A (inplaceOp .Add (.int a t) (.int b u)) Q E s := P.iadd_int (h _ _ (st.toks _))
theorem isubI (st : St c R ρ H s) (h : ∀ t s', St c R ρ H s' → Q (.int (a - b) t) s') : wpAny c.M A (inplaceOp .Sub (.int a t) (.int b u)) Q E s := P.isub_int (h _ _ (st.toks _))
theorem modI (st : St c R ρ H s) (hb : b ≠ 0) (h : ∀ t s', St c R ρ H s' → Q (.int (a.fmod b) t) s') : wpAny c.M A (binaryOp .Mod (.int a t) (.int b u)) Q E s := mod_int' hb (h _ _ (st.toks _))
theorem divI (st : St c R ρ H s) (hb : b ≠ 0) (hp : Builtin.divisionGoesByPylong a b = false) (h : ∀ t s', St c R ρ H s' → Q (.int (a.fdiv b) t) s') : wpAny c.M A (binaryOp .FloorDiv (.int a t) (.int b u)) Q E s := floordiv_int hb (h _ _ (st.toks _)) (.inl hp)
theorem powI (st : St c R ρ H s) (hn : 0 ≤ b) (hsz : (Builtin.Int.intBits a : Int) * b ≤ 2 ^ 27) (h : ∀ t s', St c R ρ H s' → Q (.int (a ^ b.toNat) t) s') : wpAny c.M A (binaryOp .Pow (.int a t) (.int b u)) Q E s := pow_int hn hsz (h _ _ (st.toks _))
theorem eqI (h : Q (.bool (a == b)) s) : wpAny c.M A (compareOp .Eq (.int a t) (.int b u)) Q E s := P.eq_int h
theorem neI (h : Q (.bool (a != b)) s) : wpAny c.M A (compareOp .NotEq (.int a t) (.int b u)) Q E s := P.ne_int h
theorem ltI (h : Q (.bool (decide (a < b))) s) : wpAny c.M A (compareOp .Lt (.int a t) (.int b u)) Q E s := P.lt_int h
theorem leI (h : Q (.bool (decide (a ≤ b))) s) : wpAny c.M A (compareOp .LtE (.int a t) (.int b u)) Q E s := P.le_int h
theorem isNone {v : Value} {av : AV} (hv : abs v = av) (h : Q (.bool av.isNone) s) : wpAny c.M A (compareOp .Is v .none) Q E s := by
  refine is_none ?_
  subst hv
  cases v <;> exact h
theorem isNotNone {v : Value} {av : AV} (hv : abs v = av) (h : Q (.bool (!av.isNone)) s) : wpAny c.M A (compareOp .IsNot v .none) Q E s := by
  refine isNot_none ?_
  subst hv
  cases v <;> exact h
theorem absI (st : St c R ρ H s) (h : ∀ t s', St c R ρ H s' → Q (.int (if a < 0 then -a else a) t) s') : wpAny c.M A (call (.builtin "abs") [.int a t]) Q E s := call_abs_int fun _ _ => h _ _ (st.toks _)
end


noncomputable def funcAt (K : Frag) (f : Addr) : Option FuncData := match K.lookup f with
  | some ⟨_, _, .func fd, _⟩ => some fd
  | _ => none
theorem funcAt_get {K : Frag} {f : Addr} {fd : FuncData} (h : funcAt K f = some fd) : ∃ o, K.lookup f = some o ∧ o.data = .func fd := by
  unfold funcAt at h
  split at h
  · rename_i e; cases h; exact ⟨_, e, rfl⟩
  · cases h

noncomputable def stmtAt (l : List Stmt) (i : Nat) : Stmt := l.getD i (.Pass ⟨0, 0, 0, 0⟩)
noncomputable def stP : Stmt → Str × Arguments × List Stmt × Scope × Expr
  | .FunctionDef n a b _ _ _ s _ _ _ => (n, a, b, s, .Constant .none 0 ⟨0, 0, 0, 0⟩)
  | .ClassDef _ _ _ b _ _ _ _ _ _ _ => ("", ⟨[], [], none, [], [], none, []⟩, b, { kind := .function, names := [], isGenerator := false, isCoroutine := false }, .Constant .none 0 ⟨0, 0, 0, 0⟩)
  | .For _ _ b _ _ => ("", ⟨[], [], none, [], [], none, []⟩, b, { kind := .function, names := [], isGenerator := false, isCoroutine := false }, .Constant .none 0 ⟨0, 0, 0, 0⟩)
  | .While _ b _ _ => ("", ⟨[], [], none, [], [], none, []⟩, b, { kind := .function, names := [], isGenerator := false, isCoroutine := false }, .Constant .none 0 ⟨0, 0, 0, 0⟩)
  | .Expr e _ => ("", ⟨[], [], none, [], [], none, []⟩, [], { kind := .function, names := [], isGenerator := false, isCoroutine := false }, e)
  | _ => ("", ⟨[], [], none, [], [], none, []⟩, [], { kind := .function, names := [], isGenerator := false, isCoroutine := false }, .Constant .none 0 ⟨0, 0, 0, 0⟩)
noncomputable def nameOf (s : Stmt) : Str := (stP s).1
noncomputable def paramsOf (s : Stmt) : Arguments := (stP s).2.1
noncomputable def bodyOf (s : Stmt) : List Stmt := (stP s).2.2.1
noncomputable def scopeOf (s : Stmt) : Scope := (stP s).2.2.2.1

structure FnIn (K : Frag) (f : Addr) (st : Stmt) (qual : Str) (dV kV cdv : Value) : Prop where
  fn : ∃ doc pm an ct, funcAt K f = some (fnX (nameOf st) qual (paramsOf st) (bodyOf st) (scopeOf st) [] dV kV doc pm an cdv ct)
  code : codeIn K cdv qual = true
  co : (scopeOf st).isCoroutine = false
  gen : (scopeOf st).isGenerator = false
  kind : (scopeOf st).kind = .function

noncomputable abbrev envK (qual : Str) (st : Stmt) (L f : Addr) (cdv : Value) (cells : List (Str × Addr)) : Env := envX qual (scopeOf st) L f cdv cells
noncomputable abbrev fdK (st : Stmt) (qual : Str) (dV kV doc pm : Value) (an : Option Addr) (cdv ct : Value) : FuncData := fnX (nameOf st) qual (paramsOf st) (bodyOf st) (scopeOf st) [] dV kV doc pm an cdv ct

theorem kindK {env : Env} {qual : Str} {fs : Stmt} {L f : Addr} {cdv : Value} {cells : List (Str × Addr)} {x : Str} {k : NameKind} (hf : env = envK qual fs L f cdv cells) (h : (scopeOf fs).names.lookup x = some k) : env.kindOf x = some k := by rw [hf]; exact h
section
variable {c : Cx} {R : Ledger} {ρ : Str → Option AV} {H : Ledger} {s : Shared} {A : Around} {E : Value → Shared → Prop} {f : Addr} {fs : Stmt} {qual : Str} {dV kV cdv : Value} {pos : List Value} {kw : List (Str × Value)} {binds : List (Str × Value)} {d : Nat} {Q : Value → Shared → Prop}

theorem callK (fi : FnIn c.G.K f fs qual dV kV cdv) (ok : c.Ok) (rm : Room c A (d + 1)) (st : St c R ρ H s)
    (hbind : ∀ doc pm an ct, BindsTo s (fdK fs qual dV kV doc pm an cdv ct) ⟨pos, kw⟩ binds) (hloc : (binds.all fun y => decide ((scopeOf fs).names.lookup y.1 = some .local)) = true) (hcell : ((scopeOf fs).names.all fun x => decide (x.2 ≠ .cell)) = true)
    (h : ∀ c' A' L' s', c'.Ok → c'.G = c.G → c'.fenv = envK qual fs L' f cdv [] → Room c' A' d → St c' R (fun x => (binds.reverse.lookup x).map abs) H s' →
      wpAny c'.M A' (execs (bodyOf fs) c'.fenv) (Back c c' R ρ Q) (fun _ _ => False) s') :
    wpAny c.M A (call (.ref f) pos kw) Q E s := by
  obtain ⟨doc, pm, an, ct, e⟩ := fi.fn
  obtain ⟨o, h1, h2⟩ := funcAt_get e
  obtain ⟨m, F, _⟩ := st.fr
  have KI := ok.K.keeps F.keep
  refine wpAny_call (call_def ok rm st (KI _ _ h1) h2 (codeRec_of KI fi.code) (hbind doc pm an ct) (locs hloc) (fun x hx => of_decide_eq_true (List.all_eq_true.mp hcell x hx)) fi.co fi.gen fi.kind fun g L' s' ok' rm' st' => ?_)
  exact h _ _ L' s' ok' rfl rfl rm' st'
theorem codeK {Rr : Result → Shared → Prop} (fi : FnIn c.G.K f fs qual dV kV cdv) (ok : c.Ok) (rm : Room c A (d + 1)) (st : St c R ρ H s)
    (hbind : ∀ doc pm an ct, BindsTo s (fdK fs qual dV kV doc pm an cdv ct) ⟨pos, kw⟩ binds) (hloc : (binds.all fun y => decide ((scopeOf fs).names.lookup y.1 = some .local)) = true) (hcell : ((scopeOf fs).names.all fun x => decide (x.2 ≠ .cell)) = true)
    (h : ∀ c' A' L' s', c'.Ok → c'.G = c.G → c'.fenv = envK qual fs L' f cdv [] → Room c' A' d → St c' R (fun x => (binds.reverse.lookup x).map abs) H s' →
      wpAny c'.M A' (execs (bodyOf fs) c'.fenv) (Back c c' R ρ fun v s'' => Rr (.ok (.ret v)) s'') (fun _ _ => False) s') :
    codeAny c.M A (.call (.ref f) ⟨pos, kw⟩) Rr s := by
  obtain ⟨doc, pm, an, ct, e⟩ := fi.fn
  obtain ⟨o, h1, h2⟩ := funcAt_get e
  obtain ⟨m, F, _⟩ := st.fr
  have KI := ok.K.keeps F.keep
  refine call_def ok rm st (KI _ _ h1) h2 (codeRec_of KI fi.code) (hbind doc pm an ct) (locs hloc) (fun x hx => of_decide_eq_true (List.all_eq_true.mp hcell x hx)) fi.co fi.gen fi.kind fun g L' s' ok' rm' st' => ?_
  exact h _ _ L' s' ok' rfl rfl rm' st'
theorem room_make {C : Addr} (rm : Room c A (d + 1)) : Room c (A.under (.builtin "type.__call__" ⟨.ref C :: pos, kw⟩)) d := by
  refine ⟨?_, ?_, ?_, rm.handled⟩
  · exact rm.frames
  · have := rm.depth; show A.depth + 1 + d < _; exact om1 this
  · have := rm.units; show A.units + (Code.builtin "type.__call__" ⟨.ref C :: pos, kw⟩).cUnits + 20 * d < _
    have e : (Code.builtin "type.__call__" ⟨.ref C :: pos, kw⟩).cUnits ≤ 4 := by exact Nat.le_of_ble_eq_true rfl
    exact om3 this e
theorem room_less {d' : Nat} (rm : Room c A d) (h : d' ≤ d) : Room c A d' := ⟨rm.frames, by have := rm.depth; exact om4 h this, by have := rm.units; exact om5 h this, rm.handled⟩
theorem callKV {vs : List Value} {binds : Value → List (Str × Value)} (fi : FnIn c.G.K f fs qual dV kV cdv) (ok : c.Ok) (rm : Room c A (d + 1)) (st : St c R ρ H s) (hsz : vs.length ≤ sizeLine)
    (hbind : ∀ doc pm an ct, bindArgs (fdK fs qual dV kV doc pm an cdv ct) ⟨pos, kw⟩ = (newTuple vs >>= fun t => pure (binds t)))
    (hloc : ∀ D : Addr, ∀ y ∈ binds (.ref D), (scopeOf fs).names.lookup y.1 = some .local) (hcell : ((scopeOf fs).names.all fun x => decide (x.2 ≠ .cell)) = true)
    (h : ∀ D c' A' L' s', H D = none → c'.Ok → c'.G = c.G → c'.fenv = envK qual fs L' f cdv [] → Room c' A' d → St c' R (fun x => ((binds (.ref D)).reverse.lookup x).map abs) (upd H D (.tuple (vs.map abs))) s' →
      wpAny c'.M A' (execs (bodyOf fs) c'.fenv) (Back c c' R ρ Q) (fun _ _ => False) s') :
    wpAny c.M A (call (.ref f) pos kw) Q E s := by
  obtain ⟨doc, pm, an, ct, e⟩ := fi.fn
  obtain ⟨o, h1, h2⟩ := funcAt_get e
  obtain ⟨m, F, _⟩ := st.fr
  have KI := ok.K.keeps F.keep
  refine wpAny_call (call_defV ok rm st (KI _ _ h1) h2 (codeRec_of KI fi.code) hsz (hbind doc pm an ct) hloc (fun x hx => of_decide_eq_true (List.all_eq_true.mp hcell x hx)) fi.co fi.gen fi.kind fun D g L' s' hD ok' rm' st' => ?_)
  exact h D _ _ L' s' hD ok' rfl rfl rm' st'
theorem callKC (fi : FnIn c.G.K f fs qual dV kV cdv) (ok : c.Ok) (rm : Room c A (d + 1)) (st : St c R ρ H s)
    (hbind : ∀ doc pm an ct, BindsTo s (fdK fs qual dV kV doc pm an cdv ct) ⟨pos, kw⟩ binds) (hkind : (binds.all fun y => (scopeOf fs).names.lookup y.1 == some .local || (scopeOf fs).names.lookup y.1 == some .cell) = true)
    (hnd : ((cellsFrom 0 (scopeOf fs).names []).map (·.1)).Nodup)
    (h : ∀ c' A' L' s', c'.Ok → c'.G = c.G → c'.fenv = envK qual fs L' f cdv (cellsFrom (L' + 1) (scopeOf fs).names []) → Room c' A' d → (∀ a, H a ≠ none → a < L') →
      St c' R (fun x => (bindL (fun y => (scopeOf fs).names.lookup y) binds (fun _ => none) x).map abs) (addCells (bindC (fun y => (scopeOf fs).names.lookup y) binds fun _ => none) (cellsFrom (L' + 1) (scopeOf fs).names []) H) s' →
      wpAny c'.M A' (execs (bodyOf fs) c'.fenv) (Back c c' R ρ Q) (fun _ _ => False) s') :
    wpAny c.M A (call (.ref f) pos kw) Q E s := by
  obtain ⟨doc, pm, an, ct, e⟩ := fi.fn
  obtain ⟨o, h1, h2⟩ := funcAt_get e
  obtain ⟨m, F, _⟩ := st.fr
  have KI := ok.K.keeps F.keep
  refine wpAny_call (call_defC ok rm st (KI _ _ h1) h2 (codeRec_of KI fi.code) (hbind doc pm an ct) hkind hnd fi.co fi.gen fi.kind fun g L' s' ok' rm' hl st' => ?_)
  exact h _ _ L' s' ok' rfl rfl rm' hl st'

theorem bindsK {fd : FuncData} {args : Args} (ok : c.Ok) (st : St c R ρ H s) (e : ∀ S, peek c.G.K S (bindArgs fd args) = some binds) : BindsTo s fd args binds := by
  obtain ⟨m, F, _⟩ := st.fr
  exact kp_binds (ok.K.keeps F.keep) e
end


section
variable {c : Cx} {R : Ledger} {ρ : Str → Option AV} {H : Ledger} {s : Shared} {m : Str → Option Value}

theorem St.fr_m (st : St c R ρ H s) : ∃ m, Fr c.h₀ c.L s.heap m ∧ ∀ {h' : Heap} {tk : Nat}, Fr c.h₀ c.L h' m → News c.h₀ c.L h' (newsOf s.heap R H) → St c R ρ H { s with heap := h', toks := tk } := by
  obtain ⟨m, F, hr⟩ := st.fr
  exact ⟨m, F, fun {h'} {tk} F' N' => st.carry (c' := c) (s' := { s with heap := h', toks := tk }) F' hr N' (by have e := st.sh; rw [e])⟩
theorem news_lt (st : St c R ρ H s) {x : Addr} (hx : ∀ p ∈ newsOf s.heap R H, p.1 < x) : H x = none ∧ R x = none := by
  constructor
  · cases q : H x with
    | none => rfl
    | some ao =>
      obtain ⟨o, e, _⟩ := st.own x ao q
      exact absurd (hx (x, o) (mem_newsOf.mpr ⟨.inl (by rw [q]; intro z; cases z), e⟩)) (Nat.lt_irrefl _)
  · cases q : R x with
    | none => rfl
    | some ao =>
      obtain ⟨o, e, _⟩ := st.hid x ao q
      exact absurd (hx (x, o) (mem_newsOf.mpr ⟨.inr (by rw [q]; intro z; cases z), e⟩)) (Nat.lt_irrefl _)
theorem St.grow (st : St c R ρ H s) {h' : Heap} {tk : Nat} {x : Addr} {o : Obj} {ao : AO} (st' : St c R ρ H { s with heap := h', toks := tk }) (ho : h'.get? x = some o) (hL : x ≠ c.L) (hn : c.h₀.get? x = none) (h3 : 3 < x) (hR : R x = none) (hi : ao.Is o) :
    St c R ρ (upd H x ao) { s with heap := h', toks := tk } := by
  refine ⟨st'.fr, fun a y e => ?_, st'.hid, fun a e => ?_, st'.sh⟩
  · by_cases q : a = x
    · subst q; rw [upd_self] at e; cases e; exact ⟨o, ho, hi, hL, hn, h3⟩
    · rw [upd_ne q] at e; exact st'.own a y e
  · by_cases q : a = x
    · subst q; exact hR
    · rw [upd_ne q] at e; exact st'.dis a e
noncomputable def repl (D : Addr) (o' : Obj) (news : List (Addr × Obj)) : List (Addr × Obj) := news.map fun p => if p.1 = D then (D, o') else p
theorem upd_repl {D : Addr} {o o' : Obj} : ∀ {news : List (Addr × Obj)}, (news.map (·.1)).Nodup → (D, o) ∈ news → Upd D o o' news (repl D o' news)
  | (a, x) :: r, hn, hm => by
    rw [List.map_cons, List.nodup_cons] at hn
    by_cases q : a = D
    · subst q
      have hx : x = o := by
        rcases List.mem_cons.mp hm with e | e
        · exact (Prod.mk.inj e).2.symm
        · exact absurd (List.mem_map.mpr ⟨_, e, rfl⟩) hn.1
      subst hx
      have hr : ∀ p ∈ r, p.1 ≠ a := fun p hp e => hn.1 (List.mem_map.mpr ⟨p, hp, e⟩)
      have : repl a o' ((a, x) :: r) = (a, o') :: r := by
        unfold repl
        rw [List.map_cons, if_pos rfl]
        congr 1
        exact (List.map_congr_left fun p hp => if_neg (hr p hp)).trans (List.map_id' r)
      rw [this]
      exact .head hr
    · have hm' : (D, o) ∈ r := by
        rcases List.mem_cons.mp hm with e | e
        · exact absurd (Prod.mk.inj e).1.symm q
        · exact e
      have : repl D o' ((a, x) :: r) = (a, x) :: repl D o' r := by
        unfold repl
        rw [List.map_cons, if_neg q]
      rw [this]
      exact .tail q (upd_repl hn.2 hm')
theorem newsOf_nodup {h : Heap} {R H : Ledger} : ((newsOf h R H).map (·.1)).Nodup := by
  unfold newsOf
  rw [List.map_filterMap]
  have key : ∀ l : List Nat, l.Nodup → (l.filterMap fun a => Option.map (fun p : Addr × Obj => p.1) (match H a, R a with | none, none => none | _, _ => (h.get? a).map fun o => (a, o))).Nodup := by
    intro l
    induction l with
    | nil => intro _; exact .nil
    | cons a r ih =>
      intro hn
      rw [List.nodup_cons] at hn
      rw [List.filterMap_cons]
      have hval : ∀ b x, Option.map (fun p : Addr × Obj => p.1) (match H b, R b with | none, none => none | _, _ => (h.get? b).map fun o => (b, o)) = some x → x = b := by
        intro b x e
        obtain ⟨p, e1, e2⟩ := Option.map_eq_some_iff.mp e
        split at e1
        · cases e1
        · obtain ⟨o, _, e4⟩ := Option.map_eq_some_iff.mp e1
          rw [← e2, ← e4]
      split
      · exact ih hn.2
      · rename_i x e
        refine List.nodup_cons.mpr ⟨fun hm => ?_, ih hn.2⟩
        obtain ⟨b, hb, eb⟩ := List.mem_filterMap.mp hm
        have h1 := hval a x e
        have h2 := hval b x eb
        exact hn.1 (by rw [← h1, h2]; exact hb)
  exact key _ List.nodup_range
theorem St.ofUpd (st : St c R ρ H s) {D : Addr} {ao ao' : AO} {o o' : Obj} (hD : H D = some ao) (ho : s.heap.get? D = some o) (hi : ao'.Is o') :
    ∃ m, Fr c.h₀ c.L s.heap m ∧ Upd D o o' (newsOf s.heap R H) (repl D o' (newsOf s.heap R H)) ∧
      ∀ {h' : Heap} {tk : Nat}, Fr c.h₀ c.L h' m → News c.h₀ c.L h' (repl D o' (newsOf s.heap R H)) → St c R ρ (upd H D ao') { s with heap := h', toks := tk } := by
  obtain ⟨m, F, hr⟩ := st.fr
  have hm : (D, o) ∈ newsOf s.heap R H := mem_newsOf.mpr ⟨.inl (by rw [hD]; intro z; cases z), ho⟩
  refine ⟨m, F, upd_repl newsOf_nodup hm, fun {h'} {tk} F' N' => ?_⟩
  have same : ∀ b ob, b ≠ D → (b, ob) ∈ newsOf s.heap R H → (b, ob) ∈ repl D o' (newsOf s.heap R H) := fun b ob q hb => List.mem_map.mpr ⟨(b, ob), hb, if_neg q⟩
  have here : (D, o') ∈ repl D o' (newsOf s.heap R H) := List.mem_map.mpr ⟨(D, o), hm, if_pos rfl⟩
  refine ⟨⟨m, F', hr⟩, fun a x e => ?_, fun a x e => ?_, fun a e => ?_, by have e := st.sh; rw [e]⟩
  · by_cases q : a = D
    · subst q; rw [upd_self] at e; cases e
      obtain ⟨_, _, _, _, _, e5⟩ := st.own _ _ hD
      have z := N' _ here
      exact ⟨o', z.1, hi, z.2.1, z.2.2, e5⟩
    · rw [upd_ne q] at e
      obtain ⟨ob, e1, e2, _, _, e5⟩ := st.own a x e
      have z := N' _ (same a ob q (mem_newsOf.mpr ⟨.inl (by rw [e]; intro z; cases z), e1⟩))
      exact ⟨ob, z.1, e2, z.2.1, z.2.2, e5⟩
  · obtain ⟨ob, e1, e2, _, _, e5⟩ := st.hid a x e
    have q : a ≠ D := by
      rintro rfl
      rw [st.dis a (by rw [hD]; intro z; cases z)] at e; cases e
    have z := N' _ (same a ob q (mem_newsOf.mpr ⟨.inr (by rw [e]; intro z; cases z), e1⟩))
    exact ⟨ob, z.1, e2, z.2.1, z.2.2, e5⟩
  · by_cases q : a = D
    · subst q; exact st.dis a (by rw [hD]; intro z; cases z)
    · rw [upd_ne q] at e; exact st.dis a e
end


theorem meets_bool_list (l : Addr) (items : Array Value) (hfit : (items.size : Int) < 2 ^ 63) :
    Meets (Builtin.«bool.__new__» ⟨[.type "bool", .ref l], []⟩) (fun _ R s => s.heap.IsList l items ∧ R (.ok (.ret (.bool (!items.isEmpty)))) { s with toks := s.toks + 1 + 1 }) :=
  Meets.of_wp fun prog w A R s hs => by
    obtain ⟨hl, hs⟩ := hs
    obtain ⟨hp, g, d, tk, os⟩ := s
    have f1 := F.conv_sub_bool
    repeat (any_goals (first | assumption | (with_reducible refine wpAny_truthy_list hl hfit ?_) | wp_step))
    all_goals first | exact ⟨_, rfl, hs⟩ | exact hs | skip
section
variable {c : Cx} {R : Ledger} {ρ : Str → Option AV} {H : Ledger} {s : Shared} {A : Around} {E : Value → Shared → Prop} {l : Addr} {xs ys : List AV} {k : Int} {t u : Tok} {av : AV} {Q : Value → Shared → Prop}

theorem St.kin (ok : c.Ok) (st : St c R ρ H s) : c.G.K.In s.heap := let ⟨_, F, _⟩ := st.fr; ok.K.keeps F.keep

theorem idxL {value slice : Expr} (st : St c R ρ H s) (hl : SeesL c H l xs) (h0 : 0 ≤ k) (hx : xs[k.toNat]? = some av) (hk : k < 2 ^ 63) (h : ∀ v, abs v = av → Q v s)
    (hs : subscripted slice false (.ref l) (.int k t) = operate [.ref l, .int k t] (getItem (.ref l) (.int k t))) :
    wpAny c.M A (subscriptTail value slice (.ref l) (.int k t)) Q E s := by
  obtain ⟨vs, hL, e⟩ := st.list hl
  rw [← e, List.getElem?_map] at hx
  obtain ⟨v, h1, h2⟩ := Option.map_eq_some_iff.mp hx
  exact tail_any hL.typeIs slot_list_getitem.lookup (wpAny_getItem_list hL h0 hk (by simpa using h1) (h v h2)) hs
theorem idxLneg {value slice : Expr} (st : St c R ρ H s) (hl : SeesL c H l xs) (h0 : k < 0) (h1 : -(xs.length : Int) ≤ k) (hx : xs[(k + xs.length).toNat]? = some av) (hk : -(2 ^ 63) ≤ k) (h : ∀ v, abs v = av → Q v s)
    (hs : subscripted slice false (.ref l) (.int k t) = operate [.ref l, .int k t] (getItem (.ref l) (.int k t))) :
    wpAny c.M A (subscriptTail value slice (.ref l) (.int k t)) Q E s := by
  obtain ⟨vs, hL, e⟩ := st.list hl
  have hlen : vs.length = xs.length := by rw [← e, List.length_map]
  rw [← e, List.getElem?_map, List.length_map] at hx
  obtain ⟨v, h2, h3⟩ := Option.map_eq_some_iff.mp hx
  exact tail_any hL.typeIs slot_list_getitem.lookup (wpAny_getItem_list_neg hL h0 (by rw [List.size_toArray, hlen]; exact h1) hk (by simpa using h2) (h v h3)) hs
theorem lenL (st : St c R ρ H s) (hl : SeesL c H l xs) (hz : xs.length < 2 ^ 62) (h : ∀ t s', St c R ρ H s' → Q (.int xs.length t) s') : wpAny c.M A (call (.builtin "len") [.ref l]) Q E s := by
  obtain ⟨vs, hL, e⟩ := st.list hl
  have hlen : vs.length = xs.length := by rw [← e, List.length_map]
  refine Calls.call_len_list hL (by rw [List.size_toArray, hlen]; exact om6 hz) ?_
  rw [List.size_toArray, hlen]
  exact h _ _ (st.toks _)
theorem lenT (st : St c R ρ H s) (hl : H l = some (.tuple xs)) (hz : xs.length < 2 ^ 62) (h : ∀ t s', St c R ρ H s' → Q (.int xs.length t) s') : wpAny c.M A (call (.builtin "len") [.ref l]) Q E s := by
  obtain ⟨o, ho, vs, n, rfl, e⟩ := st.get hl
  have hlen : vs.length = xs.length := by rw [← e, List.length_map]
  refine PyProof.Rows.len_tuple ⟨_, ho, rfl, n, rfl⟩ (by rw [List.size_toArray, hlen]; exact om6 hz) ?_
  rw [List.size_toArray, hlen]
  exact h _ _ (st.toks _)
theorem truthyL {Q : Bool → Shared → Prop} (st : St c R ρ H s) (hl : SeesL c H l xs) (hz : xs.length < 2 ^ 62) (h : ∀ s', St c R ρ H s' → Q (!xs.isEmpty) s') : wpAny c.M A (truthy (.ref l)) Q E s := by
  obtain ⟨vs, hL, e⟩ := st.list hl
  have hlen : vs.length = xs.length := by rw [← e, List.length_map]
  refine wpAny_truthy_list hL (by rw [List.size_toArray, hlen]; exact om6 hz) ?_
  have : (!vs.toArray.isEmpty) = !xs.isEmpty := by rw [← e]; simp
  rw [this]
  exact h _ (st.toks _)

theorem boolL (st : St c R ρ H s) (hl : SeesL c H l xs) (hz : xs.length < 2 ^ 62) (h : ∀ s', St c R ρ H s' → Q (.bool (!xs.isEmpty)) s') : wpAny c.M A (call (.type "bool") [.ref l]) Q E s := by
  obtain ⟨vs, hL, e⟩ := st.list hl
  have hlen : vs.length = xs.length := by rw [← e, List.length_map]
  refine call_bool_1 (meets_bool_list l vs.toArray (by rw [List.size_toArray, hlen]; exact om6 hz)) (show _ ∧ wants (fun obj s₁ => s₁.TypeIs obj "bool" ∧ Q obj s₁) E _ _ from ⟨hL, rfl, ?_⟩)
  have : (!vs.toArray.isEmpty) = !xs.isEmpty := by rw [← e]; simp
  rw [this]
  exact h _ (st.toks _)
theorem tupleOf (ok : c.Ok) (st : St c R ρ H s) (hl : SeesL c H l xs) (hz : xs.length ≤ sizeLine) (h : ∀ a s', H a = none → St c R ρ (upd H a (.tuple xs)) s' → Q (.ref a) s') : wpAny c.M A (call (.type "tuple") [.ref l]) Q E s := by
  obtain ⟨vs, hL, e⟩ := st.list hl
  have hlen : vs.length = xs.length := by rw [← e, List.length_map]
  refine call_tuple_list hL (fun h' hk => ?_) (by rw [List.size_toArray, hlen]; exact hz)
  have st1 : St c R ρ H { s with heap := h' } := st.keeps (tk := s.toks) hk
  exact h _ _ st1.none_size (st1.alloc ok (o := { cls := .type "tuple", data := .seq vs.toArray }) (ao := .tuple xs) ⟨vs, 0, rfl, e⟩ rfl)
theorem newL {vs : List Value} (ok : c.Ok) (st : St c R ρ H s) (hz : vs.length ≤ sizeLine) (h : ∀ a s', H a = none → St c R ρ (upd H a (.list (vs.map abs))) s' → Q (.ref a) s') : wpAny c.M A (newList vs) Q E s :=
  wpAny_newObj_type (h _ _ st.none_size (st.alloc ok (o := { cls := .type "list", data := .seq vs.toArray }) (ao := .list (vs.map abs)) ⟨vs, 0, rfl, rfl⟩ rfl)) (by show vs.toArray.size ≤ sizeLine; rw [List.size_toArray]; exact hz)
theorem appendL {x : Value} (st : St c R ρ H s) (hl : H l = some (.list xs)) (hz : xs.length ≤ sizeLine) (h : ∀ s', St c R ρ (upd H l (.list (xs ++ [abs x]))) s' → Q .none s') : wpAny c.M A (call (.builtin "list.append") [.ref l, x]) Q E s := by
  obtain ⟨o, ho, vs, n, rfl, e⟩ := st.get hl
  have hlen : vs.length = xs.length := by rw [← e, List.length_map]
  obtain ⟨m, F, U, back⟩ := st.ofUpd (ao' := .list (xs ++ [abs x])) (o' := listOf (vs.toArray.push x) (n + 1)) hl ho ⟨vs ++ [x], n + 1, by simp, by simp [e]⟩
  exact append_K F st.news U (fun h' F' N' => h _ (back F' N')) (by rw [List.size_toArray, hlen]; exact hz)
theorem insertL {x : Value} (st : St c R ρ H s) (hl : H l = some (.list xs)) (hk : 0 ≤ k) (hk2 : k ≤ xs.length) (hz : xs.length ≤ sizeLine) (h : ∀ s', St c R ρ (upd H l (.list (xs.take k.toNat ++ abs x :: xs.drop k.toNat))) s' → Q .none s') :
    wpAny c.M A (call (.builtin "list.insert") [.ref l, .int k t, x]) Q E s := by
  obtain ⟨o, ho, vs, n, rfl, e⟩ := st.get hl
  have hlen : vs.length = xs.length := by rw [← e, List.length_map]
  have hi : kl_ins vs k x = vs.take k.toNat ++ x :: vs.drop k.toNat := by
    unfold kl_ins
    rw [if_neg (by exact om7 hk), Nat.min_eq_left (by exact om8 hk2 hlen)]
  obtain ⟨m, F, U, back⟩ := st.ofUpd (ao' := .list (xs.take k.toNat ++ abs x :: xs.drop k.toNat)) (o' := listOf (vs.take k.toNat ++ x :: vs.drop k.toNat).toArray (n + 1)) hl ho ⟨_, n + 1, rfl, by rw [List.map_append, List.map_cons, List.map_take, List.map_drop, e]⟩
  refine kl_insert F st.news ?_ hi U (by rw [List.toList_toArray, hlen]; exact hz) (fun h' F' N' => h _ (back F' N'))
  have hs : (xs.length : Int) ≤ 2 ^ 24 := by rw [sizeLine_eq] at hz; exact om9 hz
  exact fitsIndex_of hk (by exact om10 hk2 hs)
theorem popL (st : St c R ρ H s) (hl : H l = some (.list (xs ++ [av]))) (hz : xs.length < sizeLine) (h : ∀ v s', abs v = av → St c R ρ (upd H l (.list xs)) s' → Q v s') : wpAny c.M A (call (.builtin "list.pop") [.ref l]) Q E s := by
  obtain ⟨o, ho, vs, n, rfl, e⟩ := st.get hl
  have hlen : vs.length = xs.length + 1 := by have := congrArg List.length e; simpa using this
  obtain ⟨p, y, rfl⟩ : ∃ p y, vs = p ++ [y] := by
    rcases List.eq_nil_or_concat vs with e' | ⟨p, y, e'⟩
    · subst e'; simp at hlen
    · exact ⟨p, y, by rw [e']; simp⟩
  rw [List.map_append, List.map_cons, List.map_nil] at e
  obtain ⟨e1, e2⟩ := List.append_inj' e rfl
  obtain ⟨m, F, U, back⟩ := st.ofUpd (ao' := .list xs) (o' := listOf p.toArray (n + 1)) hl ho ⟨p, n + 1, rfl, e1⟩
  exact kl_pop F st.news (kpa_last y p) U (by rw [List.toList_toArray, hlen]; exact om11 hz) (fun h' F' N' => h y _ (List.head_eq_of_cons_eq e2) (back F' N'))
theorem clearL (st : St c R ρ H s) (hl : H l = some (.list xs)) (hz : xs.length ≤ sizeLine) (h : ∀ s', St c R ρ (upd H l (.list [])) s' → Q .none s') : wpAny c.M A (call (.builtin "list.clear") [.ref l]) Q E s := by
  obtain ⟨o, ho, vs, n, rfl, e⟩ := st.get hl
  have hlen : vs.length = xs.length := by rw [← e, List.length_map]
  refine call_meets PySem.F.slot_list_clear ⟨_, ho, rfl⟩ PySem.F.entry_list_clear (PySem.F.args_list_clear_1 _) (PySem.AutoSeq1.list_clear_list_0 l vs.toArray n (by rw [List.size_toArray, hlen]; exact hz)) ⟨ho, h _ ?_⟩
  have q := PySem.IsL.update (show PySem.IsL s.heap l vs.toArray n from ho) fun _ => #[]
  exact st.set (tk := s.toks) hl (Heap.SameBut.update ..) q ⟨[], _, rfl, rfl⟩
end


section
variable {c : Cx} {R R₀ : Ledger} {ρ : Str → Option AV} {H : Ledger} {s : Shared} {A : Around} {E : Value → Shared → Prop} {env : Env}

theorem St.unhide {it : Addr} {k : AO} (st : St c (upd R it k) ρ H s) (h : R it = none) : St c R ρ H s :=
  st.dropR fun a ao e => by
    by_cases q : a = it
    · subst q; rw [h] at e; cases e
    · rw [upd_ne q]; exact e
theorem St.ended {it : Addr} {k : AO} {h' : Heap} {tk : Nat} (st : St c (upd R it k) ρ H s) (hn : R it = none) (he : Heap.ExtBut it s.heap h') : St c R ρ H { s with heap := h', toks := tk } := by
  have hit := st.hid it k (upd_self ..)
  obtain ⟨o, e1, e2, e3, e4, e5⟩ := hit
  have nH : ∀ a ao, H a = some ao → a ≠ it := by
    rintro a ao e rfl
    have := st.dis a (by rw [e]; intro z; cases z)
    rw [upd_self] at this; cases this
  refine ⟨?_, fun a ao e => (st.own a ao e).mono fun o q => he a o (nH a ao e) q, fun a ao e => ?_, fun a e => ?_, by have e := st.sh; rw [e]⟩
  · obtain ⟨m, F, r⟩ := st.fr
    refine ⟨m, ⟨?_, fun b o e => he b o ?_ (F.keep b o e), F.above⟩, r⟩
    · exact F.ns.at' fun o q => he _ o (Ne.symm e3) q
    · rintro rfl; rw [e4] at e; cases e
  · have q : a ≠ it := fun q => by first | (rw [q, hn] at e; cases e) | (rw [← q, hn] at e; cases e)
    exact (st.hid a ao (by rw [upd_ne q]; exact e)).mono fun o z => he a o q z
  · have := st.dis a e
    by_cases q : a = it
    · subst q; exact hn
    · rwa [upd_ne q] at this

structure Itr (c : Cx) (A : Around) (it : Addr) (xs : List AV) (K : Nat → AO) (Bk : Ledger → Prop) : Prop where
  item : ∀ {R ρ H s E} {Q : Option Value → Shared → Prop} {i av}, xs[i]? = some av → R it = none → Bk H → St c (upd R it (K i)) ρ H s → (∀ v s', abs v = av → St c (upd R it (K (i + 1))) ρ H s' → Q (some v) s') → wpAny c.M A (pyNext (.ref it)) Q E s
  done : ∀ {R ρ H s E} {Q : Option Value → Shared → Prop}, R it = none → Bk H → St c (upd R it (K xs.length)) ρ H s → (∀ s', St c R ρ H s' → Q none s') → wpAny c.M A (pyNext (.ref it)) Q E s
  self : ∀ {R ρ H s E} {Q : Value → Shared → Prop} {i}, R it = none → St c (upd R it (K i)) ρ H s → Q (.ref it) s → wpAny c.M A (pyIter (.ref it)) Q E s

noncomputable def liO (l : Addr) (i : Nat) : AO := .obj fun o => o.cls = .type "list_iterator" ∧ o.data = .fields #[.ref l, .int i 0]
noncomputable def tiO (l : Addr) (i : Nat) : AO := .obj fun o => o.cls = .type "tuple_iterator" ∧ o.data = .fields #[.ref l, .int i 0]
noncomputable def riO (a n : Int) (i : Nat) : AO := .obj fun o => o = { cls := .type "range_iterator", data := .fields #[rawInt (a + (i : Nat) * 1), rawInt (n - (i : Nat)), rawInt 1] }

theorem itr_list {it l : Addr} {xs : List AV} (hh : A.handled = none) : Itr c A it xs (liO l) (fun H => SeesL c H l xs) where
  item := fun {R ρ H s E Q i av} hx hn hb st h => by
    obtain ⟨o, e, e1, e2⟩ := st.getR (upd_self ..)
    obtain ⟨vs, hL, el⟩ := st.list hb
    rw [← el, List.getElem?_map] at hx
    obtain ⟨v, h1, h2⟩ := Option.map_eq_some_iff.mp hx
    refine wpAny_pyNext_list_item ⟨o, e, e1, e2⟩ hL (x := v) (by simpa using h1) fun h' hit' hs' => h v _ h2 ?_
    obtain ⟨o', e', e1', e2'⟩ := hit'
    have := st.setR (tk := s.toks) (ao' := liO l (i + 1)) (upd_self ..) hs' e' ⟨e1', e2'⟩
    rwa [show upd (upd R it (liO l i)) it (liO l (i + 1)) = upd R it (liO l (i + 1)) from funext fun b => by unfold upd; split <;> rfl] at this
  done := fun {R ρ H s E Q} hn hb st h => by
    obtain ⟨o, e, e1, e2⟩ := st.getR (upd_self ..)
    obtain ⟨vs, hL, el⟩ := st.list hb
    refine wpAny_pyNext_list_end hh ⟨o, e, e1, e2⟩ hL (by rw [← el]; simp) fun h' he' => h _ (st.ended (tk := s.toks) hn he')
  self := fun {R ρ H s E Q i} hn st h => by
    obtain ⟨o, e, e1, e2⟩ := st.getR (upd_self ..)
    exact wpAny_pyIter_listiter (l := l) (i := i) ⟨o, e, e1, e2⟩ h
theorem iterL {l : Addr} {xs : List AV} {Q : Value → Shared → Prop} (ok : c.Ok) (st : St c R ρ H s) (hl : SeesL c H l xs) (h : ∀ it s', H it = none → R it = none → St c (upd R it (liO l 0)) ρ H s' → Q (.ref it) s') :
    wpAny c.M A (pyIter (.ref l)) Q E s := by
  obtain ⟨vs, hL, el⟩ := st.list hl
  refine wpAny_pyIter_list hL (h _ _ st.none_size st.hid_size ?_)
  have := (st.alloc ok (o := { cls := .type "list_iterator", data := .fields #[.ref l, .int 0 0] }) (ao := liO l 0) ⟨rfl, rfl⟩ rfl).hide (upd_self ..)
  rwa [show del (upd H s.heap.objs.size (liO l 0)) s.heap.objs.size = H from funext fun b => by
    unfold del upd; split
    · rename_i e; rw [e]; exact st.none_size.symm
    · rfl] at this
theorem itr_range {it : Addr} {a : Int} {n : Nat} (hh : A.handled = none) : Itr c A it ((List.range n).map fun (i : Nat) => AV.int (a + i)) (riO a n) (fun _ => True) where
  item := fun {R ρ H s E Q i av} hx hn hb st h => by
    obtain ⟨o, e, rfl⟩ := st.getR (upd_self ..)
    rw [List.getElem?_map] at hx
    obtain ⟨j, h1, h2⟩ := Option.map_eq_some_iff.mp hx
    obtain ⟨hj, h1⟩ := List.getElem?_eq_some_iff.mp h1
    rw [List.length_range] at hj
    rw [List.getElem_range] at h1
    subst h1
    refine wpAny_pyNext_range_item (x := a + (i : Nat) * 1) (left := (n : Int) - (i : Nat)) (step := 1) e (by exact om14 hj) fun h' hit' hs' => h _ _ ?_ ?_
    · rw [← h2]; show AV.int _ = _; congr 1; exact om15
    · have := st.setR (tk := s.toks + 1) (ao' := riO a n (i + 1)) (upd_self ..) hs' hit' (by
        show (_ : Obj) = _
        have e1 : a + (i : Nat) * 1 + 1 = a + ((i + 1 : Nat) : Int) * 1 := by push_cast; exact om16
        have e2 : (n : Int) - (i : Nat) - 1 = (n : Int) - ((i + 1 : Nat) : Int) := by push_cast; exact om17
        rw [e1, e2])
      rwa [show upd (upd R it (riO a n i)) it (riO a n (i + 1)) = upd R it (riO a n (i + 1)) from funext fun b => by unfold upd; split <;> rfl] at this
  done := fun {R ρ H s E Q} hn hb st h => by
    obtain ⟨o, e, rfl⟩ := st.getR (upd_self ..)
    refine wpAny_pyNext_range_end hh (x := a + (((List.range n).map fun (i : Nat) => AV.int (a + i)).length : Nat) * 1) (left := (n : Int) - (((List.range n).map fun (i : Nat) => AV.int (a + i)).length : Nat)) (step := 1) e (by simp) fun h' he' => h _ (st.ended (tk := s.toks) hn he')
  self := fun {R ρ H s E Q i} hn st h => by
    obtain ⟨o, e, rfl⟩ := st.getR (upd_self ..)
    exact wpAny_pyIter_rangeiter e h

theorem itr_tuple {it l : Addr} {xs : List AV} (hh : A.handled = none) : Itr c A it xs (tiO l) (fun H => H l = some (.tuple xs)) where
  item := fun {R ρ H s E Q i av} hx hn hb st h => by
    obtain ⟨o, e, e1, e2⟩ := st.getR (upd_self ..)
    obtain ⟨ol, hol, vs, n, rfl, el⟩ := st.get hb
    rw [← el, List.getElem?_map] at hx
    obtain ⟨v, h1, h2⟩ := Option.map_eq_some_iff.mp hx
    refine wpAny_pyNext_tuple_item ⟨o, e, e1, e2⟩ ⟨_, hol, rfl, n, rfl⟩ (x := v) (by simpa using h1) fun h' hit' hs' => h v _ h2 ?_
    obtain ⟨o', e', e1', e2'⟩ := hit'
    have := st.setR (tk := s.toks) (ao' := tiO l (i + 1)) (upd_self ..) hs' e' ⟨e1', e2'⟩
    rwa [show upd (upd R it (tiO l i)) it (tiO l (i + 1)) = upd R it (tiO l (i + 1)) from funext fun b => by unfold upd; split <;> rfl] at this
  done := fun {R ρ H s E Q} hn hb st h => by
    obtain ⟨o, e, e1, e2⟩ := st.getR (upd_self ..)
    obtain ⟨ol, hol, vs, n, rfl, el⟩ := st.get hb
    refine wpAny_pyNext_tuple_end hh ⟨o, e, e1, e2⟩ ⟨_, hol, rfl, n, rfl⟩ (by rw [← el]; simp) fun h' he' => h _ (st.ended (tk := s.toks) hn he')
  self := fun {R ρ H s E Q i} hn st h => by
    obtain ⟨o, e, e1, e2⟩ := st.getR (upd_self ..)
    exact wpAny_pyIter_tupleiter (t := l) (i := i) ⟨o, e, e1, e2⟩ h
theorem iterT {l : Addr} {xs : List AV} {Q : Value → Shared → Prop} (ok : c.Ok) (st : St c R ρ H s) (hl : H l = some (.tuple xs)) (h : ∀ it s', H it = none → R it = none → St c (upd R it (tiO l 0)) ρ H s' → Q (.ref it) s') :
    wpAny c.M A (pyIter (.ref l)) Q E s := by
  obtain ⟨ol, hol, vs, n, rfl, el⟩ := st.get hl
  refine wpAny_pyIter_tuple ⟨_, hol, rfl, n, rfl⟩ (h _ _ st.none_size st.hid_size ?_)
  have := (st.alloc ok (o := { cls := .type "tuple_iterator", data := .fields #[.ref l, .int 0 0] }) (ao := tiO l 0) ⟨rfl, rfl⟩ rfl).hide (upd_self ..)
  rwa [show del (upd H s.heap.objs.size (tiO l 0)) s.heap.objs.size = H from funext fun b => by
    unfold del upd; split
    · rename_i e; rw [e]; exact st.none_size.symm
    · rfl] at this

theorem forLoopX {target : Expr} {body orelse : List Stmt} {it : Addr} {xs : List AV} {K : Nat → AO} {Bk : Ledger → Prop} {Q : Flow → Shared → Prop} {Er : Value → Shared → Prop} (itr : Itr c A it xs K Bk) (hn : R it = none) (st : St c (upd R it (K 0)) ρ H s)
    (J : Nat → (Str → Option AV) → Ledger → Prop) (hB : ∀ i ρ H, J i ρ H → Bk H) (h0 : J 0 ρ H)
    (turn : ∀ i av R' ρ' H' s' v, xs[i]? = some av → Sub R R' → (∀ ρ H s, St c R' ρ H s → St c R ρ H s) → J i ρ' H' → St c R' ρ' H' s' → abs v = av →
      ∀ K : Flow → Shared → Prop, K = (fun f s₃ => match f with
        | .next | .cont => ∃ ρ'' H'', St c R' ρ'' H'' s₃ ∧ J (i + 1) ρ'' H''
        | .brk => Q .next s₃
        | .ret v => Q (.ret v) s₃) → wpAny c.M A (assign target env v) (fun _ s₂ => wpAny c.M A (execs body env) K (fun _ _ => False) s₂) (fun _ _ => False) s')
    (fin : ∀ ρ' H' s', J xs.length ρ' H' → St c R ρ' H' s' → wpAny c.M A (execs orelse env) Q (fun _ _ => False) s')
    (ht : ∀ v, letOwnedTupleGo target (.ref it) v = pure ()) :
    codeAny c.M A (.forLoop target (.ref it) body orelse env) (fun r s' => match r with | .ok f => Q f s' | .error e => Er e s') s := by
  refine codeAny_forLoop (fun n s' => ∃ i ρ' H', n + i = xs.length ∧ St c (upd R it (K i)) ρ' H' s' ∧ J i ρ' H') ?_ xs.length ⟨0, ρ, H, rfl, st, h0⟩ ht
  rintro n s' ⟨i, ρ', H', hni, st', hJ⟩
  cases n with
  | zero =>
    have hi : i = xs.length := by exact om18 hni
    subst hi
    refine itr.done hn (hB _ _ _ hJ) st' fun s'' st'' => ?_
    exact wpAny_mono (fin ρ' H' s'' hJ st'') (fun f s₃ q => q) fun _ _ z => z.elim
  | succ n =>
    have hlt : i < xs.length := by exact om19 hni
    refine itr.item (av := xs[i]) (by simp [hlt]) hn (hB _ _ _ hJ) st' fun v s'' hv st'' => ?_
    refine wpAny_mono (turn i xs[i] _ ρ' H' s'' v (by simp [hlt]) ((Sub.refl R).upd hn) (fun ρ H s st => st.unhide hn) hJ st'' hv _ rfl) (fun _ s₂ h₂ => wpAny_mono h₂ (fun f s₃ q => ?_) fun _ _ z => z.elim) fun _ _ z => z.elim
    cases f with
    | next => obtain ⟨ρ'', H'', q1, q2⟩ := q; exact ⟨n, Nat.lt_succ_self _, i + 1, ρ'', H'', by exact om20 hni, q1, q2⟩
    | cont => obtain ⟨ρ'', H'', q1, q2⟩ := q; exact ⟨n, Nat.lt_succ_self _, i + 1, ρ'', H'', by exact om20 hni, q1, q2⟩
    | brk => exact q
    | ret v => exact q
theorem forLoopR {target : Expr} {body orelse : List Stmt} {it : Addr} {xs : List AV} {K : Nat → AO} {Bk : Ledger → Prop} {Q : Flow → Shared → Prop} {Er : Value → Shared → Prop} (itr : Itr c A it xs K Bk) (hn : R it = none) (st : St c (upd R it (K 0)) ρ H s)
    (J : Nat → (Str → Option AV) → Ledger → Prop) (hB : ∀ i ρ H, J i ρ H → Bk H) (h0 : J 0 ρ H)
    (turn : ∀ i av R' ρ' H' s' v, xs[i]? = some av → (∀ ρ H s, St c R' ρ H s → St c R ρ H s) → J i ρ' H' → St c R' ρ' H' s' → abs v = av →
      ∀ K : Flow → Shared → Prop, K = (fun f s₃ => match f with
        | .next | .cont => ∃ ρ'' H'', St c R' ρ'' H'' s₃ ∧ J (i + 1) ρ'' H''
        | .brk => Q .next s₃
        | .ret v => Q (.ret v) s₃) → wpAny c.M A (assign target env v) (fun _ s₂ => wpAny c.M A (execs body env) K (fun _ _ => False) s₂) (fun _ _ => False) s')
    (fin : ∀ ρ' H' s', J xs.length ρ' H' → St c R ρ' H' s' → wpAny c.M A (execs orelse env) Q (fun _ _ => False) s')
    (ht : ∀ v, letOwnedTupleGo target (.ref it) v = pure ()) :
    codeAny c.M A (.forLoop target (.ref it) body orelse env) (fun r s' => match r with | .ok f => Q f s' | .error e => Er e s') s := 
  forLoopX itr hn st J hB h0 (fun i av R' ρ' H' s' v hi _ hR hJ st hv K hK => turn i av R' ρ' H' s' v hi hR hJ st hv K hK) fin ht
theorem openK {K K' : Flow → Shared → Prop} {f : Flow} {s : Shared} (e : K = K') (h : K' f s) : K f s := by rw [e]; exact h
theorem openV {K K' : Value → Shared → Prop} {f : Value} {s : Shared} (e : K = K') (h : K' f s) : K f s := by rw [e]; exact h
theorem openS {K K' : Shared → Prop} {s : Shared} (e : K = K') (h : K' s) : K s := by rw [e]; exact h
theorem execsK {M : Model} {st : Stmt} {rest : List Stmt} {Q : Flow → Shared → Prop} (h : ∀ K : Flow → Shared → Prop, K = (fun f s' => match f with | .next => wpAny M A (execs rest env) Q E s' | f => Q f s') → wpAny M A (exec st env) K E s) : wpAny M A (execs (st :: rest) env) Q E s :=
  wpAny_execs_cons (h _ rfl)
theorem whileR {test : Expr} {body orelse : List Stmt} {pos : Pos} {Q : Flow → Shared → Prop} (J : Nat → (Str → Option AV) → Ledger → Prop) (n : Nat) (st : St c R ρ H s) (h0 : J n ρ H)
    (turn : ∀ n ρ' H' s', J n ρ' H' → St c R ρ' H' s' → ∀ K : Flow → Shared → Prop, K = (fun f s₃ => match f with
        | .next | .cont => ∃ m ρ'' H'', m < n ∧ St c R ρ'' H'' s₃ ∧ J m ρ'' H''
        | .brk => Q .next s₃
        | .ret v => Q (.ret v) s₃) → ∀ KQ : Flow → Shared → Prop, KQ = Q → wpAny c.M A (isTrue test env (eval test env)) (fun b s₂ => if b then wpAny c.M A (execs body env) K (fun _ _ => False) s₂ else wpAny c.M A (execs orelse env) KQ (fun _ _ => False) s₂) (fun _ _ => False) s') :
    wpAny c.M A (exec (.While test body orelse pos) env) Q E s := by
  refine wpAny_While (codeAny_whileLoop (fun n s' => ∃ ρ' H', St c R ρ' H' s' ∧ J n ρ' H') ?_ n ⟨ρ, H, st, h0⟩)
  rintro n s' ⟨ρ', H', st', hJ⟩
  refine wpAny_mono (turn n ρ' H' s' hJ st' _ rfl _ rfl) (fun b s₂ h₂ => ?_) fun _ _ z => z.elim
  cases b with
  | false =>
    rw [if_neg (by decide)] at h₂ ⊢
    exact wpAny_mono h₂ (fun f s₃ q => q) fun _ _ z => z.elim
  | true =>
    rw [if_pos rfl] at h₂ ⊢
    refine wpAny_mono h₂ (fun f s₃ q => ?_) fun _ _ z => z.elim
    cases f with
    | next => obtain ⟨m, ρ'', H'', q0, q1, q2⟩ := q; exact ⟨m, q0, ρ'', H'', q1, q2⟩
    | cont => obtain ⟨m, ρ'', H'', q0, q1, q2⟩ := q; exact ⟨m, q0, ρ'', H'', q1, q2⟩
    | brk => exact q
    | ret v => exact q
end


theorem bb_len : bootBuiltins "len" = some (.builtin "len") := by decide +kernel
theorem bb_list : bootBuiltins "list" = some (.type "list") := by decide +kernel
theorem bb_range : bootBuiltins "range" = some (.type "range") := by decide +kernel
theorem bb_abs : bootBuiltins "abs" = some (.builtin "abs") := by decide +kernel
theorem bb_sorted : bootBuiltins "sorted" = some (.builtin "sorted") := by decide +kernel
theorem bb_max : bootBuiltins "max" = some (.builtin "max") := by decide +kernel
theorem bb_min : bootBuiltins "min" = some (.builtin "min") := by decide +kernel
theorem bb_sum : bootBuiltins "sum" = some (.builtin "sum") := by decide +kernel
theorem bb_tuple : bootBuiltins "tuple" = some (.type "tuple") := by decide +kernel
theorem bb_set : bootBuiltins "set" = some (.type "set") := by decide +kernel
theorem bb_iter : bootBuiltins "iter" = some (.builtin "iter") := by decide +kernel
theorem bb_bool : bootBuiltins "bool" = some (.type "bool") := by decide +kernel
theorem bb_dict : bootBuiltins "dict" = some (.type "dict") := by decide +kernel
theorem bb_divmod : bootBuiltins "divmod" = some (.builtin "divmod") := by decide +kernel
theorem bb_enumerate : bootBuiltins "enumerate" = some (.type "enumerate") := by decide +kernel
theorem bb_zip : bootBuiltins "zip" = some (.type "zip") := by decide +kernel

noncomputable def Stands (c : Cx) (f : Value) (h : Heap) : Prop := match f with
  | .ref a => (keepIn c.G.K f = true ∧ c.G.K.In h) ∨ FnAt a h
  | .builtin _ | .type _ => True
  | _ => False
theorem Stands.keeps {c : Cx} {f : Value} {M : Model} (h : Heap) (x : Stands c f h) : ∃ k, (k = Keeper.frame ∨ k = Keeper.machine ∨ k = Keeper.boundFrame) ∧ Looks M h (keeperOf f) k := by
  cases f with
  | ref a =>
    rcases x with ⟨x1, x2⟩ | x
    · exact keeps_K x1 h x2
    · exact keeps_F h x
  | builtin i => exact ⟨.machine, .inr (.inl rfl), Looks.of_pure rfl⟩
  | type i => exact ⟨.machine, .inr (.inl rfl), Looks.of_pure rfl⟩
  | _ => exact x.elim

section
variable {c : Cx} {R : Ledger} {ρ : Str → Option AV} {H : Ledger} {s : Shared} {A : Around} {E : Value → Shared → Prop} {env : Env} {pos : Pos} {f : Value} {first : List Value} {Q : Value → Shared → Prop}

noncomputable def Args_ (M : Model) (A : Around) (E : Value → Shared → Prop) (env : Env) : List Expr → (List Value → Shared → Prop) → Shared → Prop
  | [], Q, s => Q [] s
  | e :: r, Q, s => wpAny M A (eval e env) (fun v s₁ => Args_ M A E env r (fun vs s₂ => Q (v :: vs) s₂) s₁) E s
theorem args_of {M : Model} : ∀ {args : List Expr} {Q : List Value → Shared → Prop} {s : Shared}, starEach args env = args.map (fun e => (false, eval e env)) → Args_ M A E env args Q s → wpAny M A (spliced (backTo pos (starEach args env))) Q E s
  | [], Q, s, _, h => args_nil h
  | e :: r, Q, s, he, h => by
    have hr : starEach r env = r.map (fun e => (false, eval e env)) := by
      have : starEach (e :: r) env = ((starEach [e] env).headD (false, eval e env)) :: starEach r env := by cases e <;> rfl
      rw [this, List.map_cons] at he
      exact (List.cons.inj he).2
    have h1 : starEach (e :: r) env = (false, eval e env) :: starEach r env := by rw [he, hr, List.map_cons]
    exact args_cons (wpAny_mono h (fun v s₁ h₁ => args_of hr h₁) fun _ _ x => x) h1

theorem cw {args : List Expr} (h : Args_ c.M A E env args (fun vs s₁ => Stands c f s₁.heap ∧ wpAny c.M A (call f (first ++ vs)) Q E s₁) s)
    (he : starEach args env = args.map (fun e => (false, eval e env))) : wpAny c.M A (callWith pos f first (backTo pos (starEach args env)) []) Q E s := by
  have hp : (backTo pos (starEach args env)).any (·.1) = false := by
    rw [he]
    induction args with
    | nil => rfl
    | cons e r ih =>
      show (false || _) = false
      simp only [Bool.false_or, backTo, List.any_map, List.map_map]
      rw [List.any_eq_false]
      intro x _
      simp
  refine callWith_of (P := Stands c f) (by rw [hp]; rfl) (fun h x => x.keeps) ?_
  cases args with
  | nil => exact evalArgs_nil3 h
  | cons e r =>
    have h1 : starEach (e :: r) env = (false, eval e env) :: starEach r env := by
      rw [he, List.map_cons]
      have : starEach (e :: r) env = ((starEach [e] env).headD (false, eval e env)) :: starEach r env := by cases e <;> rfl
      rw [this, List.map_cons] at he
      rw [(List.cons.inj he).2]
    have h2 := args_of (pos := pos) he h
    rw [h1] at h2 ⊢
    exact evalArgs_plain h2

noncomputable def Kws_ (M : Model) (A : Around) (E : Value → Shared → Prop) (env : Env) : List Keyword → (List Value → Shared → Prop) → Shared → Prop
  | [], Q, s => Q [] s
  | k :: r, Q, s => wpAny M A (eval k.value env) (fun v s₁ => Kws_ M A E env r (fun vs s₂ => Q (v :: vs) s₂) s₁) E s
theorem kws_of {M : Model} : ∀ {kws : List Keyword} {Q : List Value → Shared → Prop} {s : Shared}, (keywordEach kws env).map (·.2) = kws.map (fun k => eval k.value env) → Kws_ M A E env kws Q s → wpAny M A (evalAll ((backToKw pos (keywordEach kws env)).map (·.2))) Q E s
  | [], Q, s, _, h => wpAny_evalAll_nil h
  | k :: r, Q, s, he, h => by
    have h0 : keywordEach (k :: r) env = ((keywordEach [k] env).headD (none, eval k.value env)) :: keywordEach r env := by cases k; rfl
    rw [h0, List.map_cons, List.map_cons] at he
    obtain ⟨he1, he2⟩ := List.cons.inj he
    rw [h0]
    show wpAny M A (evalAll ((do let v ← ((keywordEach [k] env).headD (none, eval k.value env)).2; standAt pos; pure v) :: (backToKw pos (keywordEach r env)).map (·.2))) Q E s
    rw [he1]
    exact wpAny_evalAll_cons (wpAny_bind (wpAny_mono h (fun v s₁ h₁ => wpAny_bind (wpAny_standAt (wpAny_pure (kws_of he2 h₁)))) fun _ _ x => x))
theorem cwKw {e : Expr} {args : List Expr} {kws : List Keyword} (h : Args_ c.M A E env (e :: args) (fun vs s₁ => Kws_ c.M A E env kws (fun ks s₂ => Stands c f s₂.heap ∧ wpAny c.M A (call f (first ++ vs) (((backToKw pos (keywordEach kws env)).filterMap (·.1)).zip ks)) Q E s₂) s₁) s)
    (he : starEach (e :: args) env = (e :: args).map (fun e => (false, eval e env))) (hk : (keywordEach kws env).map (·.2) = kws.map (fun k => eval k.value env))
    (hall : (backToKw pos (keywordEach kws env)).all (·.1.isSome) = true) (hn : (backToKw pos (keywordEach kws env)).any (·.1.isNone) = false) :
    wpAny c.M A (callWith pos f first (backTo pos (starEach (e :: args) env)) (backToKw pos (keywordEach kws env))) Q E s := by
  have hp : (backTo pos (starEach (e :: args) env)).any (·.1) = false := by
    rw [he]
    simp only [backTo, List.any_map, List.map_map]
    rw [List.any_eq_false]
    intro x _
    simp
  refine callWith_of (P := Stands c f) (by rw [hp, hn]; rfl) (fun h x => x.keeps) ?_
  have h1 : starEach (e :: args) env = (false, eval e env) :: starEach args env := by
    have : starEach (e :: args) env = ((starEach [e] env).headD (false, eval e env)) :: starEach args env := by cases e <;> rfl
    rw [this, List.map_cons] at he
    rw [this, (List.cons.inj he).1]
  exact evalArgs_kw2 hall (wpAny_mono (args_of he h) (fun vs s₁ h₁ => kws_of hk h₁) fun _ _ x => x) h1

theorem stands_K {a : Addr} (ok : c.Ok) (st : St c R ρ H s) (hk : keepIn c.G.K (.ref a) = true) : Stands c (.ref a) s.heap := .inl ⟨hk, st.kin ok⟩

theorem callName {func : Expr} {args : List Expr} {pos : Pos} (h : wpAny c.M A (eval func env) (fun f s₁ => wpAny c.M A (callWith pos f [] (backTo pos (starEach args env)) []) Q E s₁) E s)
    (he : eval (.Call func args [] pos) env = (do callWith pos (← eval func env) [] (backTo pos (starEach args env)) (backToKw pos (keywordEach [] env)))) : wpAny c.M A (eval (.Call func args [] pos) env) Q E s := Call_ h he
theorem callNameKw {func : Expr} {args : List Expr} {kws : List Keyword} {pos : Pos} (h : wpAny c.M A (eval func env) (fun f s₁ => wpAny c.M A (callWith pos f [] (backTo pos (starEach args env)) (backToKw pos (keywordEach kws env))) Q E s₁) E s)
    (he : eval (.Call func args kws pos) env = (do callWith pos (← eval func env) [] (backTo pos (starEach args env)) (backToKw pos (keywordEach kws env)))) : wpAny c.M A (eval (.Call func args kws pos) env) Q E s := by
  rw [he]; exact wpAny_bind h
theorem callMeth {o : Expr} {name : Str} {args : List Expr} {apos pos : Pos} {pl : Sem Bool} (h : wpAny c.M A (eval o env) (fun ov s₁ => wpAny c.M A (getMethod ov name pl) (fun fx s₂ => wpAny c.M A (callWith pos fx.1 fx.2 (backTo pos (starEach args env)) []) Q E s₂) E s₁) E s)
    (he : eval (.Call (.Attribute o name apos) args [] pos) env = (do
      let ov ← eval o env
      standAt apos.atName
      let (f, first) ← holding [ov] (getMethod ov name pl)
      callWith pos f first (backTo pos (starEach args env)) (backToKw pos (keywordEach [] env)))) : wpAny c.M A (eval (.Call (.Attribute o name apos) args [] pos) env) Q E s := methodCall_KW (kws := []) h he

theorem listE {elts : List Expr} {pos : Pos} (h : Args_ c.M A E env elts (fun vs s₁ => wpAny c.M A (newList vs) Q E s₁) s) (he : starEach elts env = elts.map (fun e => (false, eval e env))) : wpAny c.M A (eval (.List elts pos) env) Q E s := List_ (args_of he h)
theorem assignSub {o i : Expr} {pos : Pos} {v : Value} {Q : Unit → Shared → Prop} (h : wpAny c.M A (eval o env) (fun ov s₁ => wpAny c.M A (eval i env) (fun iv s₂ => wpAny c.M A (setItem ov iv v) Q E s₂) E s₁) E s) : wpAny c.M A (assign (.Subscript o i pos) env v) Q E s := by
  intro Γ p hΓ
  simp only [assign_Subscript, Sem.wp_bind', Sem.wp_holding, Sem.wp_cmd_standAt, Sem.wp_release, Sem.wp_pure']
  exact Sem.wp_mono c.M Γ _ (fun ov p₁ s₁ h₁ => Sem.wp_mono c.M Γ _ (fun iv p₂ s₂ h₂ => h₂ Γ _ hΓ) (fun _ _ _ h' => h') _ _ (h₁ Γ p₁ hΓ)) (fun _ _ _ h' => h') _ _ (h Γ _ hΓ)
theorem interactive_fn (h : env.scope.kind = .function) : interactive env = false := by unfold interactive; rw [h]; rfl
theorem exprS {e : Expr} {pos : Pos} {Q : Flow → Shared → Prop} (hk : env.scope.kind = .function) (h : wpAny c.M A (eval e env) (fun v s' => v = .none ∧ Q .next s') E s) (hs : swapsWith e none pos.line env = pure false) : wpAny c.M A (exec (.Expr e pos) env) Q E s := by
  refine wpAny_Expr (wpAny_mono h (fun v s' h' => ?_) fun _ _ x => x) (interactive_fn hk) hs
  obtain ⟨rfl, h'⟩ := h'
  exact h'
theorem methL {l : Addr} {xs : List AV} {name : Str} {id : String} {pl : Sem Bool} {Q : Value × List Value → Shared → Prop} (st : St c R ρ H s) (hl : H l = some (.list xs)) (slot : Slot "list" name id) (hty : typeOf (.builtin id) = pure (.type "method_descriptor"))
    (h : Q (.builtin id, [.ref l]) s) : wpAny c.M A (getMethod (.ref l) name pl) Q E s := by
  obtain ⟨o, ho, vs, n, rfl, e⟩ := st.get hl
  exact getMethod_builtin ⟨_, ho, rfl⟩ PySem.F.plainAttrs_list slot hty (fun a e => by cases e; exact ⟨_, ho, rfl⟩) h
end


noncomputable def AV.plain : AV → Bool
  | .raw _ => false
  | _ => true
theorem handed_plain {v : Value} (h : (abs v).plain = true) : handedIn v = true := by cases v <;> first | rfl | (simp [abs, AV.plain] at h)

noncomputable def putA (name : Str) (v : AV) : List (Str × AV) → List (Str × AV)
  | [] => [(name, v)]
  | (x, u) :: r => if x = name then (x, v) :: r else (x, u) :: putA name v r

theorem getL_of {name : Str} : ∀ {ds : List DictEntry} {es : List (Str × AV)}, ds.map (fun e => (abs e.key, abs e.val)) = es.map (fun p => (AV.str p.1, p.2)) → ∃ r, getL name ds = some r ∧ r.map abs = es.lookup name := by
  intro ds es h
  have noref : ds.any (·.refKey) = false := by
    rw [List.any_eq_false]
    intro e he
    have : (abs e.key, abs e.val) ∈ es.map (fun p => (AV.str p.1, p.2)) := h ▸ List.mem_map.mpr ⟨e, he, rfl⟩
    obtain ⟨p, _, q⟩ := List.mem_map.mp this
    obtain ⟨t, q⟩ := abs_str (Prod.mk.inj q).1.symm
    simp [DictEntry.refKey, q]
  have key : (ds.find? (·.key.isStr name)).map (fun e => abs e.val) = es.lookup name := by
    clear noref
    induction ds generalizing es with
    | nil => cases es with
      | nil => rfl
      | cons p r => cases h
    | cons e r ih =>
      cases es with
      | nil => cases h
      | cons p q =>
        rw [List.map_cons, List.map_cons, List.cons.injEq, Prod.mk.injEq] at h
        obtain ⟨⟨h1, h2⟩, h3⟩ := h
        obtain ⟨t, h1⟩ := abs_str h1
        rw [List.find?_cons, List.lookup_cons, h1]
        have : (Value.str p.1 t).isStr name = (name == p.1) := by
          show (p.1 == name) = (name == p.1)
          rw [Bool.eq_iff_iff, beq_iff_eq, beq_iff_eq]; exact ⟨Eq.symm, Eq.symm⟩
        rw [this]
        cases name == p.1 with
        | true => simp [h2]
        | false => exact ih h3
  unfold getL
  cases q : ds.find? (·.key.isStr name) with
  | some e => rw [q] at key; exact ⟨some e.val, rfl, key⟩
  | none => rw [q] at key; dsimp only; rw [noref]; exact ⟨none, rfl, key⟩
theorem putL_of {name : Str} {hsh : Int} {t : Tok} {v : Value} : ∀ {ds : List DictEntry} {es : List (Str × AV)}, ds.map (fun e => (abs e.key, abs e.val)) = es.map (fun p => (AV.str p.1, p.2)) →
    (putL name hsh (.str name t) v ds).map (fun e => (abs e.key, abs e.val)) = (putA name (abs v) es).map (fun p => (AV.str p.1, p.2))
  | [], [], _ => rfl
  | [], _ :: _, h => by cases h
  | _ :: _, [], h => by cases h
  | e :: r, p :: q, h => by
    rw [List.map_cons, List.map_cons, List.cons.injEq, Prod.mk.injEq] at h
    obtain ⟨⟨h1, h2⟩, h3⟩ := h
    obtain ⟨t', h1'⟩ := abs_str h1
    obtain ⟨x, u⟩ := p
    unfold putL putA
    rw [h1']
    dsimp only
    by_cases hx : x = name
    · subst hx
      rw [if_pos (by simp [Value.isStr]), if_pos rfl, List.map_cons, List.map_cons, h3]
      rfl
    · rw [if_neg (by simpa [Value.isStr] using hx), if_neg hx, List.map_cons, List.map_cons, putL_of h3, h1', ← h2]
      rfl
theorem putA_length (name : Str) (v : AV) : ∀ es : List (Str × AV), (putA name v es).length ≤ es.length + 1
  | [] => by simp [putA]
  | (x, u) :: r => by
    unfold putA
    split
    · simp
    · have := putA_length name v r; simp; exact om21 this

section
variable {c : Cx} {R : Ledger} {ρ : Str → Option AV} {H : Ledger} {s : Shared} {A : Around} {E : Value → Shared → Prop} {x C d f p : Addr} {sl : List (Option AV)} {es : List (Str × AV)} {name : Str} {av : AV} {v : Value}

theorem getA {expr : Bool} {Q : Value → Shared → Prop} (ok : c.Ok) (st : St c R ρ H s) (hx : H x = some (.inst C d sl)) (hd : H d = some (.attrs es)) (hg : plainGet c.G.K C name = true) (hh : hasDictIn c.G.K C = true) (ha : findIn c.G.K (.ref C) name = some none)
    (hl : es.lookup name = some av) (hp : av.plain = true) (h : ∀ v s', abs v = av → St c R ρ H s' → Q v s') : wpAny c.M A (getAttr (.ref x) name expr) Q E s := by
  obtain ⟨ox, hox, vs, rfl, e1⟩ := st.get hx
  obtain ⟨od, hod, ds, n, rfl, e2⟩ := st.get hd
  obtain ⟨m, F, _⟩ := st.fr
  obtain ⟨r, g1, g2⟩ := getL_of (name := name) e2
  rw [hl] at g2
  obtain ⟨v, rfl, g3⟩ := Option.map_eq_some_iff.mp g2
  exact get_own F ok.K (ox := ⟨.ref C, some d, .plain, vs⟩) ⟨hox, rfl, rfl, hod⟩ hg hh ha rfl g1 (handed_plain (by rw [g3]; exact hp)) (h v _ g3 (st.toks _))
theorem setA {Q : Unit → Shared → Prop} (ok : c.Ok) (st : St c R ρ H s) (hx : H x = some (.inst C d sl)) (hd : H d = some (.attrs es)) (hs : findIn c.G.K (.ref C) "__setattr__" = some (some (.builtin "object.__setattr__"))) (hp : plainOver c.G.K C = true) (ht : takerIn c.G.K C name = some none)
    (hh : hasDictIn c.G.K C = true) (hz : es.length ≤ 900) (h : ∀ s', St c R ρ (upd H d (.attrs (putA name (abs v) es))) s' → Q () s') : wpAny c.M A (setAttr (.ref x) name v) Q E s := by
  obtain ⟨ox, hox, vs, rfl, e1⟩ := st.get hx
  obtain ⟨od, hod, ds, n, rfl, e2⟩ := st.get hd
  obtain ⟨r, g1, g2⟩ := getL_of (name := name) e2
  have hlen : ds.length = es.length := by have := congrArg List.length e2; simpa using this
  obtain ⟨m, F, U, back⟩ := st.ofUpd (ao' := .attrs (putA name (abs v) es)) (o' := dictOf (putL name (PyData.keyHash c.G.w.params name) (.str name (s.toks + 1)) v ds) (putN name ds n)) hd hod ⟨_, _, rfl, putL_of e2⟩
  refine set_dict F ok.K st.news (ox := ⟨.ref C, some d, .plain, vs⟩) ⟨hox, rfl, rfl, hod⟩ rfl hs hp ht hh (by rw [g1]; rfl) rfl U ?_ (fun h' F' N' => h _ (back F' N'))
  have l1 := congrArg List.length (putL_of (name := name) (hsh := PyData.keyHash c.G.w.params name) (t := s.toks + 1) (v := v) e2)
  rw [List.length_map, List.length_map] at l1
  have := putA_length name (abs v) es
  exact om22 hz l1 this
theorem methA {pl : Sem Bool} {Q : Value × List Value → Shared → Prop} (ok : c.Ok) (st : St c R ρ H s) (hx : H x = some (.inst C d sl)) (hd : H d = some (.attrs es)) (hg : plainGet c.G.K C name = true) (hf : findIn c.G.K (.ref C) name = some (some (.ref f))) (ht : isFn c.G.K (.ref f) = true)
    (hl : es.lookup name = none) (h : Q (.ref f, [.ref x]) s) : wpAny c.M A (getMethod (.ref x) name pl) Q E s := by
  obtain ⟨ox, hox, vs, rfl, e1⟩ := st.get hx
  obtain ⟨od, hod, ds, n, rfl, e2⟩ := st.get hd
  obtain ⟨m, F, _⟩ := st.fr
  obtain ⟨r, g1, g2⟩ := getL_of (name := name) e2
  rw [hl] at g2
  have : r = none := by cases r with | none => rfl | some z => cases g2
  subst this
  exact method_inst F ok.K (ox := ⟨.ref C, some d, .plain, vs⟩) ⟨hox, rfl, rfl, hod⟩ hg hf ht g1 h

theorem getS {expr : Bool} {i : Nat} {Q : Value → Shared → Prop} (ok : c.Ok) (st : St c R ρ H s) (hx : H x = some (.inst C d sl)) (hd : H d = some (.attrs es)) (hg : plainGet c.G.K C name = true) (hc : isClsIn c.G.K C = true)
    (ha : findIn c.G.K (.ref C) name = some (some (.ref p))) (hn : specialIn c.G.K (.ref p) "__get__" = some (some (.builtin "member_descriptor.__get__"))) (ht : takesIn c.G.K (.ref p) = some true) (hp : slotIn c.G.K p C = some i)
    (hl : (sl[i]?).join = some av) (hpl : av.plain = true) (h : ∀ v s', abs v = av → St c R ρ H s' → Q v s') : wpAny c.M A (getAttr (.ref x) name expr) Q E s := by
  obtain ⟨ox, hox, vs, rfl, e1⟩ := st.get hx
  obtain ⟨od, hod, ds, n, rfl, e2⟩ := st.get hd
  obtain ⟨m, F, _⟩ := st.fr
  rw [← e1, List.getElem?_map] at hl
  have : ∃ v, (vs[i]?).join = some v ∧ abs v = av := by
    rw [← Array.getElem?_toList]
    cases q : vs.toList[i]? with
    | none => rw [q] at hl; cases hl
    | some y =>
      rw [q] at hl
      cases y with
      | none => cases hl
      | some z => exact ⟨z, rfl, Option.some.inj hl⟩
  obtain ⟨v, g1, g2⟩ := this
  exact get_slot F ok.K (ox := ⟨.ref C, some d, .plain, vs⟩) ⟨hox, rfl, rfl, hod⟩ hg hc ha hn ht hp g1 (handed_plain (by rw [g2]; exact hpl)) (h v _ g2 (st.toks _))
theorem setS {i : Nat} {Q : Unit → Shared → Prop} (ok : c.Ok) (st : St c R ρ H s) (hx : H x = some (.inst C d sl)) (hd : H d = some (.attrs es)) (hs : findIn c.G.K (.ref C) "__setattr__" = some (some (.builtin "object.__setattr__"))) (hp : plainOver c.G.K C = true)
    (ht : takerIn c.G.K C name = some (some (.ref p))) (hT : typeIn c.G.K (.ref p) = some (.type "member_descriptor")) (hi : slotIn c.G.K p C = some i) (hz : i < 1000)
    (h : ∀ s', St c R ρ (upd H x (.inst C d ((sl ++ List.replicate (i + 1 - sl.length) none).set i (some (abs v))))) s' → Q () s') : wpAny c.M A (setAttr (.ref x) name v) Q E s := by
  obtain ⟨ox, hox, vs, rfl, e1⟩ := st.get hx
  obtain ⟨od, hod, ds, n, rfl, e2⟩ := st.get hd
  have hlen : vs.size = sl.length := by rw [← e1, List.length_map, Array.length_toList]
  obtain ⟨m, F, U, back⟩ := st.ofUpd (ao' := .inst C d ((sl ++ List.replicate (i + 1 - sl.length) none).set i (some (abs v)))) (o' := ⟨.ref C, some d, .plain, (vs ++ Array.replicate (i + 1 - vs.size) none).setIfInBounds i (some v)⟩) hx hox
    ⟨_, rfl, by rw [Array.toList_setIfInBounds, Array.toList_append, Array.toList_replicate, List.map_set, List.map_append, List.map_replicate, e1, hlen]; rfl⟩
  exact set_slot F ok.K st.news (ox := ⟨.ref C, some d, .plain, vs⟩) ⟨hox, rfl, rfl, hod⟩ hs hp ht hT hi hz rfl rfl U (fun h' F' N' => h _ (back F' N'))

theorem makeC {pos : List Value} {fI : Addr} {Q : Value → Shared → Prop} (ok : c.Ok) (st : St c R ρ H s) (hm : makesIn c.G.K C = true) (hi : findIn c.G.K (.ref C) "__init__" = some (some (.ref fI))) (hf : isFn c.G.K (.ref fI) = true)
    (h : ∀ x dx s', H x = none → H dx = none → x ≠ dx → St c R ρ (upd (upd H dx (.attrs [])) x (.inst C dx [])) s' →
      codeAny c.M (A.under (.builtin "type.__call__" ⟨.ref C :: pos, []⟩)) (.call (.ref fI) ⟨.ref x :: pos, []⟩) (InitBack x fun r s' => match r with | .ok (.ret v) => Q v s' | .ok _ => False | .error e => E e s') s') :
    wpAny c.M A (call (.ref C) pos []) Q E s := by
  have X := st.kin ok
  obtain ⟨hh, g, dw, t, os⟩ := s
  have st1 := st.alloc ok (o := emptyDict) (ao := .attrs []) ⟨[], 0, rfl, rfl⟩ rfl
  have st2 := st1.alloc ok (o := instObj C hh.objs.size) (ao := .inst C hh.objs.size []) ⟨#[], rfl, rfl⟩ rfl
  have e : (hh.push emptyDict).objs.size = hh.objs.size + 1 := Heap.size_push ..
  refine wpAny_call (make_core (makes_of X hm) (looks_findIn X hi) (fun self => bind_fn X self (beq_iff_eq.mp hf)) (.inl rfl) ?_)
  have n2 : H (hh.objs.size + 1) = none := by
    have := st1.none_size
    have : upd H hh.objs.size (AO.attrs []) (hh.push emptyDict).objs.size = none := this
    rw [e, upd_ne (Nat.succ_ne_self _)] at this
    exact this
  have st2' : St c R ρ (upd (upd H hh.objs.size (.attrs [])) (hh.objs.size + 1) (.inst C hh.objs.size [])) ⟨(hh.push emptyDict).push (instObj C hh.objs.size), g, dw, t, os⟩ := by
    have : St c R ρ (upd (upd H hh.objs.size (.attrs [])) (hh.push emptyDict).objs.size (.inst C hh.objs.size [])) ⟨(hh.push emptyDict).push (instObj C hh.objs.size), g, dw, t, os⟩ := st2
    rwa [e] at this
  exact h (hh.objs.size + 1) hh.objs.size _ n2 st.none_size (Nat.succ_ne_self _) st2'
end


theorem pairs_any {p p' : Program} {w w' : World} {es : List DictEntry} {kvs : List (Int × Value)} (h : Pairs (intKind p w) es kvs) : Pairs (intKind p' w') es kvs := by
  induction h with
  | nil => exact .nil
  | cons h1 h2 _ ih => exact .cons h1 h2 ih

noncomputable def storedA (es : List (Int × AV)) (k : Int) (v : AV) : List (Int × AV) := if es.any (fun p => p.1 = k) then es.map (fun p => if p.1 = k then (p.1, v) else p) else es ++ [(k, v)]

theorem valueAt_map (kvs : List (Int × Value)) (k : Int) : (valueAt kvs k).map abs = (kvs.map fun p => (p.1, abs p.2)).lookup k := by
  induction kvs with
  | nil => rfl
  | cons p r ih =>
    rw [List.map_cons, List.lookup_cons]
    unfold valueAt at ih ⊢
    rw [List.find?_cons]
    by_cases h : p.1 = k
    · have h1 : (k == p.1) = true := by simp [h]
      rw [h1]; simp [h]
    · have h1 : (k == p.1) = false := by simp; exact fun e => h e.symm
      rw [h1]; simp only [decide_eq_false h]; exact ih
theorem stored_map (kvs : List (Int × Value)) (k : Int) (v : Value) : (stored kvs k v).map (fun p => (p.1, abs p.2)) = storedA (kvs.map fun p => (p.1, abs p.2)) k (abs v) := by
  unfold stored storedA
  rw [List.any_map]
  have : (kvs.any ((fun p : Int × AV => decide (p.1 = k)) ∘ fun p => (p.1, abs p.2))) = kvs.any fun kv => decide (kv.1 = k) := rfl
  rw [this]
  split
  · rw [List.map_map, List.map_map]
    refine List.map_congr_left fun p _ => ?_
    simp only [Function.comp]
    split <;> rfl
  · rw [List.map_append]; rfl

section
variable {c : Cx} {R : Ledger} {ρ : Str → Option AV} {H : Ledger} {s : Shared} {A : Around} {E : Value → Shared → Prop} {d : Addr} {es : List (Int × AV)} {ep : Nat} {k : Int} {t : Tok} {av : AV} {env : Env}

theorem St.dictAt (st : St c R ρ H s) (hd : H d = some (.dict es ep)) : ∃ kvs : List (Int × Value), s.heap.DictAt (intKind c.G.prog c.G.w) d kvs ep ∧ kvs.map (fun p => (p.1, abs p.2)) = es ∧ (d == sysModules) = false := by
  obtain ⟨o, e1, ⟨ds, kvs, h1, h2, h3, h4, h5, h6⟩, _, _, e5⟩ := st.own d _ hd
  refine ⟨kvs, ⟨o, ds, e1, h1, h2, h3 _ _, h4 _ _, h5⟩, h6, ?_⟩
  rw [beq_eq_false_iff_ne]
  rintro rfl
  exact absurd e5 (by decide)
theorem St.setDict {h' : Heap} {tk : Nat} {kvs : List (Int × Value)} (st : St c R ρ H s) (hd : H d = some (.dict es ep)) (hs : Heap.SameBut d s.heap h') (hm : h'.DictOf (intKind c.G.prog c.G.w) d kvs) :
    ∃ ep', St c R ρ (upd H d (.dict (kvs.map fun p => (p.1, abs p.2)) ep')) { s with heap := h', toks := tk } := by
  obtain ⟨o, ds, ep', e1, h1, h2, h3, h4, h5⟩ := hm
  exact ⟨ep', st.set hd hs e1 ⟨ds, kvs, h1, h2, fun _ _ => h3, fun _ _ => pairs_any h4, h5, rfl⟩⟩

theorem idxD {value slice : Expr} {Q : Value → Shared → Prop} (st : St c R ρ H s) (hd : H d = some (.dict es ep)) (hx : es.lookup k = some av) (h : ∀ v s', abs v = av → St c R ρ H s' → Q v s')
    (hs : subscripted slice false (.ref d) (.int k t) = operate [.ref d, .int k t] (getItem (.ref d) (.int k t))) : wpAny c.M A (subscriptTail value slice (.ref d) (.int k t)) Q E s := by
  obtain ⟨kvs, hm, e, _⟩ := st.dictAt hd
  rw [← e, ← valueAt_map] at hx
  obtain ⟨v, h1, h2⟩ := Option.map_eq_some_iff.mp hx
  have hm' := hm.dictOf.mapOf
  exact tail_any hm'.typeIs slot_dict_getitem.lookup (wpAny_getItem_of (intKind_is _ _ k t) hm' h1 (h v _ h2 (st.toks _))) hs
theorem inD {Q : Value → Shared → Prop} (st : St c R ρ H s) (hd : H d = some (.dict es ep)) (h : ∀ s', St c R ρ H s' → Q (.bool (es.lookup k).isSome) s') : wpAny c.M A (compareOp .In (.int k t) (.ref d)) Q E s := by
  obtain ⟨kvs, hm, e, hn⟩ := st.dictAt hd
  refine wpAny_in_of (intKind_is _ _ k t) hn hm.dictOf.mapOf ?_
  have : (valueAt kvs k).isSome = (es.lookup k).isSome := by rw [← e, ← valueAt_map, Option.isSome_map]
  rw [this]
  exact h _ (st.toks _)
theorem setD {v : Value} {Q : Unit → Shared → Prop} (st : St c R ρ H s) (hd : H d = some (.dict es ep)) (hz : es.length ≤ sizeLine) (h : ∀ ep' s', St c R ρ (upd H d (.dict (storedA es k (abs v)) ep')) s' → Q () s') : wpAny c.M A (setItem (.ref d) (.int k t) v) Q E s := by
  obtain ⟨kvs, hm, e, hn⟩ := st.dictAt hd
  have hlen : kvs.length = es.length := by rw [← e, List.length_map]
  refine wpAny_setItem_pairs (intKind_is _ _ k t) hm.dictOf (fun h' hm' hs' => ?_) (by rw [hlen]; exact hz)
  obtain ⟨ep', st'⟩ := st.setDict (tk := s.toks + 1) hd hs' hm'
  rw [stored_map, e] at st'
  exact h ep' _ st'
theorem delD {Q : Unit → Shared → Prop} (st : St c R ρ H s) (hd : H d = some (.dict es ep)) (hz : es.length ≤ sizeLine) (hx : (es.lookup k).isSome = true) (h : ∀ ep' s', St c R ρ (upd H d (.dict (es.filter fun p => !decide (p.1 = k)) ep')) s' → Q () s') :
    wpAny c.M A (delItem (.ref d) (.int k t)) Q E s := by
  obtain ⟨kvs, hm, e, hn⟩ := st.dictAt hd
  have hlen : kvs.length = es.length := by rw [← e, List.length_map]
  refine wpAny_delItem_slot hm.dictOf.typeIs (by decide) PySem.F.slot_dict_delitem (call_meetsIn PySem.F.slot_dict_delitem hm.dictOf.typeIs PySem.F.entry_dict_delitem (PySem.F.args_dict_delitem_2 _ _) (meets_dict_delitem_pairs (intKind c.G.prog c.G.w) d (intKind_is c.G.prog c.G.w k t)) ⟨kvs, hm.dictOf, by rw [hlen]; exact hz, ?_, fun h' hm' hs' => ?_⟩)
  · rw [← e, ← valueAt_map, Option.isSome_map] at hx; exact hx
  · obtain ⟨ep', st'⟩ := st.setDict (tk := s.toks + 1) hd hs' hm'
    have : (without kvs k).map (fun p => (p.1, abs p.2)) = es.filter fun p => !decide (p.1 = k) := by
      rw [← e]
      unfold without
      rw [List.filter_map]
      congr 1
      refine List.filter_congr fun p _ => ?_
      simp [Function.comp]
    rw [this] at st'
    exact h ep' _ st'
theorem getM {Q : Value → Shared → Prop} (st : St c R ρ H s) (hd : H d = some (.dict es ep)) (h : ∀ v s', abs v = (es.lookup k).getD .none → St c R ρ H s' → Q v s') : wpAny c.M A (call (.builtin "dict.get") [.ref d, .int k t]) Q E s := by
  obtain ⟨kvs, hm, e, hn⟩ := st.dictAt hd
  refine call_meetsIn PySem.F.slot_dict_get hm.dictOf.typeIs PySem.F.entry_dict_get (PySem.F.args_dict_get_2 _ _) (meets_dict_get (intKind c.G.prog c.G.w) d (intKind_is c.G.prog c.G.w k t) hn) ⟨_, hm.dictOf.mapOf, h _ _ ?_ (st.toks _)⟩
  rw [← e, ← valueAt_map]
  cases valueAt kvs k <;> rfl
theorem methD {name : Str} {id : String} {pl : Sem Bool} {Q : Value × List Value → Shared → Prop} (st : St c R ρ H s) (hd : H d = some (.dict es ep)) (slot : Slot "dict" name id) (hty : typeOf (.builtin id) = pure (.type "method_descriptor"))
    (h : Q (.builtin id, [.ref d]) s) : wpAny c.M A (getMethod (.ref d) name pl) Q E s := by
  obtain ⟨kvs, hm, e, hn⟩ := st.dictAt hd
  exact getMethod_builtin hm.dictOf.typeIs PySem.F.plainAttrs_dict slot hty (fun a e => hm.dictOf.mapOf.noDict a e) h
theorem newD {pos : Pos} {Q : Value → Shared → Prop} (ok : c.Ok) (st : St c R ρ H s) (h : ∀ a s', H a = none → St c R ρ (upd H a (.dict [] 0)) s' → Q (.ref a) s') : wpAny c.M A (eval (.Dict [] [] pos) env) Q E s :=
  wpAny_Dict_empty (h _ _ st.none_size (st.alloc ok (o := { cls := .type "dict", data := .dict #[] }) (ao := .dict [] 0) ⟨#[], [], ⟨rfl, rfl, rfl⟩, rfl, fun _ _ _ he => by simp at he, fun _ _ => .nil, .nil, rfl⟩ rfl))

noncomputable def kiO (d : Addr) (n ep : Nat) (i : Nat) : AO := .obj fun o => o.cls = .type "dict_keyiterator" ∧ o.data = .fields #[.ref d, .int i 0, .int n 0, .int ep 0]
noncomputable def viO (d : Addr) (n ep : Nat) (i : Nat) : AO := .obj fun o => o.cls = .type "dict_valueiterator" ∧ o.data = .fields #[.ref d, .int i 0, .int n 0, .int ep 0]
theorem upd_upd (R : Ledger) (it : Addr) (a b : AO) : upd (upd R it a) it b = upd R it b := funext fun x => by unfold upd; split <;> rfl
theorem itr_keys {it : Addr} (hh : A.handled = none) : Itr c A it (es.map fun p => AV.int p.1) (kiO d es.length ep) (fun H => H d = some (.dict es ep)) where
  item := fun {R ρ H s E Q i av} hx hn hb st h => by
    obtain ⟨o, e, e1, e2⟩ := st.getR (upd_self ..)
    obtain ⟨kvs, hm, el, _⟩ := st.dictAt hb
    have hlen : kvs.length = es.length := by rw [← el, List.length_map]
    rw [← el, List.map_map, List.getElem?_map] at hx
    obtain ⟨⟨k, x⟩, h1, h2⟩ := Option.map_eq_some_iff.mp hx
    refine wpAny_pyNext_dict_item (knd := intKind c.G.prog c.G.w) ⟨o, e, e1, by rw [hlen]; exact e2⟩ hm h1 fun key h' hkey hit' hs' => h key _ ?_ ?_
    · obtain ⟨t, rfl⟩ := Value.isInt_shape hkey; exact h2
    · obtain ⟨o', e', e1', e2'⟩ := hit'
      have := st.setR (tk := s.toks) (ao' := kiO d es.length ep (i + 1)) (upd_self ..) hs' e' ⟨e1', by rw [hlen] at e2'; exact e2'⟩
      rwa [upd_upd] at this
  done := fun {R ρ H s E Q} hn hb st h => by
    obtain ⟨o, e, e1, e2⟩ := st.getR (upd_self ..)
    obtain ⟨kvs, hm, el, _⟩ := st.dictAt hb
    have hlen : kvs.length = es.length := by rw [← el, List.length_map]
    refine wpAny_pyNext_dict_end (knd := intKind c.G.prog c.G.w) (i := es.length) hh ⟨o, e, e1, by rw [hlen]; rw [List.length_map] at e2; exact e2⟩ hm (by simp [hlen]) fun h' he' => h _ (st.ended (tk := s.toks) hn he')
  self := fun {R ρ H s E Q i} hn st h => by
    obtain ⟨o, e, e1, e2⟩ := st.getR (upd_self ..)
    exact wpAny_pyIter_keyiter ⟨o, e, e1, e2⟩ h
theorem hideNew (ok : c.Ok) (st : St c R ρ H s) {o : Obj} {ao : AO} (hi : ao.Is o) (hf : o.isFreed = false) : St c (upd R s.heap.objs.size ao) ρ H { s with heap := s.heap.push o } := by
  have := (st.alloc ok hi hf).hide (upd_self ..)
  rwa [show del (upd H s.heap.objs.size ao) s.heap.objs.size = H from funext fun b => by
    unfold del upd; split
    · rename_i e; rw [e]; exact st.none_size.symm
    · rfl] at this
theorem iterD {Q : Value → Shared → Prop} (ok : c.Ok) (st : St c R ρ H s) (hd : H d = some (.dict es ep)) (h : ∀ it s', H it = none → R it = none → St c (upd R it (kiO d es.length ep 0)) ρ H s' → Q (.ref it) s') :
    wpAny c.M A (pyIter (.ref d)) Q E s := by
  obtain ⟨kvs, hm, el, hn⟩ := st.dictAt hd
  have hlen : kvs.length = es.length := by rw [← el, List.length_map]
  refine wpAny_pyIter_dict hn hm (h _ _ st.none_size st.hid_size ?_)
  rw [hlen]
  exact hideNew ok st ⟨rfl, rfl⟩ rfl
theorem itr_vals {it : Addr} (hh : A.handled = none) : Itr c A it (es.map fun p => p.2) (viO d es.length ep) (fun H => H d = some (.dict es ep)) where
  item := fun {R ρ H s E Q i av} hx hn hb st h => by
    obtain ⟨o, e, e1, e2⟩ := st.getR (upd_self ..)
    obtain ⟨kvs, hm, el, _⟩ := st.dictAt hb
    have hlen : kvs.length = es.length := by rw [← el, List.length_map]
    rw [← el, List.map_map, List.getElem?_map] at hx
    obtain ⟨⟨k, x⟩, h1, h2⟩ := Option.map_eq_some_iff.mp hx
    refine wpAny_pyNext_values_item (knd := intKind c.G.prog c.G.w) ⟨o, e, e1, by rw [hlen]; exact e2⟩ hm h1 fun h' hit' hs' => h x _ h2 ?_
    obtain ⟨o', e', e1', e2'⟩ := hit'
    have := st.setR (tk := s.toks) (ao' := viO d es.length ep (i + 1)) (upd_self ..) hs' e' ⟨e1', by rw [hlen] at e2'; exact e2'⟩
    rwa [upd_upd] at this
  done := fun {R ρ H s E Q} hn hb st h => by
    obtain ⟨o, e, e1, e2⟩ := st.getR (upd_self ..)
    obtain ⟨kvs, hm, el, _⟩ := st.dictAt hb
    have hlen : kvs.length = es.length := by rw [← el, List.length_map]
    refine wpAny_pyNext_values_end (knd := intKind c.G.prog c.G.w) (i := es.length) hh ⟨o, e, e1, by rw [hlen]; rw [List.length_map] at e2; exact e2⟩ hm (by simp [hlen]) fun h' he' => h _ (st.ended (tk := s.toks) hn he')
  self := fun {R ρ H s E Q i} hn st h => by
    obtain ⟨o, e, e1, e2⟩ := st.getR (upd_self ..)
    exact wpAny_pyIter_valiter ⟨o, e, e1, e2⟩ h
theorem valuesD {Q : Value → Shared → Prop} (ok : c.Ok) (st : St c R ρ H s) (hd : H d = some (.dict es ep)) (h : ∀ a s', H a = none → St c R ρ (upd H a (.obj fun o => o.cls = .type "dict_values" ∧ o.data = .fields #[.ref d])) s' → Q (.ref a) s') :
    wpAny c.M A (call (.builtin "dict.values") [.ref d]) Q E s := by
  obtain ⟨kvs, hm, el, hn⟩ := st.dictAt hd
  exact call_meetsIn PySem.F.slot_dict_values hm.dictOf.typeIs PySem.F.entry_dict_values (PySem.F.args_dict_values_1 _) (meets_dict_values (intKind c.G.prog c.G.w) d hn) ⟨⟨kvs, hm.dictOf⟩, h _ _ st.none_size (st.alloc ok ⟨rfl, rfl⟩ rfl)⟩
theorem iterV {v : Addr} {Q : Value → Shared → Prop} (ok : c.Ok) (st : St c R ρ H s) (hd : H d = some (.dict es ep)) (hv : H v = some (.obj fun o => o.cls = .type "dict_values" ∧ o.data = .fields #[.ref d]))
    (h : ∀ it s', H it = none → R it = none → St c (upd R it (viO d es.length ep 0)) ρ H s' → Q (.ref it) s') : wpAny c.M A (pyIter (.ref v)) Q E s := by
  obtain ⟨kvs, hm, el, hn⟩ := st.dictAt hd
  have hlen : kvs.length = es.length := by rw [← el, List.length_map]
  obtain ⟨o, e, e1, e2⟩ := st.get hv
  refine wpAny_pyIter_values ⟨o, e, e1, e2⟩ hm (h _ _ st.none_size st.hid_size ?_)
  rw [hlen]
  exact hideNew ok st ⟨rfl, rfl⟩ rfl
end

abbrev prg : Program := PySem.Challenge.pw_dn0038_10
noncomputable def topSt (i : Nat) : Stmt := stmtAt prg.main.body i
noncomputable abbrev KP (P : Params) : Frag := hd10.heap_39 P

noncomputable def sInsort := topSt 2
noncomputable def sBisect := topSt 3
theorem in_bisect (P : Params) : FnIn (KP P) 39 sBisect "bisect_right" (.ref 31) (.ref 32) (.ref 38) where
  fn := ⟨(((funcAt (KP P) 39).map (·.doc)).getD .none), (((funcAt (KP P) 39).map (·.pyModule)).getD .none), none, .none, by kernel_rfl⟩
  code := by kernel_rfl
  co := by kernel_rfl
  gen := by kernel_rfl
  kind := by kernel_rfl
theorem in_insort (P : Params) : FnIn (KP P) 30 sInsort "insort_right" (.ref 22) (.ref 23) (.ref 29) where
  fn := ⟨(((funcAt (KP P) 30).map (·.doc)).getD .none), (((funcAt (KP P) 30).map (·.pyModule)).getD .none), none, .none, by kernel_rfl⟩
  code := by kernel_rfl
  co := by kernel_rfl
  gen := by kernel_rfl
  kind := by kernel_rfl

theorem k_bisect (P : Params) : keepIn (KP P) (.ref 39) = true := by kernel_rfl
theorem k_insort (P : Params) : keepIn (KP P) (.ref 30) = true := by kernel_rfl
theorem k_info (P : Params) : keepIn (KP P) (.ref 58) = true := by kernel_rfl
theorem k_sorter (P : Params) : keepIn (KP P) (.ref 155) = true := by kernel_rfl
theorem g_bisect (P : Params) : nsIn (KP P) mainGlobals "bisect_right" = some (some (.ref 39)) := by kernel_rfl
theorem g_insort (P : Params) : nsIn (KP P) mainGlobals "insort_right" = some (some (.ref 30)) := by kernel_rfl
theorem g_out (P : Params) : nsIn (KP P) mainGlobals "_NODE_OUT" = some (some (.int (-1) 226)) := by kernel_rfl
theorem g_done (P : Params) : nsIn (KP P) mainGlobals "_NODE_DONE" = some (some (.int (-2) 229)) := by kernel_rfl
theorem g_info (P : Params) : nsIn (KP P) mainGlobals "_NodeInfo" = some (some (.ref 58)) := by kernel_rfl
theorem g_sorter (P : Params) : nsIn (KP P) mainGlobals "TopologicalSorter" = some (some (.ref 155)) := by kernel_rfl

structure KeyFn (G : Gx) (d : Nat) (H : Ledger) (kf : Addr) {δ : Type} (κ : Int → δ) (Rep : δ → AV → Ledger → Prop) (lt : δ → δ → Bool) (P : Int → Prop) : Prop where
  stands : ∀ {c R ρ H₁ s}, c.G = G → c.Ok → Sub H H₁ → St c R ρ H₁ s → FnAt kf s.heap
  call : ∀ {c : Cx} {A R ρ H₁ s E i t} {Q : Value → Shared → Prop}, c.G = G → c.Ok → Room c A d → Sub H H₁ → St c R ρ H₁ s → P i → (∀ v H' s', Sub H₁ H' → Rep (κ i) (abs v) H' → St c R ρ H' s' → Q v s') → wpAny c.M A (call (.ref kf) [.int i t]) Q E s
  less : ∀ {c : Cx} {A R ρ H' s E k1 k2 v1 v2} {Q : Value → Shared → Prop}, c.G = G → c.Ok → Room c A 0 → St c R ρ H' s → Rep k1 (abs v1) H' → Rep k2 (abs v2) H' → (∀ s', St c R ρ H' s' → Q (.bool (lt k1 k2)) s') → wpAny c.M A (compareOp .Lt v1 v2) Q E s
  mono : ∀ {k v H₁ H'}, Rep k v H₁ → Sub H₁ H' → Rep k v H'
theorem KeyFn.up {G : Gx} {d : Nat} {H H₁ : Ledger} {kf : Addr} {δ : Type} {κ : Int → δ} {Rep : δ → AV → Ledger → Prop} {lt : δ → δ → Bool} {P : Int → Prop} (x : KeyFn G d H kf κ Rep lt P) (hs : Sub H H₁) : KeyFn G d H₁ kf κ Rep lt P where
  stands := fun h1 h2 h3 h4 => x.stands h1 h2 (hs.trans h3) h4
  call := fun h1 h2 h3 h4 h5 h6 h7 => x.call h1 h2 h3 (hs.trans h4) h5 h6 h7
  less := x.less
  mono := x.mono

theorem half (lo hi : Nat) (h : lo < hi) : ∃ m : Nat, Int.fdiv ((lo : Int) + (hi : Int)) 2 = (m : Int) ∧ lo ≤ m ∧ m < hi := by
  refine ⟨(lo + hi) / 2, ?_, by exact om23 h, by exact om24 h⟩
  have : ((lo : Int) + (hi : Int)) = ((lo + hi : Nat) : Int) := by push_cast; rfl
  rw [this]
  show Int.fdiv ((lo + hi : Nat) : Int) ((2 : Nat) : Int) = _
  rw [Int.fdiv_eq_ediv_of_nonneg _ (by exact om25)]
  rfl

theorem bisect_key {c : Cx} {R : Ledger} {ρ : Str → Option AV} {H : Ledger} {s : Shared} {A : Around} {E : Value → Shared → Prop} {Q : Value → Shared → Prop} {d : Nat} {l kf : Addr} {x : Value} {t : Tok} {δ : Type} {κ : Int → δ} {Rep : δ → AV → Ledger → Prop} {lt : δ → δ → Bool} {P : Int → Prop}
    {xs : List Int} {kx : δ} (hK : c.G.K = KP c.G.w.params) (ok : c.Ok) (rm : Room c A (d + 2)) (st : St c R ρ H s) (KF : KeyFn c.G (d + 1) H kf κ Rep lt P) (hl : H l = some (.list (xs.map AV.int))) (hP : ∀ i ∈ xs, P i) (hx : Rep kx (abs x) H)
    (hmono : ∀ i j (hi : i ≤ j) (hj : j < xs.length), lt kx (κ (xs[i]'(by exact om26 hi hj))) = true → lt kx (κ xs[j]) = true) (hz : xs.length ≤ 10000)
    (h : ∀ (r : Nat) t s', r ≤ xs.length → (∀ i (hi : i < xs.length), i < r → lt kx (κ xs[i]) = false) → (∀ i (hi : i < xs.length), r ≤ i → lt kx (κ xs[i]) = true) → St c R ρ H s' → Q (.int (r : Int) t) s') :
    wpAny c.M A (call (.ref 39) [.ref l, x, .int 0 t, .none] [(("key" : Str), .ref kf)]) Q E s := by
  refine callK (binds := [(("a":Str), .ref l), (("x":Str), x), (("lo":Str), .int 0 t), (("hi":Str), .none), (("key":Str), .ref kf)]) (by rw [hK]; exact in_bisect _) ok rm st (fun doc pm an ct => bindsK ok st (by rw [hK]; intro S; kernel_rfl)) (by kernel_rfl) (by kernel_rfl) ?_
  intro c' A' L' s' ok' hG hf rm' st'
  rw [← hG] at hK KF
  refine execsK ?_
  intro K hStmt
  with_reducible refine wpAny_If ?_
  with_reducible refine wpAny_isTrue_Compare1 ?_
  refine nameLI (hd := by decide) (by assumption) (by first | assumption | rfl) ?_ rfl (Cx.Ok.fn (by assumption)) (by first | exact kindK hf rfl | (rw [hf]; rfl) | (rw [he]; rfl))
  intro tok
  with_reducible refine cInt (by assumption) ?_
  intro tok s st
  with_reducible refine ltI ?_
  with_reducible refine wpAny_truthy_bool ?_
  refine ifN (by decide) ?_
  with_reducible refine wpAny_execs_nil ?_
  with_reducible refine openK (by assumption) ?_
  with_reducible refine execsK ?_
  intro K hStmt
  with_reducible refine wpAny_If ?_
  with_reducible refine wpAny_isTrue_Compare1 ?_
  refine nameL (hd := by decide) (by assumption) (by first | assumption | rfl) ?_ rfl (Cx.Ok.fn (by assumption)) (by first | exact kindK hf rfl | (rw [hf]; rfl) | (rw [he]; rfl))
  refine gotNA ?_
  with_reducible refine wpAny_Constant_none ?_
  refine isNone rfl ?_
  with_reducible refine wpAny_truthy_bool ?_
  refine ifP (by rfl) ?_
  with_reducible refine execsK ?_
  intro K hStmt
  refine wpAny_Assign_Name ?_
  refine callName (he := by rfl) ?_
  refine nameB (hd := by decide) (by assumption) (by assumption) (by rw [hK]; kernel_rfl) (by first | with_reducible exact bb_len | with_reducible exact bb_list | with_reducible exact bb_range | with_reducible exact bb_abs | with_reducible exact bb_sorted | with_reducible exact bb_max | with_reducible exact bb_min | with_reducible exact bb_sum | with_reducible exact bb_tuple | with_reducible exact bb_set | with_reducible exact bb_iter | with_reducible exact bb_bool | with_reducible exact bb_dict | with_reducible exact bb_divmod | with_reducible exact bb_enumerate | with_reducible exact bb_zip) (by decide) ?_ (Cx.Ok.glob (by assumption)) (Cx.Ok.blt (by assumption)) (Cx.Ok.fn (by assumption)) (by first | exact kindK hf rfl | (rw [hf]; rfl) | (rw [he]; rfl))
  refine cw (he := by rfl) ?_
  dsimp only [Args_]
  refine nameLR (hd := by decide) (by assumption) (by first | assumption | rfl) ?_ rfl (Cx.Ok.fn (by assumption)) (by first | exact kindK hf rfl | (rw [hf]; rfl) | (rw [he]; rfl))
  (first | refine ⟨trivial, ?_⟩ | refine ⟨stands_K (by assumption) (by assumption) (by (rw [hK]; first | with_reducible exact k_bisect _ | with_reducible exact k_insort _ | with_reducible exact k_info _ | with_reducible exact k_sorter _ | with_reducible exact k98 _ | with_reducible exact k105 _ | with_reducible exact k110 _ | with_reducible exact k117 _ | with_reducible exact k124 _ | with_reducible exact k138 _ | with_reducible exact k145 _ | with_reducible exact kp_least _)), ?_⟩)
  (try dsimp only [List.nil_append, List.cons_append])
  refine lenL (by assumption) (.inl hl) (by rw [List.length_map]; exact om27 hz) ?_
  intro tok s st
  refine storeL (by assumption) ?_ rfl (Cx.Ok.fn (by assumption)) (by first | exact kindK hf rfl | (rw [hf]; rfl) | (rw [he]; rfl))
  intro s st
  with_reducible refine openK (by assumption) ?_
  with_reducible refine wpAny_execs_nil ?_
  with_reducible refine openK (by assumption) ?_
  with_reducible refine execsK ?_
  intro K hStmt
  with_reducible refine wpAny_If ?_
  with_reducible refine wpAny_isTrue_Compare1 ?_
  refine nameLR (hd := by decide) (by assumption) (by first | assumption | rfl) ?_ rfl (Cx.Ok.fn (by assumption)) (by first | exact kindK hf rfl | (rw [hf]; rfl) | (rw [he]; rfl))
  with_reducible refine wpAny_Constant_none ?_
  refine isNone rfl ?_
  with_reducible refine wpAny_truthy_bool ?_
  refine ifN (by exact Bool.false_ne_true) ?_
  with_reducible refine execsK ?_
  intro K hStmt
  rw [List.length_map] at st
  have st := st.names [("a", .ref l), ("x", abs x), ("lo", .int 0), ("hi", .int xs.length), ("key", .ref kf)] ⟨rfl, rfl, rfl, rfl, rfl, trivial⟩
  refine whileR (fun n ρ' H' => ∃ lo hi : Nat, n = hi - lo ∧ lo ≤ hi ∧ hi ≤ xs.length ∧ (∀ i (hi : i < xs.length), i < lo → lt kx (κ xs[i]) = false) ∧ (∀ i (hj : i < xs.length), hi ≤ i → lt kx (κ xs[i]) = true) ∧
    ρ' = lk [("a", .ref l), ("x", abs x), ("lo", .int lo), ("hi", .int hi), ("key", .ref kf)] ∧ H' = H) (xs.length - 0) st ⟨0, xs.length, rfl, by exact om28, by exact om29, fun i _ h => absurd h (by exact om30), fun i h1 h2 => absurd h1 (by exact om31 h2), rfl, rfl⟩ ?_
  intro n ρ' H' s'  hJJ st K hTurn KQ hQ
  obtain ⟨lo, hi, rfl, h1, h2, h3, h4, rfl, rfl⟩ := hJJ
  with_reducible refine wpAny_isTrue_Compare1 ?_
  refine nameLI (hd := by decide) (by assumption) (by first | assumption | rfl) ?_ rfl (Cx.Ok.fn (by assumption)) (by first | exact kindK hf rfl | (rw [hf]; rfl) | (rw [he]; rfl))
  intro tok
  refine nameLI (hd := by decide) (by assumption) (by first | assumption | rfl) ?_ rfl (Cx.Ok.fn (by assumption)) (by first | exact kindK hf rfl | (rw [hf]; rfl) | (rw [he]; rfl))
  intro tok
  with_reducible refine ltI ?_
  with_reducible refine wpAny_truthy_bool ?_
  by_cases hlt : lo < hi
  · refine ifP (decide_eq_true (by exact om32 hlt)) ?_
    with_reducible refine execsK ?_
    intro K hStmt
    refine wpAny_Assign_Name ?_
    with_reducible refine wpAny_BinOp ?_
    with_reducible refine wpAny_BinOp ?_
    refine nameLI (hd := by decide) (by assumption) (by first | assumption | rfl) ?_ rfl (Cx.Ok.fn (by assumption)) (by first | exact kindK hf rfl | (rw [hf]; rfl) | (rw [he]; rfl))
    intro tok
    refine nameLI (hd := by decide) (by assumption) (by first | assumption | rfl) ?_ rfl (Cx.Ok.fn (by assumption)) (by first | exact kindK hf rfl | (rw [hf]; rfl) | (rw [he]; rfl))
    intro tok
    with_reducible refine addI (by assumption) ?_
    intro tok s st
    with_reducible refine cInt (by assumption) ?_
    intro tok s st
    refine divI (by assumption) (by decide) (PyProof.noPylong_small (by decide)) ?_
    intro tok s st
    obtain ⟨m, hm, hm1, hm2⟩ := half lo hi hlt
    rw [hm]
    have hml : m < xs.length := by exact om33 h2 hm2
    refine storeL (by assumption) ?_ rfl (Cx.Ok.fn (by assumption)) (by first | exact kindK hf rfl | (rw [hf]; rfl) | (rw [he]; rfl))
    intro s st
    with_reducible refine openK (by assumption) ?_
    with_reducible refine execsK ?_
    intro K hStmt
    with_reducible refine wpAny_If ?_
    with_reducible refine wpAny_isTrue_Compare1 ?_
    refine nameL (hd := by decide) (by assumption) (by first | assumption | rfl) ?_ rfl (Cx.Ok.fn (by assumption)) (by first | exact kindK hf rfl | (rw [hf]; rfl) | (rw [he]; rfl))
    intro v hv
    refine callName (he := by rfl) ?_
    refine nameLR (hd := by decide) (by assumption) (by first | assumption | rfl) ?_ rfl (Cx.Ok.fn (by assumption)) (by first | exact kindK hf rfl | (rw [hf]; rfl) | (rw [he]; rfl))
    refine cw (he := by rfl) ?_
    dsimp only [Args_]
    with_reducible refine Subscript_ ?_
    refine nameLR (hd := by decide) (by assumption) (by first | assumption | rfl) ?_ rfl (Cx.Ok.fn (by assumption)) (by first | exact kindK hf rfl | (rw [hf]; rfl) | (rw [he]; rfl))
    refine nameLI (hd := by decide) (by assumption) (by first | assumption | rfl) ?_ rfl (Cx.Ok.fn (by assumption)) (by first | exact kindK hf rfl | (rw [hf]; rfl) | (rw [he]; rfl))
    intro tok
    refine idxL (hs := by with_unfolding_all rfl) st (.inl hl) (by exact om34) (av := .int xs[m]) (by simp [hml]) (by exact om35 hz hml) ?_
    intro v1 hv1
    obtain ⟨tok1, rfl⟩ := abs_int hv1
    refine ⟨.inr (KF.stands rfl ok' (Sub.refl _) st), ?_⟩
    refine KF.call rfl ok' rm' (Sub.refl _) st (hP _ (List.getElem_mem hml)) ?_
    intro vk H1 s1 hsub hrep st1
    refine KF.less rfl ok' ⟨rm'.frames, by have := rm'.depth; exact om36 this, by have := rm'.units; exact om37 this, rm'.handled⟩ st1 (by rw [hv]; exact KF.mono hx hsub) hrep ?_
    intro s2 st2
    have st := st2.drop hsub.le
    with_reducible refine wpAny_truthy_bool ?_
    by_cases hb : lt kx (κ xs[m]) = true
    · refine ifP hb ?_
      with_reducible refine execsK ?_
      intro K hStmt
      refine wpAny_Assign_Name ?_
      refine nameLI (hd := by decide) (by assumption) (by first | assumption | rfl) ?_ rfl (Cx.Ok.fn (by assumption)) (by first | exact kindK hf rfl | (rw [hf]; rfl) | (rw [he]; rfl))
      intro tok
      refine storeL (by assumption) ?_ rfl (Cx.Ok.fn (by assumption)) (by first | exact kindK hf rfl | (rw [hf]; rfl) | (rw [he]; rfl))
      intro s st
      with_reducible refine openK (by assumption) ?_
      with_reducible refine wpAny_execs_nil ?_
      with_reducible refine openK (by assumption) ?_
      with_reducible refine wpAny_execs_nil ?_
      with_reducible refine openK (by assumption) ?_
      dsimp only
      refine ⟨m - lo, _, _, by exact om38 hm1 hm2, St.names st [("a", .ref l), ("x", abs x), ("lo", .int lo), ("hi", .int m), ("key", .ref kf)] ⟨rfl, rfl, rfl, rfl, rfl, trivial⟩, lo, m, rfl, by exact om39 hm1, by exact om40 hml, h3, fun i hi hmi => hmono m i hmi hi hb, rfl, rfl⟩
    · refine ifN hb ?_
      with_reducible refine execsK ?_
      intro K hStmt
      refine wpAny_Assign_Name ?_
      with_reducible refine wpAny_BinOp ?_
      refine nameLI (hd := by decide) (by assumption) (by first | assumption | rfl) ?_ rfl (Cx.Ok.fn (by assumption)) (by first | exact kindK hf rfl | (rw [hf]; rfl) | (rw [he]; rfl))
      intro tok
      with_reducible refine cInt (by assumption) ?_
      intro tok s st
      with_reducible refine addI (by assumption) ?_
      intro tok s st
      refine storeL (by assumption) ?_ rfl (Cx.Ok.fn (by assumption)) (by first | exact kindK hf rfl | (rw [hf]; rfl) | (rw [he]; rfl))
      intro s st
      with_reducible refine openK (by assumption) ?_
      with_reducible refine wpAny_execs_nil ?_
      with_reducible refine openK (by assumption) ?_
      with_reducible refine wpAny_execs_nil ?_
      with_reducible refine openK (by assumption) ?_
      dsimp only
      refine ⟨hi - (m + 1), _, _, by exact om41 hm1 hm2, St.names st [("a", .ref l), ("x", abs x), ("lo", .int ((m + 1 : Nat) : Int)), ("hi", .int hi), ("key", .ref kf)] ⟨rfl, rfl, ?_, rfl, rfl, trivial⟩, m + 1, hi, rfl, by exact om11 hm2, by exact om39 h2, fun i hi him => ?_, h4, rfl, rfl⟩
      · rfl
      · cases hc : lt kx (κ xs[i]) with
        | false => rfl
        | true => exact absurd (hmono i m (by exact om42 him) hml hc) hb
  · refine ifN (by rw [decide_eq_true_eq]; exact om43 hlt) ?_
    have hlo : lo = hi := by exact om44 h1 hlt
    subst hlo
    with_reducible refine wpAny_execs_nil ?_
    with_reducible refine openK (by assumption) ?_
    with_reducible refine openK (by assumption) ?_
    with_reducible refine wpAny_execs_nil ?_
    with_reducible refine openK (by assumption) ?_
    with_reducible refine execsK ?_
    intro K hStmt
    with_reducible refine wpAny_Return_some ?_
    refine nameLI (hd := by decide) (by assumption) (by first | assumption | rfl) ?_ rfl (Cx.Ok.fn (by assumption)) (by first | exact kindK hf rfl | (rw [hf]; rfl) | (rw [he]; rfl))
    intro tok
    with_reducible refine openK (by assumption) ?_
    dsimp only
    exact ⟨_, _, st, fun st => h lo tok _ h2 h3 h4 st⟩

theorem insort_key {c : Cx} {R : Ledger} {ρ : Str → Option AV} {H : Ledger} {s : Shared} {A : Around} {E : Value → Shared → Prop} {Q : Value → Shared → Prop} {d : Nat} {l kf : Addr} {x : Int} {t : Tok} {δ : Type} {κ : Int → δ} {Rep : δ → AV → Ledger → Prop} {lt : δ → δ → Bool} {P : Int → Prop}
    {xs : List Int} (hK : c.G.K = KP c.G.w.params) (ok : c.Ok) (rm : Room c A (d + 3)) (st : St c R ρ H s) (KF : KeyFn c.G (d + 1) H kf κ Rep lt P) (hl : H l = some (.list (xs.map AV.int))) (hP : ∀ i ∈ xs, P i) (hx : P x)
    (hmono : ∀ i j (hi : i ≤ j) (hj : j < xs.length), lt (κ x) (κ (xs[i]'(by exact om26 hi hj))) = true → lt (κ x) (κ xs[j]) = true) (hz : xs.length ≤ 10000)
    (h : ∀ (r : Nat) s', r ≤ xs.length → (∀ i (hi : i < xs.length), i < r → lt (κ x) (κ xs[i]) = false) → (∀ i (hi : i < xs.length), r ≤ i → lt (κ x) (κ xs[i]) = true) → St c R ρ (upd H l (.list ((xs.take r ++ x :: xs.drop r).map AV.int))) s' → Q .none s') :
    wpAny c.M A (call (.ref 30) [.ref l, .int x t] [(("key" : Str), .ref kf)]) Q E s := by
  refine callK (binds := [(("a":Str), .ref l), (("x":Str), .int x t), (("lo":Str), .int 0 196), (("hi":Str), .none), (("key":Str), .ref kf)]) (by rw [hK]; exact in_insort _) ok rm st (fun doc pm an ct => bindsK ok st (by rw [hK]; intro S; kernel_rfl)) (by kernel_rfl) (by kernel_rfl) ?_
  intro c' A' L' s' ok' hG hf rm' st'
  rw [← hG] at hK KF
  refine execsK ?_
  intro K hStmt
  with_reducible refine wpAny_If ?_
  with_reducible refine wpAny_isTrue_Compare1 ?_
  refine nameLR (hd := by decide) (by assumption) (by first | assumption | rfl) ?_ rfl (Cx.Ok.fn (by assumption)) (by first | exact kindK hf rfl | (rw [hf]; rfl) | (rw [he]; rfl))
  with_reducible refine wpAny_Constant_none ?_
  refine isNone rfl ?_
  with_reducible refine wpAny_truthy_bool ?_
  refine ifN (by exact Bool.false_ne_true) ?_
  with_reducible refine execsK ?_
  intro K hStmt
  refine wpAny_Assign_Name ?_
  refine callNameKw (he := by rfl) ?_
  refine nameG (hd := by decide) (by assumption) (by assumption) (by (rw [hK]; first | with_reducible exact g_bisect _ | with_reducible exact g_insort _ | with_reducible exact g_out _ | with_reducible exact g_done _ | with_reducible exact g_info _ | with_reducible exact g_sorter _)) ?_ (Cx.Ok.glob (by assumption)) (Cx.Ok.fn (by assumption)) (by first | exact kindK hf rfl | (rw [hf]; rfl) | (rw [he]; rfl))
  refine cwKw (he := by rfl) (hk := by rfl) (hall := by rfl) (hn := by rfl) ?_
  dsimp only [Args_]
  refine nameLR (hd := by decide) (by assumption) (by first | assumption | rfl) ?_ rfl (Cx.Ok.fn (by assumption)) (by first | exact kindK hf rfl | (rw [hf]; rfl) | (rw [he]; rfl))
  refine callName (he := by rfl) ?_
  refine nameLR (hd := by decide) (by assumption) (by first | assumption | rfl) ?_ rfl (Cx.Ok.fn (by assumption)) (by first | exact kindK hf rfl | (rw [hf]; rfl) | (rw [he]; rfl))
  refine cw (he := by rfl) ?_
  dsimp only [Args_]
  refine nameLI (hd := by decide) (by assumption) (by first | assumption | rfl) ?_ rfl (Cx.Ok.fn (by assumption)) (by first | exact kindK hf rfl | (rw [hf]; rfl) | (rw [he]; rfl))
  intro tok
  refine ⟨.inr (KF.stands rfl ok' (Sub.refl _) st'), ?_⟩
  refine KF.call rfl ok' ⟨rm'.frames, by have := rm'.depth; exact om45 this, by have := rm'.units; exact om46 this, rm'.handled⟩ (Sub.refl _) st' hx ?_
  intro vk H1 s1 hsub hrep st1
  refine nameLI (hd := by decide) (by assumption) (by first | assumption | rfl) ?_ rfl (Cx.Ok.fn (by assumption)) (by first | exact kindK hf rfl | (rw [hf]; rfl) | (rw [he]; rfl))
  intro tok
  refine nameL (hd := by decide) (by assumption) (by first | assumption | rfl) ?_ rfl (Cx.Ok.fn (by assumption)) (by first | exact kindK hf rfl | (rw [hf]; rfl) | (rw [he]; rfl))
  refine gotNA ?_
  dsimp only [Kws_]
  refine nameLR (hd := by decide) (by assumption) (by first | assumption | rfl) ?_ rfl (Cx.Ok.fn (by assumption)) (by first | exact kindK hf rfl | (rw [hf]; rfl) | (rw [he]; rfl))
  (first | refine ⟨trivial, ?_⟩ | refine ⟨stands_K (by assumption) (by assumption) (by (rw [hK]; first | with_reducible exact k_bisect _ | with_reducible exact k_insort _ | with_reducible exact k_info _ | with_reducible exact k_sorter _ | with_reducible exact k98 _ | with_reducible exact k105 _ | with_reducible exact k110 _ | with_reducible exact k117 _ | with_reducible exact k124 _ | with_reducible exact k138 _ | with_reducible exact k145 _ | with_reducible exact kp_least _)), ?_⟩)
  (try dsimp only [List.nil_append, List.cons_append])
  show wpAny _ _ (call _ [_, _, _, _] [(("key" : Str), _)]) _ _ _
  refine bisect_key hK ok' rm' (by assumption) (KF.up hsub) (hsub.le _ _ hl) hP hrep hmono hz ?_
  intro r tr s2 hr h3 h4 st2
  have st2 := st2.drop hsub.le
  refine storeL (by assumption) ?_ rfl (Cx.Ok.fn (by assumption)) (by first | exact kindK hf rfl | (rw [hf]; rfl) | (rw [he]; rfl))
  intro s st
  with_reducible refine openK (by assumption) ?_
  with_reducible refine wpAny_execs_nil ?_
  with_reducible refine openK (by assumption) ?_
  with_reducible refine execsK ?_
  intro K hStmt
  refine exprS (hs := by rfl) (Cx.Ok.fn (by assumption)) ?_
  refine callMeth (he := by rfl) ?_
  refine nameLR (hd := by decide) (by assumption) (by first | assumption | rfl) ?_ rfl (Cx.Ok.fn (by assumption)) (by first | exact kindK hf rfl | (rw [hf]; rfl) | (rw [he]; rfl))
  refine methL (by assumption) hl PySem.F.slot_list_insert PySem.F.type_list_insert ?_
  refine cw (he := by rfl) ?_
  dsimp only [Args_]
  refine nameLI (hd := by decide) (by assumption) (by first | assumption | rfl) ?_ rfl (Cx.Ok.fn (by assumption)) (by first | exact kindK hf rfl | (rw [hf]; rfl) | (rw [he]; rfl))
  intro tok
  refine nameLI (hd := by decide) (by assumption) (by first | assumption | rfl) ?_ rfl (Cx.Ok.fn (by assumption)) (by first | exact kindK hf rfl | (rw [hf]; rfl) | (rw [he]; rfl))
  intro tok
  (first | refine ⟨trivial, ?_⟩ | refine ⟨stands_K (by assumption) (by assumption) (by (rw [hK]; first | with_reducible exact k_bisect _ | with_reducible exact k_insort _ | with_reducible exact k_info _ | with_reducible exact k_sorter _ | with_reducible exact k98 _ | with_reducible exact k105 _ | with_reducible exact k110 _ | with_reducible exact k117 _ | with_reducible exact k124 _ | with_reducible exact k138 _ | with_reducible exact k145 _ | with_reducible exact kp_least _)), ?_⟩)
  (try dsimp only [List.nil_append, List.cons_append])
  refine insertL (by assumption) hl (by exact om34) (by rw [List.length_map]; exact om47 hr) (by rw [List.length_map, sizeLine_eq]; exact om48 hz) ?_
  intro s3 st3
  refine ⟨rfl, ?_⟩
  with_reducible refine openK (by assumption) ?_
  with_reducible refine wpAny_execs_nil ?_
  refine ⟨_, _, st3, fun st => h r _ hr h3 h4 ?_⟩
  rw [Int.toNat_natCast, ← List.map_take, ← List.map_drop] at st
  rw [List.map_append, List.map_cons]
  exact st


noncomputable def sNode : Stmt := topSt 7
noncomputable def sSort : Stmt := topSt 9
noncomputable def sNInit : Stmt := stmtAt (bodyOf sNode) 1
noncomputable def sInit : Stmt := stmtAt (bodyOf sSort) 0
noncomputable def sInfo : Stmt := stmtAt (bodyOf sSort) 1
noncomputable def sAdd : Stmt := stmtAt (bodyOf sSort) 2
noncomputable def sPrep : Stmt := stmtAt (bodyOf sSort) 3
noncomputable def sReady : Stmt := stmtAt (bodyOf sSort) 4
noncomputable def sActive : Stmt := stmtAt (bodyOf sSort) 5
noncomputable def sDone : Stmt := stmtAt (bodyOf sSort) 7
noncomputable def sCycle : Stmt := stmtAt (bodyOf sSort) 8
theorem in_ninit (P : Params) : FnIn (KP P) 54 sNInit "_NodeInfo.__init__" .none .none (.ref 53) where
  fn := ⟨(((funcAt (KP P) 54).map (·.doc)).getD .none), (((funcAt (KP P) 54).map (·.pyModule)).getD .none), none, .none, by kernel_rfl⟩
  code := by kernel_rfl
  co := by kernel_rfl
  gen := by kernel_rfl
  kind := by kernel_rfl
theorem in_init (P : Params) : FnIn (KP P) 91 sInit "TopologicalSorter.__init__" (.ref 84) .none (.ref 90) where
  fn := ⟨(((funcAt (KP P) 91).map (·.doc)).getD .none), (((funcAt (KP P) 91).map (·.pyModule)).getD .none), none, .none, by kernel_rfl⟩
  code := by kernel_rfl
  co := by kernel_rfl
  gen := by kernel_rfl
  kind := by kernel_rfl
theorem in_info (P : Params) : FnIn (KP P) 98 sInfo "TopologicalSorter._get_nodeinfo" .none .none (.ref 97) where
  fn := ⟨(((funcAt (KP P) 98).map (·.doc)).getD .none), (((funcAt (KP P) 98).map (·.pyModule)).getD .none), none, .none, by kernel_rfl⟩
  code := by kernel_rfl
  co := by kernel_rfl
  gen := by kernel_rfl
  kind := by kernel_rfl
theorem in_add (P : Params) : FnIn (KP P) 105 sAdd "TopologicalSorter.add" .none .none (.ref 104) where
  fn := ⟨(((funcAt (KP P) 105).map (·.doc)).getD .none), (((funcAt (KP P) 105).map (·.pyModule)).getD .none), none, .none, by kernel_rfl⟩
  code := by kernel_rfl
  co := by kernel_rfl
  gen := by kernel_rfl
  kind := by kernel_rfl
theorem in_prep (P : Params) : FnIn (KP P) 110 sPrep "TopologicalSorter.prepare" .none .none (.ref 109) where
  fn := ⟨(((funcAt (KP P) 110).map (·.doc)).getD .none), (((funcAt (KP P) 110).map (·.pyModule)).getD .none), none, .none, by kernel_rfl⟩
  code := by kernel_rfl
  co := by kernel_rfl
  gen := by kernel_rfl
  kind := by kernel_rfl
theorem in_ready (P : Params) : FnIn (KP P) 117 sReady "TopologicalSorter.get_ready" .none .none (.ref 116) where
  fn := ⟨(((funcAt (KP P) 117).map (·.doc)).getD .none), (((funcAt (KP P) 117).map (·.pyModule)).getD .none), none, .none, by kernel_rfl⟩
  code := by kernel_rfl
  co := by kernel_rfl
  gen := by kernel_rfl
  kind := by kernel_rfl
theorem in_active (P : Params) : FnIn (KP P) 124 sActive "TopologicalSorter.is_active" .none .none (.ref 123) where
  fn := ⟨(((funcAt (KP P) 124).map (·.doc)).getD .none), (((funcAt (KP P) 124).map (·.pyModule)).getD .none), none, .none, by kernel_rfl⟩
  code := by kernel_rfl
  co := by kernel_rfl
  gen := by kernel_rfl
  kind := by kernel_rfl
theorem in_done (P : Params) : FnIn (KP P) 138 sDone "TopologicalSorter.done" .none .none (.ref 137) where
  fn := ⟨(((funcAt (KP P) 138).map (·.doc)).getD .none), (((funcAt (KP P) 138).map (·.pyModule)).getD .none), none, .none, by kernel_rfl⟩
  code := by kernel_rfl
  co := by kernel_rfl
  gen := by kernel_rfl
  kind := by kernel_rfl
theorem in_cycle (P : Params) : FnIn (KP P) 145 sCycle "TopologicalSorter._find_cycle" .none .none (.ref 144) where
  fn := ⟨(((funcAt (KP P) 145).map (·.doc)).getD .none), (((funcAt (KP P) 145).map (·.pyModule)).getD .none), none, .none, by kernel_rfl⟩
  code := by kernel_rfl
  co := by kernel_rfl
  gen := by kernel_rfl
  kind := by kernel_rfl

theorem k98 (P : Params) : keepIn (KP P) (.ref 98) = true := by kernel_rfl
theorem k105 (P : Params) : keepIn (KP P) (.ref 105) = true := by kernel_rfl
theorem k110 (P : Params) : keepIn (KP P) (.ref 110) = true := by kernel_rfl
theorem k117 (P : Params) : keepIn (KP P) (.ref 117) = true := by kernel_rfl
theorem k124 (P : Params) : keepIn (KP P) (.ref 124) = true := by kernel_rfl
theorem k138 (P : Params) : keepIn (KP P) (.ref 138) = true := by kernel_rfl
theorem k145 (P : Params) : keepIn (KP P) (.ref 145) = true := by kernel_rfl

theorem pg155 (P : Params) (n : Str) : plainGet (KP P) 155 n = true := by kernel_rfl
theorem hd155 (P : Params) : hasDictIn (KP P) 155 = true := by kernel_rfl
theorem sa155 (P : Params) : findIn (KP P) (.ref 155) "__setattr__" = some (some (.builtin "object.__setattr__")) := by kernel_rfl
theorem po155 (P : Params) : plainOver (KP P) 155 = true := by kernel_rfl
theorem mk155 (P : Params) : makesIn (KP P) 155 = true := by kernel_rfl
theorem mi155 (P : Params) : findIn (KP P) (.ref 155) "__init__" = some (some (.ref 91)) := by kernel_rfl
theorem if91 (P : Params) : isFn (KP P) (.ref 91) = true := by kernel_rfl
theorem pg58 (P : Params) (n : Str) : plainGet (KP P) 58 n = true := by kernel_rfl
theorem ic58 (P : Params) : isClsIn (KP P) 58 = true := by kernel_rfl
theorem sa58 (P : Params) : findIn (KP P) (.ref 58) "__setattr__" = some (some (.builtin "object.__setattr__")) := by kernel_rfl
theorem po58 (P : Params) : plainOver (KP P) 58 = true := by kernel_rfl
theorem mk58 (P : Params) : makesIn (KP P) 58 = true := by kernel_rfl
theorem mi58 (P : Params) : findIn (KP P) (.ref 58) "__init__" = some (some (.ref 54)) := by kernel_rfl
theorem if54 (P : Params) : isFn (KP P) (.ref 54) = true := by kernel_rfl

section
variable {c : Cx} {R : Ledger} {ρ : Str → Option AV} {H : Ledger} {s : Shared} {A : Around} {E : Value → Shared → Prop} {x d f p : Addr} {sl : List (Option AV)} {es : List (Str × AV)} {name : Str} {av : AV} {v : Value}
theorem getA155 {expr : Bool} {Q : Value → Shared → Prop} (hK : c.G.K = KP c.G.w.params) (ok : c.Ok) (st : St c R ρ H s) (hx : H x = some (.inst 155 d sl)) (hd : H d = some (.attrs es)) (ha : findIn (KP c.G.w.params) (.ref 155) name = some none)
    (hl : es.lookup name = some av) (hp : av.plain = true) (h : ∀ v s', abs v = av → St c R ρ H s' → Q v s') : wpAny c.M A (getAttr (.ref x) name expr) Q E s :=
  getA ok st hx hd (by rw [hK]; exact pg155 _ _) (by rw [hK]; exact hd155 _) (by rw [hK]; exact ha) hl hp h
theorem setA155 {Q : Unit → Shared → Prop} (hK : c.G.K = KP c.G.w.params) (ok : c.Ok) (st : St c R ρ H s) (hx : H x = some (.inst 155 d sl)) (hd : H d = some (.attrs es)) (ht : takerIn (KP c.G.w.params) 155 name = some none)
    (hz : es.length ≤ 900) (h : ∀ s', St c R ρ (upd H d (.attrs (putA name (abs v) es))) s' → Q () s') : wpAny c.M A (setAttr (.ref x) name v) Q E s :=
  setA ok st hx hd (by rw [hK]; exact sa155 _) (by rw [hK]; exact po155 _) (by rw [hK]; exact ht) (by rw [hK]; exact hd155 _) hz h
theorem meth155 {pl : Sem Bool} {Q : Value × List Value → Shared → Prop} (hK : c.G.K = KP c.G.w.params) (ok : c.Ok) (st : St c R ρ H s) (hx : H x = some (.inst 155 d sl)) (hd : H d = some (.attrs es)) (hf : findIn (KP c.G.w.params) (.ref 155) name = some (some (.ref f))) (ht : isFn (KP c.G.w.params) (.ref f) = true)
    (hl : es.lookup name = none) (h : Q (.ref f, [.ref x]) s) : wpAny c.M A (getMethod (.ref x) name pl) Q E s :=
  methA ok st hx hd (by rw [hK]; exact pg155 _ _) (by rw [hK]; exact hf) (by rw [hK]; exact ht) hl h

theorem getNode {expr : Bool} {Q : Value → Shared → Prop} (hK : c.G.K = KP c.G.w.params) (ok : c.Ok) (st : St c R ρ H s) (hx : H x = some (.inst 58 d sl)) (hd : H d = some (.attrs es)) (hl : (sl[0]?).join = some av) (hp : av.plain = true) (h : ∀ v s', abs v = av → St c R ρ H s' → Q v s') :
    wpAny c.M A (getAttr (.ref x) "node" expr) Q E s :=
  getS (p := 59) (i := 0) ok st hx hd (by rw [hK]; exact pg58 _ _) (by rw [hK]; exact ic58 _) (by rw [hK]; kernel_rfl) (by rw [hK]; kernel_rfl) (by rw [hK]; kernel_rfl) (by rw [hK]; kernel_rfl) hl hp h
theorem getNpred {expr : Bool} {Q : Value → Shared → Prop} (hK : c.G.K = KP c.G.w.params) (ok : c.Ok) (st : St c R ρ H s) (hx : H x = some (.inst 58 d sl)) (hd : H d = some (.attrs es)) (hl : (sl[1]?).join = some av) (hp : av.plain = true) (h : ∀ v s', abs v = av → St c R ρ H s' → Q v s') :
    wpAny c.M A (getAttr (.ref x) "npredecessors" expr) Q E s :=
  getS (p := 60) (i := 1) ok st hx hd (by rw [hK]; exact pg58 _ _) (by rw [hK]; exact ic58 _) (by rw [hK]; kernel_rfl) (by rw [hK]; kernel_rfl) (by rw [hK]; kernel_rfl) (by rw [hK]; kernel_rfl) hl hp h
theorem getSucc {expr : Bool} {Q : Value → Shared → Prop} (hK : c.G.K = KP c.G.w.params) (ok : c.Ok) (st : St c R ρ H s) (hx : H x = some (.inst 58 d sl)) (hd : H d = some (.attrs es)) (hl : (sl[2]?).join = some av) (hp : av.plain = true) (h : ∀ v s', abs v = av → St c R ρ H s' → Q v s') :
    wpAny c.M A (getAttr (.ref x) "successors" expr) Q E s :=
  getS (p := 61) (i := 2) ok st hx hd (by rw [hK]; exact pg58 _ _) (by rw [hK]; exact ic58 _) (by rw [hK]; kernel_rfl) (by rw [hK]; kernel_rfl) (by rw [hK]; kernel_rfl) (by rw [hK]; kernel_rfl) hl hp h

theorem setNode {Q : Unit → Shared → Prop} (hK : c.G.K = KP c.G.w.params) (ok : c.Ok) (st : St c R ρ H s) (hx : H x = some (.inst 58 d sl)) (hd : H d = some (.attrs es))
    (h : ∀ s', St c R ρ (upd H x (.inst 58 d ((sl ++ List.replicate (0 + 1 - sl.length) none).set 0 (some (abs v))))) s' → Q () s') : wpAny c.M A (setAttr (.ref x) "node" v) Q E s :=
  setS (p := 59) (i := 0) ok st hx hd (by rw [hK]; exact sa58 _) (by rw [hK]; exact po58 _) (by rw [hK]; kernel_rfl) (by rw [hK]; kernel_rfl) (by rw [hK]; kernel_rfl) (by decide) h
theorem setNpred {Q : Unit → Shared → Prop} (hK : c.G.K = KP c.G.w.params) (ok : c.Ok) (st : St c R ρ H s) (hx : H x = some (.inst 58 d sl)) (hd : H d = some (.attrs es))
    (h : ∀ s', St c R ρ (upd H x (.inst 58 d ((sl ++ List.replicate (1 + 1 - sl.length) none).set 1 (some (abs v))))) s' → Q () s') : wpAny c.M A (setAttr (.ref x) "npredecessors" v) Q E s :=
  setS (p := 60) (i := 1) ok st hx hd (by rw [hK]; exact sa58 _) (by rw [hK]; exact po58 _) (by rw [hK]; kernel_rfl) (by rw [hK]; kernel_rfl) (by rw [hK]; kernel_rfl) (by decide) h
theorem setSucc {Q : Unit → Shared → Prop} (hK : c.G.K = KP c.G.w.params) (ok : c.Ok) (st : St c R ρ H s) (hx : H x = some (.inst 58 d sl)) (hd : H d = some (.attrs es))
    (h : ∀ s', St c R ρ (upd H x (.inst 58 d ((sl ++ List.replicate (2 + 1 - sl.length) none).set 2 (some (abs v))))) s' → Q () s') : wpAny c.M A (setAttr (.ref x) "successors" v) Q E s :=
  setS (p := 61) (i := 2) ok st hx hd (by rw [hK]; exact sa58 _) (by rw [hK]; exact po58 _) (by rw [hK]; kernel_rfl) (by rw [hK]; kernel_rfl) (by rw [hK]; kernel_rfl) (by decide) h
end
example (P : Params) : (slotIn (KP P) 59 58, slotIn (KP P) 60 58, slotIn (KP P) 61 58) = (some 0, some 1, some 2) := by kernel_rfl


section
variable {c : Cx} {R : Ledger} {ρ : Str → Option AV} {H : Ledger} {s : Shared} {A : Around} {E : Value → Shared → Prop} {Q : Value → Shared → Prop} {d : Nat}

theorem make_node {k : Int} {t : Tok} (hK : c.G.K = KP c.G.w.params) (ok : c.Ok) (rm : Room c A (d + 2)) (st : St c R ρ H s)
    (h : ∀ x dx sa s', H x = none → H dx = none → H sa = none → x ≠ dx → x ≠ sa → dx ≠ sa → St c R ρ (upd (upd (upd H dx (.attrs [])) sa (.list [])) x (.inst 58 dx [some (.int k), some (.int 0), some (.ref sa)])) s' → Q (.ref x) s') :
    wpAny c.M A (call (.ref 58) [.int k t] []) Q E s := by
  refine makeC ok st (by rw [hK]; exact mk58 _) (by rw [hK]; exact mi58 _) (by rw [hK]; exact if54 _) ?_
  intro x dx s1 hx hdx hne st1
  refine codeK (binds := [(("self":Str), .ref x), (("node":Str), .int k t)]) (by rw [hK]; exact in_ninit _) ok (room_make rm) st1 (fun doc pm an ct => bindsK ok st1 (by rw [hK]; intro S; kernel_rfl)) (by kernel_rfl) (by kernel_rfl) ?_
  intro c' A' L' s' ok' hG hf rm' st'
  rw [← hG] at hK
  refine execsK ?_
  intro K hStmt
  refine plainObj_wpAny_Assign_Attribute ?_
  refine nameLI (hd := by decide) (by assumption) (by first | assumption | rfl) ?_ rfl (Cx.Ok.fn (by assumption)) (by first | exact kindK hf rfl | (rw [hf]; rfl) | (rw [he]; rfl))
  intro tok
  refine nameLR (hd := by decide) (by assumption) (by first | assumption | rfl) ?_ rfl (Cx.Ok.fn (by assumption)) (by first | exact kindK hf rfl | (rw [hf]; rfl) | (rw [he]; rfl))
  refine setNode hK ok' (by assumption) (upd_self ..) (by rw [upd_ne (Ne.symm hne)]; exact upd_self ..) ?_
  intro s2 st2
  rw [upd_upd] at st2
  with_reducible refine openK (by assumption) ?_
  with_reducible refine execsK ?_
  intro K hStmt
  refine plainObj_wpAny_Assign_Attribute ?_
  with_reducible refine cInt (by assumption) ?_
  intro tok s st
  refine nameLR (hd := by decide) (by assumption) (by first | assumption | rfl) ?_ rfl (Cx.Ok.fn (by assumption)) (by first | exact kindK hf rfl | (rw [hf]; rfl) | (rw [he]; rfl))
  refine setNpred hK ok' (by assumption) (upd_self ..) (by rw [upd_ne (Ne.symm hne)]; exact upd_self ..) ?_
  intro s3 st3
  rw [upd_upd] at st3
  with_reducible refine openK (by assumption) ?_
  with_reducible refine execsK ?_
  intro K hStmt
  refine plainObj_wpAny_Assign_Attribute ?_
  refine listE (he := by rfl) ?_
  dsimp only [Args_]
  refine newL ok' (by assumption) (by decide) ?_
  intro sa s4 hsa st4
  refine nameLR (hd := by decide) (by assumption) (by first | assumption | rfl) ?_ rfl (Cx.Ok.fn (by assumption)) (by first | exact kindK hf rfl | (rw [hf]; rfl) | (rw [he]; rfl))
  refine setSucc hK ok' (by assumption) (by rw [upd_ne ?_]; exact upd_self ..; rintro rfl; rw [upd_self] at hsa; cases hsa) (by rw [upd_ne ?_, upd_ne (Ne.symm hne)]; exact upd_self ..; rintro rfl; rw [upd_ne (Ne.symm hne), upd_self] at hsa; cases hsa) ?_
  intro s5 st5
  with_reducible refine openK (by assumption) ?_
  with_reducible refine wpAny_execs_nil ?_
  have nx : x ≠ sa := fun q => by first | (rw [q, upd_self] at hsa; cases hsa) | (rw [← q, upd_self] at hsa; cases hsa)
  have nd : dx ≠ sa := fun q => by first | (rw [q, upd_ne (Ne.symm hne), upd_self] at hsa; cases hsa) | (rw [← q, upd_ne (Ne.symm hne), upd_self] at hsa; cases hsa)
  refine ⟨_, _, st5, fun st => ⟨rfl, h x dx sa _ hx hdx ?_ hne nx nd ?_⟩⟩
  · rw [upd_ne (Ne.symm nx), upd_ne (Ne.symm nd)] at hsa; exact hsa
  · refine st.drop fun a ao e => ?_
    by_cases q1 : a = x
    · subst q1; rw [upd_self] at e ⊢; rw [← e]; rfl
    · rw [upd_ne q1] at e ⊢
      by_cases q2 : a = sa
      · subst q2; rw [upd_self] at e ⊢; exact e
      · rw [upd_ne q2] at e ⊢; rw [upd_ne q1]; exact e
end

structure Gr where
  ks : List Int
  np : Int → Int
  sc : Int → List Int
noncomputable def setF {α : Type} (f : Int → α) (k : Int) (v : α) : Int → α := fun x => if x = k then v else f x
@[simp] theorem setF_self {α : Type} (f : Int → α) (k : Int) (v : α) : setF f k v k = v := by simp [setF]
theorem setF_ne {α : Type} {f : Int → α} {k x : Int} {v : α} (h : x ≠ k) : setF f k v x = f x := by simp [setF, h]
structure Srt where
  self : Addr
  d : Addr
  n2i : Addr
  g : Gr
  rd : Option (List Int)
  po : Int
  nf : Int
structure Lay where
  ep : Nat
  na : Int → Addr
  nd : Int → Addr
  sa : Int → Addr
  ra : Addr
noncomputable def Srt.attrs (σ : Srt) (l : Lay) : List (Str × AV) := [("_node2info", .ref σ.n2i), ("_ready_nodes", match σ.rd with | none => .none | some _ => .ref l.ra), ("_npassedout", .int σ.po), ("_nfinished", .int σ.nf)]
structure SrtL (H : Ledger) (F : Addr → Prop) (σ : Srt) (l : Lay) : Prop where
  inst : H σ.self = some (.inst 155 σ.d [])
  attr : H σ.d = some (.attrs (σ.attrs l))
  dict : H σ.n2i = some (.dict (σ.g.ks.map fun k => (k, .ref (l.na k))) l.ep)
  node : ∀ k ∈ σ.g.ks, H (l.na k) = some (.inst 58 (l.nd k) [some (.int k), some (.int (σ.g.np k)), some (.ref (l.sa k))])
  ndct : ∀ k ∈ σ.g.ks, H (l.nd k) = some (.attrs [])
  succ : ∀ k ∈ σ.g.ks, H (l.sa k) = some (.list ((σ.g.sc k).map .int))
  inj : ∀ k ∈ σ.g.ks, ∀ k' ∈ σ.g.ks, l.sa k = l.sa k' → k = k'
  nodup : σ.g.ks.Nodup
  rdy : ∀ r, σ.rd = some r → H l.ra = some (.list (r.map .int)) ∧ (∀ k ∈ σ.g.ks, l.sa k ≠ l.ra) ∧ F l.ra
  fp : F σ.self ∧ F σ.d ∧ F σ.n2i
  fpn : ∀ k ∈ σ.g.ks, F (l.na k) ∧ F (l.nd k) ∧ F (l.sa k)
  all : ∀ b, F b → H b ≠ none
structure Stp (H : Ledger) (F : Addr → Prop) (H' : Ledger) (F' : Addr → Prop) : Prop where
  keep : ∀ b ao, ¬ F b → H b = some ao → H' b = some ao
  sub : ∀ b, F b → F' b
  new : ∀ b, F' b → F b ∨ H b = none
theorem Stp.refl (H : Ledger) (F : Addr → Prop) : Stp H F H F := ⟨fun _ _ _ e => e, fun _ e => e, fun _ e => .inl e⟩
theorem Stp.trans {H H' H'' : Ledger} {F F' F'' : Addr → Prop} (x : Stp H F H' F') (y : Stp H' F' H'' F'') : Stp H F H'' F'' := by
  refine ⟨fun b ao hn e => y.keep b ao (fun q => ?_) (x.keep b ao hn e), fun b q => y.sub b (x.sub b q), fun b q => ?_⟩
  · rcases x.new b q with q | q
    · exact hn q
    · rw [q] at e; cases e
  · rcases y.new b q with q | q
    · exact x.new b q
    · by_cases hF : F b
      · exact .inl hF
      · cases e : H b with
        | none => exact .inr rfl
        | some ao => rw [x.keep b ao hF e] at q; cases q
theorem Stp.off {H H' : Ledger} {F F' : Addr → Prop} (x : Stp H F H' F') {b : Addr} {ao : AO} (hn : ¬ F b) (e : H b = some ao) : ¬ F' b ∧ H' b = some ao :=
  ⟨fun q => (by rcases x.new b q with q | q; exact hn q; rw [q] at e; cases e), x.keep b ao hn e⟩
theorem Stp.upd {H : Ledger} {F : Addr → Prop} {a : Addr} {o : AO} (h : F a) : Stp H F (upd H a o) F :=
  ⟨fun b ao hn e => by rw [upd_ne (by rintro rfl; exact hn h)]; exact e, fun _ e => e, fun _ e => .inl e⟩

noncomputable def ensure (k : Int) (g : Gr) : Gr := if k ∈ g.ks then g else ⟨g.ks ++ [k], setF g.np k 0, setF g.sc k []⟩

theorem lookup_keys {α : Type} (f : Int → α) (k : Int) : ∀ ks : List Int, (ks.map fun k => (k, f k)).lookup k = if k ∈ ks then some (f k) else none
  | [] => rfl
  | a :: r => by
    rw [List.map_cons, List.lookup_cons]
    by_cases h : k = a
    · subst h; simp
    · have : (k == a) = false := by simpa using h
      rw [this]
      simp only [lookup_keys f k r, List.mem_cons, h, false_or]

section
variable {c : Cx} {R : Ledger} {ρ : Str → Option AV} {H : Ledger} {s : Shared} {A : Around} {E : Value → Shared → Prop} {Q : Value → Shared → Prop} {d : Nat} {F : Addr → Prop} {σ : Srt} {l : Lay}

theorem SrtL.grow {k : Int} {x dx sa : Addr} {ep : Nat} (S : SrtL H F σ l) (hk : k ∉ σ.g.ks) (hx : H x = none) (hdx : H dx = none) (hsa : H sa = none) (n1 : x ≠ dx) (n2 : x ≠ sa) (n3 : dx ≠ sa) :
    SrtL (upd (upd (upd (upd H dx (.attrs [])) sa (.list [])) x (.inst 58 dx [some (.int k), some (.int 0), some (.ref sa)])) σ.n2i (.dict (σ.g.ks.map (fun k => (k, .ref (l.na k))) ++ [(k, .ref x)]) ep)) (fun b => F b ∨ b = x ∨ b = dx ∨ b = sa)
      { σ with g := ensure k σ.g } ⟨ep, setF l.na k x, setF l.nd k dx, setF l.sa k sa, l.ra⟩ := by
  have old : ∀ b ao, H b = some ao → b ≠ σ.n2i → upd (upd (upd (upd H dx (.attrs [])) sa (.list [])) x (.inst 58 dx [some (.int k), some (.int 0), some (.ref sa)])) σ.n2i (.dict (σ.g.ks.map (fun k => (k, .ref (l.na k))) ++ [(k, .ref x)]) ep) b = some ao := by
    intro b ao e hb
    rw [upd_ne hb, upd_ne (fun q => by first | (rw [q, hx] at e; cases e) | (rw [← q, hx] at e; cases e)), upd_ne (fun q => by first | (rw [q, hsa] at e; cases e) | (rw [← q, hsa] at e; cases e)), upd_ne (fun q => by first | (rw [q, hdx] at e; cases e) | (rw [← q, hdx] at e; cases e))]
    exact e
  have hen : ensure k σ.g = ⟨σ.g.ks ++ [k], setF σ.g.np k 0, setF σ.g.sc k []⟩ := if_neg hk
  have ne_n : ∀ b ao, H b = some ao → (∀ es e, ao ≠ .dict es e) → b ≠ σ.n2i := by
    rintro b ao e hn rfl
    rw [S.dict] at e
    exact hn _ _ (Option.some.inj e).symm
  have xn : x ≠ σ.n2i := fun q => by first | (rw [q, S.dict] at hx; cases hx) | (rw [← q, S.dict] at hx; cases hx)
  have dn : dx ≠ σ.n2i := fun q => by first | (rw [q, S.dict] at hdx; cases hdx) | (rw [← q, S.dict] at hdx; cases hdx)
  have sn : sa ≠ σ.n2i := fun q => by first | (rw [q, S.dict] at hsa; cases hsa) | (rw [← q, S.dict] at hsa; cases hsa)
  have kne : ∀ k' ∈ σ.g.ks, k' ≠ k := by rintro k' h rfl; exact hk h
  refine ⟨old _ _ S.inst (ne_n _ _ S.inst (fun _ _ q => by cases q)), old _ _ S.attr (ne_n _ _ S.attr (fun _ _ q => by cases q)), ?_, ?_, ?_, ?_, ?_, ?_, ?_, ⟨.inl S.fp.1, .inl S.fp.2.1, .inl S.fp.2.2⟩, ?_, ?_⟩
  · show upd _ σ.n2i _ σ.n2i = _
    rw [upd_self, hen]
    congr 2
    rw [List.map_append]
    congr 1
    · exact List.map_congr_left fun k' h' => by dsimp only; rw [setF_ne (kne k' h')]
    · show _ = [(k, AV.ref (setF l.na k x k))]; rw [setF_self]
  · intro k' hk'
    rw [hen] at hk' ⊢
    rcases List.mem_append.mp hk' with h' | h'
    · show upd _ σ.n2i _ (setF l.na k x k') = _
      dsimp only
      rw [setF_ne (kne k' h'), setF_ne (kne k' h'), setF_ne (kne k' h'), setF_ne (kne k' h')]
      exact old _ _ (S.node k' h') (ne_n _ _ (S.node k' h') (fun _ _ q => by cases q))
    · obtain rfl := List.mem_singleton.mp h'
      dsimp only
      simp only [setF_self]
      rw [upd_ne xn, upd_self]
  · intro k' hk'
    rw [hen] at hk'
    rcases List.mem_append.mp hk' with h' | h'
    · dsimp only
      rw [setF_ne (kne k' h')]
      exact old _ _ (S.ndct k' h') (ne_n _ _ (S.ndct k' h') (fun _ _ q => by cases q))
    · obtain rfl := List.mem_singleton.mp h'
      dsimp only
      rw [setF_self, upd_ne dn, upd_ne (Ne.symm n1), upd_ne n3, upd_self]
  · intro k' hk'
    rw [hen] at hk' ⊢
    rcases List.mem_append.mp hk' with h' | h'
    · dsimp only
      rw [setF_ne (kne k' h'), setF_ne (kne k' h')]
      exact old _ _ (S.succ k' h') (ne_n _ _ (S.succ k' h') (fun _ _ q => by cases q))
    · obtain rfl := List.mem_singleton.mp h'
      dsimp only
      rw [setF_self, setF_self, upd_ne sn, upd_ne (Ne.symm n2), upd_self]
      rfl
  · intro k1 h1 k2 h2 e
    rw [hen] at h1 h2
    have old_ne : ∀ k' ∈ σ.g.ks, l.sa k' ≠ sa := by rintro k' h' rfl; rw [S.succ k' h'] at hsa; cases hsa
    rcases List.mem_append.mp h1 with q1 | q1 <;> rcases List.mem_append.mp h2 with q2 | q2
    · dsimp only at e; rw [setF_ne (kne k1 q1), setF_ne (kne k2 q2)] at e; exact S.inj k1 q1 k2 q2 e
    · rw [List.mem_singleton.mp q2] at e; dsimp only at e; rw [setF_ne (kne k1 q1), setF_self] at e; exact absurd e (old_ne k1 q1)
    · rw [List.mem_singleton.mp q1] at e; dsimp only at e; rw [setF_ne (kne k2 q2), setF_self] at e; exact absurd e.symm (old_ne k2 q2)
    · rw [List.mem_singleton.mp q1, List.mem_singleton.mp q2]
  · rw [hen]; exact List.nodup_append.mpr ⟨S.nodup, by simp, by rintro a ha b hb rfl; rw [List.mem_singleton.mp hb] at ha; exact hk ha⟩
  · intro r hr
    obtain ⟨h1, h2, h3⟩ := S.rdy r hr
    refine ⟨old _ _ h1 (ne_n _ _ h1 (fun _ _ q => by cases q)), fun k' hk' => ?_, .inl h3⟩
    rw [hen] at hk'
    rcases List.mem_append.mp hk' with h' | h'
    · dsimp only; rw [setF_ne (kne k' h')]; exact h2 k' h'
    · obtain rfl := List.mem_singleton.mp h'
      dsimp only; rw [setF_self]; rintro rfl; rw [h1] at hsa; cases hsa
  · intro k' hk'
    rw [hen] at hk'
    rcases List.mem_append.mp hk' with h' | h'
    · dsimp only; rw [setF_ne (kne k' h'), setF_ne (kne k' h'), setF_ne (kne k' h')]
      exact ⟨.inl (S.fpn k' h').1, .inl (S.fpn k' h').2.1, .inl (S.fpn k' h').2.2⟩
    · obtain rfl := List.mem_singleton.mp h'
      dsimp only; rw [setF_self, setF_self, setF_self]
      exact ⟨.inr (.inl rfl), .inr (.inr (.inl rfl)), .inr (.inr (.inr rfl))⟩
  · intro b q
    by_cases hb : b = σ.n2i
    · subst hb; rw [upd_self]; intro z; cases z
    · rcases q with q | q | q | q
      · have := S.all b q
        cases e : H b with
        | none => exact absurd e this
        | some ao => rw [old b ao e hb]; intro z; cases z
      · subst q; rw [upd_ne hb, upd_self]; intro z; cases z
      · subst q; rw [upd_ne hb, upd_ne (Ne.symm n1), upd_ne n3, upd_self]; intro z; cases z
      · subst q; rw [upd_ne hb, upd_ne (Ne.symm n2), upd_self]; intro z; cases z

theorem SrtL.mono {H' : Ledger} (S : SrtL H F σ l) (h : Sub H H') : SrtL H' F σ l :=
  ⟨h.le _ _ S.inst, h.le _ _ S.attr, h.le _ _ S.dict, fun k hk => h.le _ _ (S.node k hk), fun k hk => h.le _ _ (S.ndct k hk), fun k hk => h.le _ _ (S.succ k hk), S.inj, S.nodup,
    fun r hr => ⟨h.le _ _ (S.rdy r hr).1, (S.rdy r hr).2⟩, S.fp, S.fpn, fun b q => by
      cases e : H b with
      | none => exact absurd e (S.all b q)
      | some ao => rw [h.le b ao e]; intro z; cases z⟩
theorem all_upd {a : Addr} {o : AO} (h : ∀ b, F b → H b ≠ none) : ∀ b, F b → upd H a o b ≠ none := fun b q => by
  by_cases e : b = a
  · subst e; rw [upd_self]; intro z; cases z
  · rw [upd_ne e]; exact h b q
theorem SrtL.setNp {k n : Int} (S : SrtL H F σ l) (hk : k ∈ σ.g.ks) :
    SrtL (upd H (l.na k) (.inst 58 (l.nd k) [some (.int k), some (.int n), some (.ref (l.sa k))])) F { σ with g := { σ.g with np := setF σ.g.np k n } } l := by
  have old : ∀ b ao, H b = some ao → (∀ C d sl, ao = .inst C d sl → sl[0]? ≠ some (some (.int k))) → upd H (l.na k) (.inst 58 (l.nd k) [some (.int k), some (.int n), some (.ref (l.sa k))]) b = some ao := by
    intro b ao e hn
    rw [upd_ne]; exact e
    rintro rfl
    rw [S.node k hk] at e
    cases e
    exact hn _ _ _ rfl rfl
  refine ⟨old _ _ S.inst (fun _ _ _ q => by cases q; intro z; cases z), old _ _ S.attr (fun _ _ _ q => by cases q), old _ _ S.dict (fun _ _ _ q => by cases q), fun k' hk' => ?_, fun k' hk' => old _ _ (S.ndct k' hk') (fun _ _ _ q => by cases q),
    fun k' hk' => old _ _ (S.succ k' hk') (fun _ _ _ q => by cases q), S.inj, S.nodup, fun r hr => ⟨old _ _ (S.rdy r hr).1 (fun _ _ _ q => by cases q), (S.rdy r hr).2⟩, S.fp, S.fpn, all_upd S.all⟩
  by_cases e : k' = k
  · subst e; dsimp only; rw [upd_self, setF_self]
  · dsimp only
    rw [setF_ne e]
    refine old _ _ (S.node k' hk') (fun _ _ _ q => ?_)
    cases q
    intro z
    simp at z
    exact e z
theorem SrtL.setSc {k : Int} {ns : List Int} (S : SrtL H F σ l) (hk : k ∈ σ.g.ks) : SrtL (upd H (l.sa k) (.list (ns.map .int))) F { σ with g := { σ.g with sc := setF σ.g.sc k ns } } l := by
  have old : ∀ b ao, H b = some ao → (∀ xs, ao = .list xs → b ≠ l.sa k) → upd H (l.sa k) (.list (ns.map .int)) b = some ao := by
    intro b ao e hn
    rw [upd_ne]; exact e
    rintro rfl
    rw [S.succ k hk] at e
    cases e
    exact hn _ rfl rfl
  refine ⟨old _ _ S.inst (fun _ q => by cases q), old _ _ S.attr (fun _ q => by cases q), old _ _ S.dict (fun _ q => by cases q), fun k' hk' => old _ _ (S.node k' hk') (fun _ q => by cases q), fun k' hk' => old _ _ (S.ndct k' hk') (fun _ q => by cases q),
    fun k' hk' => ?_, S.inj, S.nodup, fun r hr => ⟨old _ _ (S.rdy r hr).1 (fun _ _ => Ne.symm ((S.rdy r hr).2.1 k hk)), (S.rdy r hr).2⟩, S.fp, S.fpn, all_upd S.all⟩
  by_cases e : k' = k
  · subst e; dsimp only; rw [upd_self, setF_self]
  · dsimp only
    rw [setF_ne e]
    exact old _ _ (S.succ k' hk') (fun _ _ q => e (S.inj k' hk' k hk q))

noncomputable def addEdge (node p : Int) (g : Gr) : Gr := { ensure p g with sc := setF (ensure p g).sc p ((ensure p g).sc p ++ [node]) }
noncomputable def addHead (node : Int) (n : Nat) (g : Gr) : Gr := { ensure node g with np := setF (ensure node g).np node ((ensure node g).np node + n) }
noncomputable def addG (node : Int) (preds : List Int) (g : Gr) : Gr := preds.foldl (fun g p => addEdge node p g) (addHead node preds.length g)
theorem mem_ensure (k : Int) (g : Gr) : k ∈ (ensure k g).ks := by unfold ensure; split; assumption; simp
theorem ensure_length (k : Int) (g : Gr) : (ensure k g).ks.length ≤ g.ks.length + 1 := by unfold ensure; split; exact om49; simp
theorem edges_length (node : Int) : ∀ (ps : List Int) (g : Gr), (ps.foldl (fun g p => addEdge node p g) g).ks.length ≤ g.ks.length + ps.length
  | [], g => Nat.le_refl _
  | p :: r, g => by
    have h1 := edges_length node r (addEdge node p g)
    have h2 := ensure_length p g
    have h3 : (addEdge node p g).ks = (ensure p g).ks := rfl
    rw [h3] at h1
    rw [List.foldl_cons, List.length_cons]
    exact om50 h1 h2
theorem ensure_sc (k : Int) (g : Gr) {B : Nat} (h : ∀ k, (g.sc k).length ≤ B) : ∀ k', ((ensure k g).sc k').length ≤ B := by
  intro k'
  unfold ensure
  split
  · exact h k'
  · dsimp only; unfold setF; split
    · exact Nat.zero_le _
    · exact h k'
theorem edges_sc (node : Int) : ∀ (ps : List Int) (g : Gr) (B : Nat), (∀ k, (g.sc k).length ≤ B) → ∀ k, ((ps.foldl (fun g p => addEdge node p g) g).sc k).length ≤ B + ps.length
  | [], g, B, h => h
  | p :: r, g, B, h => by
    intro k
    rw [List.foldl_cons, List.length_cons]
    have := edges_sc node r (addEdge node p g) (B + 1) (fun k' => by
      have h1 := ensure_sc p g h k'
      have h2 := ensure_sc p g h p
      show (setF (ensure p g).sc p ((ensure p g).sc p ++ [node]) k').length ≤ B + 1
      unfold setF
      split
      · rw [List.length_append]; exact Nat.succ_le_succ h2
      · exact om51 h1) k
    exact om52 this

theorem info_spec {k : Int} {t : Tok} (hK : c.G.K = KP c.G.w.params) (ok : c.Ok) (rm : Room c A (d + 3)) (st : St c R ρ H s) (S : SrtL H F σ l) (hz : σ.g.ks.length ≤ 10000)
    (h : ∀ H' F' l' s', Stp H F H' F' → SrtL H' F' { σ with g := ensure k σ.g } l' → St c R ρ H' s' → Q (.ref (l'.na k)) s') :
    wpAny c.M A (call (.ref 98) [.ref σ.self, .int k t] []) Q E s := by
  refine callK (binds := [(("self":Str), .ref σ.self), (("node":Str), .int k t)]) (by rw [hK]; exact in_info _) ok rm st (fun doc pm an ct => bindsK ok st (by rw [hK]; intro S; kernel_rfl)) (by kernel_rfl) (by kernel_rfl) ?_
  intro c' A' L' s' ok' hG hf rm' st'
  rw [← hG] at hK
  refine execsK ?_
  intro K hStmt
  with_reducible refine wpAny_If ?_
  with_reducible refine wpAny_isTrue_Compare1 ?_
  with_reducible refine wpAny_NamedExpr ?_
  refine callMeth (he := by rfl) ?_
  refine Attribute_any_ ?_
  refine nameLR (hd := by decide) (by assumption) (by first | assumption | rfl) ?_ rfl (Cx.Ok.fn (by assumption)) (by first | exact kindK hf rfl | (rw [hf]; rfl) | (rw [he]; rfl))
  refine getA155 hK ok' (by assumption) S.inst S.attr (by kernel_rfl) (av := .ref σ.n2i) rfl rfl ?_
  refine gotRS ?_
  intro s st
  refine methD (by assumption) S.dict PySem.F.slot_dict_get PySem.F.type_dict_get ?_
  refine cw (he := by rfl) ?_
  dsimp only [Args_]
  refine nameLI (hd := by decide) (by assumption) (by first | assumption | rfl) ?_ rfl (Cx.Ok.fn (by assumption)) (by first | exact kindK hf rfl | (rw [hf]; rfl) | (rw [he]; rfl))
  intro tok
  (first | refine ⟨trivial, ?_⟩ | refine ⟨stands_K (by assumption) (by assumption) (by (rw [hK]; first | with_reducible exact k_bisect _ | with_reducible exact k_insort _ | with_reducible exact k_info _ | with_reducible exact k_sorter _ | with_reducible exact k98 _ | with_reducible exact k105 _ | with_reducible exact k110 _ | with_reducible exact k117 _ | with_reducible exact k124 _ | with_reducible exact k138 _ | with_reducible exact k145 _ | with_reducible exact kp_least _)), ?_⟩)
  (try dsimp only [List.nil_append, List.cons_append])
  refine getM (by assumption) S.dict ?_
  intro v s hv st
  with_reducible refine wpAny_assign_Name ?_
  refine storeL (by assumption) ?_ rfl (Cx.Ok.fn (by assumption)) (by first | exact kindK hf rfl | (rw [hf]; rfl) | (rw [he]; rfl))
  intro s st
  with_reducible refine wpAny_Constant_none ?_
  refine isNone hv ?_
  with_reducible refine wpAny_truthy_bool ?_
  rw [lookup_keys] at hv ⊢
  by_cases hk : k ∈ σ.g.ks
  · rw [if_pos hk] at hv ⊢
    refine ifN (by exact Bool.false_ne_true) ?_
    have hv0 := hv
    with_reducible refine wpAny_execs_nil ?_
    with_reducible refine openK (by assumption) ?_
    with_reducible refine execsK ?_
    intro K hStmt
    with_reducible refine wpAny_Return_some ?_
    refine nameL (hd := by decide) (by assumption) (by first | assumption | rfl) ?_ rfl (Cx.Ok.fn (by assumption)) (by first | exact kindK hf rfl | (rw [hf]; rfl) | (rw [he]; rfl))
    intro v hv
    with_reducible refine openK (by assumption) ?_
    dsimp only
    obtain rfl := abs_ref (hv.trans hv0)
    refine ⟨_, _, st, fun st => ?_⟩
    have hen : ensure k σ.g = σ.g := if_pos hk
    exact h H F l _ (Stp.refl _ _) (by rw [hen]; exact S) st
  · rw [if_neg hk] at hv ⊢
    refine ifP (by rfl) ?_
    with_reducible refine execsK ?_
    intro K hStmt
    refine wpAny_Assign_two ?_
    refine callName (he := by rfl) ?_
    refine nameG (hd := by decide) (by assumption) (by assumption) (by (rw [hK]; first | with_reducible exact g_bisect _ | with_reducible exact g_insort _ | with_reducible exact g_out _ | with_reducible exact g_done _ | with_reducible exact g_info _ | with_reducible exact g_sorter _)) ?_ (Cx.Ok.glob (by assumption)) (Cx.Ok.fn (by assumption)) (by first | exact kindK hf rfl | (rw [hf]; rfl) | (rw [he]; rfl))
    refine cw (he := by rfl) ?_
    dsimp only [Args_]
    refine nameLI (hd := by decide) (by assumption) (by first | assumption | rfl) ?_ rfl (Cx.Ok.fn (by assumption)) (by first | exact kindK hf rfl | (rw [hf]; rfl) | (rw [he]; rfl))
    intro tok
    (first | refine ⟨trivial, ?_⟩ | refine ⟨stands_K (by assumption) (by assumption) (by (rw [hK]; first | with_reducible exact k_bisect _ | with_reducible exact k_insort _ | with_reducible exact k_info _ | with_reducible exact k_sorter _ | with_reducible exact k98 _ | with_reducible exact k105 _ | with_reducible exact k110 _ | with_reducible exact k117 _ | with_reducible exact k124 _ | with_reducible exact k138 _ | with_reducible exact k145 _ | with_reducible exact kp_least _)), ?_⟩)
    (try dsimp only [List.nil_append, List.cons_append])
    refine make_node hK ok' rm' (by assumption) ?_
    intro x dx sa s1 hx hdx hsa n1 n2 n3 st1
    have hn : ∀ b ao, H b = some ao → upd (upd (upd H dx (.attrs [])) sa (.list [])) x (.inst 58 dx [some (.int k), some (.int 0), some (.ref sa)]) b = some ao := by
      intro b ao e
      rw [upd_ne (fun q => by first | (rw [q, hx] at e; cases e) | (rw [← q, hx] at e; cases e)), upd_ne (fun q => by first | (rw [q, hsa] at e; cases e) | (rw [← q, hsa] at e; cases e)), upd_ne (fun q => by first | (rw [q, hdx] at e; cases e) | (rw [← q, hdx] at e; cases e))]
      exact e
    with_reducible refine assignSub ?_
    refine Attribute_any_ ?_
    refine nameLR (hd := by decide) (by assumption) (by first | assumption | rfl) ?_ rfl (Cx.Ok.fn (by assumption)) (by first | exact kindK hf rfl | (rw [hf]; rfl) | (rw [he]; rfl))
    refine getA155 hK ok' (by assumption) (hn _ _ S.inst) (hn _ _ S.attr) (by kernel_rfl) (av := .ref σ.n2i) rfl rfl ?_
    refine gotRS ?_
    intro s st
    refine nameLI (hd := by decide) (by assumption) (by first | assumption | rfl) ?_ rfl (Cx.Ok.fn (by assumption)) (by first | exact kindK hf rfl | (rw [hf]; rfl) | (rw [he]; rfl))
    intro tok
    refine setD (by assumption) (hn _ _ S.dict) (by rw [List.length_map, sizeLine_eq]; exact om48 hz) ?_
    intro ep s st
    with_reducible refine wpAny_assign_Name ?_
    refine storeL (by assumption) ?_ rfl (Cx.Ok.fn (by assumption)) (by first | exact kindK hf rfl | (rw [hf]; rfl) | (rw [he]; rfl))
    intro s st
    with_reducible refine openK (by assumption) ?_
    with_reducible refine wpAny_execs_nil ?_
    with_reducible refine openK (by assumption) ?_
    with_reducible refine execsK ?_
    intro K hStmt
    with_reducible refine wpAny_Return_some ?_
    refine nameLR (hd := by decide) (by assumption) (by first | assumption | rfl) ?_ rfl (Cx.Ok.fn (by assumption)) (by first | exact kindK hf rfl | (rw [hf]; rfl) | (rw [he]; rfl))
    with_reducible refine openK (by assumption) ?_
    dsimp only
    have G := S.grow (ep := ep) hk hx hdx hsa n1 n2 n3
    refine ⟨_, _, st, fun st => ?_⟩
    have hsto : storedA (σ.g.ks.map fun k => (k, AV.ref (l.na k))) k (.ref x) = σ.g.ks.map (fun k => (k, AV.ref (l.na k))) ++ [(k, .ref x)] := by
      unfold storedA
      rw [if_neg]
      rw [List.any_map, List.any_eq_true]
      rintro ⟨y, hy, e⟩
      exact hk ((of_decide_eq_true e : y = k) ▸ hy)
    have hst : St c R ρ _ _ := st
    rw [show abs (Value.ref x) = AV.ref x from rfl, hsto] at hst
    have := h _ _ _ _ ⟨fun b ao hF e => ?_, fun b q => .inl q, fun b q => ?_⟩ G hst
    · dsimp only at this; rwa [setF_self] at this
    · rw [upd_ne (by rintro rfl; exact hF S.fp.2.2)]; exact hn b ao e
    · rcases q with q | q | q | q
      · exact .inl q
      · exact .inr (q ▸ hx)
      · exact .inr (q ▸ hdx)
      · exact .inr (q ▸ hsa)

theorem add_spec {k : Int} {t : Tok} {preds : List Int} {ps : List Value} (hK : c.G.K = KP c.G.w.params) (ok : c.Ok) (rm : Room c A (d + 4)) (st : St c R ρ H s) (S : SrtL H F σ l) (hrd : σ.rd = none) (hps : ps.map abs = preds.map AV.int)
    (hz : σ.g.ks.length + preds.length ≤ 9000) (hsc : ∀ k, (σ.g.sc k).length + preds.length ≤ 9000)
    (h : ∀ H' F' l' s', Stp H F H' F' → SrtL H' F' { σ with g := addG k preds σ.g } l' → St c R ρ H' s' → Q .none s') :
    wpAny c.M A (call (.ref 105) (.ref σ.self :: .int k t :: ps) []) Q E s := by
  have hlen : ps.length = preds.length := by have := congrArg List.length hps; simpa using this
  refine callKV (vs := ps) (binds := fun D => [(("self":Str), .ref σ.self), (("node":Str), .int k t), (("predecessors":Str), D)]) (by rw [hK]; exact in_add _) ok rm st (by rw [hlen, sizeLine_eq]; exact om53 hz) (fun doc pm an ct => by cases ps <;> kernel_rfl) (fun D => locs (by kernel_rfl)) (by kernel_rfl) ?_
  intro D c' A' L' s' hD ok' hG hf rm' st'
  rw [← hG] at hK
  rw [hps] at st'
  have hFD : ¬ F D := fun q => S.all D q hD
  have S0 := S.mono ((Sub.refl H).upd (o := .tuple (preds.map AV.int)) hD)
  refine execsK ?_
  intro K hStmt
  with_reducible refine wpAny_If ?_
  with_reducible refine wpAny_isTrue_Compare1 ?_
  refine Attribute_any_ ?_
  refine nameLR (hd := by decide) (by assumption) (by first | assumption | rfl) ?_ rfl (Cx.Ok.fn (by assumption)) (by first | exact kindK hf rfl | (rw [hf]; rfl) | (rw [he]; rfl))
  refine getA155 hK ok' (by assumption) S0.inst S0.attr (by kernel_rfl) (av := .none) (by show some _ = _; rw [hrd]) rfl ?_
  intro v s hv st
  with_reducible refine wpAny_Constant_none ?_
  refine isNotNone hv ?_
  with_reducible refine wpAny_truthy_bool ?_
  refine ifN (by exact Bool.false_ne_true) ?_
  with_reducible refine wpAny_execs_nil ?_
  with_reducible refine openK (by assumption) ?_
  with_reducible refine execsK ?_
  intro K hStmt
  refine wpAny_Assign_Name ?_
  refine callMeth (he := by rfl) ?_
  refine nameLR (hd := by decide) (by assumption) (by first | assumption | rfl) ?_ rfl (Cx.Ok.fn (by assumption)) (by first | exact kindK hf rfl | (rw [hf]; rfl) | (rw [he]; rfl))
  refine meth155 hK ok' (by assumption) S0.inst S0.attr (f := 98) (by kernel_rfl) (by kernel_rfl) rfl ?_
  refine cw (he := by rfl) ?_
  dsimp only [Args_]
  refine nameLI (hd := by decide) (by assumption) (by first | assumption | rfl) ?_ rfl (Cx.Ok.fn (by assumption)) (by first | exact kindK hf rfl | (rw [hf]; rfl) | (rw [he]; rfl))
  intro tok
  (first | refine ⟨trivial, ?_⟩ | refine ⟨stands_K (by assumption) (by assumption) (by (rw [hK]; first | with_reducible exact k_bisect _ | with_reducible exact k_insort _ | with_reducible exact k_info _ | with_reducible exact k_sorter _ | with_reducible exact k98 _ | with_reducible exact k105 _ | with_reducible exact k110 _ | with_reducible exact k117 _ | with_reducible exact k124 _ | with_reducible exact k138 _ | with_reducible exact k145 _ | with_reducible exact kp_least _)), ?_⟩)
  (try dsimp only [List.nil_append, List.cons_append])
  refine info_spec hK ok' rm' (by assumption) S0 (by exact om54 hz) ?_
  intro H1 F1 l1 s1 P1 S1 st1
  obtain ⟨hFD1, hD1⟩ := P1.off hFD (upd_self ..)
  have hm1 := mem_ensure k σ.g
  refine storeL (by assumption) ?_ rfl (Cx.Ok.fn (by assumption)) (by first | exact kindK hf rfl | (rw [hf]; rfl) | (rw [he]; rfl))
  intro s st
  with_reducible refine openK (by assumption) ?_
  with_reducible refine execsK ?_
  intro K hStmt
  with_reducible refine wpAny_AugAssign_AttributeAny ?_
  refine nameLR (hd := by decide) (by assumption) (by first | assumption | rfl) ?_ rfl (Cx.Ok.fn (by assumption)) (by first | exact kindK hf rfl | (rw [hf]; rfl) | (rw [he]; rfl))
  refine getNpred hK ok' (by assumption) (S1.node k hm1) (S1.ndct k hm1) rfl rfl ?_
  refine gotIS ?_
  intro tok s st
  refine callName (he := by rfl) ?_
  refine nameB (hd := by decide) (by assumption) (by assumption) (by rw [hK]; kernel_rfl) (by first | with_reducible exact bb_len | with_reducible exact bb_list | with_reducible exact bb_range | with_reducible exact bb_abs | with_reducible exact bb_sorted | with_reducible exact bb_max | with_reducible exact bb_min | with_reducible exact bb_sum | with_reducible exact bb_tuple | with_reducible exact bb_set | with_reducible exact bb_iter | with_reducible exact bb_bool | with_reducible exact bb_dict | with_reducible exact bb_divmod | with_reducible exact bb_enumerate | with_reducible exact bb_zip) (by decide) ?_ (Cx.Ok.glob (by assumption)) (Cx.Ok.blt (by assumption)) (Cx.Ok.fn (by assumption)) (by first | exact kindK hf rfl | (rw [hf]; rfl) | (rw [he]; rfl))
  refine cw (he := by rfl) ?_
  dsimp only [Args_]
  refine nameLR (hd := by decide) (by assumption) (by first | assumption | rfl) ?_ rfl (Cx.Ok.fn (by assumption)) (by first | exact kindK hf rfl | (rw [hf]; rfl) | (rw [he]; rfl))
  (first | refine ⟨trivial, ?_⟩ | refine ⟨stands_K (by assumption) (by assumption) (by (rw [hK]; first | with_reducible exact k_bisect _ | with_reducible exact k_insort _ | with_reducible exact k_info _ | with_reducible exact k_sorter _ | with_reducible exact k98 _ | with_reducible exact k105 _ | with_reducible exact k110 _ | with_reducible exact k117 _ | with_reducible exact k124 _ | with_reducible exact k138 _ | with_reducible exact k145 _ | with_reducible exact kp_least _)), ?_⟩)
  (try dsimp only [List.nil_append, List.cons_append])
  refine lenT (by assumption) hD1 (by rw [List.length_map]; exact om55 hz) ?_
  intro tok s st
  rw [List.length_map] at *
  with_reducible refine iaddI (by assumption) ?_
  intro tok s st
  refine setNpred hK ok' (by assumption) (S1.node k hm1) (S1.ndct k hm1) ?_
  intro s2 st2
  have S2 := S1.setNp (n := (ensure k σ.g).np k + preds.length) hm1
  have P2 := Stp.upd (H := H1) (o := .inst 58 (l1.nd k) [some (.int k), some (.int ((ensure k σ.g).np k + preds.length)), some (.ref (l1.sa k))]) (S1.fpn k hm1).1
  obtain ⟨hFD2, hD2⟩ := P2.off hFD1 hD1
  with_reducible refine openK (by assumption) ?_
  with_reducible refine execsK ?_
  intro K hStmt
  refine wpAny_For ?_
  refine nameLR (hd := by decide) (by assumption) (by first | assumption | rfl) ?_ rfl (Cx.Ok.fn (by assumption)) (by first | exact kindK hf rfl | (rw [hf]; rfl) | (rw [he]; rfl))
  refine iterT ok' (by assumption) hD2 ?_
  intro it s3 hit hRit st3
  have st3 := st3.names [("self", .ref σ.self), ("node", .int k)] ⟨rfl, rfl, trivial⟩
  refine forLoopR (ht := by intro _; rfl) (itr_tuple rm'.handled) hRit st3 (fun i ρ' H' => ρ' = lk [("self", .ref σ.self), ("node", .int k)] ∧ H' D = some (.tuple (preds.map AV.int)) ∧ ∃ F' l', ¬ F' D ∧ Stp (upd H D (.tuple (preds.map AV.int))) F H' F' ∧ SrtL H' F' { σ with g := (preds.take i).foldl (fun g p => addEdge k p g) (addHead k preds.length σ.g) } l')
    (fun i ρ' H' h => h.2.1) ⟨rfl, hD2, F1, l1, hFD2, P1.trans P2, S2⟩ ?_ ?_
  · intro i av R' ρ' H' s' v hi hR  hJJ st hv K hTurn
    obtain ⟨rfl, hDi, F', l', hFi, Pi, Si⟩ := hJJ
    rw [List.getElem?_map] at hi
    obtain ⟨p, hp, rfl⟩ := Option.map_eq_some_iff.mp hi
    obtain ⟨hlt, hp⟩ := List.getElem?_eq_some_iff.mp hp
    obtain ⟨tok, rfl⟩ := abs_int hv
    have ht : preds.take (i + 1) = preds.take i ++ [p] := by rw [List.take_add_one, List.getElem?_eq_getElem hlt, hp]; rfl
    have hks := edges_length k (preds.take i) (addHead k preds.length σ.g)
    have hen := ensure_length k σ.g
    have h0 : (addHead k preds.length σ.g).ks = (ensure k σ.g).ks := rfl
    rw [h0, List.length_take] at hks
    with_reducible refine wpAny_assign_Name ?_
    refine storeL (by assumption) ?_ rfl (Cx.Ok.fn (by assumption)) (by first | exact kindK hf rfl | (rw [hf]; rfl) | (rw [he]; rfl))
    intro s st
    with_reducible refine execsK ?_
    intro K hStmt
    refine wpAny_Assign_Name ?_
    refine callMeth (he := by rfl) ?_
    refine nameLR (hd := by decide) (by assumption) (by first | assumption | rfl) ?_ rfl (Cx.Ok.fn (by assumption)) (by first | exact kindK hf rfl | (rw [hf]; rfl) | (rw [he]; rfl))
    refine meth155 hK ok' (by assumption) Si.inst Si.attr (f := 98) (by kernel_rfl) (by kernel_rfl) rfl ?_
    refine cw (he := by rfl) ?_
    dsimp only [Args_]
    refine nameLI (hd := by decide) (by assumption) (by first | assumption | rfl) ?_ rfl (Cx.Ok.fn (by assumption)) (by first | exact kindK hf rfl | (rw [hf]; rfl) | (rw [he]; rfl))
    intro tok
    (first | refine ⟨trivial, ?_⟩ | refine ⟨stands_K (by assumption) (by assumption) (by (rw [hK]; first | with_reducible exact k_bisect _ | with_reducible exact k_insort _ | with_reducible exact k_info _ | with_reducible exact k_sorter _ | with_reducible exact k98 _ | with_reducible exact k105 _ | with_reducible exact k110 _ | with_reducible exact k117 _ | with_reducible exact k124 _ | with_reducible exact k138 _ | with_reducible exact k145 _ | with_reducible exact kp_least _)), ?_⟩)
    (try dsimp only [List.nil_append, List.cons_append])
    refine info_spec (σ := { σ with g := (preds.take i).foldl (fun g p => addEdge k p g) (addHead k preds.length σ.g) }) hK ok' rm' (by assumption) Si (by dsimp only; exact om56 hz hks hen) ?_
    intro H4 F4 l4 s4 P4 S4 st4
    obtain ⟨hFD4, hD4⟩ := P4.off hFi hDi
    have hm4 := mem_ensure p ((preds.take i).foldl (fun g p => addEdge k p g) (addHead k preds.length σ.g))
    refine storeL (by assumption) ?_ rfl (Cx.Ok.fn (by assumption)) (by first | exact kindK hf rfl | (rw [hf]; rfl) | (rw [he]; rfl))
    intro s st
    with_reducible refine openK (by assumption) ?_
    with_reducible refine execsK ?_
    intro K hStmt
    refine exprS (hs := by rfl) (Cx.Ok.fn (by assumption)) ?_
    refine callMeth (he := by rfl) ?_
    refine Attribute_any_ ?_
    refine nameLR (hd := by decide) (by assumption) (by first | assumption | rfl) ?_ rfl (Cx.Ok.fn (by assumption)) (by first | exact kindK hf rfl | (rw [hf]; rfl) | (rw [he]; rfl))
    refine getSucc hK ok' (by assumption) (S4.node p hm4) (S4.ndct p hm4) rfl rfl ?_
    refine gotRS ?_
    intro s st
    refine methL (by assumption) (S4.succ p hm4) PySem.F.slot_list_append PySem.F.type_list_append ?_
    refine cw (he := by rfl) ?_
    dsimp only [Args_]
    refine nameLI (hd := by decide) (by assumption) (by first | assumption | rfl) ?_ rfl (Cx.Ok.fn (by assumption)) (by first | exact kindK hf rfl | (rw [hf]; rfl) | (rw [he]; rfl))
    intro tok
    (first | refine ⟨trivial, ?_⟩ | refine ⟨stands_K (by assumption) (by assumption) (by (rw [hK]; first | with_reducible exact k_bisect _ | with_reducible exact k_insort _ | with_reducible exact k_info _ | with_reducible exact k_sorter _ | with_reducible exact k98 _ | with_reducible exact k105 _ | with_reducible exact k110 _ | with_reducible exact k117 _ | with_reducible exact k124 _ | with_reducible exact k138 _ | with_reducible exact k145 _ | with_reducible exact kp_least _)), ?_⟩)
    (try dsimp only [List.nil_append, List.cons_append])
    have hsl := ensure_sc p _ (edges_sc k (preds.take i) (addHead k preds.length σ.g) (9000 - preds.length) (fun k' => by have := ensure_sc k σ.g (B := 9000 - preds.length) (fun k' => by have := hsc k'; exact om57 this) k'; exact this)) p
    rw [List.length_take] at hsl
    refine appendL (by assumption) (S4.succ p hm4) (by rw [List.length_map, sizeLine_eq]; dsimp only; exact om58 hz hsl) ?_
    intro s5 st5
    refine ⟨rfl, ?_⟩
    with_reducible refine openK (by assumption) ?_
    with_reducible refine wpAny_execs_nil ?_
    with_reducible refine openK (by assumption) ?_
    dsimp only
    have S5 := S4.setSc (ns := (ensure p ((preds.take i).foldl (fun g p => addEdge k p g) (addHead k preds.length σ.g))).sc p ++ [k]) hm4
    have P5 := Stp.upd (H := H4) (o := .list (((ensure p ((preds.take i).foldl (fun g p => addEdge k p g) (addHead k preds.length σ.g))).sc p ++ [k]).map AV.int)) (S4.fpn p hm4).2.2
    obtain ⟨hFD5, hD5⟩ := P5.off hFD4 hD4
    rw [show abs (Value.int k _) = AV.int k from rfl] at st5
    rw [List.map_append] at hD5 S5 P5
    refine ⟨_, _, St.names st5 [("self", .ref σ.self), ("node", .int k)] ⟨rfl, rfl, trivial⟩, rfl, hD5, F4, l4, hFD5, (Pi.trans P4).trans P5, ?_⟩
    rw [ht, List.foldl_append]
    exact S5
  · rintro ρ' H' s' ⟨rfl, hDi, F', l', hFi, Pi, Si⟩ st
    rw [List.length_map, List.take_length] at Si
    with_reducible refine wpAny_execs_nil ?_
    with_reducible refine openK (by assumption) ?_
    with_reducible refine wpAny_execs_nil ?_
    refine ⟨_, _, st, fun st => h H' F' l' _ ?_ Si st⟩
    exact ⟨fun b ao hn e => Pi.keep b ao hn (by rw [upd_ne (fun q => by first | (rw [q, hD] at e; cases e) | (rw [← q, hD] at e; cases e))]; exact e), Pi.sub, fun b q => by
      rcases Pi.new b q with q' | q'
      · exact .inl q'
      · by_cases e : b = D
        · subst e; exact .inr hD
        · rw [upd_ne e] at q'; exact .inr q'⟩
end


section
variable {c : Cx} {R : Ledger} {ρ : Str → Option AV} {H : Ledger} {s : Shared} {A : Around} {E : Value → Shared → Prop} {Q : Value → Shared → Prop} {d : Nat} {F : Addr → Prop} {σ : Srt} {l : Lay}

noncomputable def Gr.empty : Gr := ⟨[], fun _ => 0, fun _ => []⟩
theorem make_sorter (hK : c.G.K = KP c.G.w.params) (ok : c.Ok) (rm : Room c A (d + 2)) (st : St c R ρ H s)
    (h : ∀ x dx n H' F l s', (∀ b, F b → H b = none) → Sub H H' → SrtL H' F ⟨x, dx, n, .empty, none, 0, 0⟩ l → St c R ρ H' s' → Q (.ref x) s') :
    wpAny c.M A (call (.ref 155) [] []) Q E s := by
  refine makeC ok st (by rw [hK]; exact mk155 _) (by rw [hK]; exact mi155 _) (by rw [hK]; exact if91 _) ?_
  intro x dx s1 hx hdx hne st1
  refine codeK (binds := [(("self":Str), .ref x), (("graph":Str), .none)]) (by rw [hK]; exact in_init _) ok (room_make rm) st1 (fun doc pm an ct => bindsK ok st1 (by rw [hK]; intro S; kernel_rfl)) (by kernel_rfl) (by kernel_rfl) ?_
  intro c' A' L' s' ok' hG hf rm' st'
  rw [← hG] at hK
  refine execsK ?_
  intro K hStmt
  refine plainObj_wpAny_Assign_Attribute ?_
  refine newD ok' (by assumption) ?_
  intro n s2 hn st2
  have nx : x ≠ n := fun q => by first | (rw [q, upd_self] at hn; cases hn) | (rw [← q, upd_self] at hn; cases hn)
  have nd : dx ≠ n := fun q => by first | (rw [q, upd_ne (Ne.symm hne), upd_self] at hn; cases hn) | (rw [← q, upd_ne (Ne.symm hne), upd_self] at hn; cases hn)
  rw [upd_ne (Ne.symm nx), upd_ne (Ne.symm nd)] at hn
  have k1 : ∀ ao, upd (upd (upd H dx ao) x (.inst 155 dx [])) n (.dict [] 0) x = some (.inst 155 dx []) := fun ao => by rw [upd_ne nx, upd_self]
  have k2 : ∀ ao, upd (upd (upd H dx ao) x (.inst 155 dx [])) n (.dict [] 0) dx = some ao := fun ao => by rw [upd_ne nd, upd_ne (Ne.symm hne), upd_self]
  have k3 : ∀ ao ao', upd (upd (upd (upd H dx ao) x (.inst 155 dx [])) n (.dict [] 0)) dx ao' = upd (upd (upd H dx ao') x (.inst 155 dx [])) n (.dict [] 0) := fun ao ao' => funext fun b => by
    unfold upd
    by_cases q1 : b = dx
    · subst q1; simp [nd, Ne.symm hne]
    · simp [q1]
  refine nameLR (hd := by decide) (by assumption) (by first | assumption | rfl) ?_ rfl (Cx.Ok.fn (by assumption)) (by first | exact kindK hf rfl | (rw [hf]; rfl) | (rw [he]; rfl))
  refine setA155 hK ok' (by assumption) (k1 _) (k2 _) (by kernel_rfl) (by decide) ?_
  intro s3 st3
  rw [k3] at st3
  with_reducible refine openK (by assumption) ?_
  with_reducible refine execsK ?_
  intro K hStmt
  refine plainObj_wpAny_Assign_Attribute ?_
  with_reducible refine wpAny_Constant_none ?_
  refine nameLR (hd := by decide) (by assumption) (by first | assumption | rfl) ?_ rfl (Cx.Ok.fn (by assumption)) (by first | exact kindK hf rfl | (rw [hf]; rfl) | (rw [he]; rfl))
  refine setA155 hK ok' (by assumption) (k1 _) (k2 _) (by kernel_rfl) (by exact Nat.le_of_ble_eq_true rfl) ?_
  intro s4 st4
  rw [k3] at st4
  with_reducible refine openK (by assumption) ?_
  with_reducible refine execsK ?_
  intro K hStmt
  refine plainObj_wpAny_Assign_Attribute ?_
  with_reducible refine cInt (by assumption) ?_
  intro tok s st
  refine nameLR (hd := by decide) (by assumption) (by first | assumption | rfl) ?_ rfl (Cx.Ok.fn (by assumption)) (by first | exact kindK hf rfl | (rw [hf]; rfl) | (rw [he]; rfl))
  refine setA155 hK ok' (by assumption) (k1 _) (k2 _) (by kernel_rfl) (by exact Nat.le_of_ble_eq_true rfl) ?_
  intro s5 st5
  rw [k3] at st5
  with_reducible refine openK (by assumption) ?_
  with_reducible refine execsK ?_
  intro K hStmt
  refine plainObj_wpAny_Assign_Attribute ?_
  with_reducible refine cInt (by assumption) ?_
  intro tok s st
  refine nameLR (hd := by decide) (by assumption) (by first | assumption | rfl) ?_ rfl (Cx.Ok.fn (by assumption)) (by first | exact kindK hf rfl | (rw [hf]; rfl) | (rw [he]; rfl))
  refine setA155 hK ok' (by assumption) (k1 _) (k2 _) (by kernel_rfl) (by exact Nat.le_of_ble_eq_true rfl) ?_
  intro s6 st6
  rw [k3] at st6
  with_reducible refine openK (by assumption) ?_
  with_reducible refine execsK ?_
  intro K hStmt
  with_reducible refine wpAny_If ?_
  with_reducible refine wpAny_isTrue_Compare1 ?_
  refine nameL (hd := by decide) (by assumption) (by first | assumption | rfl) ?_ rfl (Cx.Ok.fn (by assumption)) (by first | exact kindK hf rfl | (rw [hf]; rfl) | (rw [he]; rfl))
  refine gotNA ?_
  with_reducible refine wpAny_Constant_none ?_
  refine isNotNone rfl ?_
  with_reducible refine wpAny_truthy_bool ?_
  refine ifN (by exact Bool.false_ne_true) ?_
  with_reducible refine wpAny_execs_nil ?_
  with_reducible refine openK (by assumption) ?_
  with_reducible refine wpAny_execs_nil ?_
  refine ⟨_, _, st6, fun st => ⟨rfl, h x dx n _ (fun b => b = x ∨ b = dx ∨ b = n) ⟨0, fun _ => 0, fun _ => 0, fun _ => 0, 0⟩ _ ?_ ?_ ?_ st⟩⟩
  · rintro b (rfl | rfl | rfl) <;> assumption
  · exact ((((Sub.refl H).upd hdx).upd hx).upd hn)
  · refine ⟨k1 _, (k2 _).trans rfl, upd_self .., fun k hk => (by cases hk), fun k hk => (by cases hk), fun k hk => (by cases hk), fun k hk => (by cases hk), .nil, fun r hr => (by cases hr), ⟨.inl rfl, .inr (.inl rfl), .inr (.inr rfl)⟩, fun k hk => (by cases hk), ?_⟩
    rintro b (rfl | rfl | rfl)
    · rw [k1]; intro z; cases z
    · rw [k2]; intro z; cases z
    · rw [upd_self]; intro z; cases z

theorem active_spec {r : List Int} (hK : c.G.K = KP c.G.w.params) (ok : c.Ok) (rm : Room c A (d + 1)) (st : St c R ρ H s) (S : SrtL H F σ l) (hrd : σ.rd = some r) (hz : r.length ≤ 10000)
    (h : ∀ s', St c R ρ H s' → Q (.bool (decide (σ.nf < σ.po) || !r.isEmpty)) s') : wpAny c.M A (call (.ref 124) [.ref σ.self] []) Q E s := by
  refine callK (binds := [(("self":Str), .ref σ.self)]) (by rw [hK]; exact in_active _) ok rm st (fun doc pm an ct => bindsK ok st (by rw [hK]; intro S; kernel_rfl)) (by kernel_rfl) (by kernel_rfl) ?_
  intro c' A' L' s' ok' hG hf rm' st'
  rw [← hG] at hK
  obtain ⟨hr1, hr2, hr3⟩ := S.rdy r hrd
  have hrv : (σ.attrs l).lookup (Str.ofString "_ready_nodes") = some (AV.ref l.ra) := by show some _ = _; rw [hrd]
  refine execsK ?_
  intro K hStmt
  with_reducible refine wpAny_If ?_
  with_reducible refine wpAny_isTrue_Compare1 ?_
  refine Attribute_any_ ?_
  refine nameLR (hd := by decide) (by assumption) (by first | assumption | rfl) ?_ rfl (Cx.Ok.fn (by assumption)) (by first | exact kindK hf rfl | (rw [hf]; rfl) | (rw [he]; rfl))
  refine getA155 hK ok' (by assumption) S.inst S.attr (by kernel_rfl) hrv rfl ?_
  intro v s hv st
  with_reducible refine wpAny_Constant_none ?_
  refine isNone hv ?_
  with_reducible refine wpAny_truthy_bool ?_
  refine ifN (by exact Bool.false_ne_true) ?_
  with_reducible refine wpAny_execs_nil ?_
  with_reducible refine openK (by assumption) ?_
  with_reducible refine execsK ?_
  intro K hStmt
  with_reducible refine wpAny_Return_some ?_
  refine wpAny_Or2 ?_
  with_reducible refine wpAny_Compare1 ?_
  refine Attribute_any_ ?_
  refine nameLR (hd := by decide) (by assumption) (by first | assumption | rfl) ?_ rfl (Cx.Ok.fn (by assumption)) (by first | exact kindK hf rfl | (rw [hf]; rfl) | (rw [he]; rfl))
  refine getA155 hK ok' (by assumption) S.inst S.attr (by kernel_rfl) (av := .int σ.nf) rfl rfl ?_
  refine gotIS ?_
  intro tok s st
  refine Attribute_any_ ?_
  refine nameLR (hd := by decide) (by assumption) (by first | assumption | rfl) ?_ rfl (Cx.Ok.fn (by assumption)) (by first | exact kindK hf rfl | (rw [hf]; rfl) | (rw [he]; rfl))
  refine getA155 hK ok' (by assumption) S.inst S.attr (by kernel_rfl) (av := .int σ.po) rfl rfl ?_
  refine gotIS ?_
  intro tok s st
  with_reducible refine ltI ?_
  with_reducible refine wpAny_truthy_bool ?_
  by_cases hb : σ.nf < σ.po
  · refine ifP (decide_eq_true hb) ?_
    with_reducible refine openK (by assumption) ?_
    dsimp only
    refine ⟨_, _, st, fun st => ?_⟩
    have := h _ st
    rw [decide_eq_true hb] at this ⊢
    exact this
  · refine ifN (by rw [decide_eq_true_eq]; exact hb) ?_
    refine callName (he := by rfl) ?_
    refine nameB (hd := by decide) (by assumption) (by assumption) (by rw [hK]; kernel_rfl) (by first | with_reducible exact bb_len | with_reducible exact bb_list | with_reducible exact bb_range | with_reducible exact bb_abs | with_reducible exact bb_sorted | with_reducible exact bb_max | with_reducible exact bb_min | with_reducible exact bb_sum | with_reducible exact bb_tuple | with_reducible exact bb_set | with_reducible exact bb_iter | with_reducible exact bb_bool | with_reducible exact bb_dict | with_reducible exact bb_divmod | with_reducible exact bb_enumerate | with_reducible exact bb_zip) (by decide) ?_ (Cx.Ok.glob (by assumption)) (Cx.Ok.blt (by assumption)) (Cx.Ok.fn (by assumption)) (by first | exact kindK hf rfl | (rw [hf]; rfl) | (rw [he]; rfl))
    refine cw (he := by rfl) ?_
    dsimp only [Args_]
    refine Attribute_any_ ?_
    refine nameLR (hd := by decide) (by assumption) (by first | assumption | rfl) ?_ rfl (Cx.Ok.fn (by assumption)) (by first | exact kindK hf rfl | (rw [hf]; rfl) | (rw [he]; rfl))
    refine getA155 hK ok' (by assumption) S.inst S.attr (by kernel_rfl) hrv rfl ?_
    refine gotRS ?_
    intro s st
    (first | refine ⟨trivial, ?_⟩ | refine ⟨stands_K (by assumption) (by assumption) (by (rw [hK]; first | with_reducible exact k_bisect _ | with_reducible exact k_insort _ | with_reducible exact k_info _ | with_reducible exact k_sorter _ | with_reducible exact k98 _ | with_reducible exact k105 _ | with_reducible exact k110 _ | with_reducible exact k117 _ | with_reducible exact k124 _ | with_reducible exact k138 _ | with_reducible exact k145 _ | with_reducible exact kp_least _)), ?_⟩)
    (try dsimp only [List.nil_append, List.cons_append])
    refine boolL (by assumption) (.inl hr1) (by rw [List.length_map]; exact om27 hz) ?_
    intro s st
    with_reducible refine openK (by assumption) ?_
    dsimp only
    refine ⟨_, _, st, fun st => ?_⟩
    have := h _ st
    rw [decide_eq_false hb, Bool.false_or] at this
    have e : (List.map AV.int r).isEmpty = r.isEmpty := by cases r <;> rfl
    rw [e]
    exact this
end


section
variable {c : Cx} {R : Ledger} {ρ : Str → Option AV} {H : Ledger} {s : Shared} {A : Around} {E : Value → Shared → Prop} {Q : Value → Shared → Prop} {d : Nat} {F : Addr → Prop} {σ : Srt} {l : Lay}

theorem SrtL.setAt {po nf : Int} {es : List (Str × AV)} (S : SrtL H F σ l) (he : es = ({ σ with po := po, nf := nf } : Srt).attrs l) : SrtL (upd H σ.d (.attrs es)) F { σ with po := po, nf := nf } l := by
  subst he
  have old : ∀ b ao, H b = some ao → (∀ es, ao = .attrs es → b ≠ σ.d) → upd H σ.d (.attrs (({ σ with po := po, nf := nf } : Srt).attrs l)) b = some ao := by
    intro b ao e hn
    rw [upd_ne]; exact e
    rintro rfl
    rw [S.attr] at e
    cases e
    exact hn _ rfl rfl
  refine ⟨old _ _ S.inst (fun _ q => by cases q), upd_self .., old _ _ S.dict (fun _ q => by cases q), fun k hk => old _ _ (S.node k hk) (fun _ q => by cases q), fun k hk => old _ _ (S.ndct k hk) (fun _ q => ?_), fun k hk => old _ _ (S.succ k hk) (fun _ q => by cases q), S.inj, S.nodup,
    fun r hr => ⟨old _ _ (S.rdy r hr).1 (fun _ q => by cases q), (S.rdy r hr).2⟩, S.fp, S.fpn, all_upd S.all⟩
  intro z
  have h1 := S.ndct k hk
  rw [z, S.attr] at h1
  cases h1
theorem SrtL.setRd {r r' : List Int} (S : SrtL H F σ l) (hr : σ.rd = some r) : SrtL (upd H l.ra (.list (r'.map .int))) F { σ with rd := some r' } l := by
  obtain ⟨h1, h2, h3⟩ := S.rdy r hr
  have old : ∀ b ao, H b = some ao → (∀ xs, ao = .list xs → b ≠ l.ra) → upd H l.ra (.list (r'.map .int)) b = some ao := by
    intro b ao e hn
    rw [upd_ne]; exact e
    rintro rfl
    rw [h1] at e
    cases e
    exact hn _ rfl rfl
  refine ⟨old _ _ S.inst (fun _ q => by cases q), ?_, old _ _ S.dict (fun _ q => by cases q), fun k hk => old _ _ (S.node k hk) (fun _ q => by cases q), fun k hk => old _ _ (S.ndct k hk) (fun _ q => by cases q), fun k hk => old _ _ (S.succ k hk) (fun _ _ => h2 k hk), S.inj, S.nodup,
    fun r hr => ⟨?_, h2, h3⟩, S.fp, S.fpn, all_upd S.all⟩
  · have := old _ _ S.attr (fun _ q => by cases q)
    unfold Srt.attrs at this ⊢
    rw [hr] at this
    exact this
  · cases hr; exact upd_self ..

noncomputable def outs (r : List Int) (np : Int → Int) : Int → Int := r.foldl (fun np k => setF np k (-1)) np

theorem ready_spec {r : List Int} (hK : c.G.K = KP c.G.w.params) (ok : c.Ok) (rm : Room c A (d + 1)) (st : St c R ρ H s) (S : SrtL H F σ l) (hrd : σ.rd = some r) (hz : r.length ≤ 10000) (hr : ∀ k ∈ r, k ∈ σ.g.ks)
    (h : ∀ D H' s', H D = none → H' D = some (.tuple (r.map AV.int)) → Stp H F H' F → SrtL H' F { σ with g := { σ.g with np := outs r σ.g.np }, rd := some [], po := σ.po + r.length } l → St c R ρ H' s' → Q (.ref D) s') :
    wpAny c.M A (call (.ref 117) [.ref σ.self] []) Q E s := by
  refine callK (binds := [(("self":Str), .ref σ.self)]) (by rw [hK]; exact in_ready _) ok rm st (fun doc pm an ct => bindsK ok st (by rw [hK]; intro S; kernel_rfl)) (by kernel_rfl) (by kernel_rfl) ?_
  intro c' A' L' s' ok' hG hf rm' st'
  rw [← hG] at hK
  obtain ⟨hr1, hr2, hr3⟩ := S.rdy r hrd
  have hrv : (σ.attrs l).lookup (Str.ofString "_ready_nodes") = some (AV.ref l.ra) := by show some _ = _; rw [hrd]
  refine execsK ?_
  intro K hStmt
  with_reducible refine wpAny_If ?_
  with_reducible refine wpAny_isTrue_Compare1 ?_
  refine Attribute_any_ ?_
  refine nameLR (hd := by decide) (by assumption) (by first | assumption | rfl) ?_ rfl (Cx.Ok.fn (by assumption)) (by first | exact kindK hf rfl | (rw [hf]; rfl) | (rw [he]; rfl))
  refine getA155 hK ok' (by assumption) S.inst S.attr (by kernel_rfl) hrv rfl ?_
  intro v s hv st
  with_reducible refine wpAny_Constant_none ?_
  refine isNone hv ?_
  with_reducible refine wpAny_truthy_bool ?_
  refine ifN (by exact Bool.false_ne_true) ?_
  with_reducible refine wpAny_execs_nil ?_
  with_reducible refine openK (by assumption) ?_
  with_reducible refine execsK ?_
  intro K hStmt
  refine wpAny_Assign_Name ?_
  refine callName (he := by rfl) ?_
  refine nameB (hd := by decide) (by assumption) (by assumption) (by rw [hK]; kernel_rfl) (by first | with_reducible exact bb_len | with_reducible exact bb_list | with_reducible exact bb_range | with_reducible exact bb_abs | with_reducible exact bb_sorted | with_reducible exact bb_max | with_reducible exact bb_min | with_reducible exact bb_sum | with_reducible exact bb_tuple | with_reducible exact bb_set | with_reducible exact bb_iter | with_reducible exact bb_bool | with_reducible exact bb_dict | with_reducible exact bb_divmod | with_reducible exact bb_enumerate | with_reducible exact bb_zip) (by decide) ?_ (Cx.Ok.glob (by assumption)) (Cx.Ok.blt (by assumption)) (Cx.Ok.fn (by assumption)) (by first | exact kindK hf rfl | (rw [hf]; rfl) | (rw [he]; rfl))
  refine cw (he := by rfl) ?_
  dsimp only [Args_]
  refine Attribute_any_ ?_
  refine nameLR (hd := by decide) (by assumption) (by first | assumption | rfl) ?_ rfl (Cx.Ok.fn (by assumption)) (by first | exact kindK hf rfl | (rw [hf]; rfl) | (rw [he]; rfl))
  refine getA155 hK ok' (by assumption) S.inst S.attr (by kernel_rfl) hrv rfl ?_
  refine gotRS ?_
  intro s st
  (first | refine ⟨trivial, ?_⟩ | refine ⟨stands_K (by assumption) (by assumption) (by (rw [hK]; first | with_reducible exact k_bisect _ | with_reducible exact k_insort _ | with_reducible exact k_info _ | with_reducible exact k_sorter _ | with_reducible exact k98 _ | with_reducible exact k105 _ | with_reducible exact k110 _ | with_reducible exact k117 _ | with_reducible exact k124 _ | with_reducible exact k138 _ | with_reducible exact k145 _ | with_reducible exact kp_least _)), ?_⟩)
  (try dsimp only [List.nil_append, List.cons_append])
  refine tupleOf ok' (by assumption) (.inl hr1) (by rw [List.length_map, sizeLine_eq]; exact om48 hz) ?_
  intro D s1 hD st1
  have hFD : ¬ F D := fun q => S.all D q hD
  have S1 := S.mono ((Sub.refl H).upd (o := .tuple (r.map AV.int)) hD)
  refine storeL (by assumption) ?_ rfl (Cx.Ok.fn (by assumption)) (by first | exact kindK hf rfl | (rw [hf]; rfl) | (rw [he]; rfl))
  intro s st
  with_reducible refine openK (by assumption) ?_
  with_reducible refine execsK ?_
  intro K hStmt
  refine wpAny_Assign_Name ?_
  refine Attribute_any_ ?_
  refine nameLR (hd := by decide) (by assumption) (by first | assumption | rfl) ?_ rfl (Cx.Ok.fn (by assumption)) (by first | exact kindK hf rfl | (rw [hf]; rfl) | (rw [he]; rfl))
  refine getA155 hK ok' (by assumption) S1.inst S1.attr (by kernel_rfl) (av := .ref σ.n2i) rfl rfl ?_
  refine gotRS ?_
  intro s st
  refine storeL (by assumption) ?_ rfl (Cx.Ok.fn (by assumption)) (by first | exact kindK hf rfl | (rw [hf]; rfl) | (rw [he]; rfl))
  intro s st
  with_reducible refine openK (by assumption) ?_
  with_reducible refine execsK ?_
  intro K hStmt
  refine wpAny_For ?_
  refine nameLR (hd := by decide) (by assumption) (by first | assumption | rfl) ?_ rfl (Cx.Ok.fn (by assumption)) (by first | exact kindK hf rfl | (rw [hf]; rfl) | (rw [he]; rfl))
  refine iterT ok' (by assumption) (upd_self ..) ?_
  intro it s3 hit hRit st3
  have st3 := st3.names [("self", .ref σ.self), ("result", .ref D), ("n2i", .ref σ.n2i)] ⟨rfl, rfl, rfl, trivial⟩
  refine forLoopR (ht := by intro _; rfl) (itr_tuple rm'.handled) hRit st3 (fun i ρ' H' => ρ' = lk [("self", .ref σ.self), ("result", .ref D), ("n2i", .ref σ.n2i)] ∧ H' D = some (.tuple (r.map AV.int)) ∧ Stp (upd H D (.tuple (r.map AV.int))) F H' F ∧ SrtL H' F { σ with g := { σ.g with np := outs (r.take i) σ.g.np } } l)
    (fun i ρ' H' h => h.2.1) ⟨rfl, upd_self .., Stp.refl _ _, S1⟩ ?_ ?_
  · intro i av R' ρ' H' s' v hi hR  hJJ st hv K hTurn
    obtain ⟨rfl, hDi, Pi, Si⟩ := hJJ
    rw [List.getElem?_map] at hi
    obtain ⟨p, hp, rfl⟩ := Option.map_eq_some_iff.mp hi
    obtain ⟨hlt, hp⟩ := List.getElem?_eq_some_iff.mp hp
    obtain ⟨tok, rfl⟩ := abs_int hv
    have hpk : p ∈ σ.g.ks := hr p (hp ▸ List.getElem_mem hlt)
    have ht : r.take (i + 1) = r.take i ++ [p] := by rw [List.take_add_one, List.getElem?_eq_getElem hlt, hp]; rfl
    with_reducible refine wpAny_assign_Name ?_
    refine storeL (by assumption) ?_ rfl (Cx.Ok.fn (by assumption)) (by first | exact kindK hf rfl | (rw [hf]; rfl) | (rw [he]; rfl))
    intro s st
    with_reducible refine execsK ?_
    intro K hStmt
    refine plainObj_wpAny_Assign_Attribute ?_
    refine nameG (hd := by decide) (by assumption) (by assumption) (by (rw [hK]; first | with_reducible exact g_bisect _ | with_reducible exact g_insort _ | with_reducible exact g_out _ | with_reducible exact g_done _ | with_reducible exact g_info _ | with_reducible exact g_sorter _)) ?_ (Cx.Ok.glob (by assumption)) (Cx.Ok.fn (by assumption)) (by first | exact kindK hf rfl | (rw [hf]; rfl) | (rw [he]; rfl))
    with_reducible refine Subscript_ ?_
    refine nameLR (hd := by decide) (by assumption) (by first | assumption | rfl) ?_ rfl (Cx.Ok.fn (by assumption)) (by first | exact kindK hf rfl | (rw [hf]; rfl) | (rw [he]; rfl))
    refine nameLI (hd := by decide) (by assumption) (by first | assumption | rfl) ?_ rfl (Cx.Ok.fn (by assumption)) (by first | exact kindK hf rfl | (rw [hf]; rfl) | (rw [he]; rfl))
    intro tok
    refine idxD (hs := by with_unfolding_all rfl) (by assumption) Si.dict (av := .ref (l.na p)) (by rw [lookup_keys, if_pos hpk]) ?_
    refine gotRS ?_
    intro s st
    refine setNpred hK ok' (by assumption) (Si.node p hpk) (Si.ndct p hpk) ?_
    intro s4 st4
    have S4 := Si.setNp (n := -1) hpk
    have P4 := Stp.upd (H := H') (o := .inst 58 (l.nd p) [some (.int p), some (.int (-1)), some (.ref (l.sa p))]) (Si.fpn p hpk).1
    obtain ⟨_, hD4⟩ := P4.off hFD hDi
    with_reducible refine openK (by assumption) ?_
    with_reducible refine wpAny_execs_nil ?_
    with_reducible refine openK (by assumption) ?_
    dsimp only
    refine ⟨_, _, St.names st4 [("self", .ref σ.self), ("result", .ref D), ("n2i", .ref σ.n2i)] ⟨rfl, rfl, rfl, trivial⟩, rfl, hD4, Pi.trans P4, ?_⟩
    unfold outs
    rw [ht, List.foldl_append]
    exact S4
  · rintro ρ' H' s' ⟨rfl, hDi, Pi, Si⟩ st
    rw [List.length_map, List.take_length] at Si
    obtain ⟨hr1', _, _⟩ := Si.rdy r hrd
    with_reducible refine wpAny_execs_nil ?_
    with_reducible refine openK (by assumption) ?_
    with_reducible refine execsK ?_
    intro K hStmt
    refine exprS (hs := by rfl) (Cx.Ok.fn (by assumption)) ?_
    refine callMeth (he := by rfl) ?_
    refine Attribute_any_ ?_
    refine nameLR (hd := by decide) (by assumption) (by first | assumption | rfl) ?_ rfl (Cx.Ok.fn (by assumption)) (by first | exact kindK hf rfl | (rw [hf]; rfl) | (rw [he]; rfl))
    refine getA155 hK ok' (by assumption) Si.inst Si.attr (by kernel_rfl) hrv rfl ?_
    refine gotRS ?_
    intro s st
    refine methL (by assumption) hr1' PySem.F.slot_list_clear PySem.F.type_list_clear ?_
    refine cw (he := by rfl) ?_
    dsimp only [Args_]
    (first | refine ⟨trivial, ?_⟩ | refine ⟨stands_K (by assumption) (by assumption) (by (rw [hK]; first | with_reducible exact k_bisect _ | with_reducible exact k_insort _ | with_reducible exact k_info _ | with_reducible exact k_sorter _ | with_reducible exact k98 _ | with_reducible exact k105 _ | with_reducible exact k110 _ | with_reducible exact k117 _ | with_reducible exact k124 _ | with_reducible exact k138 _ | with_reducible exact k145 _ | with_reducible exact kp_least _)), ?_⟩)
    (try dsimp only [List.nil_append, List.cons_append])
    refine clearL (by assumption) hr1' (by rw [List.length_map, sizeLine_eq]; exact om48 hz) ?_
    intro s5 st5
    refine ⟨rfl, ?_⟩
    have S5 := Si.setRd (r' := []) hrd
    have P5 := Stp.upd (H := H') (F := F) (o := .list []) hr3
    obtain ⟨_, hD5⟩ := P5.off hFD hDi
    with_reducible refine openK (by assumption) ?_
    with_reducible refine execsK ?_
    intro K hStmt
    with_reducible refine wpAny_AugAssign_AttributeAny ?_
    refine nameLR (hd := by decide) (by assumption) (by first | assumption | rfl) ?_ rfl (Cx.Ok.fn (by assumption)) (by first | exact kindK hf rfl | (rw [hf]; rfl) | (rw [he]; rfl))
    refine getA155 hK ok' (by assumption) S5.inst S5.attr (by kernel_rfl) (av := .int σ.po) rfl rfl ?_
    refine gotIS ?_
    intro tok s st
    refine callName (he := by rfl) ?_
    refine nameB (hd := by decide) (by assumption) (by assumption) (by rw [hK]; kernel_rfl) (by first | with_reducible exact bb_len | with_reducible exact bb_list | with_reducible exact bb_range | with_reducible exact bb_abs | with_reducible exact bb_sorted | with_reducible exact bb_max | with_reducible exact bb_min | with_reducible exact bb_sum | with_reducible exact bb_tuple | with_reducible exact bb_set | with_reducible exact bb_iter | with_reducible exact bb_bool | with_reducible exact bb_dict | with_reducible exact bb_divmod | with_reducible exact bb_enumerate | with_reducible exact bb_zip) (by decide) ?_ (Cx.Ok.glob (by assumption)) (Cx.Ok.blt (by assumption)) (Cx.Ok.fn (by assumption)) (by first | exact kindK hf rfl | (rw [hf]; rfl) | (rw [he]; rfl))
    refine cw (he := by rfl) ?_
    dsimp only [Args_]
    refine nameLR (hd := by decide) (by assumption) (by first | assumption | rfl) ?_ rfl (Cx.Ok.fn (by assumption)) (by first | exact kindK hf rfl | (rw [hf]; rfl) | (rw [he]; rfl))
    (first | refine ⟨trivial, ?_⟩ | refine ⟨stands_K (by assumption) (by assumption) (by (rw [hK]; first | with_reducible exact k_bisect _ | with_reducible exact k_insort _ | with_reducible exact k_info _ | with_reducible exact k_sorter _ | with_reducible exact k98 _ | with_reducible exact k105 _ | with_reducible exact k110 _ | with_reducible exact k117 _ | with_reducible exact k124 _ | with_reducible exact k138 _ | with_reducible exact k145 _ | with_reducible exact kp_least _)), ?_⟩)
    (try dsimp only [List.nil_append, List.cons_append])
    refine lenT (by assumption) hD5 (by rw [List.length_map]; exact om27 hz) ?_
    intro tok s st
    rw [List.length_map]
    with_reducible refine iaddI (by assumption) ?_
    intro tok s st
    refine setA155 hK ok' (by assumption) S5.inst S5.attr (by kernel_rfl) (by exact Nat.le_of_ble_eq_true rfl) ?_
    intro s6 st6
    have S6 := S5.setAt (po := σ.po + r.length) (nf := σ.nf) (es := putA "_npassedout" (.int (σ.po + r.length)) (Srt.attrs { σ with g := { σ.g with np := outs r σ.g.np }, rd := some [] } l)) rfl
    have P6 := Stp.upd (H := upd H' l.ra (.list [])) (F := F) (o := .attrs (putA "_npassedout" (.int (σ.po + r.length)) (Srt.attrs { σ with g := { σ.g with np := outs r σ.g.np }, rd := some [] } l))) S.fp.2.1
    obtain ⟨_, hD6⟩ := P6.off hFD hD5
    with_reducible refine openK (by assumption) ?_
    with_reducible refine execsK ?_
    intro K hStmt
    with_reducible refine wpAny_Return_some ?_
    refine nameLR (hd := by decide) (by assumption) (by first | assumption | rfl) ?_ rfl (Cx.Ok.fn (by assumption)) (by first | exact kindK hf rfl | (rw [hf]; rfl) | (rw [he]; rfl))
    with_reducible refine openK (by assumption) ?_
    dsimp only
    refine ⟨_, _, st6, fun st => h D _ _ hD hD6 ?_ S6 st⟩
    have P := (Pi.trans P5).trans P6
    exact ⟨fun b ao hn e => P.keep b ao hn (by rw [upd_ne (fun q => by first | (rw [q, hD] at e; cases e) | (rw [← q, hD] at e; cases e))]; exact e), P.sub, fun b q => .inl q⟩
end


section
variable {c : Cx} {R : Ledger} {ρ : Str → Option AV} {H : Ledger} {s : Shared} {A : Around} {E : Value → Shared → Prop} {Q : Value → Shared → Prop} {d : Nat} {F : Addr → Prop} {σ : Srt} {l : Lay}

noncomputable def dec (st : (Int → Int) × List Int) (s : Int) : (Int → Int) × List Int := (setF st.1 s (st.1 s - 1), if st.1 s - 1 = 0 then st.2 ++ [s] else st.2)
noncomputable def decs (np : Int → Int) (rd : List Int) (ss : List Int) : (Int → Int) × List Int := ss.foldl dec (np, rd)
noncomputable def doneG (σ : Srt) (k : Int) : Srt :=
  { σ with g := { σ.g with np := (decs (setF σ.g.np k (-2)) (σ.rd.getD []) (σ.g.sc k)).1 }, rd := some (decs (setF σ.g.np k (-2)) (σ.rd.getD []) (σ.g.sc k)).2, nf := σ.nf + 1 }
noncomputable def doneL (ns : List Int) (σ : Srt) : Srt := ns.foldl doneG σ
theorem decs_length : ∀ (ss : List Int) (np : Int → Int) (rd : List Int), (decs np rd ss).2.length ≤ rd.length + ss.length
  | [], _, _ => Nat.le_refl _
  | x :: r, np, rd => by
    have := decs_length r (dec (np, rd) x).1 (dec (np, rd) x).2
    have h2 : (dec (np, rd) x).2.length ≤ rd.length + 1 := by unfold dec; dsimp only; split; simp; exact om49
    have h3 : decs np rd (x :: r) = decs (dec (np, rd) x).1 (dec (np, rd) x).2 r := rfl
    rw [h3, List.length_cons]
    exact om50 this h2
theorem doneL_fix (ns : List Int) : ∀ σ : Srt, (doneL ns σ).self = σ.self ∧ (doneL ns σ).d = σ.d ∧ (doneL ns σ).n2i = σ.n2i ∧ (doneL ns σ).g.ks = σ.g.ks ∧ (doneL ns σ).g.sc = σ.g.sc ∧ (doneL ns σ).po = σ.po := by
  induction ns with
  | nil => intro σ; exact ⟨rfl, rfl, rfl, rfl, rfl, rfl⟩
  | cons k r ih => intro σ; exact ih (doneG σ k)

theorem doneL_rd (ns : List Int) : ∀ σ : Srt, (∃ r, σ.rd = some r) → ∃ r, (doneL ns σ).rd = some r := by
  induction ns with
  | nil => intro σ h; exact h
  | cons k r ih => intro σ _; exact ih (doneG σ k) ⟨_, rfl⟩

theorem done_spec {ns : List Int} {vs : List Value} {r : List Int} (hK : c.G.K = KP c.G.w.params) (ok : c.Ok) (rm : Room c A (d + 1)) (st : St c R ρ H s) (S : SrtL H F σ l) (hrd : σ.rd = some r) (hvs : vs.map abs = ns.map AV.int)
    (hz : ns.length ≤ 1000) (hk : ∀ k ∈ ns, k ∈ σ.g.ks) (hsc : ∀ k ∈ σ.g.ks, (∀ x ∈ σ.g.sc k, x ∈ σ.g.ks) ∧ (σ.g.sc k).length ≤ 1000) (hout : ∀ i (hi : i < ns.length), (doneL (ns.take i) σ).g.np ns[i] = -1) (hlen : ∀ i, i ≤ ns.length → ((doneL (ns.take i) σ).rd.getD []).length ≤ 8000)
    (h : ∀ H' s', Stp H F H' F → SrtL H' F (doneL ns σ) l → St c R ρ H' s' → Q .none s') : wpAny c.M A (call (.ref 138) (.ref σ.self :: vs) []) Q E s := by
  have hvl : vs.length = ns.length := by have := congrArg List.length hvs; simpa using this
  refine callKV (vs := vs) (binds := fun D => [(("self":Str), .ref σ.self), (("nodes":Str), D)]) (by rw [hK]; exact in_done _) ok rm st (by rw [hvl, sizeLine_eq]; exact om59 hz) (fun doc pm an ct => by cases vs <;> kernel_rfl) (fun D => locs (by kernel_rfl)) (by kernel_rfl) ?_
  intro D c' A' L' s' hD ok' hG hf rm' st'
  rw [← hG] at hK
  rw [hvs] at st'
  have hFD : ¬ F D := fun q => S.all D q hD
  have S0 := S.mono ((Sub.refl H).upd (o := .tuple (ns.map AV.int)) hD)
  have hrv : (σ.attrs l).lookup (Str.ofString "_ready_nodes") = some (AV.ref l.ra) := by show some _ = _; rw [hrd]
  refine execsK ?_
  intro K hStmt
  with_reducible refine wpAny_If ?_
  with_reducible refine wpAny_isTrue_Compare1 ?_
  refine Attribute_any_ ?_
  refine nameLR (hd := by decide) (by assumption) (by first | assumption | rfl) ?_ rfl (Cx.Ok.fn (by assumption)) (by first | exact kindK hf rfl | (rw [hf]; rfl) | (rw [he]; rfl))
  refine getA155 hK ok' (by assumption) S0.inst S0.attr (by kernel_rfl) hrv rfl ?_
  intro v s hv st
  with_reducible refine wpAny_Constant_none ?_
  refine isNone hv ?_
  with_reducible refine wpAny_truthy_bool ?_
  refine ifN (by exact Bool.false_ne_true) ?_
  with_reducible refine wpAny_execs_nil ?_
  with_reducible refine openK (by assumption) ?_
  with_reducible refine execsK ?_
  intro K hStmt
  refine wpAny_Assign_Name ?_
  refine Attribute_any_ ?_
  refine nameLR (hd := by decide) (by assumption) (by first | assumption | rfl) ?_ rfl (Cx.Ok.fn (by assumption)) (by first | exact kindK hf rfl | (rw [hf]; rfl) | (rw [he]; rfl))
  refine getA155 hK ok' (by assumption) S0.inst S0.attr (by kernel_rfl) (av := .ref σ.n2i) rfl rfl ?_
  refine gotRS ?_
  intro s st
  refine storeL (by assumption) ?_ rfl (Cx.Ok.fn (by assumption)) (by first | exact kindK hf rfl | (rw [hf]; rfl) | (rw [he]; rfl))
  intro s st
  with_reducible refine openK (by assumption) ?_
  with_reducible refine execsK ?_
  intro K hStmt
  refine wpAny_For ?_
  refine nameLR (hd := by decide) (by assumption) (by first | assumption | rfl) ?_ rfl (Cx.Ok.fn (by assumption)) (by first | exact kindK hf rfl | (rw [hf]; rfl) | (rw [he]; rfl))
  refine iterT ok' (by assumption) (upd_self ..) ?_
  intro it s3 hit hRit st3
  have st3 := st3.names [("self", .ref σ.self), ("n2i", .ref σ.n2i)] ⟨rfl, rfl, trivial⟩
  refine forLoopR (ht := by intro _; rfl) (itr_tuple rm'.handled) hRit st3 (fun i ρ' H' => ρ' = lk [("self", .ref σ.self), ("n2i", .ref σ.n2i)] ∧ H' D = some (.tuple (ns.map AV.int)) ∧ Stp (upd H D (.tuple (ns.map AV.int))) F H' F ∧ SrtL H' F (doneL (ns.take i) σ) l)
    (fun i ρ' H' h => h.2.1) ⟨rfl, upd_self .., Stp.refl _ _, S0⟩ ?_ ?_
  · intro i av R' ρ' H' s' v hi hR  hJJ st hv K hTurn
    obtain ⟨rfl, hDi, Pi, Si⟩ := hJJ
    rw [List.getElem?_map] at hi
    obtain ⟨p, hp, rfl⟩ := Option.map_eq_some_iff.mp hi
    obtain ⟨hlt, hp⟩ := List.getElem?_eq_some_iff.mp hp
    obtain ⟨tok, rfl⟩ := abs_int hv
    have hpk : p ∈ σ.g.ks := hk p (hp ▸ List.getElem_mem hlt)
    have ht : doneL (ns.take (i + 1)) σ = doneG (doneL (ns.take i) σ) p := by
      unfold doneL; rw [List.take_add_one, List.getElem?_eq_getElem hlt, hp, List.foldl_append]; rfl
    have hnp := hout i hlt
    have hrl := hlen i (by exact om40 hlt)
    have hfix := doneL_fix (ns.take i) σ
    obtain ⟨q, hq⟩ := doneL_rd (ns.take i) σ ⟨r, hrd⟩
    rw [hp] at hnp
    generalize doneL (ns.take i) σ = τ at *
    obtain ⟨e1, e2, e3, e4, e5, e6⟩ := hfix
    rw [← e4] at hpk
    have hscp := hsc p (e4 ▸ hpk)
    rw [← e4, ← e5] at hscp
    rw [hq, Option.getD_some] at hrl
    rw [← e1, ← e3] at st
    have hqv : (τ.attrs l).lookup (Str.ofString "_ready_nodes") = some (AV.ref l.ra) := by show some _ = _; rw [hq]
    with_reducible refine wpAny_assign_Name ?_
    refine storeL (by assumption) ?_ rfl (Cx.Ok.fn (by assumption)) (by first | exact kindK hf rfl | (rw [hf]; rfl) | (rw [he]; rfl))
    intro s st
    with_reducible refine execsK ?_
    intro K hStmt
    with_reducible refine wpAny_If ?_
    with_reducible refine wpAny_isTrue_Compare1 ?_
    with_reducible refine wpAny_NamedExpr ?_
    refine callMeth (he := by rfl) ?_
    refine nameLR (hd := by decide) (by assumption) (by first | assumption | rfl) ?_ rfl (Cx.Ok.fn (by assumption)) (by first | exact kindK hf rfl | (rw [hf]; rfl) | (rw [he]; rfl))
    refine methD (by assumption) Si.dict PySem.F.slot_dict_get PySem.F.type_dict_get ?_
    refine cw (he := by rfl) ?_
    dsimp only [Args_]
    refine nameLI (hd := by decide) (by assumption) (by first | assumption | rfl) ?_ rfl (Cx.Ok.fn (by assumption)) (by first | exact kindK hf rfl | (rw [hf]; rfl) | (rw [he]; rfl))
    intro tok
    (first | refine ⟨trivial, ?_⟩ | refine ⟨stands_K (by assumption) (by assumption) (by (rw [hK]; first | with_reducible exact k_bisect _ | with_reducible exact k_insort _ | with_reducible exact k_info _ | with_reducible exact k_sorter _ | with_reducible exact k98 _ | with_reducible exact k105 _ | with_reducible exact k110 _ | with_reducible exact k117 _ | with_reducible exact k124 _ | with_reducible exact k138 _ | with_reducible exact k145 _ | with_reducible exact kp_least _)), ?_⟩)
    (try dsimp only [List.nil_append, List.cons_append])
    refine getM (by assumption) Si.dict ?_
    rw [lookup_keys, if_pos hpk]
    refine gotRS ?_
    intro s st
    with_reducible refine wpAny_assign_Name ?_
    refine storeL (by assumption) ?_ rfl (Cx.Ok.fn (by assumption)) (by first | exact kindK hf rfl | (rw [hf]; rfl) | (rw [he]; rfl))
    intro s st
    with_reducible refine wpAny_Constant_none ?_
    refine isNone rfl ?_
    with_reducible refine wpAny_truthy_bool ?_
    refine ifN (by exact Bool.false_ne_true) ?_
    with_reducible refine wpAny_execs_nil ?_
    with_reducible refine openK (by assumption) ?_
    with_reducible refine execsK ?_
    intro K hStmt
    refine wpAny_Assign_Name ?_
    refine Attribute_any_ ?_
    refine nameLR (hd := by decide) (by assumption) (by first | assumption | rfl) ?_ rfl (Cx.Ok.fn (by assumption)) (by first | exact kindK hf rfl | (rw [hf]; rfl) | (rw [he]; rfl))
    refine getNpred hK ok' (by assumption) (Si.node p hpk) (Si.ndct p hpk) rfl rfl ?_
    refine gotIS ?_
    intro tok s st
    refine storeL (by assumption) ?_ rfl (Cx.Ok.fn (by assumption)) (by first | exact kindK hf rfl | (rw [hf]; rfl) | (rw [he]; rfl))
    intro s st
    with_reducible refine openK (by assumption) ?_
    with_reducible refine execsK ?_
    intro K hStmt
    with_reducible refine wpAny_If ?_
    with_reducible refine wpAny_isTrue_Compare1 ?_
    refine nameLI (hd := by decide) (by assumption) (by first | assumption | rfl) ?_ rfl (Cx.Ok.fn (by assumption)) (by first | exact kindK hf rfl | (rw [hf]; rfl) | (rw [he]; rfl))
    intro tok
    refine nameG (hd := by decide) (by assumption) (by assumption) (by (rw [hK]; first | with_reducible exact g_bisect _ | with_reducible exact g_insort _ | with_reducible exact g_out _ | with_reducible exact g_done _ | with_reducible exact g_info _ | with_reducible exact g_sorter _)) ?_ (Cx.Ok.glob (by assumption)) (Cx.Ok.fn (by assumption)) (by first | exact kindK hf rfl | (rw [hf]; rfl) | (rw [he]; rfl))
    with_reducible refine neI ?_
    with_reducible refine wpAny_truthy_bool ?_
    rw [hnp, if_neg (by decide)]
    with_reducible refine wpAny_execs_nil ?_
    with_reducible refine openK (by assumption) ?_
    with_reducible refine execsK ?_
    intro K hStmt
    refine plainObj_wpAny_Assign_Attribute ?_
    refine nameG (hd := by decide) (by assumption) (by assumption) (by (rw [hK]; first | with_reducible exact g_bisect _ | with_reducible exact g_insort _ | with_reducible exact g_out _ | with_reducible exact g_done _ | with_reducible exact g_info _ | with_reducible exact g_sorter _)) ?_ (Cx.Ok.glob (by assumption)) (Cx.Ok.fn (by assumption)) (by first | exact kindK hf rfl | (rw [hf]; rfl) | (rw [he]; rfl))
    refine nameLR (hd := by decide) (by assumption) (by first | assumption | rfl) ?_ rfl (Cx.Ok.fn (by assumption)) (by first | exact kindK hf rfl | (rw [hf]; rfl) | (rw [he]; rfl))
    refine setNpred hK ok' (by assumption) (Si.node p hpk) (Si.ndct p hpk) ?_
    intro s4 st4
    have S4 := Si.setNp (n := -2) hpk
    have P4 := Stp.upd (H := H') (o := .inst 58 (l.nd p) [some (.int p), some (.int (-2)), some (.ref (l.sa p))]) (Si.fpn p hpk).1
    obtain ⟨_, hD4⟩ := P4.off hFD hDi
    with_reducible refine openK (by assumption) ?_
    with_reducible refine execsK ?_
    intro K hStmt
    refine wpAny_For ?_
    refine Attribute_any_ ?_
    refine nameLR (hd := by decide) (by assumption) (by first | assumption | rfl) ?_ rfl (Cx.Ok.fn (by assumption)) (by first | exact kindK hf rfl | (rw [hf]; rfl) | (rw [he]; rfl))
    refine getSucc hK ok' (by assumption) (S4.node p hpk) (S4.ndct p hpk) rfl rfl ?_
    refine gotRS ?_
    intro s st
    skip
    have S4' : SrtL (upd H' (l.na p) (.inst 58 (l.nd p) [some (.int p), some (.int (-2)), some (.ref (l.sa p))])) F { τ with g := { τ.g with np := (decs (setF τ.g.np p (-2)) q []).1 }, rd := some (decs (setF τ.g.np p (-2)) q []).2 } l := by
      have : (some (decs (setF τ.g.np p (-2)) q []).2) = τ.rd := hq.symm
      rw [this]; exact S4
    refine iterL ok' (by assumption) (.inl (S4.succ p hpk)) ?_
    intro it2 s5 hit2 hRit2 st5
    have st5 := st5.names [("self", .ref τ.self), ("n2i", .ref τ.n2i)] ⟨rfl, rfl, trivial⟩
    refine forLoopR (ht := by intro _; rfl) (itr_list (xs := (τ.g.sc p).map AV.int) rm'.handled) hRit2 st5 (fun j ρ' H'' => ρ' = lk [("self", .ref τ.self), ("n2i", .ref τ.n2i)] ∧ H'' D = some (.tuple (ns.map AV.int)) ∧ Stp (upd H' (l.na p) (.inst 58 (l.nd p) [some (.int p), some (.int (-2)), some (.ref (l.sa p))])) F H'' F ∧
      SrtL H'' F { τ with g := { τ.g with np := (decs (setF τ.g.np p (-2)) q ((τ.g.sc p).take j)).1 }, rd := some (decs (setF τ.g.np p (-2)) q ((τ.g.sc p).take j)).2 } l)
      (fun j ρ' H'' h => .inl (h.2.2.2.succ p hpk)) ⟨rfl, hD4, Stp.refl _ _, S4'⟩ ?_ ?_
    · intro j av R'' ρ'' H'' s'' v hj hR2  hJJ st hv K hTurn
      obtain ⟨rfl, hDj, Pj, Sj⟩ := hJJ
      rw [List.getElem?_map] at hj
      obtain ⟨x, hx, rfl⟩ := Option.map_eq_some_iff.mp hj
      obtain ⟨hxlt, hx⟩ := List.getElem?_eq_some_iff.mp hx
      obtain ⟨tok, rfl⟩ := abs_int hv
      have hxk : x ∈ τ.g.ks := hscp.1 x (hx ▸ List.getElem_mem hxlt)
      have hdl := decs_length ((τ.g.sc p).take j) (setF τ.g.np p (-2)) q
      rw [List.length_take] at hdl
      have hdt : decs (setF τ.g.np p (-2)) q ((τ.g.sc p).take (j + 1)) = dec (decs (setF τ.g.np p (-2)) q ((τ.g.sc p).take j)) x := by
        unfold decs; rw [List.take_add_one, List.getElem?_eq_getElem hxlt, hx, List.foldl_append]; rfl
      rw [hdt] at hTurn
      generalize decs (setF τ.g.np p (-2)) q ((τ.g.sc p).take j) = w at *
      with_reducible refine wpAny_assign_Name ?_
      refine storeL (by assumption) ?_ rfl (Cx.Ok.fn (by assumption)) (by first | exact kindK hf rfl | (rw [hf]; rfl) | (rw [he]; rfl))
      intro s st
      with_reducible refine execsK ?_
      intro K hStmt
      refine wpAny_Assign_Name ?_
      with_reducible refine Subscript_ ?_
      refine nameLR (hd := by decide) (by assumption) (by first | assumption | rfl) ?_ rfl (Cx.Ok.fn (by assumption)) (by first | exact kindK hf rfl | (rw [hf]; rfl) | (rw [he]; rfl))
      refine nameLI (hd := by decide) (by assumption) (by first | assumption | rfl) ?_ rfl (Cx.Ok.fn (by assumption)) (by first | exact kindK hf rfl | (rw [hf]; rfl) | (rw [he]; rfl))
      intro tok
      refine idxD (hs := by with_unfolding_all rfl) (by assumption) Sj.dict (av := .ref (l.na x)) (by rw [lookup_keys, if_pos hxk]) ?_
      refine gotRS ?_
      intro s st
      refine storeL (by assumption) ?_ rfl (Cx.Ok.fn (by assumption)) (by first | exact kindK hf rfl | (rw [hf]; rfl) | (rw [he]; rfl))
      intro s st
      with_reducible refine openK (by assumption) ?_
      with_reducible refine execsK ?_
      intro K hStmt
      with_reducible refine wpAny_AugAssign_AttributeAny ?_
      refine nameLR (hd := by decide) (by assumption) (by first | assumption | rfl) ?_ rfl (Cx.Ok.fn (by assumption)) (by first | exact kindK hf rfl | (rw [hf]; rfl) | (rw [he]; rfl))
      refine getNpred hK ok' (by assumption) (Sj.node x hxk) (Sj.ndct x hxk) rfl rfl ?_
      refine gotIS ?_
      intro tok s st
      with_reducible refine cInt (by assumption) ?_
      intro tok s st
      with_reducible refine isubI (by assumption) ?_
      intro tok s st
      dsimp only
      refine setNpred hK ok' (by assumption) (Sj.node x hxk) (Sj.ndct x hxk) ?_
      intro s6 st6
      have S6 := Sj.setNp (n := w.1 x - 1) hxk
      have P6 := Stp.upd (H := H'') (o := .inst 58 (l.nd x) [some (.int x), some (.int (w.1 x - 1)), some (.ref (l.sa x))]) (Sj.fpn x hxk).1
      obtain ⟨_, hD6⟩ := P6.off hFD hDj
      with_reducible refine openK (by assumption) ?_
      with_reducible refine execsK ?_
      intro K hStmt
      with_reducible refine wpAny_If ?_
      with_reducible refine wpAny_isTrue_Compare1 ?_
      refine Attribute_any_ ?_
      refine nameLR (hd := by decide) (by assumption) (by first | assumption | rfl) ?_ rfl (Cx.Ok.fn (by assumption)) (by first | exact kindK hf rfl | (rw [hf]; rfl) | (rw [he]; rfl))
      refine getNpred hK ok' (by assumption) (S6.node x hxk) (S6.ndct x hxk) rfl rfl ?_
      refine gotIS ?_
      intro tok s st
      with_reducible refine cInt (by assumption) ?_
      intro tok s st
      with_reducible refine eqI ?_
      with_reducible refine wpAny_truthy_bool ?_
      dsimp only
      rw [setF_self]
      by_cases h0 : w.1 x - 1 = 0
      · refine ifP (by rw [h0]; rfl) ?_
        with_reducible refine execsK ?_
        intro K hStmt
        refine exprS (hs := by rfl) (Cx.Ok.fn (by assumption)) ?_
        refine callMeth (he := by rfl) ?_
        refine Attribute_any_ ?_
        refine nameLR (hd := by decide) (by assumption) (by first | assumption | rfl) ?_ rfl (Cx.Ok.fn (by assumption)) (by first | exact kindK hf rfl | (rw [hf]; rfl) | (rw [he]; rfl))
        refine getA155 hK ok' (by assumption) S6.inst S6.attr (by kernel_rfl) (av := .ref l.ra) rfl rfl ?_
        refine gotRS ?_
        intro s st
        obtain ⟨hw1, hw2, hw3⟩ := S6.rdy w.2 rfl
        refine methL (by assumption) hw1 PySem.F.slot_list_append PySem.F.type_list_append ?_
        refine cw (he := by rfl) ?_
        dsimp only [Args_]
        refine nameLI (hd := by decide) (by assumption) (by first | assumption | rfl) ?_ rfl (Cx.Ok.fn (by assumption)) (by first | exact kindK hf rfl | (rw [hf]; rfl) | (rw [he]; rfl))
        intro tok
        (first | refine ⟨trivial, ?_⟩ | refine ⟨stands_K (by assumption) (by assumption) (by (rw [hK]; first | with_reducible exact k_bisect _ | with_reducible exact k_insort _ | with_reducible exact k_info _ | with_reducible exact k_sorter _ | with_reducible exact k98 _ | with_reducible exact k105 _ | with_reducible exact k110 _ | with_reducible exact k117 _ | with_reducible exact k124 _ | with_reducible exact k138 _ | with_reducible exact k145 _ | with_reducible exact kp_least _)), ?_⟩)
        (try dsimp only [List.nil_append, List.cons_append])
        refine appendL (by assumption) hw1 (by rw [List.length_map, sizeLine_eq]; omega) ?_
        intro s7 st7
        refine ⟨rfl, ?_⟩
        have S7 := S6.setRd (r' := w.2 ++ [x]) rfl
        have P7 := Stp.upd (H := upd H'' (l.na x) (.inst 58 (l.nd x) [some (.int x), some (.int (w.1 x - 1)), some (.ref (l.sa x))])) (F := F) (o := .list ((w.2 ++ [x]).map AV.int)) hw3
        obtain ⟨_, hD7⟩ := P7.off hFD hD6
        rw [List.map_append] at S7 P7 hD7
        with_reducible refine openK (by assumption) ?_
        with_reducible refine wpAny_execs_nil ?_
        with_reducible refine openK (by assumption) ?_
        with_reducible refine wpAny_execs_nil ?_
        with_reducible refine openK (by assumption) ?_
        dsimp only
        refine ⟨_, _, St.names st7 [("self", .ref τ.self), ("n2i", .ref τ.n2i)] ⟨rfl, rfl, trivial⟩, rfl, hD7, (Pj.trans P6).trans P7, ?_⟩
        unfold dec
        rw [if_pos h0]
        exact S7
      · refine ifN (by rw [beq_iff_eq]; exact h0) ?_
        with_reducible refine wpAny_execs_nil ?_
        with_reducible refine openK (by assumption) ?_
        with_reducible refine wpAny_execs_nil ?_
        with_reducible refine openK (by assumption) ?_
        dsimp only
        refine ⟨_, _, St.names st [("self", .ref τ.self), ("n2i", .ref τ.n2i)] ⟨rfl, rfl, trivial⟩, rfl, hD6, Pj.trans P6, ?_⟩
        unfold dec
        rw [if_neg h0]
        exact S6
    · rintro ρ'' H'' s'' ⟨rfl, hDj, Pj, Sj⟩ st
      rw [List.length_map, List.take_length] at Sj
      with_reducible refine wpAny_execs_nil ?_
      with_reducible refine openK (by assumption) ?_
      with_reducible refine execsK ?_
      intro K hStmt
      with_reducible refine wpAny_AugAssign_AttributeAny ?_
      refine nameLR (hd := by decide) (by assumption) (by first | assumption | rfl) ?_ rfl (Cx.Ok.fn (by assumption)) (by first | exact kindK hf rfl | (rw [hf]; rfl) | (rw [he]; rfl))
      refine getA155 hK ok' (by assumption) Sj.inst Sj.attr (by kernel_rfl) (av := .int τ.nf) rfl rfl ?_
      refine gotIS ?_
      intro tok s st
      with_reducible refine cInt (by assumption) ?_
      intro tok s st
      with_reducible refine iaddI (by assumption) ?_
      intro tok s st
      refine setA155 hK ok' (by assumption) Sj.inst Sj.attr (by kernel_rfl) (by exact Nat.le_of_ble_eq_true rfl) ?_
      intro s8 st8
      have S8 := Sj.setAt (po := τ.po) (nf := τ.nf + 1) (es := putA "_nfinished" (.int (τ.nf + 1)) (Srt.attrs { τ with g := { τ.g with np := (decs (setF τ.g.np p (-2)) q (τ.g.sc p)).1 }, rd := some (decs (setF τ.g.np p (-2)) q (τ.g.sc p)).2 } l)) rfl
      have P8 := Stp.upd (H := H'') (F := F) (o := .attrs (putA "_nfinished" (.int (τ.nf + 1)) (Srt.attrs { τ with g := { τ.g with np := (decs (setF τ.g.np p (-2)) q (τ.g.sc p)).1 }, rd := some (decs (setF τ.g.np p (-2)) q (τ.g.sc p)).2 } l))) Sj.fp.2.1
      obtain ⟨_, hD8⟩ := P8.off hFD hDj
      with_reducible refine openK (by assumption) ?_
      with_reducible refine wpAny_execs_nil ?_
      with_reducible refine openK (by assumption) ?_
      dsimp only
      refine ⟨_, _, st8, by rw [e1, e3], hD8, ((Pi.trans P4).trans Pj).trans P8, ?_⟩
      rw [ht]
      unfold doneG
      rw [hq, Option.getD_some]
      exact S8
  · rintro ρ' H' s' ⟨rfl, hDi, Pi, Si⟩ st
    rw [List.length_map, List.take_length] at Si
    with_reducible refine wpAny_execs_nil ?_
    with_reducible refine openK (by assumption) ?_
    with_reducible refine wpAny_execs_nil ?_
    refine ⟨_, _, st, fun st => h H' _ ?_ Si st⟩
    exact ⟨fun b ao hn e => Pi.keep b ao hn (by rw [upd_ne (fun q => by first | (rw [q, hD] at e; cases e) | (rw [← q, hD] at e; cases e))]; exact e), Pi.sub, fun b q => .inl q⟩
end


noncomputable def layC : List (Str × NameKind) → Addr → Ledger → Ledger
  | [], _, H => H
  | (_, k) :: r, a, H => if k == .cell then layC r (a + 1) (upd H a (.cell none)) else layC r a H

section
variable {c : Cx} {R : Ledger} {ρ : Str → Option AV} {H : Ledger} {s : Shared} {A : Around} {E : Value → Shared → Prop} {env : Env}

theorem St.layCells (ok : c.Ok) : ∀ (names : List (Str × NameKind)) {H : Ledger} {s : Shared}, St c R ρ H s → St c R ρ (layC names s.heap.objs.size H) { s with heap := pushCells s.heap names }
  | [], _, _, st => st
  | (n, k) :: r, H, s, st => by
    unfold layC pushCells
    split
    · have := St.layCells ok r (st.alloc ok (o := { cls := .type "cell", data := .cell none }) (ao := .cell none) ⟨_, rfl, rfl⟩ rfl)
      rwa [show ({ s with heap := s.heap.push { cls := .type "cell", data := .cell none } } : Shared).heap.objs.size = s.heap.objs.size + 1 from Heap.size_push ..] at this
    · exact St.layCells ok r st

noncomputable def cenvOf (scope : Scope) (cl : List (Str × Addr)) (C : Addr) (env : Env) : Env :=
  { scope := relabel scope env, locals := C, globals := env.globals, cells := cellsFrom (C + 1) scope.names cl, qual := env.qual, func := none, code := env.code, frame := env.frame, builtins := env.builtins }

theorem newEnvS {scope : Scope} {cl : List (Str × Addr)} {Q : Env → Shared → Prop} (ok : c.Ok) (st : St c R ρ H s)
    (h : ∀ C cenv s', (∀ a, H a ≠ none → a < C) → (∀ a, R a ≠ none → a < C) → cenv.locals = C → { cenv with scope := relabel scope env } = cenvOf scope cl C env → St c R ρ (layC scope.names (C + 1) (upd H C (.ns fun _ => none))) s' → Q cenv s') :
    wpAny c.M A (newFunctionEnv scope env.globals cl [] env.qual none .none (some env)) Q E s := by
  simp only [newFunctionEnv, Option.isSome_some, if_true]
  refine wpAny_bind (wpAny_alloc ?_)
  refine wpAny_bind (wpAny_layCells _ (fun name kind cells => by cases hkc : kind == NameKind.cell <;> simp [hkc]) _ _ _ _ ?_)
  rw [show ({ s with heap := s.heap.push { cls := .type "dict", data := .dict #[] } } : Shared).heap.objs.size = s.heap.objs.size + 1 from Heap.size_push ..]
  have st1 := st.alloc ok (o := { cls := .type "dict", data := .dict #[] }) (ao := .ns fun _ => none) ⟨#[], 0, rfl, by intro e he; simp at he, fun x av e => by cases e⟩ rfl
  have st2 := st1.layCells ok scope.names
  rw [show ({ s with heap := s.heap.push { cls := .type "dict", data := .dict #[] } } : Shared).heap.objs.size = s.heap.objs.size + 1 from Heap.size_push ..] at st2
  simp only [List.forIn_nil]
  refine wpAny_bind (wpAny_pure (wpAny_pure (h s.heap.objs.size _ _ (fun a e => ?_) (fun a e => ?_) rfl rfl st2)))
  · cases q : H a with
    | none => exact absurd q e
    | some x => exact st.lt q
  · cases q : R a with
    | none => exact absurd q e
    | some x => obtain ⟨o, e, _⟩ := st.hid a x q; exact Heap.lt_size e

abbrev testsOf (ifs : List Expr) (env : Env) : Sem Bool := forIn ifs true fun c r => if r = true then do let ok ← isTrue c env (eval c env); pure (ForInStep.yield ok) else pure (ForInStep.yield r)

theorem St.dropC (st : St c R ρ H s) {C : Addr} {r} {h' : Heap} (hC : H C = some (.ns r)) (hs : Heap.SameBut C s.heap h') : St c R ρ (del H C) { s with heap := h' } := by
  obtain ⟨o, e1, e2, e3, e4, e5⟩ := st.own C _ hC
  refine ⟨let ⟨m, F, r⟩ := st.fr; ⟨m, F.change hs e3 e4, r⟩, fun b x h => ?_, fun b x h => ?_, fun b h => ?_, by have e := st.sh; rw [e]⟩
  · by_cases e : b = C
    · subst e; simp at h
    · rw [del_ne e] at h; exact (st.own b x h).mono fun o q => (hs.2 b e).trans q
  · refine (st.hid b x h).mono fun o q => (hs.2 b ?_).trans q
    rintro rfl
    rw [st.dis b (by rw [hC]; intro q; cases q)] at h; cases h
  · by_cases e : b = C
    · subst e; simp at h
    · rw [del_ne e] at h; exact st.dis b h

theorem comp_block {elt target iter : Expr} {ifs : List Expr} {scope : Scope} {cl : List (Str × Addr)} {pos : Pos} {it : Addr} {xs : List AV} {K : Nat → AO} {Bk : Ledger → Prop} {RR : Value → Addr → Result → Shared → Prop}
    (ok : c.Ok) (itr : Itr c A it xs K Bk) (hn : R it = none) (st : St c (upd R it (K 0)) ρ H s) (hz : xs.length ≤ sizeLine)
    (J : Addr → Nat → List AV → Ledger → Prop) (hB : ∀ C i acc H, J C i acc H → Bk H)
    (h0 : ∀ C, (∀ a, H a ≠ none → a < C) → J C 0 [] (layC scope.names (C + 1) (upd H C (.ns fun _ => none))))
    (turn : ∀ C cenv i av R' acc H' s' v, cenv = cenvOf scope cl C env → xs[i]? = some av → J C i acc H' → St c R' ρ H' s' → abs v = av →
      ∀ KE : Value → Shared → Prop, KE = (fun x s₄ => ∃ H'', St c R' ρ H'' s₄ ∧ J C (i + 1) (acc ++ [abs x]) H'') → ∀ KN : Shared → Prop, KN = (fun s₃ => ∃ H'', St c R' ρ H'' s₃ ∧ J C (i + 1) acc H'') →
      wpAny c.M A (assign target cenv v) (fun _ s₂ => wpAny c.M A (testsOf ifs cenv) (fun b s₃ => if b = true then wpAny c.M A (eval elt cenv) KE (fun _ _ => False) s₃ else KN s₃) (fun _ _ => False) s₂) (fun _ _ => False) s')
    (hRR : ∀ D C acc H' s', H D = none → J C xs.length acc H' → H' D = none → D < C → St c R ρ (upd H' D (.list acc)) s' → RR (.ref D) C (.ok .next) s')
    (ht : ∀ v, letOwnedTupleGo target (.ref it) v = pure ()) :
    wpAny c.M A (newList []) (fun acc s₃ => wpAny c.M A (newFunctionEnv scope env.globals cl [] env.qual none .none (some env)) (fun cenv s₄ =>
      codeAny c.M A (.compStart (.ListComp elt [⟨target, iter, ifs, 0⟩] scope pos) 0 (.ref it) acc { cenv with scope := relabel scope env }) (RR acc cenv.locals) s₄) E s₃) E s := by
  refine newL ok st (by simp [sizeLine]) fun D s₃ hD st₃ => ?_
  have hDR : upd R it (K 0) D = none := by
    have := st₃.dis D (by rw [upd_self]; intro q; cases q)
    exact this
  have hDit : D ≠ it := fun q => by first | (rw [q, upd_self] at hDR; cases hDR) | (rw [← q, upd_self] at hDR; cases hDR)
  rw [upd_ne hDit] at hDR
  have st₃ := st₃.hide (upd_self ..)
  rw [show del (upd H D (.list (([] : List Value).map abs))) D = H from funext fun b => by
    unfold del upd; split
    · rename_i e; rw [e]; exact hD.symm
    · rfl] at st₃
  refine newEnvS (env := env) ok st₃ fun C cenv s₄ hC hCR hL hce st₄ => ?_
  rw [hce, hL]
  have hDC : D < C := hCR D (by rw [upd_self]; intro q; cases q)
  -- the loop's ground: the iterator and the list are hidden
  let Rl : Nat → List AV → Ledger := fun i acc => upd (upd R it (K i)) D (.list acc)
  have hsw : ∀ i acc, Rl i acc = upd (upd R D (.list acc)) it (K i) := fun i acc => funext fun b => by
    show upd (upd R it (K i)) D (.list acc) b = _
    unfold upd
    by_cases e : b = D
    · subst e; rw [if_pos rfl, if_neg hDit, if_pos rfl]
    · rw [if_neg e]
      by_cases e' : b = it
      · rw [if_pos e', if_pos e']
      · rw [if_neg e', if_neg e', if_neg e]
  have hn' : ∀ acc, upd R D (.list acc) it = none := fun acc => by rw [upd_ne (Ne.symm hDit)]; exact hn
  have loop : ∀ s', St c (Rl 0 []) ρ (layC scope.names (C + 1) (upd H C (.ns fun _ => none))) s' →
      codeAny c.M A (.compLoop (.ListComp elt [⟨target, iter, ifs, 0⟩] scope pos) 0 (.ref it) (.ref D) (cenvOf scope cl C env)) (RR (.ref D) C) s' := by
    intro s' st'
    refine codeAny_compLoop_tests (fun n s' => ∃ i acc H', n + i = xs.length ∧ acc.length ≤ i ∧ St c (Rl i acc) ρ H' s' ∧ J C i acc H') ?_ xs.length ⟨0, [], _, rfl, Nat.le_refl _, st', h0 C hC⟩ ht
    rintro n s' ⟨i, acc, H', hni, hal, st', hJ⟩
    have hHD : H' D = none := by
      cases e : H' D with
      | none => rfl
      | some x => have := st'.dis D (by rw [e]; intro q; cases q); rw [show Rl i acc D = some (.list acc) from upd_self ..] at this; cases this
    rw [hsw] at st'
    cases n with
    | zero =>
      have hi : i = xs.length := by exact om18 hni
      subst hi
      refine itr.done (hn' acc) (hB _ _ _ _ hJ) st' fun s'' st'' => ?_
      have st3 := st''.show (upd_self ..)
      refine hRR D C acc H' s'' hD hJ hHD hDC ?_
      rwa [show del (upd R D (.list acc)) D = R from funext fun b => by
        unfold del upd; split
        · rename_i e; rw [e]; exact hDR.symm
        · rfl] at st3
    | succ n =>
      have hlt : i < xs.length := by exact om19 hni
      refine itr.item (av := xs[i]) (by simp [hlt]) (hn' acc) (hB _ _ _ _ hJ) st' fun v s'' hv st'' => ?_
      rw [← hsw] at st''
      refine wpAny_mono (turn C _ i xs[i] _ acc H' s'' v rfl (by simp [hlt]) hJ st'' hv _ rfl _ rfl) (fun _ s₂ h₂ => wpAny_mono h₂ (fun b s₃ h₃ => ?_) fun _ _ z => z.elim) fun _ _ z => z.elim
      cases b with
      | false =>
        rw [if_neg (by decide)] at h₃ ⊢
        obtain ⟨H'', q1, q2⟩ := h₃
        exact ⟨n, Nat.lt_succ_self _, i + 1, acc, H'', by exact om20 hni, by exact om51 hal, q1, q2⟩
      | true =>
        rw [if_pos rfl] at h₃ ⊢
        refine wpAny_mono h₃ (fun x s₄ h₄ => ?_) fun _ _ z => z.elim
        obtain ⟨H'', q1, q2⟩ := h₄
        have hHD2 : H'' D = none := by
          cases e : H'' D with
          | none => rfl
          | some x => have := q1.dis D (by rw [e]; intro q; cases q); rw [show Rl (i + 1) acc D = some (.list acc) from upd_self ..] at this; cases this
        have q3 := q1.show (upd_self ..)
        refine appendL q3 (upd_self ..) (by exact om60 hz hal hni) fun s₅ st₅ => ⟨n, Nat.lt_succ_self _, i + 1, acc ++ [abs x], H'', by exact om20 hni, by simp; exact om39 hal, ?_, q2⟩
        have st6 := st₅.hide (upd_self ..)
        have e1 : del (upd (upd H'' D (.list acc)) D (.list (acc ++ [abs x]))) D = H'' := funext fun b => by
          unfold del upd
          by_cases e : b = D
          · rw [if_pos e, e, hHD2]
          · rw [if_neg e, if_neg e, if_neg e]
        have e2 : upd (del (Rl (i + 1) acc) D) D (.list (acc ++ [abs x])) = Rl (i + 1) (acc ++ [abs x]) := funext fun b => by
          show upd (del (upd (upd R it (K (i + 1))) D (.list acc)) D) D (.list (acc ++ [abs x])) b = upd (upd R it (K (i + 1))) D (.list (acc ++ [abs x])) b
          unfold upd del
          by_cases e : b = D
          · simp only [if_pos e]
          · simp only [if_neg e]
        rw [e1] at st6
        rw [← e2]
        exact st6
  have st₄' : St c (Rl 0 []) ρ (layC scope.names (C + 1) (upd H C (.ns fun _ => none))) s₄ := st₄
  refine codeAny_compStart_list (loop _ st₄') ?_
  have st5 := st₄'
  rw [hsw] at st5
  exact itr.self (hn' []) st5 (loop _ st₄')

abbrev CompIs (c : Cx) (A : Around) (env : Env) (elt target : Expr) (ifs : List Expr) (scope : Scope) (cl : List (Str × Addr)) (Q : Value → Shared → Prop) (itv : Value) (s₂ : Shared) : Prop :=
  ∃ it xs K Bk R ρ H, itv = .ref it ∧ Itr c A it xs K Bk ∧ R it = none ∧ St c (upd R it (K 0)) ρ H s₂ ∧ xs.length ≤ sizeLine ∧
      ∃ J : Addr → Nat → List AV → Ledger → Prop, (∀ C i acc H, J C i acc H → Bk H ∧ ∃ r, H C = some (.ns r)) ∧
      (∀ C, (∀ a, H a ≠ none → a < C) → J C 0 [] (layC scope.names (C + 1) (upd H C (.ns fun _ => none)))) ∧
      (∀ C cenv i av R' acc H' s' v, cenv = cenvOf scope cl C env → xs[i]? = some av → J C i acc H' → St c R' ρ H' s' → abs v = av →
      ∀ KE : Value → Shared → Prop, KE = (fun x s₄ => ∃ H'', St c R' ρ H'' s₄ ∧ J C (i + 1) (acc ++ [abs x]) H'') → ∀ KN : Shared → Prop, KN = (fun s₃ => ∃ H'', St c R' ρ H'' s₃ ∧ J C (i + 1) acc H'') →
      wpAny c.M A (assign target cenv v) (fun _ s₂ => wpAny c.M A (testsOf ifs cenv) (fun b s₃ => if b = true then wpAny c.M A (eval elt cenv) KE (fun _ _ => False) s₃ else KN s₃) (fun _ _ => False) s₂) (fun _ _ => False) s') ∧
      (∀ D C acc H' s', H D = none → J C xs.length acc H' → H' D = none → D < C → St c R ρ (upd (del H' C) D (.list acc)) s' → Q (.ref D) s')
abbrev CompAs (c : Cx) (A : Around) (env : Env) (elt target : Expr) (ifs : List Expr) (scope : Scope) (cl : List (Str × Addr)) (y : Str) (Q : Flow → Shared → Prop) (itv : Value) (s₂ : Shared) : Prop :=
  ∃ it xs K Bk R ρ H, itv = .ref it ∧ Itr c A it xs K Bk ∧ R it = none ∧ St c (upd R it (K 0)) ρ H s₂ ∧ xs.length ≤ sizeLine ∧
      ∃ J : Addr → Nat → List AV → Ledger → Prop, (∀ C i acc H, J C i acc H → Bk H ∧ ∃ r, H C = some (.ns r)) ∧
      (∀ C, (∀ a, H a ≠ none → a < C) → J C 0 [] (layC scope.names (C + 1) (upd H C (.ns fun _ => none)))) ∧
      (∀ C cenv i av R' acc H' s' v, cenv = cenvOf scope cl C env → xs[i]? = some av → J C i acc H' → St c R' ρ H' s' → abs v = av →
      ∀ KE : Value → Shared → Prop, KE = (fun x s₄ => ∃ H'', St c R' ρ H'' s₄ ∧ J C (i + 1) (acc ++ [abs x]) H'') → ∀ KN : Shared → Prop, KN = (fun s₃ => ∃ H'', St c R' ρ H'' s₃ ∧ J C (i + 1) acc H'') →
      wpAny c.M A (assign target cenv v) (fun _ s₂ => wpAny c.M A (testsOf ifs cenv) (fun b s₃ => if b = true then wpAny c.M A (eval elt cenv) KE (fun _ _ => False) s₃ else KN s₃) (fun _ _ => False) s₂) (fun _ _ => False) s') ∧
      (∀ D C acc H' s', H D = none → J C xs.length acc H' → H' D = none → D < C → St c R (put ρ y (.ref D)) (upd (del H' C) D (.list acc)) s' → Q .next s')

theorem CompIs.mk {c : Cx} {A : Around} {env : Env} {elt target : Expr} {ifs : List Expr} {scope : Scope} {cl : List (Str × Addr)} {Q : Value → Shared → Prop} {s₂ : Shared} {it : Addr} {xs : List AV} {K : Nat → AO} {Bk : Ledger → Prop} {R : Ledger} {ρ : Str → Option AV} {H : Ledger} (itr : Itr c A it xs K Bk) (hn : R it = none) (st : St c (upd R it (K 0)) ρ H s₂) (hz : xs.length ≤ sizeLine) (J : Addr → Nat → List AV → Ledger → Prop)
    (hB : (∀ C i acc H, J C i acc H → Bk H ∧ ∃ r, H C = some (.ns r)))
    (h0 : (∀ C, (∀ a, H a ≠ none → a < C) → J C 0 [] (layC scope.names (C + 1) (upd H C (.ns fun _ => none)))))
    (turn : (∀ C cenv i av R' acc H' s' v, cenv = cenvOf scope cl C env → xs[i]? = some av → J C i acc H' → St c R' ρ H' s' → abs v = av →
      ∀ KE : Value → Shared → Prop, KE = (fun x s₄ => ∃ H'', St c R' ρ H'' s₄ ∧ J C (i + 1) (acc ++ [abs x]) H'') → ∀ KN : Shared → Prop, KN = (fun s₃ => ∃ H'', St c R' ρ H'' s₃ ∧ J C (i + 1) acc H'') →
      wpAny c.M A (assign target cenv v) (fun _ s₂ => wpAny c.M A (testsOf ifs cenv) (fun b s₃ => if b = true then wpAny c.M A (eval elt cenv) KE (fun _ _ => False) s₃ else KN s₃) (fun _ _ => False) s₂) (fun _ _ => False) s'))
    (fin : (∀ D C acc H' s', H D = none → J C xs.length acc H' → H' D = none → D < C → St c R ρ (upd (del H' C) D (.list acc)) s' → Q (.ref D) s')) : CompIs c A env elt target ifs scope cl Q (.ref it) s₂ := ⟨it, xs, K, Bk, R, ρ, H, rfl, itr, hn, st, hz, J, hB, h0, turn, fin⟩
theorem CompAs.mk {c : Cx} {A : Around} {env : Env} {elt target : Expr} {ifs : List Expr} {scope : Scope} {cl : List (Str × Addr)} {y : Str} {Q : Flow → Shared → Prop} {s₂ : Shared} {it : Addr} {xs : List AV} {K : Nat → AO} {Bk : Ledger → Prop} {R : Ledger} {ρ : Str → Option AV} {H : Ledger} (itr : Itr c A it xs K Bk) (hn : R it = none) (st : St c (upd R it (K 0)) ρ H s₂) (hz : xs.length ≤ sizeLine) (J : Addr → Nat → List AV → Ledger → Prop)
    (hB : (∀ C i acc H, J C i acc H → Bk H ∧ ∃ r, H C = some (.ns r)))
    (h0 : (∀ C, (∀ a, H a ≠ none → a < C) → J C 0 [] (layC scope.names (C + 1) (upd H C (.ns fun _ => none)))))
    (turn : (∀ C cenv i av R' acc H' s' v, cenv = cenvOf scope cl C env → xs[i]? = some av → J C i acc H' → St c R' ρ H' s' → abs v = av →
      ∀ KE : Value → Shared → Prop, KE = (fun x s₄ => ∃ H'', St c R' ρ H'' s₄ ∧ J C (i + 1) (acc ++ [abs x]) H'') → ∀ KN : Shared → Prop, KN = (fun s₃ => ∃ H'', St c R' ρ H'' s₃ ∧ J C (i + 1) acc H'') →
      wpAny c.M A (assign target cenv v) (fun _ s₂ => wpAny c.M A (testsOf ifs cenv) (fun b s₃ => if b = true then wpAny c.M A (eval elt cenv) KE (fun _ _ => False) s₃ else KN s₃) (fun _ _ => False) s₂) (fun _ _ => False) s'))
    (fin : (∀ D C acc H' s', H D = none → J C xs.length acc H' → H' D = none → D < C → St c R (put ρ y (.ref D)) (upd (del H' C) D (.list acc)) s' → Q .next s')) : CompAs c A env elt target ifs scope cl y Q (.ref it) s₂ := ⟨it, xs, K, Bk, R, ρ, H, rfl, itr, hn, st, hz, J, hB, h0, turn, fin⟩

theorem compL {elt target iter : Expr} {ifs : List Expr} {scope : Scope} {cl : List (Str × Addr)} {pos : Pos} {Q : Value → Shared → Prop} (ok : c.Ok)
    (hclos : closureFor scope env = pure cl) (hkind : scope.kind = .function) (hnames : (scope.names.all fun y => decide (y.2 = .local → scope.names.lookup y.1 = some .local)) = true)
    (h : wpAny c.M A (eval iter env) (fun xv s₁ => wpAny c.M A (pyIter xv) (CompIs c A env elt target ifs scope cl Q) E s₁) E s)
    (hs : ∀ x, foldedSetIterable iter env x = pure x) (ht : ∀ it v, letOwnedTupleGo target (.ref it) v = pure ()) :
    wpAny c.M A (eval (.ListComp elt [⟨target, iter, ifs, 0⟩] scope pos) env) Q E s := by
  rw [eval_ListComp]
  refine wpAny_comprehension_free (use := none) rfl hs hclos hkind (fun y hy => of_decide_eq_true (List.all_eq_true.mp hnames y hy)) (wpAny_mono h (fun xv s₁ h₁ => wpAny_mono h₁ (fun itv s₂ h₂ => ?_) fun _ _ e => e) fun _ _ e => e)
  obtain ⟨it, xs, K, Bk, R, ρ, H, rfl, itr, hn, st, hz, J, hB, h0, turn, hQ⟩ := h₂
  refine comp_block (RR := fun acc C => compPost c.M A E none Q acc C) ok itr hn st hz J (fun C i acc H x => (hB C i acc H x).1) h0 turn (fun D C acc H' s' hD hJ hD' hDC st' => ?_) (ht it)
  obtain ⟨r, hr⟩ := (hB _ _ _ _ hJ).2
  have hr' : upd H' D (.list acc) C = some (.ns r) := by rw [upd_ne (Nat.ne_of_gt hDC)]; exact hr
  obtain ⟨m, hm, _⟩ := st'.ns hr'
  refine ⟨m, hm, fun h' hs' => hQ D C acc H' _ hD hJ hD' hDC ?_⟩
  have := st'.dropC hr' hs'
  rwa [show del (upd H' D (.list acc)) C = upd (del H' C) D (.list acc) from funext fun b => by
    unfold del upd
    by_cases e : b = C
    · simp only [if_pos e, if_neg (show b ≠ D by rw [e]; exact Nat.ne_of_gt hDC)]
    · simp only [if_neg e]] at this

theorem compAssignL {elt target iter : Expr} {ifs : List Expr} {scope : Scope} {cl : List (Str × Addr)} {pos spos py : Pos} {y : Str} {Q : Flow → Shared → Prop} (ok : c.Ok)
    (hsw : swapsWith (.ListComp elt [⟨target, iter, ifs, 0⟩] scope pos) (some (.Name y py)) spos.line env = pure true)
    (hclos : closureFor scope env = pure cl) (hkind : scope.kind = .function) (hnames : (scope.names.all fun y => decide (y.2 = .local → scope.names.lookup y.1 = some .local)) = true)
    (hy : env.kindOf y = some .local) (hL : env.locals = c.L) (hk : env.scope.kind = .function)
    (h : wpAny c.M A (eval iter env) (fun xv s₁ => wpAny c.M A (pyIter xv) (CompAs c A env elt target ifs scope cl y Q) E s₁) E s)
    (hs : ∀ x, foldedSetIterable iter env x = pure x) (ht : ∀ it v, letOwnedTupleGo target (.ref it) v = pure ()) :
    wpAny c.M A (exec (.Assign [.Name y py] (.ListComp elt [⟨target, iter, ifs, 0⟩] scope pos) spos) env) Q E s := by
  rw [exec_Assign_Name_used _ _ _ _ hsw]
  refine wpAny_bind (wpAny_standAt (wpAny_bind ?_))
  show wpAny _ A (do let _ ← comprehension (.ListComp elt [⟨target, iter, ifs, 0⟩] scope pos) scope env _ (newList []) false (eval iter env) (some (assign (.Name y py) env))) _ _ s
  refine wpAny_bind (wpAny_mono (wpAny_comprehension_free (use := some (assign (.Name y py) env)) (Q := fun _ s' => Q .next s') rfl hs hclos hkind (fun y hy => of_decide_eq_true (List.all_eq_true.mp hnames y hy))
    (wpAny_mono h (fun xv s₁ h₁ => wpAny_mono h₁ (fun it s₂ h₂ => ?_) fun _ _ e => e) fun _ _ e => e)) (fun _ s' hq => wpAny_pure (wpAny_pure hq)) fun _ _ e => e)
  obtain ⟨it, xs, K, Bk, R, ρ, H, rfl, itr, hn, st, hz, J, hB, h0, turn, hQ⟩ := h₂
  refine comp_block (RR := fun acc C => compPost c.M A E (some (assign (.Name y py) env)) (fun _ s' => Q .next s') acc C) ok itr hn st hz J (fun C i acc H x => (hB C i acc H x).1) h0 turn (fun D C acc H' s' hD hJ hD' hDC st' => ?_) (ht it)
  obtain ⟨r, hr⟩ := (hB _ _ _ _ hJ).2
  have hr' : upd H' D (.list acc) C = some (.ns r) := by rw [upd_ne (Nat.ne_of_gt hDC)]; exact hr
  show wpAny _ A (assign (.Name y py) env (.ref D)) _ _ _
  refine wpAny_assign_Name (storeL st' (fun s'' st'' => ?_) hL hk hy)
  obtain ⟨m, hm, _⟩ := st''.ns hr'
  refine ⟨m, hm, fun h' hs' => hQ D C acc H' _ hD hJ hD' hDC ?_⟩
  have := st''.dropC hr' hs'
  rwa [show del (upd H' D (.list acc)) C = upd (del H' C) D (.list acc) from funext fun b => by
    unfold del upd
    by_cases e : b = C
    · simp only [if_pos e, if_neg (show b ≠ D by rw [e]; exact Nat.ne_of_gt hDC)]
    · simp only [if_neg e]] at this
end


section
variable {c : Cx} {R : Ledger} {ρ : Str → Option AV} {H : Ledger} {s : Shared} {A : Around} {E : Value → Shared → Prop}

noncomputable def Cx.on (c : Cx) (env : Env) : Cx := { c with fenv := env }

theorem St.L_none (st : St c R ρ H s) : c.h₀.get? c.L = none := by
  obtain ⟨m, F, _⟩ := st.fr
  cases q : c.h₀.get? c.L with
  | none => rfl
  | some o => exact absurd (Nat.lt_of_lt_of_le (Heap.lt_size q) F.above) (Nat.lt_irrefl _)
theorem St.L_gt (ok : c.Ok) (st : St c R ρ H s) : 3 < c.L := by
  obtain ⟨m, F, _⟩ := st.fr
  obtain ⟨o, _, _, ho, _⟩ := ok.T.g
  exact Nat.lt_of_lt_of_le (Heap.lt_size ho) F.above
theorem St.R_L (st : St c R ρ H s) : R c.L = none := by
  cases q : R c.L with
  | none => rfl
  | some x => obtain ⟨_, _, _, z, _⟩ := st.hid _ x q; exact absurd rfl z
theorem St.H_L (st : St c R ρ H s) : H c.L = none := by
  cases q : H c.L with
  | none => rfl
  | some x => obtain ⟨_, _, _, z, _⟩ := st.own _ x q; exact absurd rfl z

theorem St.into (ok : c.Ok) (st : St c R ρ H s) {env : Env} {h₁ : Heap} {tk : Nat} {m' : Str → Option Value} {ρ' : Str → Option AV} (hL : env.locals = s.heap.objs.size) (hns : h₁.Ns s.heap.objs.size m')
    (hk : ∀ b o, s.heap.get? b = some o → h₁.get? b = some o) (hr : ∀ x av, ρ' x = some av → ∃ v, m' x = some v ∧ abs v = av) : St (c.on env) (upd R c.L (.ns ρ)) ρ' H { s with heap := h₁, toks := tk } := by
  have sh := st.sh
  have hLL : (c.on env).L = s.heap.objs.size := hL
  have lift : ∀ a ao, OwnAt c s.heap a ao → OwnAt (c.on env) h₁ a ao := fun a ao ⟨o, e1, e2, e3, e4, e5⟩ => ⟨o, hk a o e1, e2, by rw [hLL]; exact Nat.ne_of_lt (Heap.lt_size e1), e4, e5⟩
  refine ⟨?_, fun a ao e => lift a ao (st.own a ao e), fun a ao e => ?_, fun a e => ?_, by rw [sh]; rfl⟩
  · obtain ⟨m, F, r⟩ := st.fr
    refine ⟨m', ⟨by rw [hLL]; exact hns, fun b o e => hk b o (F.keep b o e), ?_⟩, hr⟩
    rw [hLL]; exact Nat.le_trans F.above (Nat.le_of_lt F.ns.lt)
  · by_cases q : a = c.L
    · subst q
      rw [upd_self] at e; cases e
      obtain ⟨m, F, r⟩ := st.fr
      obtain ⟨o, es, ep, e1, e2, e3, e4⟩ := F.ns
      exact ⟨o, hk _ o e1, ⟨es, ep, e2, e3, fun x av hx => by obtain ⟨v, h1, h2⟩ := r x av hx; exact ⟨v, by rw [e4]; exact h1, h2⟩⟩, by rw [hLL]; exact Nat.ne_of_lt (Heap.lt_size e1), st.L_none, st.L_gt ok⟩
    · rw [upd_ne q] at e; exact lift a ao (st.hid a ao e)
  · by_cases q : a = c.L
    · subst q; exact absurd st.H_L e
    · rw [upd_ne q]; exact st.dis a e
theorem St.outOf {env : Env} {ρ' : Str → Option AV} {H' : Ledger} {s' : Shared} (hR : R c.L = none) (hab : c.h₀.objs.size ≤ c.L) (st : St (c.on env) (upd R c.L (.ns ρ)) ρ' H' s') : St c R ρ H' s' := by
  obtain ⟨o, e1, ⟨es, ep, e2, e3, e4⟩, e5, e6, e7⟩ := st.hid c.L _ (upd_self ..)
  have nH : ∀ a, H' a ≠ none → a ≠ c.L := by
    rintro a e rfl
    have := st.dis _ e
    rw [upd_self] at this; cases this
  refine ⟨?_, fun a ao e => ?_, fun a ao e => ?_, fun a e => ?_, st.sh⟩
  · obtain ⟨m, F, _⟩ := st.fr
    exact ⟨nsFind es, ⟨⟨o, es, ep, e1, e2, e3, fun _ => rfl⟩, F.keep, hab⟩, e4⟩
  · obtain ⟨o, x1, x2, x3, x4, x5⟩ := st.own a ao e
    exact ⟨o, x1, x2, nH a (by rw [e]; intro q; cases q), x4, x5⟩
  · have q : a ≠ c.L := fun q => by first | (rw [q, hR] at e; cases e) | (rw [← q, hR] at e; cases e)
    obtain ⟨o, x1, x2, x3, x4, x5⟩ := st.hid a ao (by rw [upd_ne q]; exact e)
    exact ⟨o, x1, x2, q, x4, x5⟩
  · have := st.dis a e
    rwa [upd_ne (nH a e)] at this

noncomputable def BackH (c c' : Cx) (R : Ledger) (ρ : Str → Option AV) (K : Value → Shared → Prop) (fl : Flow) (s : Shared) : Prop :=
  ∃ ρ' H', St c' (upd R c.L (.ns ρ)) ρ' H' s ∧ (St c R ρ H' s → K (retOf fl) s)

variable {name qual : Str} {params : Arguments} {body : List Stmt} {scope : Scope} {cl : List (Str × Addr)} {dV kV doc pm cdv ct : Value} {an : Option Addr} {fo : Obj} {f : Addr} {args : Args} {binds : List (Str × Value)} {d : Nat}

theorem call_hide {Rr : Result → Shared → Prop} (ok : c.Ok) (hdep : A.depth < recursionLimit) (st : St c R ρ H s) (ho : s.heap.get? f = some fo) (hd : fo.data = .func (fnX name qual params body scope cl dV kV doc pm an cdv ct)) (hcd : s.heap.CodeRec cdv qual)
    (hbind : BindsTo s (fnX name qual params body scope cl dV kV doc pm an cdv ct) args binds) (hloc : ∀ y ∈ binds, scope.names.lookup y.1 = some .local) (hcell : ∀ x ∈ scope.names, x.2 ≠ .cell)
    (hco : scope.isCoroutine = false) (hgen : scope.isGenerator = false) (hk : scope.kind = .function)
    (h : ∀ L' s', (c.on (envX qual scope L' f cdv cl)).Ok → St (c.on (envX qual scope L' f cdv cl)) (upd R c.L (.ns ρ)) (fun x => (binds.reverse.lookup x).map abs) H s' →
      wpAny c.M (A.deeper (envX qual scope L' f cdv cl)) (execs body (envX qual scope L' f cdv cl)) (BackH c (c.on (envX qual scope L' f cdv cl)) R ρ fun v s'' => Rr (.ok (.ret v)) s'') (fun _ _ => False) s') :
    codeAny c.M A (.call (.ref f) args) Rr s := by
  obtain ⟨m, F, hr⟩ := st.fr
  refine codeAny_call_def (fd := fnX name qual params body scope cl dV kV doc pm an cdv ct) (body := body) (binds := binds) hdep ho hd (ok.T.nolimit.keeps F.keep) hcd rfl hbind hcell hloc (fun h₁ hns hk₁ => ?_) hco hgen hk
  have ok' : (c.on (envX qual scope s.heap.objs.size f cdv cl)).Ok := ⟨ok.below, ok.K, ok.T, rfl, hk, rfl, rfl⟩
  have st' := st.into ok (env := envX qual scope s.heap.objs.size f cdv cl) (tk := s.toks + binds.length) (ρ' := fun x => (binds.reverse.lookup x).map abs) rfl hns hk₁ (fun x av e => by
    obtain ⟨v, e1, e2⟩ := Option.map_eq_some_iff.mp e
    exact ⟨v, e1, e2⟩)
  refine wpAny_mono (h _ _ ok' st') (fun fl s'' hb => ?_) fun _ _ z => z.elim
  obtain ⟨ρ', H', sb, k⟩ := hb
  have z := k (sb.outOf st.R_L F.above)
  cases fl <;> exact z

theorem callKH {fs : Stmt} {pos : List Value} {kw : List (Str × Value)} {Q : Value → Shared → Prop} (fi : FnIn c.G.K f fs qual dV kV cdv) (ok : c.Ok) (hdep : A.depth < recursionLimit) (st : St c R ρ H s)
    (hbind : ∀ doc pm an ct, BindsTo s (fdK fs qual dV kV doc pm an cdv ct) ⟨pos, kw⟩ binds) (hloc : (binds.all fun y => decide ((scopeOf fs).names.lookup y.1 = some .local)) = true) (hcell : ((scopeOf fs).names.all fun x => decide (x.2 ≠ .cell)) = true)
    (h : ∀ c' L' s', c'.Ok → c'.G = c.G → c' = c.on (envK qual fs L' f cdv []) → St c' (upd R c.L (.ns ρ)) (fun x => (binds.reverse.lookup x).map abs) H s' →
      wpAny c'.M (A.deeper c'.fenv) (execs (bodyOf fs) c'.fenv) (BackH c c' R ρ Q) (fun _ _ => False) s') :
    wpAny c.M A (call (.ref f) pos kw) Q E s := by
  obtain ⟨doc, pm, an, ct, e⟩ := fi.fn
  obtain ⟨o, h1, h2⟩ := funcAt_get e
  obtain ⟨m, F, _⟩ := st.fr
  have KI := ok.K.keeps F.keep
  refine wpAny_call (call_hide ok hdep st (KI _ _ h1) h2 (codeRec_of KI fi.code) (hbind doc pm an ct) (locs hloc) (fun x hx => of_decide_eq_true (List.all_eq_true.mp hcell x hx)) fi.co fi.gen fi.kind fun L' s' ok' st' => ?_)
  exact h _ L' s' ok' rfl rfl st'

noncomputable def FramesIn (R : Ledger) (l : List Env) : Prop := ∀ env ∈ l, env.scope.kind = .function ∧ ∃ b r, env.frame = some b ∧ R b = some (.ns r)
theorem FramesIn.push {l : List Env} (ok : c.Ok) (x : FramesIn R l) (hR : R c.L = none) : FramesIn (upd R c.L (.ns ρ)) (c.fenv :: l) := by
  intro env he
  rcases List.mem_cons.mp he with rfl | he
  · exact ⟨ok.fn, c.L, ρ, ok.frame, upd_self ..⟩
  · obtain ⟨h1, b, r, h2, h3⟩ := x env he
    refine ⟨h1, b, r, h2, ?_⟩
    rw [upd_ne]
    · exact h3
    · rintro rfl; rw [hR] at h3; cases h3
theorem FramesIn.frs (st : St c R ρ H s) : ∀ {l : List Env}, FramesIn R l → ∃ frs : List (Addr × Obj), TI.Frs l frs ∧ ∀ p ∈ frs, s.heap.get? p.1 = some p.2 ∧ ∃ r, R p.1 = some (.ns r)
  | [], _ => ⟨[], trivial, fun _ h => nomatch h⟩
  | env :: l, x => by
    obtain ⟨frs, h1, h2⟩ := FramesIn.frs st (l := l) fun e he => x e (List.mem_cons_of_mem _ he)
    obtain ⟨k, b, r, hb, hr⟩ := x env List.mem_cons_self
    obtain ⟨o, e1, es, ep, e2, _⟩ := st.getR hr
    refine ⟨(b, o) :: frs, ⟨by rw [k]; decide, hb, ⟨es, ep, e2⟩, h1⟩, fun p hp => ?_⟩
    rcases List.mem_cons.mp hp with rfl | hp
    · exact ⟨e1, r, hr⟩
    · exact h2 p hp

theorem passesFalse {M : Model} {A A' : Around} {env : Env} : PassesOwnAt M A A' env (fun _ _ => False) := by passes_own
end
section
variable {c : Cx} {R : Ledger} {ρ : Str → Option AV} {H : Ledger} {s : Shared} {A A₁ : Around} {E : Value → Shared → Prop} {name : Str} {scope : Scope} {f : Addr} {cd : Value}

theorem St.restore (st : St c R ρ H s) {frs frs' : List (Addr × Obj)} (hfrs : ∀ p ∈ frs, s.heap.get? p.1 = some p.2 ∧ ∃ r, R p.1 = some (.ns r)) (SU : TI.SameUp frs frs') {h' : Heap} {tk : Nat} {m : Str → Option Value}
    (hr : ∀ x av, ρ x = some av → ∃ v, m x = some v ∧ abs v = av) (F : Fr c.h₀ c.L h' m)
    (N : News c.h₀ c.L h' ((newsOf s.heap R H).filter (fun p => !decide (p.1 ∈ frs.map (·.1))) ++ frs')) : St c R ρ H { s with heap := h', toks := tk } := by
  have sh := st.sh
  have keep : ∀ a o, (H a ≠ none ∨ R a ≠ none) → s.heap.get? a = some o → a ∉ frs.map (·.1) → h'.get? a = some o := fun a o hn ho hm =>
    (N (a, o) (List.mem_append_left _ (List.mem_filter.mpr ⟨mem_newsOf.mpr ⟨hn, ho⟩, by simpa using hm⟩))).1
  refine ⟨⟨m, F, hr⟩, fun a ao e => ?_, fun a ao e => ?_, st.dis, by rw [sh]⟩
  · obtain ⟨o, x1, x2, x3⟩ := st.own a ao e
    refine ⟨o, keep a o (.inl (by rw [e]; intro q; cases q)) x1 fun hm => ?_, x2, x3⟩
    obtain ⟨p, hp, rfl⟩ := List.mem_map.mp hm
    obtain ⟨_, r, hr⟩ := hfrs p hp
    rw [st.dis p.1 (by rw [e]; intro q; cases q)] at hr; cases hr
  · obtain ⟨o, x1, x2, x3⟩ := st.hid a ao e
    by_cases hm : a ∈ frs.map (·.1)
    · obtain ⟨p, hp, rfl⟩ := List.mem_map.mp hm
      obtain ⟨hpo, r, hr⟩ := hfrs p hp
      rw [e] at hr; cases hr
      rw [x1] at hpo; cases hpo
      obtain ⟨sl, hm'⟩ := SU.back p hp
      exact ⟨_, (N _ (List.mem_append_right _ hm')).1, x2, x3⟩
    · exact ⟨o, keep a o (.inr (by rw [e]; intro q; cases q)) x1 hm, x2, x3⟩

theorem tryE {X : String} {body : List Stmt} {x : Str} {np pos hpos : Pos} {b₀ : Stmt} {suite : List Stmt} {l : List Env} {Q : Flow → Shared → Prop} (ok : c.Ok) (hA : A = A₁.deeper c.fenv) (hfr : A₁.frames = some l) (FI : FramesIn R l)
    (he : c.fenv = envOf name scope c.L f cd) (hx : nsIn c.G.K mainGlobals x = some none) (hv : bootBuiltins x = some (.type X)) (hn : x ≠ "__name__") (hkx : c.fenv.kindOf x = some .globalImplicit)
    (hexc : isSubtype (.type X) (.type "BaseException") = pure true) (hnt : isSubtype (.type ((Manifest.find? X).elim "type" fun y => y.metatype)) (.type "tuple") = pure false) (hsub : isSubtype (.type X) (.type X) = pure true)
    (h : wpAny c.M A (execs body c.fenv) Q (fun e s₁ => ∃ a h ρ H, e = .ref a ∧ Heap.NewExc h s₁.heap a X ∧ St c R ρ H { s₁ with heap := h } ∧
      (∀ s₂, St c R ρ H s₂ → wpAny c.M (A.mark (some (.ref a))) (execs (b₀ :: suite) c.fenv) Q (fun _ _ => False) s₂)) s)
    (hd : (x == ("__debug__" : Str)) = false) :
    wpAny c.M A (exec (.Try body [.ExceptHandler (some (.Name x np)) none (b₀ :: suite) hpos] [] [] pos) c.fenv) Q (fun _ _ => False) s := by
  have hk : scope.kind = .function := by have := ok.fn; rw [he] at this; exact this
  refine wpAny_Try_except (wpAny_mono h (fun fl s₁ h₁ => ?_) fun e s₁ h₁ => ?_)
  · cases fl <;> first | exact wpAny_execs_nil h₁ | exact h₁
  · obtain ⟨a, hp, ρ, H, rfl, hx1, st, k⟩ := h₁
    obtain ⟨frs, hF, hfrs⟩ := FI.frs st
    obtain ⟨m, F, hr⟩ := st.fr
    have N := st.news
    have hNews : News c.h₀ c.L hp ((newsOf hp R H).filter (fun p => !decide (p.1 ∈ frs.map (·.1))) ++ frs) := fun p hpp => by
      rcases List.mem_append.mp hpp with q | q
      · exact N p (List.mem_filter.mp q).1
      · obtain ⟨h1, r, h2⟩ := hfrs p q
        obtain ⟨_, _, _, h3, h4, _⟩ := st.hid _ _ h2
        exact ⟨h1, h3, h4⟩
    have hap : ∀ p ∈ (newsOf hp R H).filter (fun p => !decide (p.1 ∈ frs.map (·.1))), p.1 ∉ c.L :: frs.map (·.1) := fun p hpp hm => by
      obtain ⟨q1, q2⟩ := List.mem_filter.mp hpp
      rcases List.mem_cons.mp hm with e | e
      · exact (N p q1).2.1 e
      · simp [e] at q2
    have key : wpAny c.M (A₁.deeper (envOf name scope c.L f cd)) (noteFrame (.ref a) (envOf name scope c.L f cd)) (fun _ s₂ => wpAny c.M A (setFlight (.ref a) none) (fun _ s₃ => wpAny c.M A (handleBy (.ref a) c.fenv [.ExceptHandler (some (.Name x np)) none (b₀ :: suite) hpos]) Q (fun _ _ => False) s₃) (fun _ _ => False) s₂) (fun _ _ => False) s₁ := by
      refine TLg.noted_newA hfr hF hx1 F hNews hap (fun h' frs' SU Fs' HN => ?_) hk
      refine TT.HeldNA.land HN fun h2 HN2 => ?_
      have stA : St c R ρ H { s₁ with heap := h2 } := st.restore (tk := s₁.toks) hfrs SU hr HN2.held.fr HN2.made
      refine wpAny_handleBy_builtin (X := X) (T := X) (b := true) hexc hnt hsub ?_
      refine nameB ok stA hx hv hn ⟨rfl, HN2.isA, ?_⟩ ok.glob ok.blt ok.fn hkx hd
      rw [if_pos rfl]
      refine HN2.lands fun h3 F3 N3 => ?_
      exact wpAny_mono (k _ (st.restore (tk := s₁.toks) hfrs SU hr F3 N3)) (fun _ _ z => z) fun _ _ z => z.elim
    rw [← he, ← hA] at key
    exact key
end


theorem slot_li_ga : Slot "list_iterator" "__getattribute__" "object.__getattribute__" :=
  .of (owner := "object") (n := "__getattribute__") (by rw [typeLookup_type, builtinLookup_eq_fast]; kernel_rfl) (by decide +kernel) (by decide +kernel) (by decide +kernel)
    (by first | exact .inl (by decide +kernel) | exact .inr (by decide +kernel)) (by rw [isSubtype_type]; kernel_rfl)
theorem slot_wd_get : Slot "wrapper_descriptor" "__get__" "wrapper_descriptor.__get__" :=
  .of (owner := "wrapper_descriptor") (n := "__get__") (by rw [typeLookup_type, builtinLookup_eq_fast]; kernel_rfl) (by decide +kernel) (by decide +kernel) (by decide +kernel)
    (by first | exact .inl (by decide +kernel) | exact .inr (by decide +kernel)) (by rw [isSubtype_type]; kernel_rfl)
theorem args_wd_get (a b c : Value) : argsOk "wrapper_descriptor.__get__" ⟨[a, b, c], []⟩ := by unfold argsOk; kernel_rfl
theorem entry_wd_get : entryFor table "wrapper_descriptor.__get__" = some Builtin.«wrapper_descriptor.__get__» := entryFor_of_tree (by kernel_rfl)
theorem type_li_next : typeOf (.builtin "list_iterator.__next__") = pure (.type "wrapper_descriptor") := by kernel_rfl
theorem lk_li_next : typeLookup (.type "list_iterator") "__next__" = pure (some (.builtin "list_iterator.__next__")) := by rw [typeLookup_type, builtinLookup_eq_fast]; kernel_rfl
theorem lk_wd_get : typeLookup (.type "wrapper_descriptor") "__get__" = pure (some (.builtin "wrapper_descriptor.__get__")) := by rw [typeLookup_type, builtinLookup_eq_fast]; kernel_rfl
theorem lk_wd_set : typeLookup (.type "wrapper_descriptor") "__set__" = pure none := by rw [typeLookup_type, builtinLookup_eq_fast]; kernel_rfl
theorem lk_wd_del : typeLookup (.type "wrapper_descriptor") "__delete__" = pure none := by rw [typeLookup_type, builtinLookup_eq_fast]; kernel_rfl
theorem li_owner : (".".intercalate ("list_iterator.__next__".cutAt '.').dropLast) = "list_iterator" := by
  have e0 : "list_iterator.__next__".cutAt '.' = ["list_iterator", "__next__"] := by first | rfl | decide +kernel
  rw [e0]; decide +kernel
theorem sub_li : isSubtype (.type "list_iterator") (.type (".".intercalate ("list_iterator.__next__".cutAt '.').dropLast)) = pure true := by rw [li_owner, isSubtype_type]; kernel_rfl

noncomputable def mwO (it : Addr) : Obj := { cls := .type "method-wrapper", data := .fields #[.builtin "list_iterator.__next__", .ref it] }
section
variable {prog : Program} {w : World} {A : Around} {E : Value → Shared → Prop} {h : Heap} {g : Array GenState} {d : Drawn} {t : Nat} {os : OsState} {it : Addr} {o : Obj}

theorem wd_get {R : Result → Shared → Prop} (hx : h.get? it = some o) (hc : o.cls = .type "list_iterator") (hq : R (.ok (.ret (.ref h.objs.size))) ⟨h.push (mwO it), g, d, t, os⟩) :
    codeAny (model prog w) A (.call (.builtin "wrapper_descriptor.__get__") ⟨[.builtin "list_iterator.__next__", .ref it, .type "list_iterator"], []⟩) R ⟨h, g, d, t, os⟩ := by
  have hT : (⟨h, g, d, t, os⟩ : Shared).TypeIs (.ref it) "list_iterator" := ⟨_, hx, hc⟩
  have hT5 : (⟨h, g, d, t, os⟩ : Shared).TypeIs (.builtin "list_iterator.__next__") "wrapper_descriptor" := type_li_next
  have f8 := sub_li
  refine codeAny_call_builtin slot_wd_get.plain entry_wd_get (slot_wd_get.check _ _ _ _ _ _ _ _ hT5 (args_wd_get _ _ _) ?_)
  repeat (any_goals (first | assumption | wp_step))

noncomputable def liB (l : Addr) : Obj := { cls := .type "list_iterator", data := .fields #[.ref l, .int 0 0] }
theorem ga_entry {l : Addr} {tk : Tok} {Q : Fin → Shared → Prop} (hx : h.get? it = some (liB l)) (hq : Q (.done (.ret (.ref h.objs.size))) ⟨h.push (mwO it), g, d, t, os⟩) :
    wpAny (model prog w) A (Builtin.«object.__getattribute__» ⟨[.ref it, .str "__next__" tk], []⟩) Q E ⟨h, g, d, t, os⟩ := by
  have hT : (⟨h, g, d, t, os⟩ : Shared).TypeIs (.ref it) "list_iterator" := ⟨_, hx, rfl⟩
  have hT5 : (⟨h, g, d, t, os⟩ : Shared).TypeIs (.builtin "list_iterator.__next__") "wrapper_descriptor" := type_li_next
  have f4 := lk_li_next
  have f5 := type_li_next
  have f6 := lk_wd_get
  have f7 := lk_wd_set
  have f8 := lk_wd_del
  repeat (any_goals (first | assumption | wp_step))
  exact wd_get hx rfl (wpAny_pure hq)

theorem ga_attr {l : Addr} {expr : Bool} {Q : Value → Shared → Prop} (hx : h.get? it = some (liB l)) (hq : Q (.ref h.objs.size) ⟨h.push (mwO it), g, d, t + 1, os⟩) :
    wpAny (model prog w) A (getAttr (.ref it) "__next__" expr) Q E ⟨h, g, d, t, os⟩ := by
  have hT : ∀ t', (⟨h, g, d, t', os⟩ : Shared).TypeIs (.ref it) "list_iterator" := fun _ => ⟨_, hx, rfl⟩
  have hlk := slot_li_ga.lookup
  unfold getAttr getAttrBy
  refine wpAny_bind (wpAny_mkText (wpAny_holding (wpAny_bind (wpAny_typeOf (hT _) (wpAny_bind (wpAny_of_eq hlk ?_))))))
  show wpAny _ _ (getAttrByItsOwn (.ref it) (.str "__next__" t) (.type "list_iterator") (.builtin "object.__getattribute__") true expr) _ _ _
  unfold getAttrByItsOwn hookBefore callGetattribute boundAndCalled
  refine wpAny_bind (wpAny_of_eq (show (if onTheHeap (.type "list_iterator") then typeLookup (.type "list_iterator") "__getattr__" else pure none) = pure none from rfl) ?_)
  refine wpAny_bind (wpAny_attempt (wpAny_holding ?_))
  rw [show (expr && onTheHeap (.builtin "object.__getattribute__")) = false by simp [onTheHeap]]
  show wpAny _ _ (bindSpecial (.builtin "object.__getattribute__") (.ref it) >>= _) _ _ _
  refine wpAny_bind (wpAny_of_eq (slot_li_ga.bind _) ?_)
  refine wpAny_mono (Q := fun v s' => v = .ref h.objs.size ∧ s' = ⟨h.push (mwO it), g, d, t + 1, os⟩) (E := fun _ _ => False)
    (wpAny_call_entry slot_li_ga (hT _) PySem.F.entry_object_getattribute (ga_entry hx ⟨_, rfl, rfl, rfl⟩) (PySem.F.args_object_getattribute_2 _ _)) (fun v s' hv => ?_) fun _ _ z => z.elim
  obtain ⟨rfl, rfl⟩ := hv
  exact wpAny_pure hq
end

section
variable {c : Cx} {R : Ledger} {ρ : Str → Option AV} {H : Ledger} {s : Shared} {A : Around} {E : Value → Shared → Prop}

noncomputable def liX (l : Addr) : AO := .obj fun o => o = liB l
noncomputable def mwX (it : Addr) : AO := .obj fun o => o = mwO it

theorem iterOf {l : Addr} {xs : List AV} {Q : Value → Shared → Prop} (ok : c.Ok) (st : St c R ρ H s) (hl : SeesL c H l xs) (h : ∀ it s', H it = none → St c R ρ (upd H it (liX l)) s' → Q (.ref it) s') : wpAny c.M A (call (.builtin "iter") [.ref l]) Q E s := by
  obtain ⟨vs, hL, el⟩ := st.list hl
  refine call_function_entry (by decide +kernel) (by decide +kernel) kdk_entry_iter (kdk_args_iter _) ?_
  unfold Builtin.«iter»
  refine wpAny_bind (m := someArgs "iter" 1 2 _) (wpAny_of_eq (a := [Value.ref l]) (by first | rfl | kernel_rfl!) ?_)
  show wpAny _ _ (pyIter (.ref l) >>= _) _ _ _
  refine wpAny_bind (wpAny_pyIter_list hL ?_)
  exact wpAny_pure ⟨_, rfl, h _ _ st.none_size (st.alloc ok (o := liB l) (ao := liX l) rfl rfl)⟩

theorem nextAttr {it l : Addr} {expr : Bool} {Q : Value → Shared → Prop} (ok : c.Ok) (st : St c R ρ H s) (hi : H it = some (liX l)) (h : ∀ w s', H w = none → St c R ρ (upd H w (mwX it)) s' → Q (.ref w) s') :
    wpAny c.M A (getAttr (.ref it) "__next__" expr) Q E s := by
  obtain ⟨o, e, rfl⟩ := st.get hi
  have h2 := (st.alloc ok (o := mwO it) (ao := mwX it) rfl rfl).toks (s.toks + 1)
  have h3 := h _ _ st.none_size h2
  obtain ⟨hp, g, d, t, os⟩ := s
  exact ga_attr e h3

theorem entry_li_next : entryFor table "list_iterator.__next__" = some Builtin.«list_iterator.__next__» := entry_listiter_next
theorem check_li {a : Value} : checkBoundCall "list_iterator.__next__" ⟨[a], []⟩ = pure () := by first | kernel_rfl | rfl
theorem quiet_li (args : Args) : Code.quiet (.builtin "list_iterator.__next__" args) = true := Code.quiet_builtin _ (by decide +kernel)
theorem stands_mw {w it : Addr} {M : Model} {h : Heap} (hw : h.get? w = some (mwO it)) : Looks M h (keeperOf (.ref w)) .machine := by
  unfold keeperOf
  refine Looks.andThen (Looks.ld hw) ?_
  simp only [mwO, show (Value.type "method-wrapper" != Value.type "method") = true by decide, show (Value.type "method-wrapper" == Value.type "builtin_function_or_method" || Value.type "method-wrapper" == Value.type "method-wrapper") = true by decide, if_true]
  exact Looks.now
theorem cwMw {w it : Addr} {pos : Pos} {env : Env} {Q : Value → Shared → Prop} (st : St c R ρ H s) (hw : H w = some (mwX it)) (h : wpAny c.M A (call (.ref w) []) Q E s) :
    wpAny c.M A (callWith pos (.ref w) [] (backTo pos (starEach [] env)) []) Q E s := by
  obtain ⟨o, e, rfl⟩ := st.get hw
  exact callWith_of (P := fun h => h.get? w = some (mwO it)) rfl (fun h x => ⟨.machine, .inr (.inl rfl), stands_mw x⟩) (evalArgs_nil3 ⟨e, h⟩)

theorem mwCall {w it : Addr} {Q : Value → Shared → Prop} (hw : s.heap.get? w = some (mwO it))
    (h : wpAny c.M A.in1 (Builtin.«list_iterator.__next__» ⟨[.ref it], []⟩) (fun fin s' => ∃ v, fin = .done (.ret v) ∧ Q v s') E s) : wpAny c.M A (call (.ref w) []) Q E s := by
  refine wpAny_call (codeAny_of_tree ?_)
  show wpAny _ A.in1 (callAny (.ref w) ⟨[], []⟩) _ _ s
  simp only [callAny]
  refine wpAny_bind (wpAny_load hw ?_)
  simp only [mwO, show (Value.type "method-wrapper" == Value.type "method" || Value.type "method-wrapper" == Value.type "builtin_function_or_method" || Value.type "method-wrapper" == Value.type "method-wrapper") = true by decide, if_true]
  show wpAny _ _ (if (Value.type "method-wrapper" != Value.type "method") = true then _ else _) _ _ _
  rw [if_pos (by decide)]
  refine wpAny_bind (wpAny_of_eq (a := ()) check_li ?_)
  refine wpAny_bind (wpAny_pure (wpAny_pure ?_))
  refine ⟨quiet_li _, codeAny_builtin entry_li_next (wpAny_mono h (fun fin s' hq => ?_) fun _ _ z => z)⟩
  obtain ⟨v, rfl, hq⟩ := hq
  exact hq

theorem nextItem {w it l : Addr} {i : Nat} {xs : List AV} {av : AV} {Q : Value → Shared → Prop} (st : St c R ρ H s) (hw : H w = some (mwX it)) (hi : H it = some (liO l i)) (hl : SeesL c H l xs) (hx : xs[i]? = some av)
    (h : ∀ v s', abs v = av → St c R ρ (upd H it (liO l (i + 1))) s' → Q v s') : wpAny c.M A (call (.ref w) []) Q E s := by
  obtain ⟨ow, ew, rfl⟩ := st.get hw
  refine mwCall (c := c) ew ?_
  obtain ⟨o, ho, hc, hd⟩ := st.get hi
  obtain ⟨vs, hL, el⟩ := st.list hl
  obtain ⟨ol, hol, _, nl, hdl⟩ := hL
  rw [← el, List.getElem?_map] at hx
  obtain ⟨v, h1, h2⟩ := Option.map_eq_some_iff.mp hx
  have hx' : vs.toArray[i]? = some v := by simpa using h1
  show wpAny _ _ (field (.ref it) 0 >>= _) _ _ s
  refine wpAny_bind (wpAny_field ho hd (x := .ref l) rfl ?_)
  show wpAny _ _ (if (Value.ref l == Value.none) = true then _ else _) _ _ s
  rw [if_neg (show ¬ ((Value.ref l == Value.none) = true) from Bool.false_ne_true)]
  show wpAny _ _ (field (.ref it) 1 >>= _) _ _ s
  refine wpAny_bind (wpAny_field ho hd (x := .int i 0) rfl ?_)
  show wpAny _ _ (seqItems? (.ref l) >>= _) _ _ s
  refine wpAny_bind (wpAny_seqItems hol hdl ?_)
  simp only [Int.toNat_natCast, hx']
  refine wpAny_bind (wpAny_setField ho hd (by simp) (wpAny_pure ⟨v, rfl, h v _ h2 ?_⟩))
  exact st.set (tk := s.toks) (ao' := liO l (i + 1)) hi (Heap.SameBut.update ..) (Heap.get?_update_self _ ho (Obj.isFreed_of_fields (Obj.data_mapFields hd _))) ⟨(Obj.cls_mapFields ..).trans hc, by
    rw [Obj.data_mapFields hd]; simp [rawInt]⟩

noncomputable def endO : AO := .obj fun _ => True
theorem nextStop {w it l : Addr} {i : Nat} {xs : List AV} {Q : Value → Shared → Prop} (hh : A.handled = none) (st : St c R ρ H s) (hw : H w = some (mwX it)) (hi : H it = some (liO l i)) (hl : SeesL c H l xs) (hx : xs[i]? = none)
    (h : ∀ a hp s', Heap.NewExc hp s'.heap a "StopIteration" → St c R ρ (upd H it endO) { s' with heap := hp } → E (.ref a) s') : wpAny c.M A (call (.ref w) []) Q E s := by
  obtain ⟨ow, ew, rfl⟩ := st.get hw
  refine mwCall (c := c) ew ?_
  obtain ⟨o, ho, hc, hd⟩ := st.get hi
  obtain ⟨vs, hL, el⟩ := st.list hl
  obtain ⟨ol, hol, _, nl, hdl⟩ := hL
  rw [← el, List.getElem?_map] at hx
  have hx' : vs.toArray[i]? = none := by simpa using hx
  show wpAny _ _ (field (.ref it) 0 >>= _) _ _ s
  refine wpAny_bind (wpAny_field ho hd (x := .ref l) rfl ?_)
  show wpAny _ _ (if (Value.ref l == Value.none) = true then _ else _) _ _ s
  rw [if_neg (show ¬ ((Value.ref l == Value.none) = true) from Bool.false_ne_true)]
  show wpAny _ _ (field (.ref it) 1 >>= _) _ _ s
  refine wpAny_bind (wpAny_field ho hd (x := .int i 0) rfl ?_)
  show wpAny _ _ (seqItems? (.ref l) >>= _) _ _ s
  refine wpAny_bind (wpAny_seqItems hol hdl ?_)
  simp only [Int.toNat_natCast, hx']
  refine wpAny_bind (wpAny_rule (wpAny_bind (wpAny_setField ho hd (by simp) ?_)))
  show wpAny _ _ (newExc (.type "StopIteration") [] >>= _) _ _ _
  refine wpAny_bind ?_
  simp only [newExc, newTuple]
  refine wpAny_bind (wpAny_newObj_type ?_ (by size_fits))
  refine wpAny_bind (m := firstArgMember _ _) (wpAny_of_eq (a := Value.none) (by first | rfl | (simp only [firstArgMember]; rfl)) ?_)
  refine wpAny_newObj_type ?_ (by size_fits)
  simp only [raiseNew]
  refine wpAny_bind (wpAny_handled ?_)
  rw [show A.in1.handled = none from hh]
  refine wpAny_bind (wpAny_pure (wpAny_throw ?_))
  refine h _ _ _ ⟨fun b o e => Heap.get?_push_of_some _ (Heap.get?_push_of_some _ e), Heap.get?_none_of_le (by simp), _, _, Heap.get?_push_size _ rfl, rfl, rfl⟩ ?_
  exact st.set (tk := s.toks) (ao' := endO) hi (Heap.SameBut.update ..) (Heap.get?_update_self _ ho (Obj.isFreed_of_fields (Obj.data_mapFields hd _))) trivial
end

section
variable {c : Cx} {R : Ledger} {ρ : Str → Option AV} {H : Ledger} {s : Shared} {A : Around} {E : Value → Shared → Prop} {S : Int → Bool} {n : Nat} {a : Addr} {k : Int} {t : Tok}

noncomputable def setO (c : Cx) (S : Int → Bool) (n : Nat) : AO := .obj fun o => o.SetObjOf (PySem.intKind c.G.prog c.G.w) S n

theorem newS {Q : Value → Shared → Prop} (ok : c.Ok) (st : St c R ρ H s) (h : ∀ a s', H a = none → St c R ρ (upd H a (setO c (fun _ => false) 0)) s' → Q (.ref a) s') : wpAny c.M A (call (.type "set") []) Q E s :=
  call_set_0 fun led => h _ _ st.none_size (st.alloc ok (o := { cls := .type "set", dict := none, data := .set #[] 0 (.fresh 0 0 led) }) (ao := setO c (fun _ => false) 0) (setObjOf_fresh (knd := PySem.intKind c.G.prog c.G.w) led) rfl)
theorem inS {Q : Value → Shared → Prop} (st : St c R ρ H s) (ha : H a = some (setO c S n)) (hb : n < scanBound) (h : ∀ s', St c R ρ H s' → Q (.bool (S k)) s') : wpAny c.M A (compareOp .In (.int k t) (.ref a)) Q E s := by
  obtain ⟨o, e, hi⟩ := st.get ha
  exact wpAny_inSet_of (knd := PySem.intKind c.G.prog c.G.w) (intKind_is _ _ _ _) rfl (Obj.SetObjOf.setOf hi e hb) (h _ (st.toks _))
theorem methS {pl : Sem Bool} {Q : Value × List Value → Shared → Prop} (st : St c R ρ H s) (ha : H a = some (setO c S n)) (hb : n < scanBound) (h : Q (.builtin "set.add", [.ref a]) s) : wpAny c.M A (getMethod (.ref a) "add" pl) Q E s := by
  obtain ⟨o, e, hi⟩ := st.get ha
  exact getMethod_set_add (knd := PySem.intKind c.G.prog c.G.w) (Obj.SetObjOf.setOf hi e hb) h
theorem addS {Q : Value → Shared → Prop} (st : St c R ρ H s) (ha : H a = some (setO c S n)) (hb : n + 1 < scanBound)
    (h : ∀ s', St c R ρ (upd H a (setO c (fun k' => S k' || decide (k' = k)) (if S k then n else n + 1))) s' → Q .none s') : wpAny c.M A (call (.builtin "set.add") [.ref a, .int k t]) Q E s := by
  obtain ⟨o, e, hi⟩ := st.get ha
  refine call_set_add (knd := PySem.intKind c.G.prog c.G.w) (intKind_is _ _ _ _) rfl (Obj.SetObjOf.setOf hi e (by exact om61 hb)) hb fun h' hsb hS' => ?_
  obtain ⟨so', ho', hso'⟩ := hS'.objOf
  exact h _ (st.set (tk := s.toks + 1) (ao' := setO c (fun k' => S k' || decide (k' = k)) (if S k then n else n + 1)) ha hsb ho' hso')
end


structure Fm where
  v : Int
  p : Nat
  it : Addr
  w : Addr

noncomputable def rem (ks : List Int) (S : Int → Bool) (f : Int → Nat) : Nat := ((ks.filter fun v => !S v).map f).sum
theorem rem_cons (a : Int) (r : List Int) (S : Int → Bool) (f : Int → Nat) : rem (a :: r) S f = (if S a then 0 else f a) + rem r S f := by
  unfold rem
  rw [List.filter_cons]
  cases S a <;> simp
theorem rem_off {S : Int → Bool} {f : Int → Nat} {k : Int} : ∀ {ks : List Int}, k ∉ ks → rem ks (fun k' => S k' || decide (k' = k)) f = rem ks S f
  | [], _ => rfl
  | a :: r, h => by
    have ha : a ≠ k := fun e => h (e ▸ List.mem_cons_self)
    rw [rem_cons, rem_cons, rem_off (S := S) (f := f) (ks := r) fun e => h (List.mem_cons_of_mem _ e)]
    simp [ha]
theorem rem_add {S : Int → Bool} {f : Int → Nat} {k : Int} (hS : S k = false) : ∀ {ks : List Int}, ks.Nodup → k ∈ ks → rem ks S f = rem ks (fun k' => S k' || decide (k' = k)) f + f k
  | a :: r, hn, hk => by
    rw [List.nodup_cons] at hn
    rw [rem_cons, rem_cons]
    by_cases ha : a = k
    · subst ha
      rw [rem_off hn.1]
      simp [hS]
      exact om62
    · have hk' : k ∈ r := by
        rcases List.mem_cons.mp hk with e | e
        · exact absurd e.symm ha
        · exact e
      rw [rem_add hS (f := f) hn.2 hk']
      simp [ha]
      exact om63

noncomputable def pend (sc : Int → List Int) (fs : List Fm) : Nat := (fs.map fun f => (sc f.v).length - f.p).sum
theorem pend_snoc (sc : Int → List Int) (fs : List Fm) (f : Fm) : pend sc (fs ++ [f]) = pend sc fs + ((sc f.v).length - f.p) := by
  unfold pend; simp

structure Cy (c : Cx) (H₀ : Ledger) (a1 a2 a3 a4 : Addr) (sa : Int → Addr) (S : Int → Bool) (n : Nat) (fs : List Fm) (H : Ledger) : Prop where
  sub : Sub H₀ H
  stk : H a1 = some (.list (fs.map fun f => .int f.v))
  its : H a2 = some (.list (fs.map fun f => .ref f.w))
  seen : H a3 = some (setO c S n)
  idx : ∃ es ep, H a4 = some (.dict es ep) ∧ es.map (·.1) = fs.map (·.v)
  fr : ∀ f ∈ fs, H f.w = some (mwX f.it) ∧ H f.it = some (liO (sa f.v) f.p) ∧ H₀ f.w = none ∧ H₀ f.it = none ∧ f.w ≠ a3 ∧ f.it ≠ a3
  dist : (fs.map (·.it)).Nodup
  cross : ∀ f ∈ fs, ∀ f' ∈ fs, f.it ≠ f'.w
structure Fresh4 (H₀ : Ledger) (a1 a2 a3 a4 : Addr) : Prop where
  n1 : H₀ a1 = none
  n2 : H₀ a2 = none
  n3 : H₀ a3 = none
  n4 : H₀ a4 = none
  e12 : a1 ≠ a2
  e13 : a1 ≠ a3
  e14 : a1 ≠ a4
  e23 : a2 ≠ a3
  e24 : a2 ≠ a4
  e34 : a3 ≠ a4

section
variable {c : Cx} {H₀ H : Ledger} {a1 a2 a3 a4 : Addr} {sa : Int → Addr} {S : Int → Bool} {n : Nat} {fs : List Fm}

theorem Cy.step {f : Fm} (C : Cy c H₀ a1 a2 a3 a4 sa S n (fs ++ [f]) H) : Cy c H₀ a1 a2 a3 a4 sa S n (fs ++ [{ f with p := f.p + 1 }]) (upd H f.it (liO (sa f.v) (f.p + 1))) := by
  obtain ⟨f1, f2, f3, f4, f5, f6⟩ := C.fr f (by simp)
  have other : ∀ b ao, H b = some ao → (∀ P, ao ≠ .obj P) → upd H f.it (liO (sa f.v) (f.p + 1)) b = some ao := fun b ao e hn => by
    rw [upd_ne]; exact e
    rintro rfl
    rw [f2] at e
    exact hn _ (Option.some.inj e).symm
  have hd := C.dist
  rw [List.map_append, List.nodup_append] at hd
  refine ⟨?_, ?_, ?_, ?_, ?_, ?_, ?_, ?_⟩
  · exact ⟨fun b ao e => by
      have : b ≠ f.it := fun q => by first | (rw [q, f4] at e; cases e) | (rw [← q, f4] at e; cases e)
      rw [upd_ne this]; exact C.sub.le b ao e⟩
  · have := other _ _ C.stk (fun P q => by cases q)
    simpa using this
  · have := other _ _ C.its (fun P q => by cases q)
    simpa using this
  · rw [upd_ne (Ne.symm f6)]; exact C.seen
  · obtain ⟨es, ep, h1, h2⟩ := C.idx
    refine ⟨es, ep, other _ _ h1 (fun P q => by cases q), ?_⟩
    rw [h2]; simp
  · intro g hg
    rcases List.mem_append.mp hg with hg | hg
    · obtain ⟨g1, g2, g3, g4, g5, g6⟩ := C.fr g (by simp [hg])
      refine ⟨?_, ?_, g3, g4, g5, g6⟩
      · rw [upd_ne (Ne.symm (C.cross f (by simp) g (by simp [hg])))]; exact g1
      · rw [upd_ne (hd.2.2 g.it (List.mem_map.mpr ⟨g, hg, rfl⟩) f.it (by simp))]; exact g2
    · rw [List.mem_singleton] at hg
      subst hg
      refine ⟨?_, upd_self .., f3, f4, f5, f6⟩
      rw [upd_ne (Ne.symm (C.cross f (by simp) f (by simp)))]; exact f1
  · have := C.dist
    simpa using this
  · intro g hg g' hg'
    have key : ∀ x ∈ fs ++ [{ f with p := f.p + 1 }], ∃ y ∈ fs ++ [f], y.it = x.it ∧ y.w = x.w := fun x hx => by
      rcases List.mem_append.mp hx with hx | hx
      · exact ⟨x, by simp [hx], rfl, rfl⟩
      · rw [List.mem_singleton] at hx; subst hx; exact ⟨f, by simp, rfl, rfl⟩
    obtain ⟨y, hy, e1, _⟩ := key g hg
    obtain ⟨y', hy', _, e2⟩ := key g' hg'
    rw [← e1, ← e2]
    exact C.cross y hy y' hy'

theorem Cy.pop {f : Fm} {es : List (Int × AV)} {ep : Nat} (X : Fresh4 H₀ a1 a2 a3 a4) (C : Cy c H₀ a1 a2 a3 a4 sa S n (fs ++ [f]) H) (he : es.map (·.1) = fs.map (·.v)) :
    Cy c H₀ a1 a2 a3 a4 sa S n fs (upd (upd (upd (upd H f.it endO) a1 (.list (fs.map fun f => .int f.v))) a4 (.dict es ep)) a2 (.list (fs.map fun f => .ref f.w))) := by
  obtain ⟨f1, f2, f3, f4, f5, f6⟩ := C.fr f (by simp)
  have hd := C.dist
  rw [List.map_append, List.nodup_append] at hd
  have i1 : f.it ≠ a1 := fun q => by first | (rw [q, C.stk] at f2; cases f2) | (rw [← q, C.stk] at f2; cases f2)
  have i2 : f.it ≠ a2 := fun q => by first | (rw [q, C.its] at f2; cases f2) | (rw [← q, C.its] at f2; cases f2)
  obtain ⟨es0, ep0, hx1, hx2⟩ := C.idx
  have i4 : f.it ≠ a4 := fun q => by first | (rw [q, hx1] at f2; cases f2) | (rw [← q, hx1] at f2; cases f2)
  have old : ∀ b ao, H b = some ao → b ≠ f.it → b ≠ a1 → b ≠ a4 → b ≠ a2 → upd (upd (upd (upd H f.it endO) a1 (.list (fs.map fun f => .int f.v))) a4 (.dict es ep)) a2 (.list (fs.map fun f => .ref f.w)) b = some ao := fun b ao e n1 n2 n3 n4 => by
    rw [upd_ne n4, upd_ne n3, upd_ne n2, upd_ne n1]; exact e
  refine ⟨⟨fun b ao e => old b ao (C.sub.le b ao e) ?_ ?_ ?_ ?_⟩, ?_, upd_self .., old _ _ C.seen (Ne.symm f6) (Ne.symm X.e13) X.e34 (Ne.symm X.e23), ⟨es, ep, ?_, he⟩, fun g hg => ?_, hd.1, fun g hg g' hg' => C.cross g (by simp [hg]) g' (by simp [hg'])⟩
  · intro q; first | (rw [q, f4] at e; cases e) | (rw [← q, f4] at e; cases e)
  · intro q; first | (rw [q, X.n1] at e; cases e) | (rw [← q, X.n1] at e; cases e)
  · intro q; first | (rw [q, X.n4] at e; cases e) | (rw [← q, X.n4] at e; cases e)
  · intro q; first | (rw [q, X.n2] at e; cases e) | (rw [← q, X.n2] at e; cases e)
  · rw [upd_ne X.e12, upd_ne X.e14]; exact upd_self ..
  · rw [upd_ne (Ne.symm X.e24)]; exact upd_self ..
  · obtain ⟨g1, g2, g3, g4, g5, g6⟩ := C.fr g (by simp [hg])
    refine ⟨old _ _ g1 (Ne.symm (C.cross f (by simp) g (by simp [hg]))) ?_ ?_ ?_, old _ _ g2 (hd.2.2 g.it (List.mem_map.mpr ⟨g, hg, rfl⟩) f.it (by simp)) ?_ ?_ ?_, g3, g4, g5, g6⟩
    · intro q; rw [q, C.stk] at g1; cases g1
    · intro q; rw [q, hx1] at g1; cases g1
    · intro q; rw [q, C.its] at g1; cases g1
    · intro q; rw [q, C.stk] at g2; cases g2
    · intro q; rw [q, hx1] at g2; cases g2
    · intro q; rw [q, C.its] at g2; cases g2
end

theorem exprV {c : Cx} {s : Shared} {A : Around} {E : Value → Shared → Prop} {env : Env} {e : Expr} {pos : Pos} {Q : Flow → Shared → Prop} (hk : env.scope.kind = .function) (h : wpAny c.M A (eval e env) (fun v s' => Q .next s') E s) (hs : swapsWith e none pos.line env = pure false) : wpAny c.M A (exec (.Expr e pos) env) Q E s :=
  wpAny_Expr_any h (interactive_fn hk) hs

section
variable {c : Cx} {R R₀ : Ledger} {ρ : Str → Option AV} {H : Ledger} {s : Shared} {A : Around} {E : Value → Shared → Prop} {env : Env}
theorem FramesIn.sub {R' : Ledger} {l : List Env} (x : FramesIn R l) (h : Sub R R') : FramesIn R' l := fun env he => by
  obtain ⟨h1, b, r, h2, h3⟩ := x env he
  exact ⟨h1, b, r, h2, h.le _ _ h3⟩
theorem rem_all (ks : List Int) : rem ks (fun _ => false) (fun _ => 1) = ks.length := by
  induction ks with
  | nil => rfl
  | cons a r ih => rw [rem_cons, ih]; simp; exact om64
theorem sub_stop : isSubtype (.type "StopIteration") (.type "StopIteration") = pure true := by rw [isSubtype_type]; kernel_rfl
theorem exc_stop : isSubtype (.type "StopIteration") (.type "BaseException") = pure true := by rw [isSubtype_type]; kernel_rfl
theorem meta_stop : isSubtype (.type ((Manifest.find? "StopIteration").elim "type" fun y => y.metatype)) (.type "tuple") = pure false := by
  have e : ((Manifest.find? "StopIteration").elim "type" fun y => y.metatype) = "type" := by decide +kernel
  rw [e, isSubtype_type]; kernel_rfl
theorem bb_stop : bootBuiltins "StopIteration" = some (.type "StopIteration") := by decide +kernel
end

noncomputable def nmC (σ : Srt) (a1 a2 a3 a4 : Addr) (nd : AV) : List (Str × AV) := [("self", .ref σ.self), ("n2i", .ref σ.n2i), ("stack", .ref a1), ("itstack", .ref a2), ("seen", .ref a3), ("node2stacki", .ref a4), ("node", nd)]
noncomputable def nmC0 (σ : Srt) (a1 a2 a3 a4 : Addr) : List (Str × AV) := [("self", .ref σ.self), ("n2i", .ref σ.n2i), ("stack", .ref a1), ("itstack", .ref a2), ("seen", .ref a3), ("node2stacki", .ref a4)]

noncomputable def sInner : Stmt := stmtAt (bodyOf (stmtAt (bodyOf (stmtAt (bodyOf sCycle) 5)) 1)) 1

theorem nmC_sub {σ : Srt} {a1 a2 a3 a4 : Addr} {nd : AV} : ∀ x av, lk (nmC0 σ a1 a2 a3 a4) x = some av → lk (nmC σ a1 a2 a3 a4 nd) x = some av :=
  AllIn.mem ⟨rfl, rfl, rfl, rfl, rfl, rfl, trivial⟩
theorem lookup_none_of_keys {k : Int} : ∀ {es : List (Int × AV)}, k ∉ es.map (·.1) → es.lookup k = none
  | [], _ => rfl
  | (a, v) :: r, h => by
    rw [List.lookup_cons]
    have : (k == a) = false := by
      rw [beq_eq_false_iff_ne]; rintro rfl; exact h (by simp)
    rw [this]
    exact lookup_none_of_keys fun e => h (by simp at e ⊢; exact .inr e)
theorem lookup_some_of_keys {k : Int} : ∀ {es : List (Int × AV)}, k ∈ es.map (·.1) → (es.lookup k).isSome = true
  | (a, v) :: r, h => by
    rw [List.lookup_cons]
    cases e : k == a with
    | true => rfl
    | false =>
      refine lookup_some_of_keys ?_
      rw [List.map_cons, List.mem_cons] at h
      rcases h with h | h
      · rw [beq_eq_false_iff_ne] at e; exact absurd h e
      · exact h
theorem keys_drop {es : List (Int × AV)} {ks : List Int} {k : Int} (h : es.map (·.1) = ks ++ [k]) (hk : k ∉ ks) : (es.filter fun p => !decide (p.1 = k)).map (·.1) = ks := by
  have e : (es.filter fun p => !decide (p.1 = k)).map (·.1) = (es.map (·.1)).filter fun x => !decide (x = k) := by
    rw [List.filter_map]; rfl
  rw [e, h, List.filter_append]
  simp
  intro a ha
  rintro rfl
  exact hk ha

theorem St.loosen {c : Cx} {R : Ledger} {ρ : Str → Option AV} {H : Ledger} {s : Shared} {a : Addr} {ao ao' : AO} (st : St c R ρ H s) (ha : H a = some ao) (h : ∀ o, ao.Is o → ao'.Is o) : St c R ρ (upd H a ao') s := by
  obtain ⟨o, e, hi⟩ := st.get ha
  exact st.set (tk := s.toks) ha (Heap.SameBut.refl ..) e (h o hi)

theorem Cy.push {c : Cx} {H₀ H : Ledger} {a1 a2 a3 a4 it w : Addr} {sa : Int → Addr} {S S' : Int → Bool} {n n' ep : Nat} {fs : List Fm} {k : Int} {es : List (Int × AV)} (X : Fresh4 H₀ a1 a2 a3 a4) (C : Cy c H₀ a1 a2 a3 a4 sa S n fs H)
    (hit : H it = none) (hw : H w = none) (n1 : it ≠ w) (he : es.map (·.1) = fs.map (·.v) ++ [k]) :
    Cy c H₀ a1 a2 a3 a4 sa S' n' (fs ++ [⟨k, 0, it, w⟩])
      (upd (upd (upd (upd (upd (upd (upd H a3 (setO c S' n')) it (liX (sa k))) w (mwX it)) it (liO (sa k) 0)) a2 (.list (fs.map (fun f => AV.ref f.w) ++ [.ref w]))) a4 (.dict es ep)) a1 (.list (fs.map (fun f => AV.int f.v) ++ [.int k]))) := by
  obtain ⟨es0, ep0, hx1, hx2⟩ := C.idx
  have i1 : it ≠ a1 := fun q => by first | (rw [q, C.stk] at hit; cases hit) | (rw [← q, C.stk] at hit; cases hit)
  have i2 : it ≠ a2 := fun q => by first | (rw [q, C.its] at hit; cases hit) | (rw [← q, C.its] at hit; cases hit)
  have i3 : it ≠ a3 := fun q => by first | (rw [q, C.seen] at hit; cases hit) | (rw [← q, C.seen] at hit; cases hit)
  have i4 : it ≠ a4 := fun q => by first | (rw [q, hx1] at hit; cases hit) | (rw [← q, hx1] at hit; cases hit)
  have w1 : w ≠ a1 := fun q => by first | (rw [q, C.stk] at hw; cases hw) | (rw [← q, C.stk] at hw; cases hw)
  have w2 : w ≠ a2 := fun q => by first | (rw [q, C.its] at hw; cases hw) | (rw [← q, C.its] at hw; cases hw)
  have w3 : w ≠ a3 := fun q => by first | (rw [q, C.seen] at hw; cases hw) | (rw [← q, C.seen] at hw; cases hw)
  have w4 : w ≠ a4 := fun q => by first | (rw [q, hx1] at hw; cases hw) | (rw [← q, hx1] at hw; cases hw)
  have z : ∀ b, H b = none → H₀ b = none := fun b e => by
    cases q : H₀ b with
    | none => rfl
    | some ao => rw [C.sub.le b ao q] at e; cases e
  have old : ∀ b ao, H b = some ao → b ≠ a1 → b ≠ a2 → b ≠ a3 → b ≠ a4 →
      (upd (upd (upd (upd (upd (upd (upd H a3 (setO c S' n')) it (liX (sa k))) w (mwX it)) it (liO (sa k) 0)) a2 (.list (fs.map (fun f => AV.ref f.w) ++ [.ref w]))) a4 (.dict es ep)) a1 (.list (fs.map (fun f => AV.int f.v) ++ [.int k]))) b = some ao := fun b ao e m1 m2 m3 m4 => by
    have b1 : b ≠ it := fun q => by first | (rw [q, hit] at e; cases e) | (rw [← q, hit] at e; cases e)
    have b2 : b ≠ w := fun q => by first | (rw [q, hw] at e; cases e) | (rw [← q, hw] at e; cases e)
    rw [upd_ne m1, upd_ne m4, upd_ne m2, upd_ne b1, upd_ne b2, upd_ne b1, upd_ne m3]; exact e
  refine ⟨⟨fun b ao e => old b ao (C.sub.le b ao e) ?_ ?_ ?_ ?_⟩, ?_, ?_, ?_, ⟨es, ep, ?_, ?_⟩, fun g hg => ?_, ?_, fun g hg g' hg' => ?_⟩
  · intro q; first | (rw [q, X.n1] at e; cases e) | (rw [← q, X.n1] at e; cases e)
  · intro q; first | (rw [q, X.n2] at e; cases e) | (rw [← q, X.n2] at e; cases e)
  · intro q; first | (rw [q, X.n3] at e; cases e) | (rw [← q, X.n3] at e; cases e)
  · intro q; first | (rw [q, X.n4] at e; cases e) | (rw [← q, X.n4] at e; cases e)
  · rw [upd_self]; simp
  · rw [upd_ne (Ne.symm X.e12), upd_ne X.e24, upd_self]; simp
  · rw [upd_ne (Ne.symm X.e13), upd_ne X.e34, upd_ne (Ne.symm X.e23), upd_ne (Ne.symm i3), upd_ne (Ne.symm w3), upd_ne (Ne.symm i3)]; exact upd_self ..
  · rw [upd_ne (Ne.symm X.e14)]; exact upd_self ..
  · rw [he]; simp
  · rcases List.mem_append.mp hg with hg | hg
    · obtain ⟨g1, g2, g3, g4, g5, g6⟩ := C.fr g hg
      refine ⟨old _ _ g1 ?_ ?_ g5 ?_, old _ _ g2 ?_ ?_ g6 ?_, g3, g4, g5, g6⟩
      · intro q; rw [q, C.stk] at g1; cases g1
      · intro q; rw [q, C.its] at g1; cases g1
      · intro q; rw [q, hx1] at g1; cases g1
      · intro q; rw [q, C.stk] at g2; cases g2
      · intro q; rw [q, C.its] at g2; cases g2
      · intro q; rw [q, hx1] at g2; cases g2
    · rw [List.mem_singleton] at hg
      subst hg
      refine ⟨?_, ?_, z _ hw, z _ hit, w3, i3⟩
      · rw [upd_ne w1, upd_ne w4, upd_ne w2, upd_ne (Ne.symm n1)]; exact upd_self ..
      · rw [upd_ne i1, upd_ne i4, upd_ne i2]; exact upd_self ..
  · rw [List.map_append, List.nodup_append]
    refine ⟨C.dist, by simp, ?_⟩
    intro x hx y hy
    obtain ⟨g, hg, rfl⟩ := List.mem_map.mp hx
    simp at hy
    subst hy
    intro q
    have := (C.fr g hg).2.1
    rw [q, hit] at this; cases this
  · have key : ∀ x ∈ fs ++ [(⟨k, 0, it, w⟩ : Fm)], x ∈ fs ∨ x = ⟨k, 0, it, w⟩ := fun x hx => by simpa using hx
    rcases key g hg with hg | rfl <;> rcases key g' hg' with hg' | rfl
    · exact C.cross g hg g' hg'
    · intro q; have := (C.fr g hg).2.1; rw [q, hw] at this; cases this
    · intro q
      have h1 := (C.fr g' hg').1
      rw [← q] at h1
      rw [show ({ v := k, p := 0, it := it, w := w } : Fm).it = it from rfl, hit] at h1; cases h1
    · exact n1
theorem storedA_new {k : Int} {v : AV} {es : List (Int × AV)} (h : k ∉ es.map (·.1)) : storedA es k v = es ++ [(k, v)] := by
  unfold storedA
  rw [if_neg]
  intro q
  obtain ⟨p, hp, e⟩ := List.any_eq_true.mp q
  exact h (List.mem_map.mpr ⟨p, hp, of_decide_eq_true e⟩)

section
variable {c' : Cx} {R : Ledger} {H H' : Ledger} {s : Shared} {A₁ : Around} {F : Addr → Prop} {σ : Srt} {l : Lay} {le : List Env} {L' a1 a2 a3 a4 : Addr} {rk : Int → Nat} {nd : Int} {Sn : Int → Bool} {n : Nat} {fs : List Fm} {Q : Flow → Shared → Prop}

theorem inner_spec (hK : c'.G.K = KP c'.G.w.params) (ok' : c'.Ok) (hf : c'.fenv = envK "TopologicalSorter._find_cycle" sCycle L' 145 (.ref 144) []) (hh : A₁.handled = none) (hfr : A₁.frames = some le) (FI : FramesIn R le)
    (S : SrtL H F σ l) (X : Fresh4 H a1 a2 a3 a4) (hdeg : ∀ k ∈ σ.g.ks, (σ.g.sc k).length ≤ 1000) (hac : ∀ k ∈ σ.g.ks, ∀ k' ∈ σ.g.sc k, k' ∈ σ.g.ks ∧ rk k' < rk k)
    (st : St c' R (lk (nmC σ a1 a2 a3 a4 (.int nd))) H' s) (C : Cy c' H a1 a2 a3 a4 l.sa Sn n fs H') (hks : ∀ f ∈ fs, f.v ∈ σ.g.ks) (hpw : (fs.map (·.v)).Pairwise (fun x y => rk y < rk x)) (hl : fs.length ≤ 1000)
    (hnext : ∀ nd' fs' H'' s', St c' R (lk (nmC σ a1 a2 a3 a4 (.int nd'))) H'' s' → Cy c' H a1 a2 a3 a4 l.sa Sn n fs' H'' → nd' ∈ σ.g.ks → (∀ f ∈ fs', f.v ∈ σ.g.ks ∧ rk nd' < rk f.v) → (fs'.map (·.v)).Pairwise (fun x y => rk y < rk x) →
      pend σ.g.sc fs' < pend σ.g.sc fs → fs'.length ≤ fs.length → Q .next s')
    (hbrk : ∀ nd' H'' s', St c' R (lk (nmC σ a1 a2 a3 a4 (.int nd'))) H'' s' → Cy c' H a1 a2 a3 a4 l.sa Sn n [] H'' → Q .brk s') :
    wpAny c'.M (A₁.deeper c'.fenv) (exec sInner c'.fenv) Q (fun _ _ => False) s := by
  refine whileR (fun m ρ' H'' => ∃ nd' fs', m = fs'.length ∧ ρ' = lk (nmC σ a1 a2 a3 a4 (.int nd')) ∧ Cy c' H a1 a2 a3 a4 l.sa Sn n fs' H'' ∧ (∀ f ∈ fs', f.v ∈ σ.g.ks) ∧ (fs'.map (·.v)).Pairwise (fun x y => rk y < rk x) ∧ pend σ.g.sc fs' ≤ pend σ.g.sc fs ∧ fs'.length ≤ fs.length)
    fs.length st ⟨nd, fs, rfl, rfl, C, hks, hpw, Nat.le_refl _, Nat.le_refl _⟩ ?_
  intro m ρ' H'' s'  hJJ st K hTurn KQ hQ
  obtain ⟨nd', fs', rfl, rfl, C', hks', hpw', hp', hl'⟩ := hJJ
  refine wpAny_isTrue_value ?_
  refine nameLR (hd := by decide) (by assumption) (by first | assumption | rfl) ?_ rfl (Cx.Ok.fn (by assumption)) (by first | exact kindK hf rfl | (rw [hf]; rfl) | (rw [he]; rfl))
  refine truthyL (by assumption) (.inl C'.stk) (by rw [List.length_map]; exact om65 hl hl') ?_
  intro s st
  rcases List.eq_nil_or_concat fs' with rfl | ⟨gs, f, rfl⟩
  · refine ifN (by exact Bool.false_ne_true) ?_
    with_reducible refine execsK ?_
    intro K hStmt
    with_reducible refine wpAny_Break ?_
    with_reducible refine openK (by assumption) ?_
    dsimp only
    with_reducible refine openK (by assumption) ?_
    exact hbrk _ _ _ st C'
  · rw [List.concat_eq_append] at *
    refine ifP (by simp) ?_
    obtain ⟨f1, f2, f3, f4, f5, f6⟩ := C'.fr f (by simp)
    have hfk : f.v ∈ σ.g.ks := hks' f (by simp)
    with_reducible refine execsK ?_
    intro K hStmt
    refine tryE (hd := by decide) (A₁ := A₁) ok' rfl hfr FI (show c'.fenv = envOf "TopologicalSorter._find_cycle" (scopeOf sCycle) c'.L 145 (.ref 144) by unfold Cx.L; rw [hf]; rfl) (by rw [hK]; kernel_rfl) bb_stop (by decide) (by first | exact kindK hf rfl | (rw [hf]; rfl) | (rw [he]; rfl)) exc_stop meta_stop sub_stop ?_
    with_reducible refine execsK ?_
    intro K hStmt
    refine wpAny_Assign_Name ?_
    refine callName (he := by rfl) ?_
    with_reducible refine Subscript_ ?_
    refine nameLR (hd := by decide) (by assumption) (by first | assumption | rfl) ?_ rfl (Cx.Ok.fn (by assumption)) (by first | exact kindK hf rfl | (rw [hf]; rfl) | (rw [he]; rfl))
    with_reducible refine UnaryOp_ ?_
    with_reducible refine cInt (by assumption) ?_
    intro tok s st
    with_reducible refine negI (by assumption) ?_
    intro tok s st
    refine idxLneg (hs := by with_unfolding_all rfl) (by assumption) (.inl C'.its) (by decide) (by simp; exact om66) (av := .ref f.w) (by
      have e : ((-1 : Int) + ((gs ++ [f]).map fun f => AV.ref f.w).length).toNat = gs.length := by simp; exact om67
      rw [e]; simp) (by decide) ?_
    refine gotRA ?_
    refine cwMw (by assumption) f1 ?_
    have hsl : SeesL c' H'' (l.sa f.v) ((σ.g.sc f.v).map .int) := .inl (C'.sub.le _ _ (S.succ f.v hfk))
    cases hx : (σ.g.sc f.v)[f.p]? with
    | some k' =>
      refine nextItem (by assumption) f1 f2 hsl (av := .int k') (by rw [List.getElem?_map, hx]; rfl) ?_
      refine gotIS ?_
      intro tok s st
      refine storeL (by assumption) ?_ rfl (Cx.Ok.fn (by assumption)) (by first | exact kindK hf rfl | (rw [hf]; rfl) | (rw [he]; rfl))
      intro s st
      with_reducible refine openK (by assumption) ?_
      with_reducible refine execsK ?_
      intro K hStmt
      with_reducible refine wpAny_Break ?_
      with_reducible refine openK (by assumption) ?_
      dsimp only
      with_reducible refine openK (by assumption) ?_
      dsimp only
      with_reducible refine openK (by assumption) ?_
      dsimp only
      have hm : k' ∈ σ.g.sc f.v := List.mem_of_getElem? hx
      obtain ⟨hk1, hk2⟩ := hac f.v hfk k' hm
      have C2 := C'.step
      have hlt : f.p < (σ.g.sc f.v).length := (List.getElem?_eq_some_iff.mp hx).1
      refine hnext k' (gs ++ [{ f with p := f.p + 1 }]) _ _ (st.names (nmC σ a1 a2 a3 a4 (.int k')) ⟨rfl, rfl, rfl, rfl, rfl, rfl, rfl, trivial⟩) C2 hk1 ?_ ?_ ?_ ?_
      · intro g hg
        rcases List.mem_append.mp hg with hg | hg
        · refine ⟨hks' g (by simp [hg]), Nat.lt_trans hk2 ?_⟩
          rw [List.map_append, List.pairwise_append] at hpw'
          exact hpw'.2.2 g.v (List.mem_map.mpr ⟨g, hg, rfl⟩) f.v (by simp)
        · rw [List.mem_singleton] at hg; subst hg; exact ⟨hfk, hk2⟩
      · simpa using hpw'
      · rw [pend_snoc] at hp' ⊢
        show pend σ.g.sc gs + ((σ.g.sc f.v).length - (f.p + 1)) < _
        exact om68 hp' hlt
      · simpa using hl'
    | none =>
      refine nextStop hh (by assumption) f1 f2 hsl (by rw [List.getElem?_map, hx]; rfl) ?_
      intro a hp s1 hx1 st1
      refine ⟨a, hp, _, _, rfl, hx1, st1, ?_⟩
      intro s2 st2
      obtain ⟨es, ep, hd1, hd2⟩ := C'.idx
      have i1 : a1 ≠ f.it := fun q => by first | (rw [q, C'.stk] at f2; cases f2) | (rw [← q, C'.stk] at f2; cases f2)
      have i2 : a2 ≠ f.it := fun q => by first | (rw [q, C'.its] at f2; cases f2) | (rw [← q, C'.its] at f2; cases f2)
      have i4 : a4 ≠ f.it := fun q => by first | (rw [q, hd1] at f2; cases f2) | (rw [← q, hd1] at f2; cases f2)
      with_reducible refine execsK ?_
      intro K hStmt
      with_reducible refine wpAny_Delete ?_
      with_reducible refine wpAny_deleteEach_cons ?_
      with_reducible refine wpAny_delete_Subscript ?_
      refine nameLR (hd := by decide) (by assumption) (by first | assumption | rfl) ?_ rfl (Cx.Ok.fn (by assumption)) (by first | exact kindK hf rfl | (rw [hf]; rfl) | (rw [he]; rfl))
      refine callMeth (he := by rfl) ?_
      refine nameLR (hd := by decide) (by assumption) (by first | assumption | rfl) ?_ rfl (Cx.Ok.fn (by assumption)) (by first | exact kindK hf rfl | (rw [hf]; rfl) | (rw [he]; rfl))
      have hstk : upd H'' f.it endO a1 = some (.list (gs.map (fun f => AV.int f.v) ++ [.int f.v])) := by rw [upd_ne i1, C'.stk]; simp
      refine methL (by assumption) hstk PySem.F.slot_list_pop PySem.F.type_list_pop ?_
      refine cw (he := by rfl) ?_
      dsimp only [Args_]
      (first | refine ⟨trivial, ?_⟩ | refine ⟨stands_K (by assumption) (by assumption) (by (rw [hK]; first | with_reducible exact k_bisect _ | with_reducible exact k_insort _ | with_reducible exact k_info _ | with_reducible exact k_sorter _ | with_reducible exact k98 _ | with_reducible exact k105 _ | with_reducible exact k110 _ | with_reducible exact k117 _ | with_reducible exact k124 _ | with_reducible exact k138 _ | with_reducible exact k145 _ | with_reducible exact kp_least _)), ?_⟩)
      (try dsimp only [List.nil_append, List.cons_append])
      refine popL (by assumption) hstk (by rw [List.length_map, sizeLine_eq]; simp at hl'; exact om69 hl hl') ?_
      refine gotIS ?_
      intro tok s st
      have hpn : f.v ∉ gs.map (·.v) := by
        intro hm
        rw [List.map_append, List.pairwise_append] at hpw'
        exact Nat.lt_irrefl _ (hpw'.2.2 f.v hm f.v (by simp))
      rw [List.map_append] at hd2
      refine delD (es := es) (ep := ep) (by assumption) (by rw [upd_ne (Ne.symm X.e14), upd_ne i4]; exact hd1) (by rw [← List.length_map (f := (·.1)), hd2, sizeLine_eq]; simp at hl' ⊢; exact om70 hl hl') (lookup_some_of_keys (by rw [hd2]; simp)) ?_
      intro ep' s st
      with_reducible refine wpAny_deleteEach_nil ?_
      with_reducible refine openK (by assumption) ?_
      with_reducible refine execsK ?_
      intro K hStmt
      refine exprV (hs := by rfl) (Cx.Ok.fn (by assumption)) ?_
      refine callMeth (he := by rfl) ?_
      refine nameLR (hd := by decide) (by assumption) (by first | assumption | rfl) ?_ rfl (Cx.Ok.fn (by assumption)) (by first | exact kindK hf rfl | (rw [hf]; rfl) | (rw [he]; rfl))
      have hits : upd (upd (upd H'' f.it endO) a1 (.list (gs.map fun f => AV.int f.v))) a4 (.dict (es.filter fun p => !decide (p.1 = f.v)) ep') a2 = some (.list (gs.map (fun f => AV.ref f.w) ++ [.ref f.w])) := by
        rw [upd_ne X.e24, upd_ne (Ne.symm X.e12), upd_ne i2, C'.its]; simp
      refine methL (by assumption) hits PySem.F.slot_list_pop PySem.F.type_list_pop ?_
      refine cw (he := by rfl) ?_
      dsimp only [Args_]
      (first | refine ⟨trivial, ?_⟩ | refine ⟨stands_K (by assumption) (by assumption) (by (rw [hK]; first | with_reducible exact k_bisect _ | with_reducible exact k_insort _ | with_reducible exact k_info _ | with_reducible exact k_sorter _ | with_reducible exact k98 _ | with_reducible exact k105 _ | with_reducible exact k110 _ | with_reducible exact k117 _ | with_reducible exact k124 _ | with_reducible exact k138 _ | with_reducible exact k145 _ | with_reducible exact kp_least _)), ?_⟩)
      (try dsimp only [List.nil_append, List.cons_append])
      refine popL (by assumption) hits (by rw [List.length_map, sizeLine_eq]; simp at hl'; exact om69 hl hl') ?_
      intro v s hv st
      with_reducible refine openK (by assumption) ?_
      with_reducible refine wpAny_execs_nil ?_
      with_reducible refine openK (by assumption) ?_
      with_reducible refine wpAny_execs_nil ?_
      with_reducible refine openK (by assumption) ?_
      dsimp only
      have C2 := Cy.pop (ep := ep') X C' (keys_drop hd2 hpn)
      refine ⟨_, _, _, ?_, st, nd', gs, rfl, rfl, C2, fun g hg => hks' g (by simp [hg]), ?_, ?_, ?_⟩
      · simp
      · rw [List.map_append, List.pairwise_append] at hpw'; exact hpw'.1
      · rw [pend_snoc] at hp'; exact om71 hp'
      · simp at hl'; exact om72 hl'
end

section
variable {c : Cx} {R : Ledger} {ρ : Str → Option AV} {H : Ledger} {s : Shared} {A : Around} {E : Value → Shared → Prop} {Q : Value → Shared → Prop} {d : Nat} {F : Addr → Prop} {σ : Srt} {l : Lay}

theorem cycle_spec {le : List Env} {rk : Int → Nat} (hK : c.G.K = KP c.G.w.params) (ok : c.Ok) (hdep : A.depth < recursionLimit) (hh : A.handled = none) (hfr : A.frames = some (c.fenv :: le)) (FI : FramesIn R le) (st : St c R ρ H s) (S : SrtL H F σ l)
    (hz : σ.g.ks.length ≤ 1000) (hdeg : ∀ k ∈ σ.g.ks, (σ.g.sc k).length ≤ 1000) (hac : ∀ k ∈ σ.g.ks, ∀ k' ∈ σ.g.sc k, k' ∈ σ.g.ks ∧ rk k' < rk k)
    (h : ∀ H' s', Sub H H' → St c R ρ H' s' → Q .none s') : wpAny c.M A (call (.ref 145) [.ref σ.self] []) Q E s := by
  have hRL := st.R_L
  refine callKH (binds := [(("self":Str), .ref σ.self)]) (by rw [hK]; exact in_cycle _) ok hdep st (fun doc pm an ct => bindsK ok st (by rw [hK]; intro S; kernel_rfl)) (by kernel_rfl) (by kernel_rfl) ?_
  intro c' L' s' ok' hG hc' st'
  rw [← hG] at hK
  have hf : c'.fenv = envK "TopologicalSorter._find_cycle" sCycle L' 145 (.ref 144) [] := by rw [hc']; rfl
  have FI' := FramesIn.push (ρ := ρ) ok FI hRL
  refine execsK ?_
  intro K hStmt
  refine wpAny_Assign_Name ?_
  refine Attribute_any_ ?_
  refine nameLR (hd := by decide) (by assumption) (by first | assumption | rfl) ?_ rfl (Cx.Ok.fn (by assumption)) (by first | exact kindK hf rfl | (rw [hf]; rfl) | (rw [he]; rfl))
  refine getA155 hK ok' (by assumption) S.inst S.attr (by kernel_rfl) (av := .ref σ.n2i) rfl rfl ?_
  refine gotRS ?_
  intro s st
  refine storeL (by assumption) ?_ rfl (Cx.Ok.fn (by assumption)) (by first | exact kindK hf rfl | (rw [hf]; rfl) | (rw [he]; rfl))
  intro s st
  with_reducible refine openK (by assumption) ?_
  with_reducible refine execsK ?_
  intro K hStmt
  refine wpAny_Assign_Name ?_
  refine listE (he := by rfl) ?_
  dsimp only [Args_]
  refine newL ok' (by assumption) (by decide) ?_
  intro a1 s h1 st
  refine storeL (by assumption) ?_ rfl (Cx.Ok.fn (by assumption)) (by first | exact kindK hf rfl | (rw [hf]; rfl) | (rw [he]; rfl))
  intro s st
  with_reducible refine openK (by assumption) ?_
  with_reducible refine execsK ?_
  intro K hStmt
  refine wpAny_Assign_Name ?_
  refine listE (he := by rfl) ?_
  dsimp only [Args_]
  refine newL ok' (by assumption) (by decide) ?_
  intro a2 s h2 st
  refine storeL (by assumption) ?_ rfl (Cx.Ok.fn (by assumption)) (by first | exact kindK hf rfl | (rw [hf]; rfl) | (rw [he]; rfl))
  intro s st
  with_reducible refine openK (by assumption) ?_
  with_reducible refine execsK ?_
  intro K hStmt
  refine wpAny_Assign_Name ?_
  refine callName (he := by rfl) ?_
  refine nameB (hd := by decide) (by assumption) (by assumption) (by rw [hK]; kernel_rfl) (by first | with_reducible exact bb_len | with_reducible exact bb_list | with_reducible exact bb_range | with_reducible exact bb_abs | with_reducible exact bb_sorted | with_reducible exact bb_max | with_reducible exact bb_min | with_reducible exact bb_sum | with_reducible exact bb_tuple | with_reducible exact bb_set | with_reducible exact bb_iter | with_reducible exact bb_bool | with_reducible exact bb_dict | with_reducible exact bb_divmod | with_reducible exact bb_enumerate | with_reducible exact bb_zip) (by decide) ?_ (Cx.Ok.glob (by assumption)) (Cx.Ok.blt (by assumption)) (Cx.Ok.fn (by assumption)) (by first | exact kindK hf rfl | (rw [hf]; rfl) | (rw [he]; rfl))
  refine cw (he := by rfl) ?_
  dsimp only [Args_]
  (first | refine ⟨trivial, ?_⟩ | refine ⟨stands_K (by assumption) (by assumption) (by (rw [hK]; first | with_reducible exact k_bisect _ | with_reducible exact k_insort _ | with_reducible exact k_info _ | with_reducible exact k_sorter _ | with_reducible exact k98 _ | with_reducible exact k105 _ | with_reducible exact k110 _ | with_reducible exact k117 _ | with_reducible exact k124 _ | with_reducible exact k138 _ | with_reducible exact k145 _ | with_reducible exact kp_least _)), ?_⟩)
  (try dsimp only [List.nil_append, List.cons_append])
  refine newS ok' (by assumption) ?_
  intro a3 s h3 st
  refine storeL (by assumption) ?_ rfl (Cx.Ok.fn (by assumption)) (by first | exact kindK hf rfl | (rw [hf]; rfl) | (rw [he]; rfl))
  intro s st
  with_reducible refine openK (by assumption) ?_
  with_reducible refine execsK ?_
  intro K hStmt
  refine wpAny_Assign_Name ?_
  refine newD ok' (by assumption) ?_
  intro a4 s h4 st
  refine storeL (by assumption) ?_ rfl (Cx.Ok.fn (by assumption)) (by first | exact kindK hf rfl | (rw [hf]; rfl) | (rw [he]; rfl))
  intro s st
  with_reducible refine openK (by assumption) ?_
  with_reducible refine execsK ?_
  intro K hStmt
  refine wpAny_For ?_
  refine nameLR (hd := by decide) (by assumption) (by first | assumption | rfl) ?_ rfl (Cx.Ok.fn (by assumption)) (by first | exact kindK hf rfl | (rw [hf]; rfl) | (rw [he]; rfl))
  have e12 : a1 ≠ a2 := fun q => by first | (rw [q, upd_self] at h2; cases h2) | (rw [← q, upd_self] at h2; cases h2)
  have e23 : a2 ≠ a3 := fun q => by first | (rw [q, upd_self] at h3; cases h3) | (rw [← q, upd_self] at h3; cases h3)
  have e34 : a3 ≠ a4 := fun q => by first | (rw [q, upd_self] at h4; cases h4) | (rw [← q, upd_self] at h4; cases h4)
  have e13 : a1 ≠ a3 := fun q => by first | (rw [q, upd_ne e12, upd_self] at h3; cases h3) | (rw [← q, upd_ne e12, upd_self] at h3; cases h3)
  have e24 : a2 ≠ a4 := fun q => by first | (rw [q, upd_ne e23, upd_self] at h4; cases h4) | (rw [← q, upd_ne e23, upd_self] at h4; cases h4)
  have e14 : a1 ≠ a4 := fun q => by first | (rw [q, upd_ne e13, upd_ne e12, upd_self] at h4; cases h4) | (rw [← q, upd_ne e13, upd_ne e12, upd_self] at h4; cases h4)
  rw [upd_ne (Ne.symm e34), upd_ne (Ne.symm e24), upd_ne (Ne.symm e14)] at h4
  rw [upd_ne (Ne.symm e23), upd_ne (Ne.symm e13)] at h3
  rw [upd_ne (Ne.symm e12)] at h2
  have X : Fresh4 H a1 a2 a3 a4 := ⟨h1, h2, h3, h4, e12, e13, e14, e23, e24, e34⟩
  have C0 : Cy c' H a1 a2 a3 a4 l.sa (fun _ => false) 0 [] (upd (upd (upd (upd H a1 (.list [])) a2 (.list [])) a3 (setO c' (fun _ => false) 0)) a4 (.dict [] 0)) :=
    ⟨(((Sub.refl H).upd h1).upd h2).upd h3 |>.upd h4, by rw [upd_ne e14, upd_ne e13, upd_ne e12]; exact upd_self .., by rw [upd_ne e24, upd_ne e23]; exact upd_self .., by rw [upd_ne e34]; exact upd_self .., ⟨[], 0, upd_self .., rfl⟩, fun f hf => (nomatch hf), .nil, fun f hf => (nomatch hf)⟩
  refine iterD ok' (by assumption) (C0.sub.le _ _ S.dict) ?_
  intro it s hit hRit st
  have st := st.names (nmC0 σ a1 a2 a3 a4) ⟨rfl, rfl, rfl, rfl, rfl, rfl, trivial⟩
  refine forLoopX (ht := by intro _; rfl) (itr_keys (show (A.deeper c'.fenv).handled = none from hh)) hRit st (fun i ρ' H' => (∀ x av, lk (nmC0 σ a1 a2 a3 a4) x = some av → ρ' x = some av) ∧ ∃ Sn n, Cy c' H a1 a2 a3 a4 l.sa Sn n [] H' ∧ n + rem σ.g.ks Sn (fun _ => 1) = σ.g.ks.length)
    (fun i ρ' H' h => by obtain ⟨_, Sn, n, C, _⟩ := h; exact C.sub.le _ _ S.dict) ⟨fun x av e => e, _, _, C0, ?_⟩ ?_ ?_
  · rw [rem_all]; exact om73
  · intro i av Rl ρ' H' s' v hi hsR hRl  hJJ st hv K hTurn
    obtain ⟨hρ, Sn, n, C, hn⟩ := hJJ
    have FI2 := FI'.sub hsR
    rw [List.map_map, List.getElem?_map] at hi
    obtain ⟨k, hk, rfl⟩ := Option.map_eq_some_iff.mp hi
    obtain ⟨hlt, hk⟩ := List.getElem?_eq_some_iff.mp hk
    have hkm : k ∈ σ.g.ks := hk ▸ List.getElem_mem hlt
    obtain ⟨tok, rfl⟩ := abs_int hv
    have st := st.weaken hρ
    with_reducible refine wpAny_assign_Name ?_
    refine storeL (by assumption) ?_ rfl (Cx.Ok.fn (by assumption)) (by first | exact kindK hf rfl | (rw [hf]; rfl) | (rw [he]; rfl))
    intro s st
    with_reducible refine execsK ?_
    intro K hStmt
    with_reducible refine wpAny_If ?_
    with_reducible refine wpAny_isTrue_Compare1 ?_
    refine nameLI (hd := by decide) (by assumption) (by first | assumption | rfl) ?_ rfl (Cx.Ok.fn (by assumption)) (by first | exact kindK hf rfl | (rw [hf]; rfl) | (rw [he]; rfl))
    intro tok
    refine nameLR (hd := by decide) (by assumption) (by first | assumption | rfl) ?_ rfl (Cx.Ok.fn (by assumption)) (by first | exact kindK hf rfl | (rw [hf]; rfl) | (rw [he]; rfl))
    dsimp only
    have st := st.names (nmC σ a1 a2 a3 a4 (.int k)) ⟨rfl, rfl, rfl, rfl, rfl, rfl, rfl, trivial⟩
    have hnb : n < scanBound := by unfold scanBound; exact om74 hz hn
    refine inS (by assumption) C.seen hnb ?_
    intro s st
    with_reducible refine wpAny_truthy_bool ?_
    cases hSk : Sn k with
    | true =>
      refine ifP rfl ?_
      with_reducible refine execsK ?_
      intro K hStmt
      with_reducible refine wpAny_Continue ?_
      with_reducible refine openK (by assumption) ?_
      dsimp only
      with_reducible refine openK (by assumption) ?_
      dsimp only
      with_reducible refine openK (by assumption) ?_
      dsimp only
      exact ⟨_, _, st, fun x av e => nmC_sub x av e, Sn, n, C, hn⟩
    | false =>
      refine ifN Bool.false_ne_true ?_
      with_reducible refine wpAny_execs_nil ?_
      with_reducible refine openK (by assumption) ?_
      with_reducible refine execsK ?_
      intro K hStmt
      refine whileR (fun m ρ' H' => ∃ nd Sn n fs, ρ' = lk (nmC σ a1 a2 a3 a4 (.int nd)) ∧ Cy c' H a1 a2 a3 a4 l.sa Sn n fs H' ∧ n + rem σ.g.ks Sn (fun _ => 1) = σ.g.ks.length ∧ fs.length ≤ n ∧ nd ∈ σ.g.ks ∧ (∀ f ∈ fs, f.v ∈ σ.g.ks ∧ rk nd < rk f.v) ∧
          (fs.map (·.v)).Pairwise (fun x y => rk y < rk x) ∧ m = rem σ.g.ks Sn (fun v => (σ.g.sc v).length + 1) + pend σ.g.sc fs)
        (rem σ.g.ks Sn (fun v => (σ.g.sc v).length + 1)) (by assumption) ⟨k, Sn, n, [], rfl, C, hn, Nat.zero_le _, hkm, fun f hf => (nomatch hf), .nil, rfl⟩ ?_
      intro m ρ2 H2 s2  hJJ st K hTurn KQ hQ
      obtain ⟨nd, Sn, n, fs, rfl, C, hn, hfn, hnd, hrk, hpw, rfl⟩ := hJJ
      have hnb : n + 1 < scanBound := by unfold scanBound; exact om75 hz hn
      have hndn : nd ∉ fs.map (·.v) := by
        intro hm
        obtain ⟨f, hf, e⟩ := List.mem_map.mp hm
        have := (hrk f hf).2
        rw [e] at this
        exact Nat.lt_irrefl _ this
      have inner : ∀ (Sn : Int → Bool) (n : Nat) (fs : List Fm) (H2 : Ledger) (s : Shared) (M : Nat), n + rem σ.g.ks Sn (fun _ => 1) = σ.g.ks.length → fs.length ≤ n → (∀ f ∈ fs, f.v ∈ σ.g.ks) → (fs.map (·.v)).Pairwise (fun x y => rk y < rk x) →
          rem σ.g.ks Sn (fun v => (σ.g.sc v).length + 1) + pend σ.g.sc fs ≤ M → St c' Rl (lk (nmC σ a1 a2 a3 a4 (.int nd))) H2 s → Cy c' H a1 a2 a3 a4 l.sa Sn n fs H2 →
          wpAny c'.M (A.deeper c'.fenv) (exec sInner c'.fenv) (fun f s₃ => match f with
            | .next => ∃ m ρ'' H'', m < M ∧ St c' Rl ρ'' H'' s₃ ∧ ∃ nd Sn n fs, ρ'' = lk (nmC σ a1 a2 a3 a4 (.int nd)) ∧ Cy c' H a1 a2 a3 a4 l.sa Sn n fs H'' ∧ n + rem σ.g.ks Sn (fun _ => 1) = σ.g.ks.length ∧ fs.length ≤ n ∧ nd ∈ σ.g.ks ∧ (∀ f ∈ fs, f.v ∈ σ.g.ks ∧ rk nd < rk f.v) ∧
                (fs.map (·.v)).Pairwise (fun x y => rk y < rk x) ∧ m = rem σ.g.ks Sn (fun v => (σ.g.sc v).length + 1) + pend σ.g.sc fs
            | .brk => ∃ ρ'' H'', St c' Rl ρ'' H'' s₃ ∧ (∀ x av, lk (nmC0 σ a1 a2 a3 a4) x = some av → ρ'' x = some av) ∧ ∃ Sn n, Cy c' H a1 a2 a3 a4 l.sa Sn n [] H'' ∧ n + rem σ.g.ks Sn (fun _ => 1) = σ.g.ks.length
            | _ => False) (fun _ _ => False) s := by
        intro Sn n fs H2 s M hn hfn hks hpw hM st C
        refine inner_spec hK ok' hf (show A.handled = none from hh) hfr FI2 S X hdeg hac st C hks hpw (by exact om76 hz hn hfn) ?_ ?_
        · intro nd' fs' H'' s' st' C' h1 h2 h3 h4 h5
          exact ⟨_, _, _, by exact om77 hM h4, st', nd', Sn, n, fs', rfl, C', hn, by exact om78 hfn h5, h1, h2, h3, rfl⟩
        · intro nd' H'' s' st' C'
          exact ⟨_, _, st', fun x av e => nmC_sub x av e, Sn, n, C', hn⟩
      refine wpAny_isTrue_value ?_
      with_reducible refine wpAny_Constant_bool ?_
      with_reducible refine wpAny_truthy_bool ?_
      refine ifP rfl ?_
      with_reducible refine execsK ?_
      intro K hStmt
      with_reducible refine wpAny_If ?_
      with_reducible refine wpAny_isTrue_Compare1 ?_
      refine nameLI (hd := by decide) (by assumption) (by first | assumption | rfl) ?_ rfl (Cx.Ok.fn (by assumption)) (by first | exact kindK hf rfl | (rw [hf]; rfl) | (rw [he]; rfl))
      intro tok
      refine nameLR (hd := by decide) (by assumption) (by first | assumption | rfl) ?_ rfl (Cx.Ok.fn (by assumption)) (by first | exact kindK hf rfl | (rw [hf]; rfl) | (rw [he]; rfl))
      refine inS (by assumption) C.seen (by exact om61 hnb) ?_
      intro s st
      with_reducible refine wpAny_truthy_bool ?_
      cases hSn : Sn nd with
      | true =>
        refine ifP rfl ?_
        obtain ⟨es, ep, hd1, hd2⟩ := C.idx
        with_reducible refine execsK ?_
        intro K hStmt
        with_reducible refine wpAny_If ?_
        with_reducible refine wpAny_isTrue_Compare1 ?_
        refine nameLI (hd := by decide) (by assumption) (by first | assumption | rfl) ?_ rfl (Cx.Ok.fn (by assumption)) (by first | exact kindK hf rfl | (rw [hf]; rfl) | (rw [he]; rfl))
        intro tok
        refine nameLR (hd := by decide) (by assumption) (by first | assumption | rfl) ?_ rfl (Cx.Ok.fn (by assumption)) (by first | exact kindK hf rfl | (rw [hf]; rfl) | (rw [he]; rfl))
        refine inD (by assumption) hd1 ?_
        intro s st
        rw [lookup_none_of_keys (by rw [hd2]; exact hndn)]
        with_reducible refine wpAny_truthy_bool ?_
        refine ifN (by exact Bool.false_ne_true) ?_
        with_reducible refine wpAny_execs_nil ?_
        with_reducible refine openK (by assumption) ?_
        with_reducible refine wpAny_execs_nil ?_
        with_reducible refine openK (by assumption) ?_
        with_reducible refine execsK ?_
        intro K hStmt
        refine wpAny_mono (inner Sn n fs H2 _ _ hn hfn (fun f hf => (hrk f hf).1) hpw (Nat.le_refl _) st C) (fun fl s3 q => ?_) fun _ _ z => z.elim
        cases fl with
        | next =>
          with_reducible refine openK (by assumption) ?_
          with_reducible refine wpAny_execs_nil ?_
          with_reducible refine openK (by assumption) ?_
          dsimp only
          exact q
        | brk =>
          obtain ⟨ρ'', H'', q1, q2, q3⟩ := q
          with_reducible refine openK (by assumption) ?_
          dsimp only
          with_reducible refine openK (by assumption) ?_
          dsimp only
          with_reducible refine openK (by assumption) ?_
          with_reducible refine wpAny_execs_nil ?_
          with_reducible refine openK (by assumption) ?_
          dsimp only
          exact ⟨ρ'', H'', q1, q2, q3⟩
        | cont => exact q.elim
        | ret v => exact q.elim
      | false =>
        refine ifN Bool.false_ne_true ?_
        with_reducible refine execsK ?_
        intro K hStmt
        refine exprV (hs := by rfl) (Cx.Ok.fn (by assumption)) ?_
        refine callMeth (he := by rfl) ?_
        refine nameLR (hd := by decide) (by assumption) (by first | assumption | rfl) ?_ rfl (Cx.Ok.fn (by assumption)) (by first | exact kindK hf rfl | (rw [hf]; rfl) | (rw [he]; rfl))
        refine methS (by assumption) C.seen (by exact om61 hnb) ?_
        refine cw (he := by rfl) ?_
        dsimp only [Args_]
        refine nameLI (hd := by decide) (by assumption) (by first | assumption | rfl) ?_ rfl (Cx.Ok.fn (by assumption)) (by first | exact kindK hf rfl | (rw [hf]; rfl) | (rw [he]; rfl))
        intro tok
        (first | refine ⟨trivial, ?_⟩ | refine ⟨stands_K (by assumption) (by assumption) (by (rw [hK]; first | with_reducible exact k_bisect _ | with_reducible exact k_insort _ | with_reducible exact k_info _ | with_reducible exact k_sorter _ | with_reducible exact k98 _ | with_reducible exact k105 _ | with_reducible exact k110 _ | with_reducible exact k117 _ | with_reducible exact k124 _ | with_reducible exact k138 _ | with_reducible exact k145 _ | with_reducible exact kp_least _)), ?_⟩)
        (try dsimp only [List.nil_append, List.cons_append])
        refine addS (by assumption) C.seen hnb ?_
        intro s st
        with_reducible refine openK (by assumption) ?_
        with_reducible refine execsK ?_
        intro K hStmt
        refine exprV (hs := by rfl) (Cx.Ok.fn (by assumption)) ?_
        refine callMeth (he := by rfl) ?_
        refine nameLR (hd := by decide) (by assumption) (by first | assumption | rfl) ?_ rfl (Cx.Ok.fn (by assumption)) (by first | exact kindK hf rfl | (rw [hf]; rfl) | (rw [he]; rfl))
        have hA3 := C.its
        obtain ⟨es, ep, hd1, hd2⟩ := C.idx
        have hits : upd H2 a3 (setO c' (fun k' => Sn k' || decide (k' = nd)) (if Sn nd = true then n else n + 1)) a2 = some (.list (fs.map fun f => AV.ref f.w)) := by rw [upd_ne X.e23]; exact C.its
        refine methL (by assumption) hits PySem.F.slot_list_append PySem.F.type_list_append ?_
        refine cw (he := by rfl) ?_
        dsimp only [Args_]
        refine Attribute_any_ ?_
        refine callName (he := by rfl) ?_
        refine nameB (hd := by decide) (by assumption) (by assumption) (by rw [hK]; kernel_rfl) (by first | with_reducible exact bb_len | with_reducible exact bb_list | with_reducible exact bb_range | with_reducible exact bb_abs | with_reducible exact bb_sorted | with_reducible exact bb_max | with_reducible exact bb_min | with_reducible exact bb_sum | with_reducible exact bb_tuple | with_reducible exact bb_set | with_reducible exact bb_iter | with_reducible exact bb_bool | with_reducible exact bb_dict | with_reducible exact bb_divmod | with_reducible exact bb_enumerate | with_reducible exact bb_zip) (by decide) ?_ (Cx.Ok.glob (by assumption)) (Cx.Ok.blt (by assumption)) (Cx.Ok.fn (by assumption)) (by first | exact kindK hf rfl | (rw [hf]; rfl) | (rw [he]; rfl))
        refine cw (he := by rfl) ?_
        dsimp only [Args_]
        refine Attribute_any_ ?_
        with_reducible refine Subscript_ ?_
        refine nameLR (hd := by decide) (by assumption) (by first | assumption | rfl) ?_ rfl (Cx.Ok.fn (by assumption)) (by first | exact kindK hf rfl | (rw [hf]; rfl) | (rw [he]; rfl))
        refine nameLI (hd := by decide) (by assumption) (by first | assumption | rfl) ?_ rfl (Cx.Ok.fn (by assumption)) (by first | exact kindK hf rfl | (rw [hf]; rfl) | (rw [he]; rfl))
        intro tok
        have hsub : Sub H (upd H2 a3 (setO c' (fun k' => Sn k' || decide (k' = nd)) (if Sn nd = true then n else n + 1))) := C.sub.trans ⟨fun b ao e => e⟩ |>.upd X.n3
        refine idxD (hs := by with_unfolding_all rfl) (by assumption) (hsub.le _ _ S.dict) (av := .ref (l.na nd)) (by rw [lookup_keys, if_pos hnd]) ?_
        refine gotRS ?_
        intro s st
        refine getSucc hK ok' (by assumption) (hsub.le _ _ (S.node nd hnd)) (hsub.le _ _ (S.ndct nd hnd)) (av := .ref (l.sa nd)) rfl rfl ?_
        refine gotRS ?_
        intro s st
        (first | refine ⟨trivial, ?_⟩ | refine ⟨stands_K (by assumption) (by assumption) (by (rw [hK]; first | with_reducible exact k_bisect _ | with_reducible exact k_insort _ | with_reducible exact k_info _ | with_reducible exact k_sorter _ | with_reducible exact k98 _ | with_reducible exact k105 _ | with_reducible exact k110 _ | with_reducible exact k117 _ | with_reducible exact k124 _ | with_reducible exact k138 _ | with_reducible exact k145 _ | with_reducible exact kp_least _)), ?_⟩)
        (try dsimp only [List.nil_append, List.cons_append])
        refine iterOf ok' (by assumption) (.inl (hsub.le _ _ (S.succ nd hnd))) ?_
        intro iv s hiv st
        skip
        refine nextAttr ok' (by assumption) (upd_self ..) ?_
        intro w s hw st
        have nit3 : iv ≠ a3 := fun q => by first | (rw [q, upd_self] at hiv; cases hiv) | (rw [← q, upd_self] at hiv; cases hiv)
        rw [upd_ne nit3] at hiv
        have nwi : iv ≠ w := fun q => by first | (rw [q, upd_self] at hw; cases hw) | (rw [← q, upd_self] at hw; cases hw)
        rw [upd_ne (Ne.symm nwi)] at hw
        have nw3 : w ≠ a3 := fun q => by first | (rw [q, upd_self] at hw; cases hw) | (rw [← q, upd_self] at hw; cases hw)
        rw [upd_ne nw3] at hw
        have i1 : iv ≠ a1 := fun q => by first | (rw [q, C.stk] at hiv; cases hiv) | (rw [← q, C.stk] at hiv; cases hiv)
        have i2 : iv ≠ a2 := fun q => by first | (rw [q, C.its] at hiv; cases hiv) | (rw [← q, C.its] at hiv; cases hiv)
        have i4 : iv ≠ a4 := fun q => by first | (rw [q, hd1] at hiv; cases hiv) | (rw [← q, hd1] at hiv; cases hiv)
        have w1 : w ≠ a1 := fun q => by first | (rw [q, C.stk] at hw; cases hw) | (rw [← q, C.stk] at hw; cases hw)
        have w2 : w ≠ a2 := fun q => by first | (rw [q, C.its] at hw; cases hw) | (rw [← q, C.its] at hw; cases hw)
        have w4 : w ≠ a4 := fun q => by first | (rw [q, hd1] at hw; cases hw) | (rw [← q, hd1] at hw; cases hw)
        have st := st.loosen (a := iv) (ao := liX (l.sa nd)) (ao' := liO (l.sa nd) 0) (by rw [upd_ne nwi]; exact upd_self ..) (fun o e => by rw [show o = liB (l.sa nd) from e]; exact ⟨rfl, rfl⟩)
        (first | refine ⟨trivial, ?_⟩ | refine ⟨stands_K (by assumption) (by assumption) (by (rw [hK]; first | with_reducible exact k_bisect _ | with_reducible exact k_insort _ | with_reducible exact k_info _ | with_reducible exact k_sorter _ | with_reducible exact k98 _ | with_reducible exact k105 _ | with_reducible exact k110 _ | with_reducible exact k117 _ | with_reducible exact k124 _ | with_reducible exact k138 _ | with_reducible exact k145 _ | with_reducible exact kp_least _)), ?_⟩)
        (try dsimp only [List.nil_append, List.cons_append])
        refine appendL (xs := fs.map fun f => AV.ref f.w) (by assumption) (by rw [upd_ne (Ne.symm i2), upd_ne (Ne.symm w2), upd_ne (Ne.symm i2)]; exact hits) (by rw [List.length_map, sizeLine_eq]; exact om79 hz hn hfn) ?_
        intro s st
        with_reducible refine openK (by assumption) ?_
        with_reducible refine execsK ?_
        intro K hStmt
        refine wpAny_Assign_Subscript ?_
        refine callName (he := by rfl) ?_
        refine nameB (hd := by decide) (by assumption) (by assumption) (by rw [hK]; kernel_rfl) (by first | with_reducible exact bb_len | with_reducible exact bb_list | with_reducible exact bb_range | with_reducible exact bb_abs | with_reducible exact bb_sorted | with_reducible exact bb_max | with_reducible exact bb_min | with_reducible exact bb_sum | with_reducible exact bb_tuple | with_reducible exact bb_set | with_reducible exact bb_iter | with_reducible exact bb_bool | with_reducible exact bb_dict | with_reducible exact bb_divmod | with_reducible exact bb_enumerate | with_reducible exact bb_zip) (by decide) ?_ (Cx.Ok.glob (by assumption)) (Cx.Ok.blt (by assumption)) (Cx.Ok.fn (by assumption)) (by first | exact kindK hf rfl | (rw [hf]; rfl) | (rw [he]; rfl))
        refine cw (he := by rfl) ?_
        dsimp only [Args_]
        refine nameLR (hd := by decide) (by assumption) (by first | assumption | rfl) ?_ rfl (Cx.Ok.fn (by assumption)) (by first | exact kindK hf rfl | (rw [hf]; rfl) | (rw [he]; rfl))
        (first | refine ⟨trivial, ?_⟩ | refine ⟨stands_K (by assumption) (by assumption) (by (rw [hK]; first | with_reducible exact k_bisect _ | with_reducible exact k_insort _ | with_reducible exact k_info _ | with_reducible exact k_sorter _ | with_reducible exact k98 _ | with_reducible exact k105 _ | with_reducible exact k110 _ | with_reducible exact k117 _ | with_reducible exact k124 _ | with_reducible exact k138 _ | with_reducible exact k145 _ | with_reducible exact kp_least _)), ?_⟩)
        (try dsimp only [List.nil_append, List.cons_append])
        refine lenL (xs := fs.map fun f => AV.int f.v) (by assumption) (.inl (by rw [upd_ne X.e12, upd_ne (Ne.symm i1), upd_ne (Ne.symm w1), upd_ne (Ne.symm i1), upd_ne X.e13]; exact C.stk)) (by rw [List.length_map]; exact om80 hz hn hfn) ?_
        intro tok s st
        refine nameLR (hd := by decide) (by assumption) (by first | assumption | rfl) ?_ rfl (Cx.Ok.fn (by assumption)) (by first | exact kindK hf rfl | (rw [hf]; rfl) | (rw [he]; rfl))
        refine nameLI (hd := by decide) (by assumption) (by first | assumption | rfl) ?_ rfl (Cx.Ok.fn (by assumption)) (by first | exact kindK hf rfl | (rw [hf]; rfl) | (rw [he]; rfl))
        intro tok
        refine setD (es := es) (ep := ep) (by assumption) (by rw [upd_ne (Ne.symm X.e24), upd_ne (Ne.symm i4), upd_ne (Ne.symm w4), upd_ne (Ne.symm i4), upd_ne (Ne.symm X.e34)]; exact hd1) (by rw [← List.length_map (f := (·.1)), hd2, List.length_map, sizeLine_eq]; exact om79 hz hn hfn) ?_
        intro ep' s st
        rw [storedA_new (by rw [hd2]; exact hndn)] at st
        with_reducible refine openK (by assumption) ?_
        with_reducible refine execsK ?_
        intro K hStmt
        refine exprV (hs := by rfl) (Cx.Ok.fn (by assumption)) ?_
        refine callMeth (he := by rfl) ?_
        refine nameLR (hd := by decide) (by assumption) (by first | assumption | rfl) ?_ rfl (Cx.Ok.fn (by assumption)) (by first | exact kindK hf rfl | (rw [hf]; rfl) | (rw [he]; rfl))
        have hst1 : upd (upd (upd (upd (upd (upd H2 a3 (setO c' (fun k' => Sn k' || decide (k' = nd)) (if Sn nd = true then n else n + 1))) iv (liX (l.sa nd))) w (mwX iv)) iv (liO (l.sa nd) 0)) a2 (.list (fs.map (fun f => AV.ref f.w) ++ [abs (.ref w)]))) a4 (.dict (es ++ [(nd, abs (.int (fs.map fun f => AV.int f.v).length tok))]) ep') a1 = some (.list (fs.map fun f => AV.int f.v)) := by
          rw [upd_ne X.e14, upd_ne X.e12, upd_ne (Ne.symm i1), upd_ne (Ne.symm w1), upd_ne (Ne.symm i1), upd_ne X.e13]; exact C.stk
        refine methL (by assumption) hst1 PySem.F.slot_list_append PySem.F.type_list_append ?_
        refine cw (he := by rfl) ?_
        dsimp only [Args_]
        refine nameLI (hd := by decide) (by assumption) (by first | assumption | rfl) ?_ rfl (Cx.Ok.fn (by assumption)) (by first | exact kindK hf rfl | (rw [hf]; rfl) | (rw [he]; rfl))
        intro tok
        (first | refine ⟨trivial, ?_⟩ | refine ⟨stands_K (by assumption) (by assumption) (by (rw [hK]; first | with_reducible exact k_bisect _ | with_reducible exact k_insort _ | with_reducible exact k_info _ | with_reducible exact k_sorter _ | with_reducible exact k98 _ | with_reducible exact k105 _ | with_reducible exact k110 _ | with_reducible exact k117 _ | with_reducible exact k124 _ | with_reducible exact k138 _ | with_reducible exact k145 _ | with_reducible exact kp_least _)), ?_⟩)
        (try dsimp only [List.nil_append, List.cons_append])
        refine appendL (by assumption) hst1 (by rw [List.length_map, sizeLine_eq]; exact om79 hz hn hfn) ?_
        intro s st
        with_reducible refine openK (by assumption) ?_
        with_reducible refine wpAny_execs_nil ?_
        with_reducible refine openK (by assumption) ?_
        with_reducible refine execsK ?_
        intro K hStmt
        have C2 := Cy.push (k := nd) (S' := fun k' => Sn k' || decide (k' = nd)) (n' := if Sn nd = true then n else n + 1) (ep := ep') (es := es ++ [(nd, abs (.int (fs.map fun f => AV.int f.v).length tok))]) X C hiv hw nwi (by rw [List.map_append, hd2]; rfl)
        have hr1 := rem_add (f := fun _ => 1) hSn S.nodup hnd
        have hr2 := rem_add (f := fun v => (σ.g.sc v).length + 1) hSn S.nodup hnd
        have hne : (if Sn nd = true then n else n + 1) = n + 1 := by rw [hSn]; rfl
        rw [hne] at C2 st
        refine wpAny_mono (inner _ (n + 1) _ _ _ (rem σ.g.ks Sn (fun v => (σ.g.sc v).length + 1) + pend σ.g.sc fs) (by exact om81 hn hr1) (by simp; exact om39 hfn) ?_ ?_ ?_ st C2) (fun fl s3 q => ?_) fun _ _ z => z.elim
        · intro f hf
          rcases List.mem_append.mp hf with hf | hf
          · exact (hrk f hf).1
          · rw [List.mem_singleton] at hf; subst hf; exact hnd
        · rw [List.map_append, List.pairwise_append]
          refine ⟨hpw, by simp, fun x hx y hy => ?_⟩
          obtain ⟨f, hf, rfl⟩ := List.mem_map.mp hx
          simp at hy
          subst hy
          exact (hrk f hf).2
        · rw [pend_snoc]
          show _ + (pend σ.g.sc fs + ((σ.g.sc nd).length - 0)) ≤ _
          exact om82 hr2
        cases fl with
        | next =>
          with_reducible refine openK (by assumption) ?_
          with_reducible refine wpAny_execs_nil ?_
          with_reducible refine openK (by assumption) ?_
          dsimp only
          exact q
        | brk =>
          obtain ⟨ρ'', H'', q1, q2, q3⟩ := q
          with_reducible refine openK (by assumption) ?_
          dsimp only
          with_reducible refine openK (by assumption) ?_
          dsimp only
          with_reducible refine openK (by assumption) ?_
          with_reducible refine wpAny_execs_nil ?_
          with_reducible refine openK (by assumption) ?_
          dsimp only
          exact ⟨ρ'', H'', q1, q2, q3⟩
        | cont => exact q.elim
        | ret v => exact q.elim
  · rintro ρ' H' s' ⟨hρ, Sn, n, C, hn⟩ st
    have st := st.weaken hρ
    with_reducible refine wpAny_execs_nil ?_
    with_reducible refine openK (by assumption) ?_
    with_reducible refine execsK ?_
    intro K hStmt
    with_reducible refine wpAny_Return_some ?_
    with_reducible refine wpAny_Constant_none ?_
    with_reducible refine openK (by assumption) ?_
    dsimp only
    exact ⟨_, _, st, fun st => h _ _ C.sub st⟩
end


section
variable {c : Cx} {R : Ledger} {ρ : Str → Option AV} {H : Ledger} {s : Shared} {A : Around} {E : Value → Shared → Prop} {Q : Value → Shared → Prop} {d : Nat} {F : Addr → Prop} {σ : Srt} {l : Lay}

theorem SrtL.setReady {D : Addr} {r : List Int} (S : SrtL H F σ l) (hrd : σ.rd = none) (hD : H D = none) :
    SrtL (upd (upd H D (.list (r.map AV.int))) σ.d (.attrs (putA "_ready_nodes" (.ref D) (σ.attrs l)))) (fun b => F b ∨ b = D) { σ with rd := some r } { l with ra := D } := by
  have old : ∀ b ao, H b = some ao → (∀ es, ao = .attrs es → b ≠ σ.d) → upd (upd H D (.list (r.map AV.int))) σ.d (.attrs (putA "_ready_nodes" (.ref D) (σ.attrs l))) b = some ao := by
    intro b ao e hn
    have hb : b ≠ D := fun q => by first | (rw [q, hD] at e; cases e) | (rw [← q, hD] at e; cases e)
    rw [upd_ne, upd_ne hb]; exact e
    rintro rfl
    rw [S.attr] at e
    cases e
    exact hn _ rfl rfl
  have hDd : D ≠ σ.d := fun q => by first | (rw [q, S.attr] at hD; cases hD) | (rw [← q, S.attr] at hD; cases hD)
  refine ⟨old _ _ S.inst (fun _ q => by cases q), ?_, old _ _ S.dict (fun _ q => by cases q), fun k hk => old _ _ (S.node k hk) (fun _ q => by cases q), fun k hk => old _ _ (S.ndct k hk) (fun _ q => ?_), fun k hk => old _ _ (S.succ k hk) (fun _ q => by cases q), S.inj, S.nodup,
    fun r' hr => ⟨?_, fun k hk => ?_, .inr rfl⟩, ⟨.inl S.fp.1, .inl S.fp.2.1, .inl S.fp.2.2⟩, fun k hk => ⟨.inl (S.fpn k hk).1, .inl (S.fpn k hk).2.1, .inl (S.fpn k hk).2.2⟩, fun b hb => ?_⟩
  · rw [upd_self]; unfold Srt.attrs; rw [hrd]; rfl
  · intro z
    have h1 := S.ndct k hk
    rw [z, S.attr] at h1
    cases h1
  · cases hr
    rw [upd_ne hDd]; exact upd_self ..
  · intro q
    have h1 := S.succ k hk
    rw [show l.sa k = D from q, hD] at h1; cases h1
  · by_cases q : b = σ.d
    · subst q; rw [upd_self]; intro z; cases z
    · rw [upd_ne q]
      rcases hb with hb | rfl
      · by_cases q2 : b = D
        · subst q2; rw [upd_self]; intro z; cases z
        · rw [upd_ne q2]; exact S.all b hb
      · rw [upd_self]; intro z; cases z
theorem truthyN {Q : Bool → Shared → Prop} (h : Q false s) : wpAny c.M A (truthy .none) Q E s := fun _ _ _ => h

theorem prepare_spec {le : List Env} {rk : Int → Nat} (hK : c.G.K = KP c.G.w.params) (ok : c.Ok) (hdep : A.depth + 1 < recursionLimit) (hh : A.handled = none) (hfr : A.frames = some (c.fenv :: le)) (FI : FramesIn R le) (st : St c R ρ H s) (S : SrtL H F σ l) (hrd : σ.rd = none)
    (hz : σ.g.ks.length ≤ 1000) (hdeg : ∀ k ∈ σ.g.ks, (σ.g.sc k).length ≤ 1000) (hac : ∀ k ∈ σ.g.ks, ∀ k' ∈ σ.g.sc k, k' ∈ σ.g.ks ∧ rk k' < rk k)
    (h : ∀ H' F' l' s', Stp H F H' F' → SrtL H' F' { σ with rd := some (σ.g.ks.filter fun k => σ.g.np k == 0) } l' → St c R ρ H' s' → Q .none s') : wpAny c.M A (call (.ref 110) [.ref σ.self] []) Q E s := by
  have hRL := st.R_L
  refine callKH (binds := [(("self":Str), .ref σ.self)]) (by rw [hK]; exact in_prep _) ok (by exact om61 hdep) st (fun doc pm an ct => bindsK ok st (by rw [hK]; intro S; kernel_rfl)) (by kernel_rfl) (by kernel_rfl) ?_
  intro c' L' s' ok' hG hc' st'
  rw [← hG] at hK
  have hf : c'.fenv = envK "TopologicalSorter.prepare" sPrep L' 110 (.ref 109) [] := by rw [hc']; rfl
  have FI' := FramesIn.push (ρ := ρ) ok FI hRL
  have hrv : (σ.attrs l).lookup (Str.ofString "_ready_nodes") = some AV.none := by show some _ = _; rw [hrd]
  refine execsK ?_
  intro K hStmt
  with_reducible refine wpAny_If ?_
  with_reducible refine wpAny_isTrue_Compare1 ?_
  refine Attribute_any_ ?_
  refine nameLR (hd := by decide) (by assumption) (by first | assumption | rfl) ?_ rfl (Cx.Ok.fn (by assumption)) (by first | exact kindK hf rfl | (rw [hf]; rfl) | (rw [he]; rfl))
  refine getA155 hK ok' (by assumption) S.inst S.attr (by kernel_rfl) hrv rfl ?_
  intro v s hv st
  with_reducible refine wpAny_Constant_none ?_
  refine isNotNone hv ?_
  with_reducible refine wpAny_truthy_bool ?_
  refine ifN (by exact Bool.false_ne_true) ?_
  with_reducible refine wpAny_execs_nil ?_
  with_reducible refine openK (by assumption) ?_
  with_reducible refine execsK ?_
  intro K hStmt
  refine plainObj_wpAny_Assign_Attribute ?_
  refine compL (hs := by intro _; rfl) (ht := by intro _ _; rfl) ok' (cl := []) (by kernel_rfl) (by kernel_rfl) (by kernel_rfl) ?_
  refine callMeth (he := by rfl) ?_
  refine Attribute_any_ ?_
  refine nameLR (hd := by decide) (by assumption) (by first | assumption | rfl) ?_ rfl (Cx.Ok.fn (by assumption)) (by first | exact kindK hf rfl | (rw [hf]; rfl) | (rw [he]; rfl))
  refine getA155 hK ok' (by assumption) S.inst S.attr (by kernel_rfl) (av := .ref σ.n2i) rfl rfl ?_
  refine gotRS ?_
  intro s st
  refine methD (by assumption) S.dict PySem.F.slot_dict_values PySem.F.type_dict_values ?_
  refine cw (he := by rfl) ?_
  dsimp only [Args_]
  (first | refine ⟨trivial, ?_⟩ | refine ⟨stands_K (by assumption) (by assumption) (by (rw [hK]; first | with_reducible exact k_bisect _ | with_reducible exact k_insort _ | with_reducible exact k_info _ | with_reducible exact k_sorter _ | with_reducible exact k98 _ | with_reducible exact k105 _ | with_reducible exact k110 _ | with_reducible exact k117 _ | with_reducible exact k124 _ | with_reducible exact k138 _ | with_reducible exact k145 _ | with_reducible exact kp_least _)), ?_⟩)
  (try dsimp only [List.nil_append, List.cons_append])
  refine valuesD ok' (by assumption) S.dict ?_
  intro vw s hvw st
  have S1 := S.mono ((Sub.refl H).upd (o := .obj fun o => o.cls = .type "dict_values" ∧ o.data = .fields #[.ref σ.n2i]) hvw)
  have hFv : ¬ F vw := fun q => S.all vw q hvw
  generalize hHb : upd H vw (.obj fun o => o.cls = .type "dict_values" ∧ o.data = .fields #[.ref σ.n2i]) = Hb at st S1
  have hvb : Hb vw = some (.obj fun o => o.cls = .type "dict_values" ∧ o.data = .fields #[.ref σ.n2i]) := by rw [← hHb]; exact upd_self ..
  have hsubb : Sub H Hb := by rw [← hHb]; exact (Sub.refl H).upd hvw
  skip
  refine iterV ok' (by assumption) S1.dict hvb ?_
  intro it s hit hRit st
  refine CompIs.mk (itr_vals (show (A.deeper c'.fenv).handled = none from hh)) hRit st (by rw [List.length_map, List.length_map, sizeLine_eq]; exact om59 hz) (fun C i acc H' => Hb C = none ∧ acc = ((σ.g.ks.take i).filter (fun k => σ.g.np k == 0)).map AV.int ∧ ∃ r, H' = upd Hb C (.ns r)) ?_ ?_ ?_ ?_
  · rintro C i acc H' ⟨hC, rfl, r, rfl⟩
    refine ⟨?_, r, upd_self ..⟩
    rw [upd_ne (fun q => by first | (rw [q, S1.dict] at hC; cases hC) | (rw [← q, S1.dict] at hC; cases hC))]; exact S1.dict
  · intro C hC
    refine ⟨?_, rfl, _, rfl⟩
    cases e : Hb C with
    | none => rfl
    | some ao => exact absurd (hC C (by rw [e]; intro q; cases q)) (Nat.lt_irrefl _)
  · intro C cenv i av R' acc H' s' v he hi  hJJ st hv KE hElt KN hNo
    obtain ⟨hC, rfl, r, rfl⟩ := hJJ
    rw [List.map_map, List.getElem?_map] at hi
    obtain ⟨k, hk, rfl⟩ := Option.map_eq_some_iff.mp hi
    obtain ⟨hlt, hk⟩ := List.getElem?_eq_some_iff.mp hk
    have hkm : k ∈ σ.g.ks := hk ▸ List.getElem_mem hlt
    obtain rfl := abs_ref hv
    have hsC : Sub Hb (upd Hb C (.ns (put r "i" (.ref (l.na k))))) := (Sub.refl Hb).upd hC
    have hL : cenv.locals = C := by rw [he]; rfl
    with_reducible refine wpAny_assign_Name ?_
    refine storeN (by assumption) (r := r) (by rw [hL]; exact upd_self ..) ?_ (by rw [he]; rfl) (by rw [he]; rfl)
    intro s st
    rw [hL, upd_upd] at st
    refine wpAny_tests_one ?_
    with_reducible refine wpAny_isTrue_Compare1 ?_
    refine Attribute_any_ ?_
    refine nameN (hd := by decide) (by assumption) (by rw [hL]; exact upd_self ..) (by first | exact put_self .. | (rw [put_ne (by decide)]; exact put_self ..)) ?_ (by rw [he]; rfl) (by rw [he]; rfl)
    refine gotRA ?_
    refine getNpred hK ok' (by assumption) (hsC.le _ _ (S1.node k hkm)) (hsC.le _ _ (S1.ndct k hkm)) (av := .int (σ.g.np k)) rfl rfl ?_
    refine gotIS ?_
    intro tok s st
    with_reducible refine cInt (by assumption) ?_
    intro tok s st
    with_reducible refine eqI ?_
    with_reducible refine wpAny_truthy_bool ?_
    have htk : σ.g.ks.take (i + 1) = σ.g.ks.take i ++ [k] := by rw [List.take_add_one, List.getElem?_eq_getElem hlt, hk]; rfl
    cases hb : (σ.g.np k == 0) with
    | false =>
      refine ifN Bool.false_ne_true ?_
      with_reducible refine openS (by assumption) ?_
      refine ⟨_, st, hC, ?_, _, rfl⟩
      rw [htk, List.filter_append]; simp [List.filter_cons, hb]
    | true =>
      refine ifP rfl ?_
      refine Attribute_any_ ?_
      refine nameN (hd := by decide) (by assumption) (by rw [hL]; exact upd_self ..) (by first | exact put_self .. | (rw [put_ne (by decide)]; exact put_self ..)) ?_ (by rw [he]; rfl) (by rw [he]; rfl)
      refine gotRA ?_
      refine getNode hK ok' (by assumption) (hsC.le _ _ (S1.node k hkm)) (hsC.le _ _ (S1.ndct k hkm)) (av := .int k) rfl rfl ?_
      intro v s hv st
      with_reducible refine openV (by assumption) ?_
      refine ⟨_, st, hC, ?_, _, rfl⟩
      rw [htk, List.filter_append, hv]; simp [List.filter_cons, hb]
  · rintro D C acc H' s' hD ⟨hC, rfl, r, rfl⟩ hD' hDC st
    rw [List.length_map, List.length_map, List.take_length] at st
    have hDC' : D ≠ C := Nat.ne_of_lt hDC
    have st := st.drop (H' := upd Hb D (.list ((σ.g.ks.filter (fun k => σ.g.np k == 0)).map AV.int))) (fun a ao e => by
      by_cases q : a = D
      · subst q; rw [upd_self] at e ⊢; exact e
      · rw [upd_ne q] at e ⊢
        have : a ≠ C := fun q => by first | (rw [q, hC] at e; cases e) | (rw [← q, hC] at e; cases e)
        rw [del_ne this, upd_ne this]; exact e)
    have S2 := S1.setReady (r := σ.g.ks.filter fun k => σ.g.np k == 0) hrd hD
    have S1' := S1.mono ((Sub.refl Hb).upd (o := .list ((σ.g.ks.filter (fun k => σ.g.np k == 0)).map AV.int)) hD)
    refine nameLR (hd := by decide) (by assumption) (by first | assumption | rfl) ?_ rfl (Cx.Ok.fn (by assumption)) (by first | exact kindK hf rfl | (rw [hf]; rfl) | (rw [he]; rfl))
    refine setA155 hK ok' (by assumption) S1'.inst S1'.attr (by kernel_rfl) (by exact Nat.le_of_ble_eq_true rfl) ?_
    intro s st
    with_reducible refine openK (by assumption) ?_
    with_reducible refine execsK ?_
    intro K hStmt
    refine wpAny_Assign_Name ?_
    refine callMeth (he := by rfl) ?_
    refine nameLR (hd := by decide) (by assumption) (by first | assumption | rfl) ?_ rfl (Cx.Ok.fn (by assumption)) (by first | exact kindK hf rfl | (rw [hf]; rfl) | (rw [he]; rfl))
    refine meth155 hK ok' (by assumption) S2.inst S2.attr (f := 145) (by kernel_rfl) (by kernel_rfl) rfl ?_
    refine cw (he := by rfl) ?_
    dsimp only [Args_]
    (first | refine ⟨trivial, ?_⟩ | refine ⟨stands_K (by assumption) (by assumption) (by (rw [hK]; first | with_reducible exact k_bisect _ | with_reducible exact k_insort _ | with_reducible exact k_info _ | with_reducible exact k_sorter _ | with_reducible exact k98 _ | with_reducible exact k105 _ | with_reducible exact k110 _ | with_reducible exact k117 _ | with_reducible exact k124 _ | with_reducible exact k138 _ | with_reducible exact k145 _ | with_reducible exact kp_least _)), ?_⟩)
    (try dsimp only [List.nil_append, List.cons_append])
    refine cycle_spec (σ := { σ with rd := some (σ.g.ks.filter fun k => σ.g.np k == 0) }) (le := c.fenv :: le) hK ok' (show A.depth + 1 < _ from hdep) hh (by show A.frames.map _ = _; rw [hfr]; rfl) FI' (by assumption) S2 hz hdeg hac ?_
    intro H3 s hs3 st
    refine storeL (by assumption) ?_ rfl (Cx.Ok.fn (by assumption)) (by first | exact kindK hf rfl | (rw [hf]; rfl) | (rw [he]; rfl))
    intro s st
    with_reducible refine openK (by assumption) ?_
    with_reducible refine execsK ?_
    intro K hStmt
    with_reducible refine wpAny_If ?_
    refine wpAny_isTrue_value ?_
    refine nameL (hd := by decide) (by assumption) (by first | assumption | rfl) ?_ rfl (Cx.Ok.fn (by assumption)) (by first | exact kindK hf rfl | (rw [hf]; rfl) | (rw [he]; rfl))
    refine gotNA ?_
    refine truthyN ?_
    refine ifN Bool.false_ne_true ?_
    with_reducible refine wpAny_execs_nil ?_
    with_reducible refine openK (by assumption) ?_
    with_reducible refine wpAny_execs_nil ?_
    refine ⟨_, _, st, fun st => h H3 (fun b => F b ∨ b = D) _ _ ?_ (S2.mono hs3) st⟩
    refine ⟨fun b ao hn e => hs3.le _ _ ?_, fun b q => .inl q, fun b q => ?_⟩
    · rw [upd_ne (by rintro rfl; exact hn S.fp.2.1), upd_ne]
      · exact hsubb.le _ _ e
      · intro q; first | (rw [q, hsubb.le _ _ e] at hD; cases hD) | (rw [← q, hsubb.le _ _ e] at hD; cases hD)
    · rcases q with q | rfl
      · exact .inl q
      · refine .inr ?_
        cases e : H b with
        | none => rfl
        | some ao => rw [hsubb.le _ _ e] at hD; cases hD
end

section
variable {c : Cx} {R : Ledger} {ρ : Str → Option AV} {H : Ledger} {s : Shared} {A : Around} {E : Value → Shared → Prop} {Q : Value → Shared → Prop} {t u : Tok}

noncomputable def rngO (a b : Int) : AO := .obj fun o => ∃ t u v : Tok, o = { cls := .type "range", data := .fields #[.int a t, .int b u, .int 1 v] }
theorem rangeC1 {n : Int} (ok : c.Ok) (st : St c R ρ H s) (h : ∀ r s', H r = none → St c R ρ (upd H r (rngO 0 n)) s' → Q (.ref r) s') : wpAny c.M A (call (.type "range") [.int n t]) Q E s :=
  call_range_1 (h _ _ st.none_size ((st.alloc ok (ao := rngO 0 n) ⟨s.toks, t, s.toks + 1, rfl⟩ rfl).toks _))
theorem iterRng {r : Addr} {a b : Int} (ok : c.Ok) (st : St c R ρ H s) (hr : H r = some (rngO a b)) (ha : -(2 ^ 62) ≤ a) (ha' : a < 2 ^ 62) (hb : -(2 ^ 62) ≤ b) (hb' : b < 2 ^ 62)
    (h : ∀ it s', H it = none → R it = none → St c (upd R it (riO a ((b - a).toNat : Nat) 0)) ρ H s' → Q (.ref it) s') : wpAny c.M A (pyIter (.ref r)) Q E s := by
  obtain ⟨o, e, t, u, v, rfl⟩ := st.get hr
  refine wpAny_pyIter_range e (small_one ha ha' hb hb') (h _ _ st.none_size st.hid_size (hideNew ok st ?_ rfl))
  show (_ : Obj) = _
  rw [rangeSize_nat]
  simp
theorem listRng {r : Addr} {a b : Int} (ok : c.Ok) (hh : A.handled = none) (st : St c R ρ H s) (hr : H r = some (rngO a b)) (ha : -(2 ^ 62) ≤ a) (ha' : a < 2 ^ 62) (hb : -(2 ^ 62) ≤ b) (hb' : b < 2 ^ 62) (hz : (b - a).toNat ≤ 2 ^ 24)
    (h : ∀ l s', H l = none → St c R ρ (upd H l (.list ((List.range (b - a).toNat).map fun (i : Nat) => AV.int (a + i)))) s' → Q (.ref l) s') : wpAny c.M A (call (.type "list") [.ref r]) Q E s := by
  obtain ⟨o, e, t, u, v, rfl⟩ := st.get hr
  refine call_list_range (n := (b - a).toNat) hh e (small_one ha ha' hb hb') (rangeSize_nat a b) hz fun h' tk acc' c' hk hS' hacc => h _ _ st.none_size ?_
  have st' := st.keeps (tk := tk) hk
  refine st.grow (tk := tk) st' hS' (Nat.ne_of_gt st.Llt) ?_ (st.size_gt ok) st.hid_size ⟨acc'.toList, c', by simp [PySem.W.listOf], ?_⟩
  · cases q : c.h₀.get? s.heap.objs.size with
    | none => rfl
    | some o' => obtain ⟨m, F, _⟩ := st.fr; exact absurd (Heap.lt_size (F.keep _ _ q)) (Nat.lt_irrefl _)
  · apply List.ext_getElem?
    intro i
    rw [List.getElem?_map, List.getElem?_map]
    by_cases hi : i < (b - a).toNat
    · have h1 : i < acc'.toList.length := by rw [Array.length_toList, hacc.1]; exact hi
      rw [List.getElem?_eq_getElem h1, List.getElem?_range hi]
      obtain ⟨t, e⟩ := hacc.2 i _ (by rw [← Array.getElem?_toList, List.getElem?_eq_getElem h1])
      rw [e]
      simp [abs]
    · rw [List.getElem?_eq_none (by rw [Array.length_toList, hacc.1]; exact om83 hi), List.getElem?_eq_none (by rw [List.length_range]; exact om83 hi)]
      rfl
end


theorem intsAre_of : ∀ {vs : List Value} {ns : List Int}, vs.map abs = ns.map AV.int → IntsAre vs ns
  | [], [], _ => .nil
  | [], _ :: _, h => by cases h
  | _ :: _, [], h => by cases h
  | v :: vs, n :: ns, h => by
    rw [List.map_cons, List.map_cons] at h
    obtain ⟨h1, h2⟩ := List.cons.inj h
    obtain ⟨t, rfl⟩ := abs_int h1
    exact .cons n t (intsAre_of h2)
theorem of_intsAre : ∀ {vs : List Value} {ns : List Int}, IntsAre vs ns → vs.map abs = ns.map AV.int
  | _, _, .nil => rfl
  | _, _, .cons n t h => by rw [List.map_cons, List.map_cons, of_intsAre h]; rfl
theorem items_of {vs : List Value} {ns : List Int} (h : vs.map abs = ns.map AV.int) : ∃ xs : Array (Int × Tok), vs.toArray = intItems xs ∧ xs.toList.map (·.1) = ns := by
  induction vs generalizing ns with
  | nil => cases ns with
    | nil => exact ⟨#[], by simp [intItems], rfl⟩
    | cons _ _ => cases h
  | cons v vs ih => cases ns with
    | nil => cases h
    | cons n ns =>
      rw [List.map_cons, List.map_cons] at h
      obtain ⟨h1, h2⟩ := List.cons.inj h
      obtain ⟨t, rfl⟩ := abs_int h1
      obtain ⟨xs, e1, e2⟩ := ih h2
      refine ⟨((n, t) :: xs.toList).toArray, ?_, ?_⟩
      · apply Array.ext'
        have := congrArg Array.toList e1
        simp [intItems] at this ⊢
        exact this
      · simp [e2]

section
variable {c : Cx} {R : Ledger} {ρ : Str → Option AV} {H : Ledger} {s : Shared} {A : Around} {E : Value → Shared → Prop} {Q : Value → Shared → Prop} {t u : Tok} {l : Addr} {ns ms : List Int}

theorem sumL (hh : A.handled = none) (st : St c R ρ H s) (hl : SeesL c H l (ns.map AV.int)) (h : ∀ t s', St c R ρ H s' → Q (.int ns.sum t) s') : wpAny c.M A (call (.builtin "sum") [.ref l]) Q E s := by
  obtain ⟨vs, hL, e⟩ := st.list hl
  obtain ⟨xs, e1, e2⟩ := items_of e
  rw [e1] at hL
  refine sum_intListG hh hL fun h' tk t' hk => ?_
  have := h t' _ (st.keeps (tk := tk) hk)
  rw [preSum_eq, List.take_of_length_le (by simp), e2]
  exact this
theorem minI {a b : Int} (hh : A.handled = none) (st : St c R ρ H s) (h : ∀ t s', St c R ρ H s' → Q (.int (min a b) t) s') : wpAny c.M A (call (.builtin "min") [.int a t, .int b u]) Q E s := by
  refine min_two_ints hh fun h' tk hk => ?_
  have hs := st.keeps (tk := tk) hk
  by_cases hb : b < a
  · rw [if_pos hb]
    have := h u _ hs
    rwa [show min a b = b by exact om84 hb] at this
  · rw [if_neg hb]
    have := h t _ hs
    rwa [show min a b = a by exact om85 hb] at this

theorem maxL (hh : A.handled = none) (st : St c R ρ H s) (hl : SeesL c H l (ns.map AV.int)) (hne : 0 < ns.length) (h : ∀ M t s', M ∈ ns → (∀ a ∈ ns, a ≤ M) → St c R ρ H s' → Q (.int M t) s') : wpAny c.M A (call (.builtin "max") [.ref l]) Q E s := by
  obtain ⟨vs, hL, e⟩ := st.list hl
  obtain ⟨m, F, k⟩ := st.fr_m
  exact max_list_N hh F st.news hL (intsAre_of e) hne fun h' M t tk F' N' h1 h2 => h M t _ h1 h2 (k F' N')
theorem sortedL (ok : c.Ok) (st : St c R ρ H s) (hl : SeesL c H l (ns.map AV.int)) (h64 : ns.length < 64)
    (h : ∀ D (ns' : List Int) s', H D = none → ns'.Perm ns → ns'.Pairwise (· ≤ ·) → St c R ρ (upd H D (.list (ns'.map AV.int))) s' → Q (.ref D) s') : wpAny c.M A (call (.builtin "sorted") [.ref l]) Q E s := by
  obtain ⟨vs, hL, e⟩ := st.list hl
  obtain ⟨m, F, k⟩ := st.fr_m
  have hI := intsAre_of e
  refine sorted_N F st.news hL hI (by rw [hI.length]; exact h64) fun h' vs' ns' ep F' N' hI' hp hs => ?_
  have N1 := N' _ (.head _)
  have nH : H (s.heap.objs.size + 1) = none := by
    cases q : H (s.heap.objs.size + 1) with
    | none => rfl
    | some ao => exact absurd (Nat.lt_trans (Nat.lt_succ_self _) (st.lt q)) (Nat.lt_irrefl _)
  have nR : R (s.heap.objs.size + 1) = none := by
    cases q : R (s.heap.objs.size + 1) with
    | none => rfl
    | some ao => obtain ⟨o, z, _⟩ := st.hid _ _ q; exact absurd (Nat.lt_trans (Nat.lt_succ_self _) (Heap.lt_size z)) (Nat.lt_irrefl _)
  have st' : St c R ρ H { s with heap := h', toks := s.toks } := k F' (fun p hp => N' p (List.mem_cons_of_mem _ hp))
  exact h _ ns' _ nH hp hs (st.grow st' N1.1 N1.2.1 N1.2.2 (Nat.lt_succ_of_lt (st.size_gt ok)) nR ⟨vs', ep, rfl, of_intsAre hI'⟩)
noncomputable def isI (x : Int) : Value → Bool
  | .int a _ => a == x
  | _ => false
theorem any_ints {x : Int} {vs : List Value} {ns : List Int} (hI : IntsAre vs ns) : vs.toArray.any (isI x) = ns.contains x := by
  rw [List.any_toArray]
  induction hI with
  | nil => rfl
  | cons n t h ih =>
    rw [List.any_cons, ih, List.contains_cons]
    congr 1
    show (n == x) = (x == n)
    rw [Bool.eq_iff_iff, beq_iff_eq, beq_iff_eq]
    exact eq_comm
theorem ints_mem {y : Value} {vs : List Value} {ns : List Int} (hI : IntsAre vs ns) (h : y ∈ vs) : ∃ n t, y = .int n t := by
  induction hI with
  | nil => cases h
  | cons n t _ ih =>
    rcases List.mem_cons.mp h with rfl | q
    · exact ⟨n, t, rfl⟩
    · exact ih q
theorem notInL {x : Int} (st : St c R ρ H s) (hl : SeesL c H l (ns.map AV.int)) (h : Q (.bool (!ns.contains x)) s) : wpAny c.M A (compareOp .NotIn (.int x t) (.ref l)) Q E s := by
  obtain ⟨vs, hL, e⟩ := st.list hl
  have hI := intsAre_of e
  refine PySem.SeqInW.notIn_listW (isI x) (fun y hy => ?_) hL (by rw [any_ints hI]; exact h)
  obtain ⟨n, t', rfl⟩ := ints_mem hI (y := y) (by simpa using hy)
  exact PySem.MeetsSeq.EqGives.int n x t' t
theorem neL {a b : Addr} (st : St c R ρ H s) (ha : SeesL c H a (ns.map AV.int)) (hb : SeesL c H b (ms.map AV.int)) (hu : A.units + 64 < cLine) (h : Q (.bool (!decide (ns = ms))) s) : wpAny c.M A (compareOp .NotEq (.ref a) (.ref b)) Q E s := by
  obtain ⟨vs, hL, e⟩ := st.list ha
  obtain ⟨us, hL', e'⟩ := st.list hb
  exact ke_ne_ints hL hL' (intsAre_of e) (intsAre_of e') hu h
noncomputable def slO (vl vu vk : Value) : AO := .obj fun o => o = { cls := .type "slice", data := .fields #[vl, vu, vk] }
theorem sliceE {lower upper step : Option Expr} {p : Pos} {env : Env} (ok : c.Ok)
    (h : wpAny c.M A (evalPart lower env) (fun vl s₁ => wpAny c.M A (evalPart upper env) (fun vu s₂ => wpAny c.M A (evalPart step env) (fun vk s₃ => ∃ R ρ H, St c R ρ H s₃ ∧
      (∀ sl s', H sl = none → St c R ρ (upd H sl (slO vl vu vk)) s' → Q (.ref sl) s')) E s₂) E s₁) E s) : wpAny c.M A (eval (.Slice lower upper step p) env) Q E s := by
  refine wpAny_Slice (wpAny_mono h (fun vl s₁ h₁ => wpAny_mono h₁ (fun vu s₂ h₂ => wpAny_mono h₂ (fun vk s₃ h₃ => ?_) fun _ _ x => x) fun _ _ x => x) fun _ _ x => x)
  obtain ⟨R, ρ, H, st, k⟩ := h₃
  exact k _ _ st.none_size (st.alloc ok (ao := slO vl vu vk) rfl rfl)
theorem sliceTail {value slice : Expr} {sl : Addr} {vl vu vk : Value} {lo hi stp : Option Int} {ops : List Value} {xs : List AV} {zs : List AV} (ok : c.Ok) (st : St c R ρ H s) (hl : SeesL c H l xs) (hs : H sl = some (slO vl vu vk))
    (pl : IsPart vl lo) (pu : IsPart vu hi) (pk : IsPart vk stp) (h0 : stp ≠ some 0) (hz : xs.length ≤ sizeLine) (hzs : ∀ vs : List Value, vs.map abs = xs → (slicePick vs.toArray lo hi stp).toList.map abs = zs)
    (h : ∀ D s', H D = none → St c R ρ (upd H D (.list zs)) s' → Q (.ref D) s')
    (hsub : subscripted slice false (.ref l) (.ref sl) = operate ops (getItem (.ref l) (.ref sl))) : wpAny c.M A (subscriptTail value slice (.ref l) (.ref sl)) Q E s := by
  obtain ⟨vs, hL, e⟩ := st.list hl
  obtain ⟨o, e1, rfl⟩ := st.get hs
  have hlen : vs.length = xs.length := by rw [← e, List.length_map]
  refine tail_any hL.typeIs slot_list_getitem.lookup (wpAny_getItem_list_slice hL ⟨_, e1, rfl, rfl⟩ pl pu pk h0 (h _ _ st.none_size ?_) (by rw [List.size_toArray, hlen]; exact hz)) hsub
  exact st.alloc ok (ao := .list zs) ⟨(slicePick vs.toArray lo hi stp).toList, 0, by simp [PySem.W.listOf], hzs vs e⟩ rfl
theorem uptoL {value slice : Expr} {sl : Addr} {b : Int} {ops : List Value} {xs : List AV} (ok : c.Ok) (st : St c R ρ H s) (hl : SeesL c H l xs) (hs : H sl = some (slO .none (.int b t) .none)) (hb : 0 ≤ b) (hz : xs.length ≤ sizeLine)
    (h : ∀ D s', H D = none → St c R ρ (upd H D (.list (xs.take b.toNat))) s' → Q (.ref D) s')
    (hsub : subscripted slice false (.ref l) (.ref sl) = operate ops (getItem (.ref l) (.ref sl))) : wpAny c.M A (subscriptTail value slice (.ref l) (.ref sl)) Q E s := by
  obtain ⟨k, rfl⟩ := Int.eq_ofNat_of_zero_le hb
  refine sliceTail ok st hl hs .none (.int _ _) .none (by decide) hz (fun vs e => ?_) h hsub
  rw [← e, slicePick_upto']
  simp
theorem revL {value slice : Expr} {sl : Addr} {ops : List Value} {xs : List AV} (ok : c.Ok) (st : St c R ρ H s) (hl : SeesL c H l xs) (hs : H sl = some (slO .none .none (.int (-1) t))) (hz : xs.length ≤ sizeLine)
    (h : ∀ D s', H D = none → St c R ρ (upd H D (.list xs.reverse)) s' → Q (.ref D) s')
    (hsub : subscripted slice false (.ref l) (.ref sl) = operate ops (getItem (.ref l) (.ref sl))) : wpAny c.M A (subscriptTail value slice (.ref l) (.ref sl)) Q E s := by
  refine sliceTail ok st hl hs .none .none (.int _ _) (by decide) hz (fun vs e => ?_) h hsub
  rw [← e, krv_pick]
  simp
end


noncomputable def sLeast : Stmt := topSt 11
theorem in_least (P : Params) : FnIn (KP P) 164 sLeast "_law_least" .none .none (.ref 163) where
  fn := ⟨(((funcAt (KP P) 164).map (·.doc)).getD .none), (((funcAt (KP P) 164).map (·.pyModule)).getD .none), none, .none, by kernel_rfl⟩
  code := by kernel_rfl
  co := by kernel_rfl
  gen := by kernel_rfl
  kind := by kernel_rfl

noncomputable def relax (Nd : Int → List Int) (B : Int → Int) (t : Int) : Int → Int := (Nd t).foldl (fun B i => setF B i (min (B i) (B t))) B
noncomputable def bnd (Nd : Int → List Int) (D : Int → Int) (ts : List Int) : Int → Int := ts.foldl (relax Nd) D
noncomputable def workOf (ns : List Int) (L B : Int → Int) (t : Int) : Int := ((ns.filter fun i => decide (B i ≤ B t)).map L).sum
noncomputable def lates (ns : List Int) (L B : Int → Int) : List Int := ns.map fun t => workOf ns L B t - B t

theorem storedA_map {ks : List Int} {B : Int → Int} {k v : Int} (hk : k ∈ ks) : storedA (ks.map fun t => (t, AV.int (B t))) k (.int v) = ks.map fun t => (t, AV.int (setF B k v t)) := by
  unfold storedA
  rw [if_pos]
  · rw [List.map_map]
    refine List.map_congr_left fun t _ => ?_
    show (if t = k then _ else _) = _
    unfold setF
    by_cases h : t = k
    · rw [if_pos h, if_pos h]
    · rw [if_neg h, if_neg h]
  · rw [List.any_eq_true]
    exact ⟨(k, AV.int (B k)), List.mem_map.mpr ⟨k, hk, rfl⟩, by simp⟩

structure Given (H : Ledger) (la da na : Addr) (n : Nat) (L D : Int → Int) (Nd : Int → List Int) (nas : List Addr) : Prop where
  len : H la = some (.list ((List.range n).map fun (i : Nat) => AV.int (L i)))
  due : H da = some (.list ((List.range n).map fun (i : Nat) => AV.int (D i)))
  need : H na = some (.list (nas.map AV.ref))
  nlen : nas.length = n
  each : ∀ (i : Nat) a, nas[i]? = some a → H a = some (.list ((Nd i).map AV.int))
theorem Given.mono {H H' : Ledger} {la da na n L D Nd nas} (G : Given H la da na n L D Nd nas) (s : Sub H H') : Given H' la da na n L D Nd nas :=
  ⟨s.le _ _ G.len, s.le _ _ G.due, s.le _ _ G.need, G.nlen, fun i a e => s.le _ _ (G.each i a e)⟩

structure LS (H : Ledger) (cl cb ct bA la : Addr) (es : List (Int × AV)) (tv : Option AV) (H' : Ledger) : Prop where
  sub : Sub H H'
  hcl : H' cl = some (.cell (some (.ref la)))
  hcb : H' cb = some (.cell (some (.ref bA)))
  hct : H' ct = some (.cell tv)
  hbd : ∃ ep, H' bA = some (.dict es ep)
structure LF (H : Ledger) (cl cb ct bA : Addr) : Prop where
  f1 : H cl = none
  f2 : H cb = none
  f3 : H ct = none
  f4 : H bA = none
  e12 : cl ≠ cb
  e13 : cl ≠ ct
  e23 : cb ≠ ct
theorem LS.setT {H : Ledger} {cl cb ct bA la : Addr} {es : List (Int × AV)} {tv : Option AV} {H' : Ledger} {v : AV} (x : LS H cl cb ct bA la es tv H') (f : LF H cl cb ct bA) : LS H cl cb ct bA la es (some v) (upd H' ct (.cell (some v))) := by
  obtain ⟨ep, hb⟩ := x.hbd
  have n4 : bA ≠ ct := fun q => by first | (rw [q, x.hct] at hb; cases hb) | (rw [← q, x.hct] at hb; cases hb)
  exact ⟨x.sub.trans ⟨fun b ao e => e⟩ |>.upd f.f3, by rw [upd_ne f.e13]; exact x.hcl, by rw [upd_ne f.e23]; exact x.hcb, upd_self .., ep, by rw [upd_ne n4]; exact hb⟩
theorem LS.setB {H : Ledger} {cl cb ct bA la : Addr} {es es' : List (Int × AV)} {ep' : Nat} {tv : Option AV} {H' : Ledger} (x : LS H cl cb ct bA la es tv H') (f : LF H cl cb ct bA) : LS H cl cb ct bA la es' tv (upd H' bA (.dict es' ep')) := by
  obtain ⟨ep, hb⟩ := x.hbd
  have n1 : cl ≠ bA := fun q => by first | (rw [q, x.hcl] at hb; cases hb) | (rw [← q, x.hcl] at hb; cases hb)
  have n2 : cb ≠ bA := fun q => by first | (rw [q, x.hcb] at hb; cases hb) | (rw [← q, x.hcb] at hb; cases hb)
  have n3 : ct ≠ bA := fun q => by first | (rw [q, x.hct] at hb; cases hb) | (rw [← q, x.hct] at hb; cases hb)
  exact ⟨x.sub.trans ⟨fun b ao e => e⟩ |>.upd f.f4, by rw [upd_ne n1]; exact x.hcl, by rw [upd_ne n2]; exact x.hcb, by rw [upd_ne n3]; exact x.hct, ep', upd_self ..⟩
theorem LS.mono {H : Ledger} {cl cb ct bA la : Addr} {es : List (Int × AV)} {tv : Option AV} {H' H'' : Ledger} (x : LS H cl cb ct bA la es tv H') (y : Sub H' H'') : LS H cl cb ct bA la es tv H'' := by
  obtain ⟨ep, hb⟩ := x.hbd
  exact ⟨x.sub.trans y, y.le _ _ x.hcl, y.le _ _ x.hcb, y.le _ _ x.hct, ep, y.le _ _ hb⟩
theorem take_succ' {α : Type} {xs : List α} {i : Nat} {x : α} (h : xs[i]? = some x) : xs.take (i + 1) = xs.take i ++ [x] := by rw [List.take_add_one, h]; rfl
theorem keys_map {α : Type} (f : Int → α) : ∀ ks : List Int, (ks.map fun t => (t, f t)).map (·.1) = ks
  | [] => rfl
  | a :: r => by rw [List.map_cons, List.map_cons, keys_map f r]
theorem not_mem_take {ns : List Int} {i : Nat} {t : Int} (hnd : ns.Nodup) (h : ns[i]? = some t) : t ∉ ns.take i := by
  intro hm
  obtain ⟨hlt, e⟩ := List.getElem?_eq_some_iff.mp h
  have h2 := hnd
  rw [← List.take_append_drop i ns, List.nodup_append] at h2
  refine h2.2.2 t hm t ?_ rfl
  rw [List.drop_eq_getElem_cons hlt, e]
  exact List.mem_cons_self
theorem idx_rng {f : Int → Int} {n : Nat} {t : Int} (h0 : 0 ≤ t) (h1 : t < n) : ((List.range n).map fun (i : Nat) => AV.int (f i))[t.toNat]? = some (AV.int (f t)) := by
  have : t.toNat < n := by exact om86 h0 h1
  rw [List.getElem?_map, List.getElem?_range this]
  show some (AV.int (f (t.toNat : Int))) = _
  rw [show ((t.toNat : Nat) : Int) = t by exact om87 h0]

section
variable {c : Cx} {R : Ledger} {ρ : Str → Option AV} {H : Ledger} {s : Shared} {A : Around} {E : Value → Shared → Prop} {Q : Value → Shared → Prop} {d : Nat} {ta la da na : Addr} {n : Nat} {L D : Int → Int} {Nd : Int → List Int} {nas : List Addr} {ns : List Int}

theorem least_spec (hK : c.G.K = KP c.G.w.params) (ok : c.Ok) (rm : Room c A (d + 1)) (st : St c R ρ H s) (G : Given H la da na n L D Nd nas) (ht : H ta = some (.list (ns.map AV.int))) (hnd : ns.Nodup) (hne : ns ≠ []) (hz : ns.length < 64) (hn : n ≤ 1000)
    (hin : ∀ t ∈ ns, 0 ≤ t ∧ t < n) (hneed : ∀ t ∈ ns, ∀ i ∈ Nd t, i ∈ ns)
    (h : ∀ (ts : List Int) M t H' s', ts.Perm ns → ts.Pairwise (· ≤ ·) → M ∈ lates ns L (bnd Nd D ts.reverse) → (∀ a ∈ lates ns L (bnd Nd D ts.reverse), a ≤ M) → Sub H H' → St c R ρ H' s' → Q (.int M t) s') :
    wpAny c.M A (call (.ref 164) [.ref ta, .ref la, .ref da, .ref na] []) Q E s := by
  refine callKC (binds := [(("tasks":Str), .ref ta), (("lengths":Str), .ref la), (("dues":Str), .ref da), (("needs":Str), .ref na)]) (by rw [hK]; exact in_least _) ok rm st (fun doc pm an ct => bindsK ok st (by rw [hK]; intro S; kernel_rfl)) (by kernel_rfl) (by decide +kernel) ?_
  intro c' A' L' s' ok' hG hf rm' hlt st'
  rw [← hG] at hK
  have hcells : c'.fenv.cells = [(("t" : Str), L' + 1 + 1 + 1), (("bound" : Str), L' + 1 + 1), (("lengths" : Str), L' + 1)] := by rw [hf]; rfl
  have fresh : ∀ b, L' < b → H b = none := fun b hb => by
    cases e : H b with
    | none => rfl
    | some ao => exact absurd (Nat.lt_trans (hlt b (by rw [e]; intro q; cases q)) hb) (Nat.lt_irrefl _)
  obtain ⟨cl, hcl⟩ : ∃ x, x = L' + 1 := ⟨_, rfl⟩
  obtain ⟨cb, hcb⟩ : ∃ x, x = L' + 1 + 1 := ⟨_, rfl⟩
  obtain ⟨ct, hct⟩ : ∃ x, x = L' + 1 + 1 + 1 := ⟨_, rfl⟩
  have st1 : St c' R (lk [("tasks", .ref ta), ("dues", .ref da), ("needs", .ref na)]) (upd (upd (upd H cl (.cell (some (.ref la)))) cb (.cell none)) ct (.cell none)) s' := by
    rw [hcl, hcb, hct]
    exact (st'.names [("tasks", .ref ta), ("dues", .ref da), ("needs", .ref na)] ⟨rfl, rfl, rfl, trivial⟩).drop (fun a ao e => e)
  clear st'
  rw [← hct, ← hcb, ← hcl] at hcells
  have l1 : L' < cl := by rw [hcl]; exact Nat.lt_succ_self _
  have l2 : cl < cb := by rw [hcl, hcb]; exact Nat.lt_succ_self _
  have l3 : cb < ct := by rw [hcb, hct]; exact Nat.lt_succ_self _
  have f1 : H cl = none := fresh _ l1
  have f2 : H cb = none := fresh _ (Nat.lt_trans l1 l2)
  have f3 : H ct = none := fresh _ (Nat.lt_trans l1 (Nat.lt_trans l2 l3))
  have e12 : cl ≠ cb := Nat.ne_of_lt l2
  have e13 : cl ≠ ct := Nat.ne_of_lt (Nat.lt_trans l2 l3)
  have e23 : cb ≠ ct := Nat.ne_of_lt l3
  clear hcl hcb hct
  refine execsK ?_
  intro K hStmt
  refine wpAny_Assign_Name ?_
  refine newD ok' (by assumption) ?_
  intro bA s hb st
  have hb3 : bA ≠ ct := fun q => by first | (rw [q, upd_self] at hb; cases hb) | (rw [← q, upd_self] at hb; cases hb)
  rw [upd_ne hb3] at hb
  have hb2 : bA ≠ cb := fun q => by first | (rw [q, upd_self] at hb; cases hb) | (rw [← q, upd_self] at hb; cases hb)
  rw [upd_ne hb2] at hb
  have hb1 : bA ≠ cl := fun q => by first | (rw [q, upd_self] at hb; cases hb) | (rw [← q, upd_self] at hb; cases hb)
  rw [upd_ne hb1] at hb
  have f : LF H cl cb ct bA := ⟨f1, f2, f3, hb, e12, e13, e23⟩
  skip
  refine storeC (by assumption) (by rw [hcells]; rfl) (by rw [upd_ne (Ne.symm hb2), upd_ne e23]; exact upd_self ..) ?_ ok'.fn (by first | exact kindK hf rfl | (rw [hf]; rfl) | (rw [he]; rfl))
  intro s st
  have I0 : LS H cl cb ct bA la [] none (upd (upd (upd (upd (upd H cl (.cell (some (.ref la)))) cb (.cell none)) ct (.cell none)) bA (.dict [] 0)) cb (.cell (some (abs (.ref bA))))) :=
    ⟨(((((Sub.refl H).upd f1).upd f2).upd f3).upd hb).upd f2, by rw [upd_ne e12, upd_ne (Ne.symm hb1), upd_ne e13, upd_ne e12]; exact upd_self .., upd_self .., by rw [upd_ne (Ne.symm e23), upd_ne (Ne.symm hb3)]; exact upd_self .., 0, by rw [upd_ne hb2]; exact upd_self ..⟩
  with_reducible refine openK (by assumption) ?_
  with_reducible refine execsK ?_
  intro K hStmt
  refine wpAny_For ?_
  refine nameLR (hd := by decide) (by assumption) (by first | assumption | rfl) ?_ rfl (Cx.Ok.fn (by assumption)) (by first | exact kindK hf rfl | (rw [hf]; rfl) | (rw [he]; rfl))
  refine iterL ok' (by assumption) (.inl (I0.sub.le _ _ ht)) ?_
  intro it s hit hRit st
  refine forLoopR (ht := by intro _; rfl) (itr_list rm'.handled) hRit st (fun i ρ' H' => (∀ x av, lk [("tasks", .ref ta), ("dues", .ref da), ("needs", .ref na)] x = some av → ρ' x = some av) ∧ ∃ tv, LS H cl cb ct bA la ((ns.take i).map fun t => (t, AV.int (D t))) tv H')
    (fun i ρ' H' q => by obtain ⟨_, _, I⟩ := q; exact .inl (I.sub.le _ _ ht)) ⟨fun x av e => e, none, I0⟩ ?_ ?_
  · intro i av R' ρ' H' s' v hi hR  hJJ st hv K hTurn
    obtain ⟨hρ, tv, I⟩ := hJJ
    rw [List.getElem?_map] at hi
    obtain ⟨t, hti, rfl⟩ := Option.map_eq_some_iff.mp hi
    have htm : t ∈ ns := List.mem_of_getElem? hti
    obtain ⟨h0, h1⟩ := hin t htm
    obtain ⟨tok, rfl⟩ := abs_int hv
    have st := st.weaken hρ
    with_reducible refine wpAny_assign_Name ?_
    refine storeC (by assumption) (by rw [hcells]; rfl) I.hct ?_ ok'.fn (by first | exact kindK hf rfl | (rw [hf]; rfl) | (rw [he]; rfl))
    intro s st
    have I := I.setT (v := .int t) f
    have hcb := I.hcb
    have hct := I.hct
    with_reducible refine execsK ?_
    intro K hStmt
    refine wpAny_Assign_Subscript ?_
    with_reducible refine Subscript_ ?_
    refine nameLR (hd := by decide) (by assumption) (by first | assumption | rfl) ?_ rfl (Cx.Ok.fn (by assumption)) (by first | exact kindK hf rfl | (rw [hf]; rfl) | (rw [he]; rfl))
    refine nameC (hd := by decide) (by assumption) (by rw [hcells]; rfl) (by assumption) ?_ (Cx.Ok.fn (by assumption)) (by first | exact kindK hf rfl | (rw [hf]; rfl) | (rw [he]; rfl))
    refine gotIA ?_
    intro tok
    refine idxL (hs := by with_unfolding_all rfl) (by assumption) (.inl (I.sub.le _ _ G.due)) h0 (idx_rng h0 h1) (by exact om88 hn h1) ?_
    refine gotIA ?_
    intro tok
    refine nameC (hd := by decide) (by assumption) (by rw [hcells]; rfl) (by assumption) ?_ (Cx.Ok.fn (by assumption)) (by first | exact kindK hf rfl | (rw [hf]; rfl) | (rw [he]; rfl))
    refine gotRA ?_
    refine nameC (hd := by decide) (by assumption) (by rw [hcells]; rfl) (by assumption) ?_ (Cx.Ok.fn (by assumption)) (by first | exact kindK hf rfl | (rw [hf]; rfl) | (rw [he]; rfl))
    refine gotIA ?_
    intro tok
    obtain ⟨ep, hbd⟩ := I.hbd
    refine setD (by assumption) hbd (by rw [List.length_map, List.length_take, sizeLine_eq]; exact om89 hz) ?_
    intro ep' s st
    have hlt' : i < ns.length := (List.getElem?_eq_some_iff.mp hti).1
    have htn : t ∉ ns.take i := not_mem_take hnd hti
    rw [storedA_new (by rw [keys_map]; exact htn)] at st
    with_reducible refine openK (by assumption) ?_
    with_reducible refine wpAny_execs_nil ?_
    with_reducible refine openK (by assumption) ?_
    dsimp only
    refine ⟨_, _, st, fun x av e => e, some (.int t), ?_⟩
    have I2 := I.setB (es' := ((ns.take (i + 1)).map fun t => (t, AV.int (D t)))) (ep' := ep') f
    have e : ((ns.take (i + 1)).map fun t => (t, AV.int (D t))) = ((ns.take i).map fun t => (t, AV.int (D t))) ++ [(t, AV.int (D t))] := by rw [take_succ' hti]; simp
    rw [e] at I2
    rw [e]
    exact I2
  · rintro ρ' H' s' ⟨hρ, tv, I⟩ st
    have st := st.weaken hρ
    rw [List.length_map, List.take_length] at I
    with_reducible refine wpAny_execs_nil ?_
    with_reducible refine openK (by assumption) ?_
    with_reducible refine execsK ?_
    intro K hStmt
    refine wpAny_For ?_
    with_reducible refine Subscript_ ?_
    refine callName (he := by rfl) ?_
    refine nameB (hd := by decide) (by assumption) (by assumption) (by rw [hK]; kernel_rfl) (by first | with_reducible exact bb_len | with_reducible exact bb_list | with_reducible exact bb_range | with_reducible exact bb_abs | with_reducible exact bb_sorted | with_reducible exact bb_max | with_reducible exact bb_min | with_reducible exact bb_sum | with_reducible exact bb_tuple | with_reducible exact bb_set | with_reducible exact bb_iter | with_reducible exact bb_bool | with_reducible exact bb_dict | with_reducible exact bb_divmod | with_reducible exact bb_enumerate | with_reducible exact bb_zip) (by decide) ?_ (Cx.Ok.glob (by assumption)) (Cx.Ok.blt (by assumption)) (Cx.Ok.fn (by assumption)) (by first | exact kindK hf rfl | (rw [hf]; rfl) | (rw [he]; rfl))
    refine cw (he := by rfl) ?_
    dsimp only [Args_]
    refine nameLR (hd := by decide) (by assumption) (by first | assumption | rfl) ?_ rfl (Cx.Ok.fn (by assumption)) (by first | exact kindK hf rfl | (rw [hf]; rfl) | (rw [he]; rfl))
    (first | refine ⟨trivial, ?_⟩ | refine ⟨stands_K (by assumption) (by assumption) (by (rw [hK]; first | with_reducible exact k_bisect _ | with_reducible exact k_insort _ | with_reducible exact k_info _ | with_reducible exact k_sorter _ | with_reducible exact k98 _ | with_reducible exact k105 _ | with_reducible exact k110 _ | with_reducible exact k117 _ | with_reducible exact k124 _ | with_reducible exact k138 _ | with_reducible exact k145 _ | with_reducible exact kp_least _)), ?_⟩)
    (try dsimp only [List.nil_append, List.cons_append])
    refine sortedL ok' (by assumption) (.inl (I.sub.le _ _ ht)) hz ?_
    intro so ts s hso hperm hsrt st
    have I := I.mono ((Sub.refl _).upd (o := .list (ts.map AV.int)) hso)
    skip
    refine sliceE ok' ?_
    refine wpAny_pure ?_
    refine wpAny_pure ?_
    show wpAny _ _ (eval _ _) _ _ _
    with_reducible refine UnaryOp_ ?_
    with_reducible refine cInt (by assumption) ?_
    intro tok s st
    with_reducible refine negI (by assumption) ?_
    intro tok s st
    refine ⟨_, _, _, by assumption, ?_⟩
    intro sl s hsl st
    have I := I.mono ((Sub.refl _).upd (o := slO .none .none (.int (-1) tok)) hsl)
    have hsok := upd_self H' so (.list (ts.map AV.int))
    have hso2 : upd (upd H' so (.list (ts.map AV.int))) sl (slO .none .none (.int (-1) tok)) so = some (.list (ts.map AV.int)) := by
      rw [upd_ne]; exact hsok
      rintro rfl; rw [hsok] at hsl; cases hsl
    refine revL ok' (by assumption) (.inl hso2) (upd_self ..) (by rw [List.length_map, hperm.length_eq, sizeLine_eq]; exact om90 hz) ?_ (by with_unfolding_all rfl)
    intro rv s hrv st
    rw [← List.map_reverse] at st
    have I := I.mono ((Sub.refl _).upd (o := .list (ts.reverse.map AV.int)) hrv)
    generalize hH3 : upd (upd (upd H' so (.list (ts.map AV.int))) sl (slO .none .none (.int (-1) tok))) rv (.list (ts.reverse.map AV.int)) = H3 at st I
    have hrv3 : H3 rv = some (.list (ts.reverse.map AV.int)) := by rw [← hH3]; exact upd_self ..
    skip
    refine iterL ok' (by assumption) (.inl hrv3) ?_
    intro it s hit hRit st
    refine forLoopR (ht := by intro _; rfl) (itr_list rm'.handled) hRit st (fun i ρ' H' => (∀ x av, lk [("tasks", .ref ta), ("dues", .ref da), ("needs", .ref na)] x = some av → ρ' x = some av) ∧ H' rv = some (.list (ts.reverse.map AV.int)) ∧
        ∃ tv, LS H cl cb ct bA la (ns.map fun t => (t, AV.int (bnd Nd D (ts.reverse.take i) t))) tv H')
      (fun i ρ' H' q => .inl q.2.1) ⟨fun x av e => e, hrv3, tv, I⟩ ?_ ?_
    · intro i av R' ρ' H' s' v hi hR  hJJ st hv K hTurn
      obtain ⟨hρ, hrv', tv, I⟩ := hJJ
      rw [List.getElem?_map] at hi
      obtain ⟨t, hti, rfl⟩ := Option.map_eq_some_iff.mp hi
      have htm : t ∈ ns := hperm.mem_iff.mp (List.mem_reverse.mp (List.mem_of_getElem? hti))
      obtain ⟨h0, h1⟩ := hin t htm
      obtain ⟨tok, rfl⟩ := abs_int hv
      have st := st.weaken hρ
      with_reducible refine wpAny_assign_Name ?_
      refine storeC (by assumption) (by rw [hcells]; rfl) I.hct ?_ ok'.fn (by first | exact kindK hf rfl | (rw [hf]; rfl) | (rw [he]; rfl))
      intro s st
      have nrv : rv ≠ ct := fun q => by first | (rw [q, I.hct] at hrv'; cases hrv') | (rw [← q, I.hct] at hrv'; cases hrv')
      have I := I.setT (v := .int t) f
      have hrv2 : upd H' ct (.cell (some (.int t))) rv = some (.list (ts.reverse.map AV.int)) := by rw [upd_ne nrv]; exact hrv'
      generalize hH4 : upd H' ct (.cell (some (abs (.int t tok)))) = H4 at st
      rw [show upd H' ct (.cell (some (.int t))) = H4 from hH4] at I hrv2
      have hcb := I.hcb
      have hct := I.hct
      have hbt : t.toNat < nas.length := by rw [G.nlen]; exact om86 h0 h1
      with_reducible refine execsK ?_
      intro K hStmt
      refine wpAny_For ?_
      with_reducible refine Subscript_ ?_
      refine nameLR (hd := by decide) (by assumption) (by first | assumption | rfl) ?_ rfl (Cx.Ok.fn (by assumption)) (by first | exact kindK hf rfl | (rw [hf]; rfl) | (rw [he]; rfl))
      refine nameC (hd := by decide) (by assumption) (by rw [hcells]; rfl) (by assumption) ?_ (Cx.Ok.fn (by assumption)) (by first | exact kindK hf rfl | (rw [hf]; rfl) | (rw [he]; rfl))
      refine gotIA ?_
      intro tok
      refine idxL (hs := by with_unfolding_all rfl) (by assumption) (.inl (I.sub.le _ _ G.need)) h0 (av := .ref nas[t.toNat]) (by rw [List.getElem?_map, List.getElem?_eq_getElem hbt]; rfl) (by exact om88 hn h1) ?_
      refine gotRA ?_
      have hnt := G.each t.toNat nas[t.toNat] (List.getElem?_eq_getElem hbt)
      rw [show ((t.toNat : Nat) : Int) = t by exact om87 h0] at hnt
      skip
      refine iterL ok' (by assumption) (.inl (I.sub.le _ _ hnt)) ?_
      intro it2 s hit2 hRit2 st
      refine forLoopR (ht := by intro _; rfl) (itr_list rm'.handled) hRit2 st (fun j ρ' H' => (∀ x av, lk [("tasks", .ref ta), ("dues", .ref da), ("needs", .ref na)] x = some av → ρ' x = some av) ∧ H' rv = some (.list (ts.reverse.map AV.int)) ∧
          LS H cl cb ct bA la (ns.map fun x => (x, AV.int (((Nd t).take j).foldl (fun B i => setF B i (min (B i) (B t))) (bnd Nd D (ts.reverse.take i)) x))) (some (.int t)) H')
        (fun j ρ' H' q => .inl (q.2.2.sub.le _ _ hnt)) ⟨fun x av e => e, hrv2, I⟩ ?_ ?_
      · intro j av R'' ρ' H' s' v hj hR2  hJJ st hv K hTurn
        obtain ⟨hρ, hrv', I⟩ := hJJ
        rw [List.getElem?_map] at hj
        obtain ⟨k, hkj, rfl⟩ := Option.map_eq_some_iff.mp hj
        have hkm : k ∈ ns := hneed t htm k (List.mem_of_getElem? hkj)
        obtain ⟨tok, rfl⟩ := abs_int hv
        have st := st.weaken hρ
        have hcb := I.hcb
        have hct := I.hct
        obtain ⟨ep, hbd⟩ := I.hbd
        with_reducible refine wpAny_assign_Name ?_
        refine storeL (by assumption) ?_ rfl (Cx.Ok.fn (by assumption)) (by first | exact kindK hf rfl | (rw [hf]; rfl) | (rw [he]; rfl))
        intro s st
        with_reducible refine execsK ?_
        intro K hStmt
        refine wpAny_Assign_Subscript ?_
        refine callName (he := by rfl) ?_
        refine nameB (hd := by decide) (by assumption) (by assumption) (by rw [hK]; kernel_rfl) (by first | with_reducible exact bb_len | with_reducible exact bb_list | with_reducible exact bb_range | with_reducible exact bb_abs | with_reducible exact bb_sorted | with_reducible exact bb_max | with_reducible exact bb_min | with_reducible exact bb_sum | with_reducible exact bb_tuple | with_reducible exact bb_set | with_reducible exact bb_iter | with_reducible exact bb_bool | with_reducible exact bb_dict | with_reducible exact bb_divmod | with_reducible exact bb_enumerate | with_reducible exact bb_zip) (by decide) ?_ (Cx.Ok.glob (by assumption)) (Cx.Ok.blt (by assumption)) (Cx.Ok.fn (by assumption)) (by first | exact kindK hf rfl | (rw [hf]; rfl) | (rw [he]; rfl))
        refine cw (he := by rfl) ?_
        dsimp only [Args_]
        with_reducible refine Subscript_ ?_
        refine nameC (hd := by decide) (by assumption) (by rw [hcells]; rfl) (by assumption) ?_ (Cx.Ok.fn (by assumption)) (by first | exact kindK hf rfl | (rw [hf]; rfl) | (rw [he]; rfl))
        refine gotRA ?_
        refine nameLI (hd := by decide) (by assumption) (by first | assumption | rfl) ?_ rfl (Cx.Ok.fn (by assumption)) (by first | exact kindK hf rfl | (rw [hf]; rfl) | (rw [he]; rfl))
        intro tok
        refine idxD (hs := by with_unfolding_all rfl) (by assumption) hbd (k := k) (by rw [lookup_keys, if_pos hkm]) ?_
        refine gotIS ?_
        intro tok s st
        with_reducible refine Subscript_ ?_
        refine nameC (hd := by decide) (by assumption) (by rw [hcells]; rfl) (by assumption) ?_ (Cx.Ok.fn (by assumption)) (by first | exact kindK hf rfl | (rw [hf]; rfl) | (rw [he]; rfl))
        refine gotRA ?_
        refine nameC (hd := by decide) (by assumption) (by rw [hcells]; rfl) (by assumption) ?_ (Cx.Ok.fn (by assumption)) (by first | exact kindK hf rfl | (rw [hf]; rfl) | (rw [he]; rfl))
        refine gotIA ?_
        intro tok
        refine idxD (hs := by with_unfolding_all rfl) (by assumption) hbd (k := t) (by rw [lookup_keys, if_pos htm]) ?_
        refine gotIS ?_
        intro tok s st
        (first | refine ⟨trivial, ?_⟩ | refine ⟨stands_K (by assumption) (by assumption) (by (rw [hK]; first | with_reducible exact k_bisect _ | with_reducible exact k_insort _ | with_reducible exact k_info _ | with_reducible exact k_sorter _ | with_reducible exact k98 _ | with_reducible exact k105 _ | with_reducible exact k110 _ | with_reducible exact k117 _ | with_reducible exact k124 _ | with_reducible exact k138 _ | with_reducible exact k145 _ | with_reducible exact kp_least _)), ?_⟩)
        (try dsimp only [List.nil_append, List.cons_append])
        refine minI rm'.handled (by assumption) ?_
        intro tok s st
        refine nameC (hd := by decide) (by assumption) (by rw [hcells]; rfl) (by assumption) ?_ (Cx.Ok.fn (by assumption)) (by first | exact kindK hf rfl | (rw [hf]; rfl) | (rw [he]; rfl))
        refine gotRA ?_
        refine nameLI (hd := by decide) (by assumption) (by first | assumption | rfl) ?_ rfl (Cx.Ok.fn (by assumption)) (by first | exact kindK hf rfl | (rw [hf]; rfl) | (rw [he]; rfl))
        intro tok
        refine setD (by assumption) hbd (by rw [List.length_map, sizeLine_eq]; exact om90 hz) ?_
        intro ep' s st
        simp only [abs] at st
        rw [storedA_map hkm] at st
        with_reducible refine openK (by assumption) ?_
        with_reducible refine wpAny_execs_nil ?_
        with_reducible refine openK (by assumption) ?_
        dsimp only
        have nrv : rv ≠ bA := fun q => by first | (rw [q, hbd] at hrv'; cases hrv') | (rw [← q, hbd] at hrv'; cases hrv')
        refine ⟨_, _, st, fun x av e => AllIn.mem (l := [("tasks", .ref ta), ("dues", .ref da), ("needs", .ref na)]) ⟨rfl, rfl, rfl, trivial⟩ x av e, by rw [upd_ne nrv]; exact hrv', ?_⟩
        rw [take_succ' hkj, List.foldl_append]
        exact I.setB f
      · rintro ρ' H' s' ⟨hρ, hrv', I⟩ st
        have st := st.weaken hρ
        rw [List.length_map, List.take_length] at I
        with_reducible refine wpAny_execs_nil ?_
        with_reducible refine openK (by assumption) ?_
        with_reducible refine wpAny_execs_nil ?_
        with_reducible refine openK (by assumption) ?_
        dsimp only
        refine ⟨_, _, st, fun x av e => e, hrv', some (.int t), ?_⟩
        rw [take_succ' hti]
        unfold bnd
        rw [List.foldl_append]
        exact I
    · rintro ρ' H' s' ⟨hρ, hrv', tv, I⟩ st
      have st := st.weaken hρ
      rw [List.length_map, List.take_length] at I
      with_reducible refine wpAny_execs_nil ?_
      with_reducible refine openK (by assumption) ?_
      with_reducible refine execsK ?_
      intro K hStmt
      refine wpAny_Assign_Name ?_
      refine listE (he := by rfl) ?_
      dsimp only [Args_]
      refine newL ok' (by assumption) (by decide) ?_
      intro lt s hlt' st
      have hHlt : H lt = none := by
        cases e : H lt with
        | none => rfl
        | some ao => rw [I.sub.le _ _ e] at hlt'; cases hlt'
      have I := I.mono ((Sub.refl _).upd (o := .list []) hlt')
      have hltl : upd H' lt (.list []) lt = some (.list []) := upd_self ..
      have st : St c' R _ (upd H' lt (.list [])) s := st
      generalize upd H' lt (.list []) = H3 at st I hltl
      refine storeL (by assumption) ?_ rfl (Cx.Ok.fn (by assumption)) (by first | exact kindK hf rfl | (rw [hf]; rfl) | (rw [he]; rfl))
      intro s st
      with_reducible refine openK (by assumption) ?_
      with_reducible refine execsK ?_
      intro K hStmt
      refine wpAny_For ?_
      refine nameLR (hd := by decide) (by assumption) (by first | assumption | rfl) ?_ rfl (Cx.Ok.fn (by assumption)) (by first | exact kindK hf rfl | (rw [hf]; rfl) | (rw [he]; rfl))
      refine iterL ok' (by assumption) (.inl (I.sub.le _ _ ht)) ?_
      intro it s hit hRit st
      obtain ⟨B, hB⟩ : ∃ B, B = bnd Nd D ts.reverse := ⟨_, rfl⟩
      rw [← hB] at I
      refine forLoopR (ht := by intro _; rfl) (itr_list rm'.handled) hRit st (fun i ρ' H' => (∀ x av, lk [("tasks", .ref ta), ("dues", .ref da), ("needs", .ref na), ("late", .ref lt)] x = some av → ρ' x = some av) ∧ H' lt = some (.list (((ns.take i).map fun t => workOf ns L B t - B t).map AV.int)) ∧
          ∃ tv, LS H cl cb ct bA la (ns.map fun t => (t, AV.int (B t))) tv H')
        (fun i ρ' H' q => by obtain ⟨_, _, _, I⟩ := q; exact .inl (I.sub.le _ _ ht)) ⟨fun x av e => AllIn.mem (l := [("tasks", .ref ta), ("dues", .ref da), ("needs", .ref na), ("late", .ref lt)]) ⟨rfl, rfl, rfl, rfl, trivial⟩ x av e, hltl, tv, I⟩ ?_ ?_
      · intro i av R' ρ' H' s' v hi hR  hJJ st hv K hTurn
        obtain ⟨hρ, hl', tv, I⟩ := hJJ
        rw [List.getElem?_map] at hi
        obtain ⟨t, hti, rfl⟩ := Option.map_eq_some_iff.mp hi
        have htm : t ∈ ns := List.mem_of_getElem? hti
        obtain ⟨h0, h1⟩ := hin t htm
        obtain ⟨tok, rfl⟩ := abs_int hv
        have st := st.weaken hρ
        with_reducible refine wpAny_assign_Name ?_
        refine storeC (by assumption) (by rw [hcells]; rfl) I.hct ?_ ok'.fn (by first | exact kindK hf rfl | (rw [hf]; rfl) | (rw [he]; rfl))
        intro s st
        have nlt : lt ≠ ct := fun q => by first | (rw [q, I.hct] at hl'; cases hl') | (rw [← q, I.hct] at hl'; cases hl')
        have I := I.setT (v := .int t) f
        have hl2 : upd H' ct (.cell (some (.int t))) lt = some (.list (((ns.take i).map fun t => workOf ns L B t - B t).map AV.int)) := by rw [upd_ne nlt]; exact hl'
        generalize hH4 : upd H' ct (.cell (some (abs (.int t tok)))) = H4 at st
        rw [show upd H' ct (.cell (some (.int t))) = H4 from hH4] at I hl2
        have hcb := I.hcb
        have hct := I.hct
        have hcl := I.hcl
        obtain ⟨ep, hbd⟩ := I.hbd
        with_reducible refine execsK ?_
        intro K hStmt
        refine wpAny_Assign_Name ?_
        refine callName (he := by rfl) ?_
        refine nameB (hd := by decide) (by assumption) (by assumption) (by rw [hK]; kernel_rfl) (by first | with_reducible exact bb_len | with_reducible exact bb_list | with_reducible exact bb_range | with_reducible exact bb_abs | with_reducible exact bb_sorted | with_reducible exact bb_max | with_reducible exact bb_min | with_reducible exact bb_sum | with_reducible exact bb_tuple | with_reducible exact bb_set | with_reducible exact bb_iter | with_reducible exact bb_bool | with_reducible exact bb_dict | with_reducible exact bb_divmod | with_reducible exact bb_enumerate | with_reducible exact bb_zip) (by decide) ?_ (Cx.Ok.glob (by assumption)) (Cx.Ok.blt (by assumption)) (Cx.Ok.fn (by assumption)) (by first | exact kindK hf rfl | (rw [hf]; rfl) | (rw [he]; rfl))
        refine cw (he := by rfl) ?_
        dsimp only [Args_]
        have hclo : ∀ (names : List (Str × NameKind)) (k : ScopeKind) (b1 b2 : Bool), closureFor { kind := k, names := names, isGenerator := b1, isCoroutine := b2 } c'.fenv = closureFor { kind := k, names := names, isGenerator := b1, isCoroutine := b2 } { c'.fenv with cells := [(("t" : Str), ct), (("bound" : Str), cb), (("lengths" : Str), cl)] } := by
          intro names k b1 b2
          rw [← hcells]
        refine compL (hs := by intro _; rfl) (ht := by intro _ _; rfl) ok' ((hclo _ _ _ _).trans rfl) (by kernel_rfl) (by kernel_rfl) ?_
        refine nameLR (hd := by decide) (by assumption) (by first | assumption | rfl) ?_ rfl (Cx.Ok.fn (by assumption)) (by first | exact kindK hf rfl | (rw [hf]; rfl) | (rw [he]; rfl))
        refine iterL ok' (by assumption) (.inl (I.sub.le _ _ ht)) ?_
        intro it2 s hit2 hRit2 st
        refine CompIs.mk (xs := ns.map AV.int) (itr_list rm'.handled) hRit2 st (by rw [List.length_map, sizeLine_eq]; exact om90 hz) (fun C i acc H' => H4 C = none ∧ acc = ((ns.take i).filter (fun k => decide (B k ≤ B t))).map (fun k => AV.int (L k)) ∧ ∃ r, H' = upd H4 C (.ns r)) ?_ ?_ ?_ ?_
        · rintro C i acc H' ⟨hC, rfl, r, rfl⟩
          refine ⟨.inl ?_, r, upd_self ..⟩
          rw [upd_ne (fun q => by first | (rw [q, I.sub.le _ _ ht] at hC; cases hC) | (rw [← q, I.sub.le _ _ ht] at hC; cases hC))]; exact I.sub.le _ _ ht
        · intro C hC
          refine ⟨?_, rfl, _, rfl⟩
          cases e : H4 C with
          | none => rfl
          | some ao => exact absurd (hC C (by rw [e]; intro q; cases q)) (Nat.lt_irrefl _)
        · intro C cenv i av R' acc H' s' v he hi  hJJ st hv KE hElt KN hNo
          obtain ⟨hC, rfl, r, rfl⟩ := hJJ
          rw [List.getElem?_map] at hi
          obtain ⟨k, hki, rfl⟩ := Option.map_eq_some_iff.mp hi
          have hkm : k ∈ ns := List.mem_of_getElem? hki
          obtain ⟨k0, k1⟩ := hin k hkm
          obtain ⟨tok, rfl⟩ := abs_int hv
          have hsC : Sub H4 (upd H4 C (.ns (put r "i" (.int k)))) := (Sub.refl H4).upd hC
          have hL : cenv.locals = C := by rw [he]; rfl
          with_reducible refine wpAny_assign_Name ?_
          refine storeN (by assumption) (r := r) (by rw [hL]; exact upd_self ..) ?_ (by rw [he]; rfl) (by rw [he]; rfl)
          intro s st
          rw [hL, upd_upd] at st
          refine wpAny_tests_one ?_
          with_reducible refine wpAny_isTrue_Compare1 ?_
          with_reducible refine Subscript_ ?_
          refine nameC (hd := by decide) (a := cb) (by assumption) (by rw [he]; rfl) (hsC.le _ _ hcb) ?_ (by rw [he]; rfl) (by rw [he, hf]; rfl)
          refine gotRA ?_
          refine nameN (hd := by decide) (by assumption) (r := put r "i" (.int k)) (by rw [hL]; exact upd_self ..) (put_self ..) ?_ (by rw [he]; rfl) (by rw [he]; rfl)
          refine gotIA ?_
          intro tok
          refine idxD (hs := by with_unfolding_all rfl) (by assumption) (hsC.le _ _ hbd) (k := k) (by rw [lookup_keys, if_pos hkm]) ?_
          refine gotIS ?_
          intro tok s st
          with_reducible refine Subscript_ ?_
          refine nameC (hd := by decide) (a := cb) (by assumption) (by rw [he]; rfl) (hsC.le _ _ hcb) ?_ (by rw [he]; rfl) (by rw [he, hf]; rfl)
          refine gotRA ?_
          refine nameC (hd := by decide) (a := ct) (by assumption) (by rw [he]; rfl) (hsC.le _ _ hct) ?_ (by rw [he]; rfl) (by rw [he, hf]; rfl)
          refine gotIA ?_
          intro tok
          refine idxD (hs := by with_unfolding_all rfl) (by assumption) (hsC.le _ _ hbd) (k := t) (by rw [lookup_keys, if_pos htm]) ?_
          refine gotIS ?_
          intro tok s st
          with_reducible refine leI ?_
          with_reducible refine wpAny_truthy_bool ?_
          cases hb : decide (B k ≤ B t) with
          | false =>
            refine ifN Bool.false_ne_true ?_
            with_reducible refine openS (by assumption) ?_
            refine ⟨_, st, hC, ?_, _, rfl⟩
            rw [take_succ' hki, List.filter_append]; simp [hb]
          | true =>
            refine ifP rfl ?_
            with_reducible refine Subscript_ ?_
            refine nameC (hd := by decide) (a := cl) (by assumption) (by rw [he]; rfl) (hsC.le _ _ hcl) ?_ (by rw [he]; rfl) (by rw [he, hf]; rfl)
            refine gotRA ?_
            refine nameN (hd := by decide) (by assumption) (r := put r "i" (.int k)) (by rw [hL]; exact upd_self ..) (put_self ..) ?_ (by rw [he]; rfl) (by rw [he]; rfl)
            refine gotIA ?_
            intro tok
            refine idxL (hs := by with_unfolding_all rfl) (by assumption) (.inl (hsC.le _ _ (I.sub.le _ _ G.len))) k0 (idx_rng k0 k1) (by exact om88 hn k1) ?_
            intro v hv
            with_reducible refine openV (by assumption) ?_
            refine ⟨_, st, hC, ?_, _, rfl⟩
            rw [take_succ' hki, List.filter_append, hv]; simp [hb]
        · rintro D2 C acc H' s' hD2 ⟨hC, rfl, r, rfl⟩ hD' hDC st
          rw [List.length_map, List.take_length] at st
          have st := st.drop (H' := upd H4 D2 (.list (((ns.filter (fun k => decide (B k ≤ B t))).map L).map AV.int))) (fun a ao e => by
            by_cases q : a = D2
            · subst q; rw [upd_self] at e ⊢; rw [← e, List.map_map]; rfl
            · rw [upd_ne q] at e ⊢
              have : a ≠ C := fun q => by first | (rw [q, hC] at e; cases e) | (rw [← q, hC] at e; cases e)
              rw [del_ne this, upd_ne this]; exact e)
          have hs2 : Sub H4 (upd H4 D2 (.list (((ns.filter (fun k => decide (B k ≤ B t))).map L).map AV.int))) := (Sub.refl H4).upd hD2
          (first | refine ⟨trivial, ?_⟩ | refine ⟨stands_K (by assumption) (by assumption) (by (rw [hK]; first | with_reducible exact k_bisect _ | with_reducible exact k_insort _ | with_reducible exact k_info _ | with_reducible exact k_sorter _ | with_reducible exact k98 _ | with_reducible exact k105 _ | with_reducible exact k110 _ | with_reducible exact k117 _ | with_reducible exact k124 _ | with_reducible exact k138 _ | with_reducible exact k145 _ | with_reducible exact kp_least _)), ?_⟩)
          (try dsimp only [List.nil_append, List.cons_append])
          refine sumL rm'.handled (by assumption) (.inl (upd_self ..)) ?_
          intro tok s st
          have hcb := hs2.le _ _ hcb
          have hct := hs2.le _ _ hct
          have hl3 := hs2.le _ _ hl2
          refine storeL (by assumption) ?_ rfl (Cx.Ok.fn (by assumption)) (by first | exact kindK hf rfl | (rw [hf]; rfl) | (rw [he]; rfl))
          intro s st
          with_reducible refine openK (by assumption) ?_
          with_reducible refine execsK ?_
          intro K hStmt
          refine exprV (hs := by rfl) (Cx.Ok.fn (by assumption)) ?_
          refine callMeth (he := by rfl) ?_
          refine nameLR (hd := by decide) (by assumption) (by first | assumption | rfl) ?_ rfl (Cx.Ok.fn (by assumption)) (by first | exact kindK hf rfl | (rw [hf]; rfl) | (rw [he]; rfl))
          refine methL (by assumption) hl3 PySem.F.slot_list_append PySem.F.type_list_append ?_
          refine cw (he := by rfl) ?_
          dsimp only [Args_]
          with_reducible refine wpAny_BinOp ?_
          refine nameLI (hd := by decide) (by assumption) (by first | assumption | rfl) ?_ rfl (Cx.Ok.fn (by assumption)) (by first | exact kindK hf rfl | (rw [hf]; rfl) | (rw [he]; rfl))
          intro tok
          with_reducible refine Subscript_ ?_
          refine nameC (hd := by decide) (by assumption) (by rw [hcells]; rfl) (by assumption) ?_ (Cx.Ok.fn (by assumption)) (by first | exact kindK hf rfl | (rw [hf]; rfl) | (rw [he]; rfl))
          refine gotRA ?_
          refine nameC (hd := by decide) (by assumption) (by rw [hcells]; rfl) (by assumption) ?_ (Cx.Ok.fn (by assumption)) (by first | exact kindK hf rfl | (rw [hf]; rfl) | (rw [he]; rfl))
          refine gotIA ?_
          intro tok
          refine idxD (hs := by with_unfolding_all rfl) (by assumption) (hs2.le _ _ hbd) (k := t) (by rw [lookup_keys, if_pos htm]) ?_
          refine gotIS ?_
          intro tok s st
          with_reducible refine subI (by assumption) ?_
          intro tok s st
          (first | refine ⟨trivial, ?_⟩ | refine ⟨stands_K (by assumption) (by assumption) (by (rw [hK]; first | with_reducible exact k_bisect _ | with_reducible exact k_insort _ | with_reducible exact k_info _ | with_reducible exact k_sorter _ | with_reducible exact k98 _ | with_reducible exact k105 _ | with_reducible exact k110 _ | with_reducible exact k117 _ | with_reducible exact k124 _ | with_reducible exact k138 _ | with_reducible exact k145 _ | with_reducible exact kp_least _)), ?_⟩)
          (try dsimp only [List.nil_append, List.cons_append])
          refine appendL (by assumption) hl3 (by rw [List.length_map, List.length_map, List.length_take, sizeLine_eq]; exact om89 hz) ?_
          intro s st
          with_reducible refine openK (by assumption) ?_
          with_reducible refine wpAny_execs_nil ?_
          with_reducible refine openK (by assumption) ?_
          dsimp only
          refine ⟨_, _, st, fun x av e => AllIn.mem (l := [("tasks", .ref ta), ("dues", .ref da), ("needs", .ref na), ("late", .ref lt)]) ⟨rfl, rfl, rfl, rfl, trivial⟩ x av e, ?_, some (.int t), ?_⟩
          · rw [upd_self, take_succ' hti]; simp [abs, workOf]
          · have I3 := I.mono hs2
            have nn : ∀ b ao, upd H4 D2 (.list (((ns.filter (fun k => decide (B k ≤ B t))).map L).map AV.int)) b = some ao → (∀ xs, ao ≠ .list xs) → b ≠ lt := by
              rintro b ao e hn rfl
              rw [hl3] at e
              exact hn _ (Option.some.inj e).symm
            obtain ⟨ep2, hbd2⟩ := I3.hbd
            refine ⟨(I.sub.trans hs2).upd hHlt, ?_, ?_, ?_, ep2, ?_⟩
            · rw [upd_ne (nn _ _ I3.hcl (fun _ q => by cases q))]; exact I3.hcl
            · rw [upd_ne (nn _ _ I3.hcb (fun _ q => by cases q))]; exact I3.hcb
            · rw [upd_ne (nn _ _ I3.hct (fun _ q => by cases q))]; exact I3.hct
            · rw [upd_ne (nn _ _ hbd2 (fun _ q => by cases q))]; exact hbd2
      · rintro ρ' H' s' ⟨hρ, hl', tv, I⟩ st
        have st := st.weaken hρ
        rw [List.length_map, List.take_length] at hl'
        with_reducible refine wpAny_execs_nil ?_
        with_reducible refine openK (by assumption) ?_
        with_reducible refine execsK ?_
        intro K hStmt
        with_reducible refine wpAny_Return_some ?_
        refine callName (he := by rfl) ?_
        refine nameB (hd := by decide) (by assumption) (by assumption) (by rw [hK]; kernel_rfl) (by first | with_reducible exact bb_len | with_reducible exact bb_list | with_reducible exact bb_range | with_reducible exact bb_abs | with_reducible exact bb_sorted | with_reducible exact bb_max | with_reducible exact bb_min | with_reducible exact bb_sum | with_reducible exact bb_tuple | with_reducible exact bb_set | with_reducible exact bb_iter | with_reducible exact bb_bool | with_reducible exact bb_dict | with_reducible exact bb_divmod | with_reducible exact bb_enumerate | with_reducible exact bb_zip) (by decide) ?_ (Cx.Ok.glob (by assumption)) (Cx.Ok.blt (by assumption)) (Cx.Ok.fn (by assumption)) (by first | exact kindK hf rfl | (rw [hf]; rfl) | (rw [he]; rfl))
        refine cw (he := by rfl) ?_
        dsimp only [Args_]
        refine nameLR (hd := by decide) (by assumption) (by first | assumption | rfl) ?_ rfl (Cx.Ok.fn (by assumption)) (by first | exact kindK hf rfl | (rw [hf]; rfl) | (rw [he]; rfl))
        (first | refine ⟨trivial, ?_⟩ | refine ⟨stands_K (by assumption) (by assumption) (by (rw [hK]; first | with_reducible exact k_bisect _ | with_reducible exact k_insort _ | with_reducible exact k_info _ | with_reducible exact k_sorter _ | with_reducible exact k98 _ | with_reducible exact k105 _ | with_reducible exact k110 _ | with_reducible exact k117 _ | with_reducible exact k124 _ | with_reducible exact k138 _ | with_reducible exact k145 _ | with_reducible exact kp_least _)), ?_⟩)
        (try dsimp only [List.nil_append, List.cons_append])
        refine maxL rm'.handled (by assumption) (.inl hl') (by rw [List.length_map]; exact List.length_pos_iff.mpr hne) ?_
        intro M tok s hM1 hM2 st
        with_reducible refine openK (by assumption) ?_
        dsimp only
        refine ⟨_, _, st, fun st => ?_⟩
        subst hB
        exact h ts M tok _ _ hperm hsrt hM1 hM2 I.sub st
end


noncomputable def tabO (ps : Array Value) : AO := .obj fun o => o = tabObj ps
noncomputable def codeO (qual : Str) : AO := .obj fun o => ∃ vs t, o.data = .fields vs ∧ vs[1]? = some (.str qual t)
noncomputable def lamO (name qual : Str) (params : Arguments) (body : Expr) (scope : Scope) (cl : List (Str × Addr)) (c' : Addr) : AO := .obj fun o => ∃ pm ctv, o = kla_obj name qual params body scope cl pm c' ctv

section
variable {c : Cx} {R : Ledger} {ρ : Str → Option AV} {H : Ledger} {s : Shared} {A : Around} {E : Value → Shared → Prop}
variable {name qual cn : Str} {params : Arguments} {body : Expr} {scope cs : Scope} {cl clos : List (Str × Addr)} {f a c' P cc : Addr} {args : Args} {binds : List (Str × Value)} {d : Nat} {pos : Pos} {firstLine : Nat} {Q : Value → Shared → Prop}

theorem call_lam {Rr : Result → Shared → Prop} (ok : c.Ok) (rm : Room c A (d + 1)) (st : St c R ρ H s) (hfn : H f = some (lamO name qual params body scope cl c')) (hco' : H c' = some (codeO qual))
    (hbind : ∀ pm ctv, bindArgs (kla_fn name qual params body scope cl pm (.ref c') ctv) args = pure binds) (hloc : ∀ y ∈ binds, scope.names.lookup y.1 = some .local) (hcell : ∀ x ∈ scope.names, x.2 ≠ .cell)
    (hco : scope.isCoroutine = false) (hgen : scope.isGenerator = false) (hk : scope.kind = .function)
    (h : ∀ g L' s', (c.enter A g (envX qual scope L' f (.ref c') cl)).Ok → Room (c.enter A g (envX qual scope L' f (.ref c') cl)) (A.deeper (envX qual scope L' f (.ref c') cl)) d →
      St (c.enter A g (envX qual scope L' f (.ref c') cl)) R (fun x => (binds.reverse.lookup x).map abs) H s' →
      wpAny c.M (A.deeper (envX qual scope L' f (.ref c') cl)) (eval body (envX qual scope L' f (.ref c') cl)) (fun v s'' => ∃ ρ' H', St (c.enter A g (envX qual scope L' f (.ref c') cl)) R ρ' H' s'' ∧ (St c R ρ H' s'' → Rr (.ok (.ret v)) s'')) (fun _ _ => False) s') :
    codeAny c.M A (.call (.ref f) args) Rr s := by
  obtain ⟨m, F, hr⟩ := st.fr
  obtain ⟨o, ho, pm, ctv, rfl⟩ := st.get hfn
  obtain ⟨oc, hoc, vs, t, hd, hv⟩ := st.get hco'
  have hmem : (f, kla_obj name qual params body scope cl pm c' ctv) ∈ newsOf s.heap R H := mem_newsOf.mpr ⟨.inl (by rw [hfn]; intro q; cases q), ho⟩
  refine kla_code ok.below F ok.K st.news ok.T rm.frames ok.frame ok.fn hmem ⟨c', oc, vs, t, rfl, hoc, hd, hv⟩ (by have := rm.depth; exact om0 this) (hbind pm ctv) hloc (fun g L' h₁ FG F' N' B' X' T' => ?_) hco hgen hk hcell
  have ok' : (c.enter A g (envX qual scope L' f (.ref c') cl)).Ok := ⟨B', X', T', rfl, hk, rfl, rfl⟩
  have rm' : Room (c.enter A g (envX qual scope L' f (.ref c') cl)) (A.deeper (envX qual scope L' f (.ref c') cl)) d := by
    refine ⟨?_, ?_, ?_, rm.handled⟩
    · show A.frames.map _ = _; rw [rm.frames]; rfl
    · have := rm.depth; show A.depth + 1 + d < _; exact om1 this
    · have := rm.units; show A.units + 3 + 20 * d < _; exact om2 this
  have sh := st.sh
  have st' : St (c.enter A g (envX qual scope L' f (.ref c') cl)) R (fun x => (binds.reverse.lookup x).map abs) H { s with heap := h₁, toks := s.toks + binds.length } := by
    refine st.carry (c' := c.enter A g (envX qual scope L' f (.ref c') cl)) F' (fun x av e => ?_) N' (by rw [sh]; rfl)
    obtain ⟨v, e1, e2⟩ := Option.map_eq_some_iff.mp e
    exact ⟨v, e1, e2⟩
  refine wpAny_mono (h g L' _ ok' rm' st') (fun v s'' hb => ?_) fun _ _ z => z.elim
  obtain ⟨ρ', H', sb, k⟩ := hb
  obtain ⟨m', F'', _⟩ := sb.fr
  exact ⟨L', m', newsOf s''.heap R H', F'', sb.news, fun Fb Nb => k (sb.carry (c' := c) Fb hr Nb sb.sh)⟩

theorem lamNew (ok : c.Ok) (st : St c R ρ H s) (C : CodeHd c.h₀ cc P) (he : c.fenv = envX cn cs c.L a (.ref cc) cl) (hP : H P = some (tabO #[])) (hcl : closureFor scope c.fenv = pure clos)
    (h : ∀ f c' s', H f = none → H c' = none → f ≠ c' → St c R ρ (upd (upd (upd H P (tabO #[rawInt pos.line, rawInt pos.col, .ref c'])) c' (codeO qual)) f (lamO name qual params body scope clos c')) s' → Q (.ref f) s') :
    wpAny c.M A (makeFunction name qual params (.expr body) scope c.fenv [] [] [] pos firstLine) Q E s := by
  obtain ⟨o, ho, rfl⟩ := st.get hP
  obtain ⟨m, F, hr⟩ := st.fr
  have N := st.news
  have hgs := ok.T.g.keeps F.keep
  have hm := N (P, tabObj #[]) (mem_newsOf.mpr ⟨.inl (by rw [hP]; intro q; cases q), ho⟩)
  obtain ⟨bm, ob, b1, b2, b3, b4, b5, b6⟩ := ok.T.bmain
  have hgP : mainGlobals ≠ P := fun q => by
    obtain ⟨o, es, ep, e, hd, _⟩ := hgs
    rw [q, hm.1] at e; cases e; cases hd
  have hbP : bm ≠ P := fun q => by
    have e := F.keep _ _ b3
    rw [q, hm.1] at e; cases e; cases b4
  have hbG : bm ≠ mainGlobals := fun q => by
    obtain ⟨o, es, ep, e, hd, _⟩ := ok.T.g
    rw [q, e] at b3; cases b3; rw [hd] at b6; cases b6
  refine kla_makeFunction (mg := c.G.mg) hcl ok.glob hgs (by rw [he]) (C.keeps F.keep) hm.1 trivial rfl hgP ⟨bm, ob, b1, b2, hbG, hbP, F.keep _ _ b3, b4, b5, b6⟩ fun c' ctv h' tk hx hge hlt hrec htb => ?_
  obtain ⟨c₂, oc, vs, t, e2, hoc, hd, hv⟩ := hrec
  cases e2
  have hfr : ∀ b, s.heap.objs.size ≤ b → H b = none ∧ R b = none ∧ b ≠ c.L ∧ c.h₀.get? b = none ∧ 3 < b := fun b hb => by
    refine ⟨?_, ?_, ?_, ?_, Nat.lt_of_lt_of_le (st.size_gt ok) hb⟩
    · cases e : H b with
      | none => rfl
      | some ao => exact absurd (Nat.lt_of_lt_of_le (st.lt e) hb) (Nat.lt_irrefl _)
    · cases e : R b with
      | none => rfl
      | some ao => obtain ⟨_, z, _⟩ := st.hid b ao e; exact absurd (Nat.lt_of_lt_of_le (Heap.lt_size z) hb) (Nat.lt_irrefl _)
    · exact Nat.ne_of_gt (Nat.lt_of_lt_of_le st.Llt hb)
    · exact Heap.get?_none_of_le (Nat.le_trans F.above (Nat.le_of_lt (Nat.lt_of_lt_of_le st.Llt hb)))
  obtain ⟨x1, x2, x3, x4, x5⟩ := hfr c' hge
  obtain ⟨y1, y2, y3, y4, y5⟩ := hfr h'.objs.size (Nat.le_trans hge (Nat.le_of_lt hlt))
  have hne : h'.objs.size ≠ c' := Nat.ne_of_gt hlt
  have hPl := st.lt hP
  refine h h'.objs.size c' _ y1 x1 hne ?_
  have keep : ∀ b o, b ≠ P → s.heap.get? b = some o → (h'.push (kla_obj name qual params body scope clos ((c.G.mg "__name__").getD .none) c' ctv)).get? b = some o := fun b o n e => Heap.get?_push_of_some _ (hx b o n e)
  have sh := st.sh
  refine ⟨⟨m, ⟨(F.ns.extBut hx hm.2.1.symm).push _, fun b o e => keep b o (fun q => by rw [q, hm.2.2] at e; cases e) (F.keep b o e), F.above⟩, hr⟩, fun b ao e => ?_, fun b ao e => ?_, fun b e => ?_, by rw [sh]⟩
  · by_cases q1 : b = h'.objs.size
    · subst q1; rw [upd_self] at e; cases e
      exact ⟨_, Heap.get?_push_size _ rfl, ⟨_, _, rfl⟩, y3, y4, y5⟩
    · rw [upd_ne q1] at e
      by_cases q2 : b = c'
      · subst q2; rw [upd_self] at e; cases e
        exact ⟨_, Heap.get?_push_of_some _ hoc, ⟨vs, t, hd, hv⟩, x3, x4, x5⟩
      · rw [upd_ne q2] at e
        by_cases q3 : b = P
        · subst q3; rw [upd_self] at e; cases e
          obtain ⟨_, _, _, z3, z4, z5⟩ := st.own _ _ hP
          exact ⟨_, Heap.get?_push_of_some _ htb, rfl, z3, z4, z5⟩
        · rw [upd_ne q3] at e
          exact (st.own b ao e).mono fun o => keep b o q3
  · refine (st.hid b ao e).mono fun o => keep b o ?_
    rintro rfl
    rw [st.dis b (by rw [hP]; intro q; cases q)] at e; cases e
  · by_cases q1 : b = h'.objs.size
    · subst q1; exact y2
    · rw [upd_ne q1] at e
      by_cases q2 : b = c'
      · subst q2; exact x2
      · rw [upd_ne q2] at e
        by_cases q3 : b = P
        · subst q3; exact st.dis b (by rw [hP]; intro q; cases q)
        · rw [upd_ne q3] at e; exact st.dis b e

theorem lamHit (ok : c.Ok) (st : St c R ρ H s) (C : CodeHd c.h₀ cc P) (he : c.fenv = envX cn cs c.L a (.ref cc) cl) (hP : H P = some (tabO #[rawInt pos.line, rawInt pos.col, .ref c'])) (hcl : closureFor scope c.fenv = pure clos)
    (h : ∀ f s', H f = none → St c R ρ (upd H f (lamO name qual params body scope clos c')) s' → Q (.ref f) s') :
    wpAny c.M A (makeFunction name qual params (.expr body) scope c.fenv [] [] [] pos firstLine) Q E s := by
  obtain ⟨o, ho, rfl⟩ := st.get hP
  obtain ⟨m, F, k⟩ := st.fr_m
  have N := st.news
  have hmem : (P, tabObj #[rawInt pos.line, rawInt pos.col, .ref c']) ∈ newsOf s.heap R H := mem_newsOf.mpr ⟨.inl (by rw [hP]; intro q; cases q), ho⟩
  have e2 : c.fenv = envX cn cs c.L a (.ref cc) cl := he
  rw [he] at hcl ⊢
  refine kla_hit (c := cc) (P := P) (c' := c') F N ok.T C rfl hmem (by simp [TriplesOk, rawInt]) (by simp [codeAmong, rawInt]) hcl fun f ctv h' tk F' N' hlt => ?_
  have N1 := N' _ (.head _)
  have hf := news_lt st hlt
  have h3 : 3 < f := by
    have z := hlt _ hmem
    obtain ⟨_, _, _, _, _, z5⟩ := st.own _ _ hP
    exact Nat.lt_trans z5 z
  have st' : St c R ρ H { s with heap := h', toks := tk } := k F' (fun p hp => N' p (List.mem_cons_of_mem _ hp))
  exact h f _ hf.1 (st.grow st' N1.1 N1.2.1 N1.2.2 h3 hf.2 ⟨_, _, rfl⟩)

noncomputable def LamTab (H : Ledger) (P : Addr) (pos : Pos) (qual : Str) : Prop := H P = some (tabO #[]) ∨ ∃ c', H P = some (tabO #[rawInt pos.line, rawInt pos.col, .ref c']) ∧ H c' = some (codeO qual) ∧ c' ≠ P
end


noncomputable def sLaw : Stmt := topSt 12
noncomputable def exP : Expr → Arguments × Expr × Scope × Pos × List Expr
  | .Lambda p b s q => (p, b, s, q, [])
  | .Call _ _ ks _ => (⟨[], [], none, [], [], none, []⟩, .Constant .none 0 ⟨0, 0, 0, 0⟩, { kind := .function, names := [], isGenerator := false, isCoroutine := false }, ⟨0, 0, 0, 0⟩, ks.map (·.value))
  | _ => (⟨[], [], none, [], [], none, []⟩, .Constant .none 0 ⟨0, 0, 0, 0⟩, { kind := .function, names := [], isGenerator := false, isCoroutine := false }, ⟨0, 0, 0, 0⟩, [])
noncomputable def kwOf (s : Stmt) : Expr := (exP (stP (stmtAt (bodyOf s) 0)).2.2.2.2).2.2.2.2.getD 0 (.Constant .none 0 ⟨0, 0, 0, 0⟩)
noncomputable def lamE : Expr := kwOf (stmtAt (bodyOf (stmtAt (bodyOf sLaw) 9)) 0)
noncomputable def lamParams : Arguments := (exP lamE).1
noncomputable def lamBody : Expr := (exP lamE).2.1
noncomputable def lamScope : Scope := (exP lamE).2.2.1
noncomputable def lamPos : Pos := (exP lamE).2.2.2.1
noncomputable def lamQ : Str := "law.<locals>.<lambda>"

theorem key_dues {G : Gx} {d : Nat} {H : Ledger} {f c' cd da : Addr} {n : Nat} {D : Int → Int} (hn : n ≤ 1000) (hf : H f = some (lamO "<lambda>" lamQ lamParams lamBody lamScope [(("dues" : Str), cd)] c')) (hc : H c' = some (codeO lamQ))
    (hcd : H cd = some (.cell (some (.ref da)))) (hda : H da = some (.list ((List.range n).map fun (i : Nat) => AV.int (D i)))) :
    KeyFn G (d + 1) H f D (fun k v _ => v = .int k) (fun a b => decide (a < b)) (fun i => 0 ≤ i ∧ i < n) where
  stands := fun h1 h2 h3 h4 => by
    obtain ⟨o, e, pm, ctv, rfl⟩ := h4.get (h3.le _ _ hf)
    exact ⟨_, _, _, _, e⟩
  call := fun {c A R ρ H₁ s E i t Q} hG ok rm hs st hi h => by
    refine wpAny_call (call_lam (binds := [(("one" : Str), .int i t)]) ok rm st (hs.le _ _ hf) (hs.le _ _ hc) (fun pm ctv => by first | rfl | kernel_rfl) (locs (by kernel_rfl)) (by decide +kernel) (by kernel_rfl) (by kernel_rfl) (by kernel_rfl) ?_)
    intro g L' s' ok' rm' st'
    refine Subscript_ ?_
    refine nameF (hd := by decide) (hn := by decide) (c := c.enter A g (envX lamQ lamScope L' f (.ref c') [(("dues" : Str), cd)])) (a := cd) st' rfl (hs.le _ _ hcd) ?_ rfl rfl
    refine gotRA ?_
    refine nameL (hd := by decide) (c := c.enter A g (envX lamQ lamScope L' f (.ref c') [(("dues" : Str), cd)])) st' (av := .int i) rfl ?_ rfl rfl rfl
    refine gotIA ?_
    intro tok
    refine idxL (hs := by with_unfolding_all rfl) (c := c.enter A g (envX lamQ lamScope L' f (.ref c') [(("dues" : Str), cd)])) st' (.inl (hs.le _ _ hda)) hi.1 (idx_rng hi.1 hi.2) (by have := hi.2; exact om91 hn hi) ?_
    intro v hv
    exact ⟨_, _, st', fun st => h v H₁ _ (Sub.refl _) hv st⟩
  less := fun {c A R ρ H' s E k1 k2 v1 v2 Q} hG ok rm st h1 h2 h => by
    obtain ⟨t1, rfl⟩ := abs_int h1
    obtain ⟨t2, rfl⟩ := abs_int h2
    exact ltI (h _ st)
  mono := fun h _ => h


theorem setF_min_le {B : Int → Int} {k v x : Int} (h : v ≤ B k) : setF B k v x ≤ B x := by
  unfold setF; split
  · rename_i e; rw [e]; exact h
  · exact Int.le_refl _

section
variable {Nd : Int → List Int} {D : Int → Int}

theorem fold_le (t : Int) : ∀ (is : List Int) (B : Int → Int) (x : Int), is.foldl (fun B i => setF B i (min (B i) (B t))) B x ≤ B x
  | [], B, x => Int.le_refl _
  | i :: r, B, x => by
    rw [List.foldl_cons]
    exact Int.le_trans (fold_le t r _ x) (setF_min_le (by exact om92))
theorem fold_off (t : Int) : ∀ (is : List Int) (B : Int → Int) (x : Int), x ∉ is → is.foldl (fun B i => setF B i (min (B i) (B t))) B x = B x
  | [], B, x, _ => rfl
  | i :: r, B, x, h => by
    rw [List.foldl_cons, fold_off t r _ x (fun q => h (List.mem_cons_of_mem _ q)), setF_ne (show x ≠ i from fun q => h (by rw [q]; exact List.mem_cons_self))]
theorem fold_in (t : Int) : ∀ (is : List Int) (B : Int → Int) (i : Int), t ∉ is → i ∈ is → is.foldl (fun B i => setF B i (min (B i) (B t))) B i ≤ B t
  | j :: r, B, i, ht, hi => by
    rw [List.foldl_cons]
    have hjt : t ≠ j := fun q => ht (by rw [q]; exact List.mem_cons_self)
    have htr : t ∉ r := fun q => ht (List.mem_cons_of_mem _ q)
    by_cases h : i ∈ r
    · have := fold_in t r (setF B j (min (B j) (B t))) i htr h
      rwa [setF_ne hjt] at this
    · have : i = j := by
        rcases List.mem_cons.mp hi with e | e
        · exact e
        · exact absurd e h
      subst this
      rw [fold_off t r _ i h, setF_self]
      exact om93
theorem fold_val (t : Int) : ∀ (is : List Int) (B : Int → Int) (x : Int), t ∉ is → is.foldl (fun B i => setF B i (min (B i) (B t))) B x = B x ∨ (x ∈ is ∧ is.foldl (fun B i => setF B i (min (B i) (B t))) B x = B t)
  | [], B, x, _ => .inl rfl
  | j :: r, B, x, ht => by
    rw [List.foldl_cons]
    have hjt : t ≠ j := fun q => ht (by rw [q]; exact List.mem_cons_self)
    have htr : t ∉ r := fun q => ht (List.mem_cons_of_mem _ q)
    rcases fold_val t r (setF B j (min (B j) (B t))) x htr with h | ⟨h1, h2⟩
    · rw [h]
      by_cases hx : x = j
      · subst hx
        rw [setF_self]
        by_cases hm : B x ≤ B t
        · left; exact om94 hm
        · right; exact ⟨List.mem_cons_self, by exact om95 hm⟩
      · left; exact setF_ne hx
    · right
      refine ⟨List.mem_cons_of_mem _ h1, ?_⟩
      rw [h2, setF_ne hjt]

structure BInv (Nd : Int → List Int) (D : Int → Int) (S : List Int) (cl : Int → Int → Prop) (P : List Int) (B : Int → Int) : Prop where
  le : ∀ x, B x ≤ D x
  dep : ∀ t ∈ P, ∀ i ∈ Nd t, B i ≤ B t
  val : ∀ x ∈ S, ∃ u ∈ S, B x = D u ∧ cl x u

theorem bnd_inv {S : List Int} {cl : Int → Int → Prop} (hlt : ∀ t ∈ S, ∀ i ∈ Nd t, i < t) (hcl : ∀ t ∈ S, ∀ i ∈ Nd t, cl i t) (tr : ∀ x y z, cl x y → cl y z → cl x z) :
    ∀ (Q P : List Int) (B : Int → Int), (∀ t ∈ Q, t ∈ S) → (P ++ Q).Pairwise (fun a b => b < a) → BInv Nd D S cl P B → BInv Nd D S cl (P ++ Q) (Q.foldl (relax Nd) B)
  | [], P, B, _, _, x => by simpa using x
  | t :: Q, P, B, hS, hp, x => by
    have htS : t ∈ S := hS t List.mem_cons_self
    have hnt : t ∉ Nd t := fun q => Int.lt_irrefl _ (hlt t htS t q)
    have hpt : ∀ p ∈ P, t < p := fun p hp' => (List.pairwise_append.mp hp).2.2 p hp' t List.mem_cons_self
    have step : BInv Nd D S cl (P ++ [t]) (relax Nd B t) := by
      refine ⟨fun y => Int.le_trans (fold_le t _ B y) (x.le y), fun p hp' i hi => ?_, fun y hy => ?_⟩
      · rcases List.mem_append.mp hp' with hp' | hp'
        · have e : relax Nd B t p = B p := fold_off t _ B p fun q => by have := hlt t htS p q; have := hpt p hp'; omega
          rw [e]
          exact Int.le_trans (fold_le t _ B i) (x.dep p hp' i hi)
        · rw [List.mem_singleton] at hp'
          subst hp'
          have e : relax Nd B p p = B p := fold_off p _ B p hnt
          rw [e]
          exact fold_in p _ B i hnt hi
      · rcases fold_val t (Nd t) B y hnt with h | ⟨h1, h2⟩
        · obtain ⟨u, hu, e1, e2⟩ := x.val y hy
          exact ⟨u, hu, by unfold relax; rw [h]; exact e1, e2⟩
        · obtain ⟨u, hu, e1, e2⟩ := x.val t htS
          exact ⟨u, hu, by unfold relax; rw [h2]; exact e1, tr _ _ _ (hcl t htS y h1) e2⟩
    have := bnd_inv hlt hcl tr Q (P ++ [t]) (relax Nd B t) (fun q hq => hS q (List.mem_cons_of_mem _ hq)) (by rw [List.append_assoc]; exact hp) step
    rw [List.append_assoc] at this
    exact this
end

noncomputable def lateL (order : List Int) (L D : Int → Int) (m : Nat) : List Int := (List.range (m + 1)).map fun k => ((order.take (k + 1)).map L).sum - D (order.getD k 0)

theorem last_of {p : Int → Bool} : ∀ {S : List Int}, (∃ x ∈ S, p x = true) → ∃ S1 v S2, S = S1 ++ v :: S2 ∧ p v = true ∧ ∀ x ∈ S2, p x = false
  | [], h => by obtain ⟨x, hx, _⟩ := h; cases hx
  | a :: r, h => by
    by_cases hr : ∃ x ∈ r, p x = true
    · obtain ⟨S1, v, S2, e, h1, h2⟩ := last_of hr
      exact ⟨a :: S1, v, S2, by rw [e]; rfl, h1, h2⟩
    · refine ⟨[], a, r, rfl, ?_, fun x hx => ?_⟩
      · obtain ⟨x, hx, hp⟩ := h
        rcases List.mem_cons.mp hx with e | e
        · rw [← e]; exact hp
        · exact absurd ⟨x, e, hp⟩ hr
      · cases hp : p x with
        | false => rfl
        | true => exact absurd ⟨x, hx, hp⟩ hr
theorem sum_filter_le {L : Int → Int} (hL : ∀ x, 0 ≤ L x) (p : Int → Bool) : ∀ S : List Int, ((S.filter p).map L).sum ≤ (S.map L).sum
  | [] => Int.le_refl _
  | a :: r => by
    have ih := sum_filter_le hL p r
    have ha := hL a
    rw [List.filter_cons]
    split
    · simp only [List.map_cons, List.sum_cons]; exact om96 ih
    · simp only [List.map_cons, List.sum_cons]; exact om97 ih ha
theorem sum_nonneg {L : Int → Int} (hL : ∀ x, 0 ≤ L x) : ∀ S : List Int, 0 ≤ (S.map L).sum
  | [] => Int.le_refl _
  | a :: r => by
    have ih := sum_nonneg hL r
    have ha := hL a
    simp only [List.map_cons, List.sum_cons]; exact om98 ih ha
theorem sum_take_mono {L : Int → Int} (hL : ∀ x, 0 ≤ L x) (S : List Int) {a b : Nat} (h : a ≤ b) : ((S.take a).map L).sum ≤ ((S.take b).map L).sum := by
  have e : S.take b = S.take a ++ (S.take b).drop a := by
    have := (List.take_append_drop a (S.take b)).symm
    rwa [List.take_take, Nat.min_eq_left h] at this
  rw [e, List.map_append, List.sum_append]
  have := sum_nonneg hL ((S.take b).drop a)
  exact om99 this
theorem max_in {B : Int → Int} : ∀ {S : List Int}, S ≠ [] → ∃ t ∈ S, ∀ x ∈ S, B x ≤ B t
  | [], h => absurd rfl h
  | [a], _ => ⟨a, List.mem_cons_self, fun x hx => by rw [List.mem_singleton] at hx; rw [hx]; exact Int.le_refl _⟩
  | a :: b :: r, _ => by
    obtain ⟨t, ht, h⟩ := max_in (B := B) (S := b :: r) (by simp)
    by_cases hb : B a ≤ B t
    · refine ⟨t, List.mem_cons_of_mem _ ht, fun x hx => ?_⟩
      rcases List.mem_cons.mp hx with e | e
      · rw [e]; exact hb
      · exact h x e
    · refine ⟨a, List.mem_cons_self, fun x hx => ?_⟩
      rcases List.mem_cons.mp hx with e | e
      · rw [e]; exact Int.le_refl _
      · have := h x e; exact om100 hb this

section
variable {order : List Int} {L D : Int → Int} {Nd : Int → List Int} {N : Int} {m : Nat} {B : Int → Int}

theorem late_ge (hL : ∀ x, 0 ≤ L x) (hm : m < order.length) (hval : ∀ x ∈ order.take (m + 1), ∃ u ∈ order.take (m + 1), B x = D u ∧ ∀ k, u ∈ order.take k → x ∈ order.take k) (hnd : order.Nodup) {t : Int} (ht : t ∈ order.take (m + 1)) :
    ∃ b ∈ lateL order L D m, workOf (order.take (m + 1)) L B t - B t ≤ b := by
  obtain ⟨S1, v, S2, e, hv, h2⟩ := last_of (p := fun i => decide (B i ≤ B t)) ⟨t, ht, by simp⟩
  have hvS : v ∈ order.take (m + 1) := by rw [e]; simp
  obtain ⟨u, hu, hBu, hcl⟩ := hval v hvS
  obtain ⟨k, hk, hku⟩ := List.getElem_of_mem hu
  rw [List.length_take] at hk
  rw [List.getElem_take] at hku
  have hkm : k < m + 1 := by exact om101 hk
  have hko : k < order.length := by exact om102 hk
  refine ⟨((order.take (k + 1)).map L).sum - D (order.getD k 0), List.mem_map.mpr ⟨k, List.mem_range.mpr hkm, rfl⟩, ?_⟩
  have hgd : order.getD k 0 = u := by rw [List.getD_eq_getElem?_getD, List.getElem?_eq_getElem hko, hku]; rfl
  rw [hgd]
  -- the work of `t` lies within S1 ++ [v]
  have hW : workOf (order.take (m + 1)) L B t ≤ ((S1 ++ [v]).map L).sum := by
    unfold workOf
    rw [e, show S1 ++ v :: S2 = (S1 ++ [v]) ++ S2 by simp, List.filter_append, show S2.filter (fun i => decide (B i ≤ B t)) = [] from List.filter_eq_nil_iff.mpr fun x hx => by rw [h2 x hx]; decide, List.append_nil]
    exact sum_filter_le hL _ _
  -- and `v` comes no later than `u`
  have hvk : v ∈ order.take (k + 1) := hcl (k + 1) (by rw [← hku]; exact List.mem_iff_getElem.mpr ⟨k, by rw [List.length_take]; exact om103 hk, by rw [List.getElem_take]⟩)
  have hpre : S1 ++ [v] = order.take (S1.length + 1) := by
    have h3 : order.take (S1.length + 1) = (order.take (m + 1)).take (S1.length + 1) := by
      rw [List.take_take]
      have := congrArg List.length e
      rw [List.length_take, List.length_append, List.length_cons] at this
      rw [Nat.min_eq_left (by exact om104 this)]
    rw [h3, e, show S1 ++ v :: S2 = (S1 ++ [v]) ++ S2 by simp, List.take_append_of_le_length (by simp), List.take_of_length_le (by simp)]
  have hle : S1.length ≤ k := by
    rcases Nat.lt_or_ge k S1.length with h | h
    · exfalso
      have hS1 : v ∈ S1 := by
        have h3 : order.take (k + 1) = S1.take (k + 1) := by
          have h4 : order.take (k + 1) = (order.take (m + 1)).take (k + 1) := by rw [List.take_take, Nat.min_eq_left (by exact om105 hk)]
          rw [h4, e, List.take_append_of_le_length (by exact om11 h)]
        rw [h3] at hvk
        exact List.mem_of_mem_take hvk
      have hn : (order.take (m + 1)).Nodup := hnd.sublist (List.take_sublist _ _)
      rw [e, List.nodup_append] at hn
      exact hn.2.2 v hS1 v List.mem_cons_self rfl
    · exact h
  have hC : ((S1 ++ [v]).map L).sum ≤ ((order.take (k + 1)).map L).sum := by
    rw [hpre]; exact sum_take_mono hL order (by exact om106 hle)
  have : B v ≤ B t := of_decide_eq_true hv
  exact om107 hBu hW hC this

theorem late_le (hL : ∀ x, 0 ≤ L x) (hm : m < order.length) (hlt : ∀ t ∈ order, ∀ i ∈ Nd t, i < t) (hN : ∀ t ∈ order, t < N) (hle : ∀ x, B x ≤ D x) (hdep : ∀ t ∈ order.take (m + 1), ∀ i ∈ Nd t, B i ≤ B t)
    (hg : ∀ k (hk : k < order.length), ∀ j ∈ order.take (k + 1), (∀ t ∈ order.take (k + 1), j ∉ Nd t) → D j ≤ D order[k]) {k : Nat} (hk : k < m + 1) :
    ∃ t ∈ order.take (m + 1), ((order.take (k + 1)).map L).sum - D (order.getD k 0) ≤ workOf (order.take (m + 1)) L B t - B t := by
  have hko : k < order.length := by exact om108 hm hk
  have hgd : order.getD k 0 = order[k] := by rw [List.getD_eq_getElem?_getD, List.getElem?_eq_getElem hko]; rfl
  have hsub : ∀ x, x ∈ order.take (k + 1) → x ∈ order.take (m + 1) := fun x hx => by
    have : order.take (k + 1) = (order.take (m + 1)).take (k + 1) := by rw [List.take_take, Nat.min_eq_left (by exact om109 hk)]
    rw [this] at hx
    exact List.mem_of_mem_take hx
  -- every bound in the prefix is at most the due date chosen
  have key : ∀ (d : Nat) (i : Int), (N - i).toNat ≤ d → i ∈ order.take (k + 1) → B i ≤ D order[k] := by
    intro d
    induction d with
    | zero =>
      intro i hd hi
      have := hN i (List.mem_of_mem_take hi)
      exact om110 hd this
    | succ d ih =>
      intro i hd hi
      by_cases h : ∀ t ∈ order.take (k + 1), i ∉ Nd t
      · exact Int.le_trans (hle i) (hg k hko i hi h)
      · obtain ⟨t, ht, hit⟩ : ∃ t ∈ order.take (k + 1), i ∈ Nd t := Classical.byContradiction fun q => h fun t ht hit => q ⟨t, ht, hit⟩
        have h1 := hlt t (List.mem_of_mem_take ht) i hit
        have h2 := hN t (List.mem_of_mem_take ht)
        exact Int.le_trans (hdep t (hsub t ht) i hit) (ih t (by exact om111 hd h1) ht)
  have hne : order.take (k + 1) ≠ [] := by
    intro q
    have h5 : (order.take (k + 1)).length = 0 := by rw [q]; rfl
    rw [List.length_take] at h5
    exact oh6 h5 hko
  obtain ⟨t, ht, hmax⟩ := max_in (B := B) hne
  refine ⟨t, hsub t ht, ?_⟩
  have hBt := key _ t (Nat.le_refl _) ht
  have hW : ((order.take (k + 1)).map L).sum ≤ workOf (order.take (m + 1)) L B t := by
    have e : order.take (m + 1) = order.take (k + 1) ++ (order.take (m + 1)).drop (k + 1) := by
      have := (List.take_append_drop (k + 1) (order.take (m + 1))).symm
      rwa [List.take_take, Nat.min_eq_left (by exact om109 hk)] at this
    unfold workOf
    rw [e, List.filter_append, List.map_append, List.sum_append, List.filter_eq_self.mpr (fun x hx => decide_eq_true (hmax x hx))]
    have := sum_nonneg hL (((order.take (m + 1)).drop (k + 1)).filter fun i => decide (B i ≤ B t))
    exact om99 this
  rw [hgd]
  exact om112 hBt hW

theorem lawler (hL : ∀ x, 0 ≤ L x) (hnd : order.Nodup) (hlt : ∀ t ∈ order, ∀ i ∈ Nd t, i < t) (hN : ∀ t ∈ order, t < N) (hcl : ∀ k, ∀ t ∈ order.take k, ∀ i ∈ Nd t, i ∈ order.take k)
    (hg : ∀ k (hk : k < order.length), ∀ j ∈ order.take (k + 1), (∀ t ∈ order.take (k + 1), j ∉ Nd t) → D j ≤ D order[k]) (hm : m < order.length)
    {ts : List Int} (hp : ts.Perm (order.take (m + 1))) (hs : ts.Pairwise (· ≤ ·)) {M M' : Int} (h1 : M ∈ lates (order.take (m + 1)) L (bnd Nd D ts.reverse)) (h2 : ∀ a ∈ lates (order.take (m + 1)) L (bnd Nd D ts.reverse), a ≤ M)
    (h3 : M' ∈ lateL order L D m) (h4 : ∀ a ∈ lateL order L D m, a ≤ M') : M' = M := by
  have hsd : ts.reverse.Pairwise (fun a b => b < a) := by
    rw [List.pairwise_reverse]
    have hn : ts.Nodup := hp.nodup_iff.mpr (hnd.sublist (List.take_sublist _ _))
    exact (hs.and hn).imp fun ⟨a, b⟩ => Int.lt_iff_le_and_ne.mpr ⟨a, b⟩
  have I := bnd_inv (Nd := Nd) (D := D) (S := order.take (m + 1)) (cl := fun x u => ∀ k, u ∈ order.take k → x ∈ order.take k) (fun t ht => hlt t (List.mem_of_mem_take ht)) (fun t _ i hi k htk => hcl k t htk i hi) (fun x y z a b k hz => a k (b k hz))
    ts.reverse [] D (fun t ht => hp.mem_iff.mp (List.mem_reverse.mp ht)) (by simpa using hsd) ⟨fun x => Int.le_refl _, fun t ht => (nomatch ht), fun x hx => ⟨x, hx, rfl, fun k h => h⟩⟩
  have hB : (ts.reverse.foldl (relax Nd) D) = bnd Nd D ts.reverse := rfl
  rw [hB] at I
  apply Int.le_antisymm
  · obtain ⟨k, hk, e⟩ := List.mem_map.mp h3
    obtain ⟨t, ht, hle⟩ := late_le (m := m) (B := bnd Nd D ts.reverse) hL hm hlt hN I.le (fun t ht i hi => I.dep t (by simpa using hp.mem_iff.mpr ht) i hi) hg (List.mem_range.mp hk)
    have := h2 _ (List.mem_map.mpr ⟨t, ht, rfl⟩)
    exact om113 e hle this
  · obtain ⟨t, ht, e⟩ := List.mem_map.mp h1
    obtain ⟨b, hb, hle⟩ := late_ge (m := m) (B := bnd Nd D ts.reverse) hL hm I.val hnd ht
    have := h4 b hb
    exact om114 e hle this
end


noncomputable def cntOf (Nd : Int → List Int) (ts : List Int) (k : Int) : Int := ((ts.filter fun t => decide (k ∈ Nd t)).length : Int)

noncomputable def Greedy (ts : List Int) (Nd : Int → List Int) (D : Int → Int) (back : List Int) : Prop :=
  ∀ B1 b B2, back = B1 ++ b :: B2 → (∀ t ∈ ts, b ∈ Nd t → t ∈ B1) ∧ ∀ j ∈ ts, j ∉ B1 → (∀ t ∈ ts, j ∈ Nd t → t ∈ B1) → D j ≤ D b

structure LInv (ts : List Int) (Nd : Int → List Int) (D : Int → Int) (np : Int → Int) (rd row back : List Int) : Prop where
  nd : (back ++ (row ++ rd)).Nodup
  sub : ∀ k ∈ back ++ (row ++ rd), k ∈ ts
  mem : ∀ k ∈ ts, (∀ t ∈ ts, k ∈ Nd t → t ∈ back) → k ∈ back ++ (row ++ rd)
  dep : ∀ k ∈ back ++ (row ++ rd), ∀ t ∈ ts, k ∈ Nd t → t ∈ back
  cnt : ∀ k ∈ ts, k ∉ back ++ (row ++ rd) → np k = cntOf Nd (ts.filter fun t => decide (t ∉ back)) k
  out : ∀ k ∈ row, np k = -1
  srt : (row.map D).Pairwise (· ≤ ·)
  gr : Greedy ts Nd D back

section
variable {ts : List Int} {Nd : Int → List Int} {D : Int → Int} {np : Int → Int} {rd row back : List Int}

theorem outs_spec : ∀ (r : List Int) (np : Int → Int) (k : Int), outs r np k = if k ∈ r then -1 else np k
  | [], np, k => by simp [outs]
  | a :: r, np, k => by
    have ih := outs_spec r (setF np a (-1)) k
    show outs r (setF np a (-1)) k = _
    rw [ih]
    by_cases h : k ∈ r
    · simp [h]
    · by_cases ha : k = a
      · subst ha; simp [h]
      · rw [if_neg h, setF_ne ha, if_neg (by simp [ha, h])]

theorem decs_spec : ∀ (ss : List Int) (np : Int → Int) (rd : List Int), ss.Nodup → (∀ k, (decs np rd ss).1 k = if k ∈ ss then np k - 1 else np k) ∧ (decs np rd ss).2 = rd ++ ss.filter fun k => decide (np k = 1)
  | [], np, rd, _ => ⟨fun k => by simp [decs], by simp [decs]⟩
  | a :: r, np, rd, hn => by
    rw [List.nodup_cons] at hn
    have e : decs np rd (a :: r) = decs (dec (np, rd) a).1 (dec (np, rd) a).2 r := rfl
    obtain ⟨h1, h2⟩ := decs_spec r (dec (np, rd) a).1 (dec (np, rd) a).2 hn.2
    rw [e]
    refine ⟨fun k => ?_, ?_⟩
    · rw [h1]
      show (if k ∈ r then setF np a (np a - 1) k - 1 else setF np a (np a - 1) k) = _
      by_cases hk : k = a
      · subst hk; simp [hn.1]
      · rw [setF_ne hk]; simp [hk]
    · rw [h2]
      have e2 : (r.filter fun k => decide ((dec (np, rd) a).1 k = 1)) = r.filter fun k => decide (np k = 1) := by
        refine List.filter_congr fun k hk => ?_
        have hka : k ≠ a := fun q => hn.1 (q ▸ hk)
        show decide (setF np a (np a - 1) k = 1) = _
        rw [setF_ne hka]
      rw [e2, List.filter_cons]
      show (if np a - 1 = 0 then rd ++ [a] else rd) ++ _ = _
      by_cases ha : np a = 1
      · rw [if_pos (by exact om115 ha), if_pos (by simpa using ha)]; simp
      · rw [if_neg (by exact om116 ha), if_neg (by simpa using ha)]

theorem LInv.move (x : LInv ts Nd D np rd row back) {row' : List Int} (hp : row'.Perm (row ++ rd)) (hs : (row'.map D).Pairwise (· ≤ ·)) : LInv ts Nd D (outs rd np) [] row' back := by
  have hm : ∀ k, k ∈ back ++ (row' ++ []) ↔ k ∈ back ++ (row ++ rd) := fun k => by
    rw [List.append_nil, List.mem_append, List.mem_append, hp.mem_iff]
  refine ⟨?_, fun k hk => x.sub k ((hm k).mp hk), fun k hk h => (hm k).mpr (x.mem k hk h), fun k hk => x.dep k ((hm k).mp hk), fun k hk hn => ?_, fun k hk => ?_, hs, x.gr⟩
  · rw [List.append_nil]
    exact (List.Perm.append_left back hp).nodup_iff.mpr x.nd
  · rw [outs_spec, if_neg (fun q => hn ((hm k).mpr (by simp [q])))]
    exact x.cnt k hk fun q => hn ((hm k).mpr q)
  · rw [outs_spec]
    split
    · rfl
    · rename_i h
      have := hp.mem_iff.mp hk
      rw [List.mem_append] at this
      rcases this with q | q
      · exact x.out k q
      · exact absurd q h

theorem cnt_done {b : Int} (hnd : ts.Nodup) (hb : b ∈ ts) (hbb : b ∉ back) (k : Int) :
    cntOf Nd (ts.filter fun t => decide (t ∉ back)) k = cntOf Nd (ts.filter fun t => decide (t ∉ back ++ [b])) k + if k ∈ Nd b then 1 else 0 := by
  unfold cntOf
  rw [List.filter_filter, List.filter_filter]
  induction ts with
  | nil => cases hb
  | cons a r ih =>
    rw [List.nodup_cons] at hnd
    by_cases hab : a = b
    · subst hab
      have e : (r.filter fun t => decide (k ∈ Nd t) && decide (t ∉ back)) = r.filter fun t => decide (k ∈ Nd t) && decide (t ∉ back ++ [a]) := by
        refine List.filter_congr fun t ht => ?_
        have hta : t ≠ a := fun q => hnd.1 (q ▸ ht)
        simp [hta]
      rw [List.filter_cons, List.filter_cons, e]
      by_cases hk : k ∈ Nd a
      · simp [hk, hbb]
      · simp [hk]
    · have hb' : b ∈ r := by
        rcases List.mem_cons.mp hb with q | q
        · exact absurd q.symm hab
        · exact q
      have ih := ih hnd.2 hb'
      rw [List.filter_cons, List.filter_cons]
      have hc : (decide (k ∈ Nd a) && decide (a ∉ back ++ [b])) = (decide (k ∈ Nd a) && decide (a ∉ back)) := by simp [hab]
      rw [hc]
      cases (decide (k ∈ Nd a) && decide (a ∉ back)) with
      | true => rw [if_pos rfl, if_pos rfl, List.length_cons, List.length_cons]; push_cast; exact om117 ih
      | false => rw [if_neg Bool.false_ne_true, if_neg Bool.false_ne_true]; exact ih
theorem cnt_zero {k : Int} : cntOf Nd ts k = 0 ↔ ∀ t ∈ ts, k ∉ Nd t := by
  unfold cntOf
  constructor
  · intro h t ht hk
    have : t ∈ ts.filter fun t => decide (k ∈ Nd t) := List.mem_filter.mpr ⟨ht, decide_eq_true hk⟩
    have h2 := List.length_pos_of_mem this
    exact om118 h h2
  · intro h
    rw [List.filter_eq_nil_iff.mpr fun t ht => by simp [h t ht]]
    rfl

theorem LInv.step {b : Int} (x : LInv ts Nd D np [] (row ++ [b]) back) (hts : ts.Nodup) (hNd : ∀ t ∈ ts, (Nd t).Nodup) (hin : ∀ t ∈ ts, ∀ i ∈ Nd t, i ∈ ts ∧ i < t) :
    LInv ts Nd D (decs (setF np b (-2)) [] (Nd b)).1 (decs (setF np b (-2)) [] (Nd b)).2 row (back ++ [b]) := by
  have hbm : b ∈ back ++ ((row ++ [b]) ++ []) := by simp
  have hbts : b ∈ ts := x.sub b hbm
  have hnd := x.nd
  rw [List.append_nil] at hnd
  have hbb : b ∉ back := fun q => by
    rw [List.nodup_append] at hnd
    exact hnd.2.2 b q b (by simp) rfl
  have hbr : b ∉ row := fun q => by
    rw [List.nodup_append] at hnd
    have := hnd.2.1
    rw [List.nodup_append] at this
    exact this.2.2 b q b (by simp) rfl
  obtain ⟨d1, d2⟩ := decs_spec (Nd b) (setF np b (-2)) [] (hNd b hbts)
  rw [List.nil_append] at d2
  have hbn : b ∉ Nd b := fun q => Int.lt_irrefl _ (hin b hbts b q).2
  -- what `b` needs was not yet out
  have hnew : ∀ i ∈ Nd b, i ∉ back ++ ((row ++ [b]) ++ []) := fun i hi q => hbb (x.dep i q b hbts hi)
  have hold : ∀ k, k ∈ back ++ ((row ++ [b]) ++ []) ↔ k ∈ (back ++ [b]) ++ row := fun k => by
    rw [List.append_nil, List.append_assoc]
    exact (List.Perm.append_left back List.perm_append_comm).mem_iff
  have hrd : ∀ i, i ∈ (decs (setF np b (-2)) [] (Nd b)).2 ↔ i ∈ Nd b ∧ cntOf Nd (ts.filter fun t => decide (t ∉ back ++ [b])) i = 0 := fun i => by
    rw [d2, List.mem_filter]
    constructor
    · rintro ⟨h1, h2⟩
      refine ⟨h1, ?_⟩
      have hib : i ≠ b := fun q => hbn (q ▸ h1)
      have h3 := of_decide_eq_true h2
      rw [setF_ne hib] at h3
      have h4 := x.cnt i (hin b hbts i h1).1 (hnew i h1)
      have h5 := cnt_done (Nd := Nd) hts hbts hbb i
      rw [if_pos h1] at h5
      exact om119 h3 h4 h5
    · rintro ⟨h1, h2⟩
      refine ⟨h1, decide_eq_true ?_⟩
      have hib : i ≠ b := fun q => hbn (q ▸ h1)
      rw [setF_ne hib]
      have h4 := x.cnt i (hin b hbts i h1).1 (hnew i h1)
      have h5 := cnt_done (Nd := Nd) hts hbts hbb i
      rw [if_pos h1] at h5
      exact om120 h2 h4 h5
  refine ⟨?_, fun k hk => ?_, fun k hk hd => ?_, fun k hk t ht hkt => ?_, fun k hk hn => ?_, fun k hk => ?_, ?_, ?_⟩
  · rw [← List.append_assoc, List.nodup_append]
    refine ⟨?_, ?_, fun a ha c hc q => ?_⟩
    · have : ((back ++ [b]) ++ row).Perm (back ++ (row ++ [b])) := by
        rw [List.append_assoc]
        exact List.Perm.append_left back List.perm_append_comm
      exact this.nodup_iff.mpr hnd
    · rw [d2]; exact (hNd b hbts).sublist List.filter_sublist
    · subst q
      exact hnew a ((hrd a).mp hc).1 ((hold a).mpr ha)
  · rw [← List.append_assoc, List.mem_append] at hk
    rcases hk with hk | hk
    · exact x.sub k ((hold k).mpr hk)
    · exact (hin b hbts k ((hrd k).mp hk).1).1
  · rw [← List.append_assoc, List.mem_append]
    by_cases hin' : k ∈ back ++ ((row ++ [b]) ++ [])
    · exact .inl ((hold k).mp hin')
    · right
      rw [hrd]
      have hz : cntOf Nd (ts.filter fun t => decide (t ∉ back ++ [b])) k = 0 := cnt_zero.mpr fun t ht hkt => by
        obtain ⟨h1, h2⟩ := List.mem_filter.mp ht
        exact (of_decide_eq_true h2) (hd t h1 hkt)
      refine ⟨?_, hz⟩
      by_cases hkb : k ∈ Nd b
      · exact hkb
      · exfalso
        refine hin' (x.mem k hk fun t ht hkt => ?_)
        have := hd t ht hkt
        rw [List.mem_append, List.mem_singleton] at this
        rcases this with q | q
        · exact q
        · subst q; exact absurd hkt hkb
  · rw [← List.append_assoc, List.mem_append] at hk
    rcases hk with hk | hk
    · exact List.mem_append_left _ (x.dep k ((hold k).mpr hk) t ht hkt)
    · have hz := cnt_zero.mp ((hrd k).mp hk).2
      exact Classical.byContradiction fun q => hz t (List.mem_filter.mpr ⟨ht, decide_eq_true q⟩) hkt
  · rw [← List.append_assoc, List.mem_append] at hn
    have hn1 : k ∉ back ++ ((row ++ [b]) ++ []) := fun q => hn (.inl ((hold k).mp q))
    have hkb : k ≠ b := fun q => hn1 (q ▸ hbm)
    have h4 := x.cnt k hk hn1
    have h5 := cnt_done (Nd := Nd) hts hbts hbb k
    rw [d1, setF_ne hkb]
    split
    · rename_i h; rw [if_pos h] at h5; exact om121 h4 h5
    · rename_i h; rw [if_neg h] at h5; exact om122 h4 h5
  · have hkb : k ≠ b := fun q => hbr (q ▸ hk)
    rw [d1, setF_ne hkb, if_neg (fun q => hnew k q ((hold k).mpr (by simp [hk])))]
    exact x.out k (by simp [hk])
  · have := x.srt
    rw [List.map_append, List.pairwise_append] at this
    exact this.1
  · intro B1 c B2 e
    rcases List.eq_nil_or_concat B2 with rfl | ⟨B3, y, rfl⟩
    · have e2 : back = B1 ∧ b = c := by
        have := List.append_inj' e rfl
        exact ⟨this.1, by simpa using this.2⟩
      obtain ⟨rfl, rfl⟩ := e2
      refine ⟨fun t ht h => x.dep b hbm t ht h, fun j hj hjn hjd => ?_⟩
      have hm := x.mem j hj hjd
      rw [List.append_nil, List.mem_append] at hm
      rcases hm with q | q
      · exact absurd q hjn
      · have hs := x.srt
        rw [List.map_append, List.pairwise_append] at hs
        rcases List.mem_append.mp q with q | q
        · exact hs.2.2 (D j) (List.mem_map.mpr ⟨j, q, rfl⟩) (D b) (by simp)
        · rw [List.mem_singleton] at q; rw [q]; exact Int.le_refl _
    · rw [List.concat_eq_append, show B1 ++ c :: (B3 ++ [y]) = (B1 ++ c :: B3) ++ [y] by simp] at e
      have := List.append_inj' e rfl
      exact x.gr B1 c B3 this.1

theorem LInv.all {N : Int} (x : LInv ts Nd D np [] [] back) (hin : ∀ t ∈ ts, ∀ i ∈ Nd t, i ∈ ts ∧ i < t) (hN : ∀ t ∈ ts, t < N) : ∀ k ∈ ts, k ∈ back := by
  have key : ∀ (d : Nat) (k : Int), (N - k).toNat ≤ d → k ∈ ts → k ∈ back := by
    intro d
    induction d with
    | zero => intro k hd hk; exact absurd (hN k hk) (Int.not_lt.mpr (Int.le_of_sub_nonpos (Int.toNat_le.mp hd)))
    | succ d ih =>
      intro k hd hk
      have := x.mem k hk fun t ht hkt => ih t (om111 hd (hin t ht k hkt).2) ht
      simpa using this
  exact fun k hk => key _ k (Nat.le_refl _) hk
end

section
variable {ts : List Int} {Nd : Int → List Int} {D L : Int → Int} {np : Int → Int} {back : List Int} {N : Int} {m : Nat}

theorem rev_take_mem {back : List Int} {k : Nat} {x : Int} : x ∈ back.reverse.take k ↔ x ∈ back.drop (back.length - k) := by
  rw [List.take_reverse, List.mem_reverse]

theorem greedy_after (gr : Greedy ts Nd D back) {d : Nat} {t i : Int} (ht : t ∈ back.drop d) (hnd : back.Nodup) (hts : t ∈ ts) (hi : i ∈ back) (hit : i ∈ Nd t) : i ∈ back.drop d := by
  obtain ⟨B1, B2, e⟩ := List.append_of_mem hi
  have h1 := (gr B1 i B2 e).1 t hts hit
  rw [e]
  rcases Nat.le_total d B1.length with h | h
  · rw [List.drop_append_of_le_length h]; simp
  · exfalso
    have h2 : t ∈ back.take d := by
      rw [e, List.take_append]
      refine List.mem_append_left _ ?_
      rw [List.take_of_length_le h]; exact h1
    have h3 := hnd
    rw [← List.take_append_drop d back, List.nodup_append] at h3
    exact h3.2.2 t h2 t ht rfl

theorem run_closed (gr : Greedy ts Nd D back) (hnd : back.Nodup) (hsub : ∀ k ∈ back, k ∈ ts) (hall : ∀ k ∈ ts, k ∈ back) (hin : ∀ t ∈ ts, ∀ i ∈ Nd t, i ∈ ts ∧ i < t) :
    ∀ k, ∀ t ∈ back.reverse.take k, ∀ i ∈ Nd t, i ∈ back.reverse.take k := fun k t ht i hi => by
  rw [rev_take_mem] at ht ⊢
  have hts := hsub t (List.mem_of_mem_drop ht)
  exact greedy_after gr ht hnd hts (hall i (hin t hts i hi).1) hi

theorem run_greedy (gr : Greedy ts Nd D back) (hnd : back.Nodup) (hsub : ∀ k ∈ back, k ∈ ts) (hall : ∀ k ∈ ts, k ∈ back) :
    ∀ k (hk : k < back.reverse.length), ∀ j ∈ back.reverse.take (k + 1), (∀ t ∈ back.reverse.take (k + 1), j ∉ Nd t) → D j ≤ D back.reverse[k] := by
  intro k hk j hj hs
  rw [List.length_reverse] at hk
  rw [List.getElem_reverse]
  have hq : back.length - 1 - k < back.length := by exact om123 hk
  have e : back = back.take (back.length - 1 - k) ++ back[back.length - 1 - k] :: back.drop (back.length - 1 - k + 1) := by
    rw [← List.drop_eq_getElem_cons hq, List.take_append_drop]
  have hd : back.length - (k + 1) = back.length - 1 - k := by exact om124
  have hsplit : ∀ x, x ∈ back → x ∈ back.take (back.length - 1 - k) ∨ x ∈ back.drop (back.length - 1 - k) := fun x hx => by
    rw [← List.mem_append, List.take_append_drop]; exact hx
  rw [rev_take_mem, hd] at hj
  refine (gr _ _ _ e).2 j (hsub j (List.mem_of_mem_drop hj)) (fun q => ?_) fun t ht hjt => ?_
  · have h3 := hnd
    rw [← List.take_append_drop (back.length - 1 - k) back, List.nodup_append] at h3
    exact h3.2.2 j q j hj rfl
  · rcases hsplit t (hall t ht) with q | q
    · exact q
    · exact absurd hjt (hs t (by rw [rev_take_mem, hd]; exact q))

structure Good (ts : List Int) (Nd : Int → List Int) (L D : Int → Int) (order : List Int) : Prop where
  perm : order.Perm ts
  need : ∀ m (hm : m < order.length), ∀ i ∈ Nd order[m], i ∈ order.take m
  best : ∀ m, m < order.length → ∀ (us : List Int), us.Perm (order.take (m + 1)) → us.Pairwise (· ≤ ·) → ∀ M M', M ∈ lates (order.take (m + 1)) L (bnd Nd D us.reverse) → (∀ a ∈ lates (order.take (m + 1)) L (bnd Nd D us.reverse), a ≤ M) →
    M' ∈ lateL order L D m → (∀ a ∈ lateL order L D m, a ≤ M') → M' = M
  closed : ∀ k, ∀ t ∈ order.take k, ∀ i ∈ Nd t, i ∈ order.take k

theorem good_of (x : LInv ts Nd D np [] [] back) (hts : ts.Nodup) (hin : ∀ t ∈ ts, ∀ i ∈ Nd t, i ∈ ts ∧ i < t) (hN : ∀ t ∈ ts, t < N) (hL : ∀ x, 0 ≤ L x) : Good ts Nd L D back.reverse := by
  have hall := x.all hin hN
  have hnd : back.Nodup := by have := x.nd; simpa using this
  have hsub : ∀ k ∈ back, k ∈ ts := fun k hk => x.sub k (by simp [hk])
  have hcl := run_closed x.gr hnd hsub hall hin
  have hrn : back.reverse.Nodup := (List.reverse_perm back).nodup_iff.mpr hnd
  have hmr : ∀ t, t ∈ back.reverse → t ∈ ts := fun t ht => hsub t (List.mem_reverse.mp ht)
  refine ⟨?_, fun m hm i hi => ?_, fun m hm us hp hs M M' h1 h2 h3 h4 => ?_, hcl⟩
  · rw [List.perm_ext_iff_of_nodup hrn hts]
    exact fun a => ⟨hmr a, fun h => List.mem_reverse.mpr (hall a h)⟩
  · have hmem : back.reverse[m] ∈ back.reverse.take (m + 1) := List.mem_take_iff_getElem.mpr ⟨m, by exact om125 hm, rfl⟩
    have h1 := hcl (m + 1) _ hmem i hi
    have h2 := (hin _ (hmr _ (List.getElem_mem hm)) i hi).2
    rw [take_succ' (List.getElem?_eq_getElem hm), List.mem_append, List.mem_singleton] at h1
    rcases h1 with q | q
    · exact q
    · exact oh7 h2 q
  · exact lawler hL hrn (fun t ht i hi => (hin t (hmr t ht) i hi).2) (fun t ht => hN t (hmr t ht)) hcl (run_greedy x.gr hnd hsub hall) hm hp hs h1 h2 h3 h4
end


structure GB (ls : List Int) (cnt : Int → Int) (sf : Int → List Int) (g : Gr) : Prop where
  ks : g.ks = ls
  np : ∀ k ∈ ls, g.np k = cnt k
  sc : ∀ k ∈ ls, g.sc k = sf k
  off : ∀ k, k ∉ ls → g.sc k = []
theorem GB.congr {ks : List Int} {cnt cnt' : Int → Int} {sc sc' : Int → List Int} {g : Gr} (x : GB ks cnt sc g) (h1 : ∀ k ∈ ks, cnt k = cnt' k) (h2 : ∀ k ∈ ks, sc k = sc' k) : GB ks cnt' sc' g :=
  ⟨x.ks, fun k hk => (x.np k hk).trans (h1 k hk), fun k hk => (x.sc k hk).trans (h2 k hk), x.off⟩
theorem GB.empty : GB [] (fun _ => 0) (fun _ => []) .empty := ⟨rfl, fun _ h => (nomatch h), fun _ h => (nomatch h), fun _ _ => rfl⟩
theorem GB.node {ks : List Int} {cnt : Int → Int} {sc : Int → List Int} {g : Gr} {t : Int} (x : GB ks cnt sc g) (ht : t ∉ ks) : GB (ks ++ [t]) (setF cnt t 0) (setF sc t []) (addG t [] g) := by
  have he : ensure t g = ⟨g.ks ++ [t], setF g.np t 0, setF g.sc t []⟩ := by unfold ensure; rw [if_neg (by rw [x.ks]; exact ht)]
  have hg : addG t [] g = ⟨g.ks ++ [t], setF (setF g.np t 0) t (setF g.np t 0 t + (0 : Nat)), setF g.sc t []⟩ := by
    show addHead t 0 g = _
    unfold addHead; rw [he]
  rw [hg]
  refine ⟨by show g.ks ++ [t] = _; rw [x.ks], fun k hk => ?_, fun k hk => ?_, fun k hk => ?_⟩
  · show setF (setF g.np t 0) t (setF g.np t 0 t + (0 : Nat)) k = _
    by_cases h : k = t
    · subst h; simp
    · rw [setF_ne h, setF_ne h, setF_ne h]
      exact x.np k (by simpa [h] using hk)
  · show setF g.sc t [] k = _
    by_cases h : k = t
    · subst h; simp
    · rw [setF_ne h, setF_ne h]
      exact x.sc k (by simpa [h] using hk)
  · show setF g.sc t [] k = _
    have h : k ≠ t := by rintro rfl; exact hk (by simp)
    rw [setF_ne h]
    exact x.off k fun q => hk (by simp [q])
theorem GB.edge {ks : List Int} {cnt : Int → Int} {sc : Int → List Int} {g : Gr} {i t : Int} (x : GB ks cnt sc g) (hi : i ∈ ks) (ht : t ∈ ks) : GB ks (setF cnt i (cnt i + 1)) (setF sc t (sc t ++ [i])) (addG i [t] g) := by
  have h1 : ensure i g = g := by unfold ensure; rw [if_pos (by rw [x.ks]; exact hi)]
  have hh : addHead i 1 g = { g with np := setF g.np i (g.np i + 1) } := by unfold addHead; rw [h1]; rfl
  have hg : addG i [t] g = { g with np := setF g.np i (g.np i + 1), sc := setF g.sc t (g.sc t ++ [i]) } := by
    show addEdge i t (addHead i 1 g) = _
    rw [hh]
    unfold addEdge
    have h2 : ensure t { g with np := setF g.np i (g.np i + 1) } = { g with np := setF g.np i (g.np i + 1) } := by unfold ensure; rw [if_pos (by show t ∈ g.ks; rw [x.ks]; exact ht)]
    rw [h2]
  rw [hg]
  refine ⟨x.ks, fun k hk => ?_, fun k hk => ?_, fun k hk => ?_⟩
  · show setF g.np i (g.np i + 1) k = _
    by_cases h : k = i
    · subst h; rw [setF_self, setF_self, x.np k hk]
    · rw [setF_ne h, setF_ne h, x.np k hk]
  · show setF g.sc t (g.sc t ++ [i]) k = _
    by_cases h : k = t
    · subst h; rw [setF_self, setF_self, x.sc k hk]
    · rw [setF_ne h, setF_ne h, x.sc k hk]
  · show setF g.sc t (g.sc t ++ [i]) k = _
    have h : k ≠ t := by rintro rfl; exact hk ht
    rw [setF_ne h]; exact x.off k hk

theorem cntOf_snoc {Nd : Int → List Int} {ts : List Int} {t k : Int} : cntOf Nd (ts ++ [t]) k = cntOf Nd ts k + if k ∈ Nd t then 1 else 0 := by
  unfold cntOf
  rw [List.filter_append, List.length_append]
  by_cases h : k ∈ Nd t
  · simp [h]
  · simp [h]

theorem linv0 {ts : List Int} {Nd : Int → List Int} {D : Int → Int} {g : Gr} (x : GB ts (cntOf Nd ts) Nd g) (hts : ts.Nodup) : LInv ts Nd D g.np (ts.filter fun k => g.np k == 0) [] [] := by
  have hz : ∀ k ∈ ts, g.np k = 0 ↔ ∀ t ∈ ts, k ∉ Nd t := fun k hk => by rw [x.np k hk]; exact cnt_zero
  have hf : (ts.filter fun t => decide (t ∉ ([] : List Int))) = ts := List.filter_eq_self.mpr fun t _ => by simp
  refine ⟨?_, fun k hk => ?_, fun k hk h => ?_, fun k hk t ht hkt => ?_, fun k hk hn => ?_, fun k hk => (nomatch hk), .nil, fun B1 b B2 e => ?_⟩
  · simpa using hts.sublist List.filter_sublist
  · have : k ∈ ts.filter fun k => g.np k == 0 := by simpa using hk
    exact (List.mem_filter.mp this).1
  · have : k ∈ ts.filter fun k => g.np k == 0 := List.mem_filter.mpr ⟨hk, by rw [beq_iff_eq]; exact (hz k hk).mpr fun t ht q => (nomatch h t ht q)⟩
    simpa using this
  · have : k ∈ ts.filter fun k => g.np k == 0 := by simpa using hk
    obtain ⟨h1, h2⟩ := List.mem_filter.mp this
    exact absurd hkt ((hz k h1).mp (beq_iff_eq.mp h2) t ht)
  · rw [hf]; exact x.np k hk
  · cases B1 <;> cases e


noncomputable def atS (sc : List Int) (k : Int) : Int := sc.getD k.toNat 0
noncomputable def lenS (sc : List Int) (t : Int) : Int := if atS sc (3 * t) < 0 then -atS sc (3 * t) else atS sc (3 * t)
noncomputable def dueS (sc : List Int) (t : Int) : Int := atS sc (3 * t + 1)
noncomputable def needS (sc : List Int) (t : Int) : List Int := ((List.range t.toNat).map fun (i : Nat) => (i : Int)).filter fun i => ((atS sc (3 * t + 2)).fdiv (2 ^ i.toNat)).fmod 2 == 1
noncomputable def tasksS (n : Nat) : List Int := (List.range n).map fun (i : Nat) => (i : Int)

theorem pow_small {i : Nat} (h : i < 21) : ((2 : Int) ^ (Int.toNat (i : Int))).natAbs < 1073741824 := by
  rw [Int.toNat_natCast, Int.natAbs_pow]
  have h1 : (Int.natAbs 2) ^ i ≤ 2 ^ 21 := Nat.pow_le_pow_right (by decide) (by exact om126 h)
  have h2 : (2 : Nat) ^ 21 < 1073741824 := by decide
  exact om127 h1
theorem St.afterComp {c : Cx} {R : Ledger} {ρ : Str → Option AV} {H1 : Ledger} {s : Shared} {C D : Addr} {o o' : AO} (st : St c R ρ (upd (del (upd H1 C o) C) D o') s) (hC : H1 C = none) : St c R ρ (upd H1 D o') s :=
  st.drop (fun a ao e => by
    by_cases q : a = D
    · subst q; rw [upd_self] at e ⊢; exact e
    · rw [upd_ne q] at e ⊢
      have : a ≠ C := fun q => by first | (rw [q, hC] at e; cases e) | (rw [← q, hC] at e; cases e)
      rw [del_ne this, upd_ne this]; exact e)
theorem tasks_map {n : Nat} (f : Int → Int) : (tasksS n).map (fun k => AV.int (f k)) = (List.range n).map fun (i : Nat) => AV.int (f i) := by
  unfold tasksS; rw [List.map_map]; rfl
theorem tasks_len {n : Nat} : (tasksS n).length = n := by unfold tasksS; rw [List.length_map, List.length_range]
theorem closure_cells {scope : Scope} {env : Env} {X : List (Str × Addr)} (h : env.cells = X) : closureFor scope env = closureFor scope { env with cells := X } := by rw [← h]
theorem SeesL.mono {c : Cx} {H H' : Ledger} {a : Addr} {xs : List AV} (x : SeesL c H a xs) (s : Sub H H') : SeesL c H' a xs := by
  rcases x with x | x
  · exact .inl (s.le _ _ x)
  · exact .inr x
theorem mem_tasks {n : Nat} {t : Int} : t ∈ tasksS n ↔ 0 ≤ t ∧ t < n := by
  unfold tasksS
  rw [List.mem_map]
  constructor
  · rintro ⟨i, hi, rfl⟩; rw [List.mem_range] at hi; exact om128 hi
  · rintro ⟨h1, h2⟩; exact ⟨t.toNat, List.mem_range.mpr (by exact om86 h1 h2), by exact om87 h1⟩
theorem tasks_take {n i : Nat} {t : Int} (h : (tasksS n)[i]? = some t) : t = i ∧ i < n := by
  unfold tasksS at h
  rw [List.getElem?_map] at h
  obtain ⟨j, h1, h2⟩ := Option.map_eq_some_iff.mp h
  obtain ⟨h3, h4⟩ := List.getElem?_eq_some_iff.mp h1
  rw [List.getElem_range] at h4
  rw [List.length_range] at h3
  exact om129 h2 h3 h4
theorem idx_script {sc : List Int} {k : Int} (h0 : 0 ≤ k) (h1 : k < sc.length) : (sc.map AV.int)[k.toNat]? = some (AV.int (atS sc k)) := by
  have : k.toNat < sc.length := by exact om86 h0 h1
  rw [List.getElem?_map, List.getElem?_eq_getElem this]
  unfold atS
  rw [List.getD_eq_getElem?_getD, List.getElem?_eq_getElem this]; rfl
theorem tasks_succ {n : Nat} : tasksS (n + 1) = tasksS n ++ [(n : Int)] := by
  unfold tasksS; rw [List.range_succ, List.map_append]; rfl
theorem tasks_nodup {n : Nat} : (tasksS n).Nodup := by
  unfold tasksS
  exact List.Pairwise.map _ (fun a b h q => h (Int.ofNat.inj q)) List.nodup_range
theorem tasks_sorted {n : Nat} : (tasksS n).Pairwise (· ≤ ·) := by
  induction n with
  | zero => exact .nil
  | succ n ih =>
    rw [tasks_succ, List.pairwise_append]
    refine ⟨ih, List.pairwise_singleton .., fun a ha b hb => ?_⟩
    rw [List.mem_singleton] at hb
    have := (mem_tasks.mp ha).2
    exact om130 hb this
theorem need_mem {sc : List Int} {t i : Int} (h : i ∈ needS sc t) : 0 ≤ i ∧ i < t := by
  unfold needS at h
  have h := (List.mem_filter.mp h).1
  obtain ⟨j, h1, h2⟩ := List.mem_map.mp h
  rw [List.mem_range] at h1
  exact om131 h1 h2
theorem need_nodup {sc : List Int} {t : Int} : (needS sc t).Nodup := by
  unfold needS
  refine List.Nodup.sublist List.filter_sublist ?_
  exact List.Pairwise.map _ (fun a b h q => h (Int.ofNat.inj q)) List.nodup_range
theorem need_len {sc : List Int} {t : Int} : (needS sc t).length ≤ t.toNat := by
  unfold needS
  refine Nat.le_trans (List.length_filter_le ..) ?_
  rw [List.length_map, List.length_range]; exact Nat.le_refl _
theorem need_in {sc : List Int} {n : Nat} : ∀ t ∈ tasksS n, ∀ i ∈ needS sc t, i ∈ tasksS n ∧ i < t := fun t ht i hi => by
  have h1 := need_mem hi
  have h2 := mem_tasks.mp ht
  exact ⟨mem_tasks.mpr ⟨h1.1, by exact om132 h1 h2⟩, h1.2⟩
theorem len_nonneg {sc : List Int} (t : Int) : 0 ≤ lenS sc t := by unfold lenS; split <;> omega

structure LawS (H : Ledger) (co cm cd P tA lA dA nA : Addr) (n : Nat) (sc : List Int) (nas : List Addr) : Prop where
  hco : H co = some (.cell none)
  hcm : H cm = some (.cell none)
  hcd : H cd = some (.cell (some (.ref dA)))
  hP : H P = some (tabO #[])
  htA : H tA = some (.list ((tasksS n).map AV.int))
  G : Given H lA dA nA n (lenS sc) (dueS sc) (needS sc) nas
noncomputable def midC (sc : List Int) (i j : Nat) (k : Int) : Int := cntOf (needS sc) (tasksS i) k + if k ∈ (needS sc i).take j then 1 else 0
theorem GB.first {sc : List Int} {i : Nat} {g : Gr} (x : GB (tasksS i) (cntOf (needS sc) (tasksS i)) (needS sc) g) : GB (tasksS (i + 1)) (midC sc i 0) (setF (needS sc) i []) (addG i [] g) := by
  have h := x.node (t := (i : Int)) (fun q => by have := mem_tasks.mp q; exact om133 this)
  rw [← tasks_succ] at h
  refine h.congr (fun k hk => ?_) fun k hk => rfl
  unfold midC
  rw [List.take_zero, if_neg (by simp)]
  by_cases q : k = i
  · subst q
    rw [setF_self]
    have : cntOf (needS sc) (tasksS i) i = 0 := cnt_zero.mpr fun t ht hi => by
      have h1 := (need_mem hi).2
      have h2 := (mem_tasks.mp ht).2
      exact om134 h1 h2
    exact om135 this
  · rw [setF_ne q]; exact om136
theorem GB.mid {sc : List Int} {i j : Nat} {g : Gr} {k : Int} (x : GB (tasksS (i + 1)) (midC sc i j) (setF (needS sc) i ((needS sc i).take j)) g) (hj : (needS sc i)[j]? = some k) :
    GB (tasksS (i + 1)) (midC sc i (j + 1)) (setF (needS sc) i ((needS sc i).take (j + 1))) (addG k [(i : Int)] g) := by
  have hk := need_mem (List.mem_of_getElem? hj)
  have hkn : k ∉ (needS sc i).take j := not_mem_take need_nodup hj
  refine (x.edge (i := k) (t := i) (mem_tasks.mpr ⟨hk.1, by exact om137 hk⟩) (mem_tasks.mpr ⟨by exact om34, by exact om138⟩)).congr (fun a ha => ?_) fun a ha => ?_
  · unfold midC
    rw [take_succ' hj]
    by_cases q : a = k
    · subst q
      rw [setF_self, if_neg hkn, if_pos (by simp)]; exact om139
    · rw [setF_ne q]
      by_cases q2 : a ∈ (needS sc i).take j
      · rw [if_pos q2, if_pos (by simp [q2])]
      · rw [if_neg q2, if_neg (by simp [q2, q])]
  · by_cases q : a = i
    · subst q; rw [setF_self, setF_self, setF_self, take_succ' hj]
    · rw [setF_ne q, setF_ne q, setF_ne q]
theorem GB.last {sc : List Int} {i : Nat} {g : Gr} (x : GB (tasksS (i + 1)) (midC sc i (needS sc i).length) (setF (needS sc) i ((needS sc i).take (needS sc i).length)) g) :
    GB (tasksS (i + 1)) (cntOf (needS sc) (tasksS (i + 1))) (needS sc) g := by
  refine x.congr (fun a ha => ?_) fun a ha => ?_
  · unfold midC
    rw [List.take_length, tasks_succ, cntOf_snoc]
  · rw [List.take_length]
    by_cases q : a = i
    · subst q; rw [setF_self]
    · rw [setF_ne q]
theorem GB.len {ls : List Int} {cnt : Int → Int} {sf : Int → List Int} {g : Gr} {N : Nat} (x : GB ls cnt sf g) (h : ∀ k ∈ ls, (sf k).length ≤ N) : ∀ k, (g.sc k).length ≤ N := fun k => by
  by_cases q : k ∈ ls
  · rw [x.sc k q]; exact h k q
  · rw [x.off k q]; exact Nat.zero_le _


section
variable {c : Cx} {R : Ledger} {ρ : Str → Option AV} {H : Ledger} {s : Shared} {A : Around} {d n : Nat} {fA sa L' P cs co cm cd : Addr} {sc : List Int} {Q : Flow → Shared → Prop}

theorem law_a (hK : c.G.K = KP c.G.w.params) (ok : c.Ok) (rm : Room c A 8) (hout : c.outer = []) (hf : c.fenv = envK "law" sLaw L' fA (.ref 168) (cellsFrom (L' + 1) (scopeOf sLaw).names [])) (C : CodeHd c.h₀ 168 P)
    (hcells : c.fenv.cells = [(("dues" : Str), cd), (("m" : Str), cm), (("order" : Str), co), (("script" : Str), cs)])
    (hcs : H cs = some (.cell (some (.ref sa)))) (hco : H co = some (.cell none)) (hcm : H cm = some (.cell none)) (hcd : H cd = some (.cell none)) (hdis : [cd, cm, co, cs].Nodup)
    (hP : H P = some (tabO #[])) (hsa : SeesL c H sa (sc.map AV.int)) (hz : sc.length ≤ 63) (hn : n = sc.length / 3) (st : St c R ρ H s)
    (h : ∀ tA lA dA nA nas H' s', LawS H' co cm cd P tA lA dA nA n sc nas → St c R (lk [("tasks", .ref tA), ("lengths", .ref lA), ("needs", .ref nA)]) H' s' → wpAny c.M A (execs ((bodyOf sLaw).drop 4) c.fenv) Q (fun _ _ => False) s') :
    wpAny c.M A (execs (bodyOf sLaw) c.fenv) Q (fun _ _ => False) s := by
  have ok' := ok
  refine execsK ?_
  intro K hStmt
  refine wpAny_Assign_Name ?_
  refine callName (he := by rfl) ?_
  refine nameB (hd := by decide) (by assumption) (by assumption) (by rw [hK]; kernel_rfl) (by first | with_reducible exact bb_len | with_reducible exact bb_list | with_reducible exact bb_range | with_reducible exact bb_abs | with_reducible exact bb_sorted | with_reducible exact bb_max | with_reducible exact bb_min | with_reducible exact bb_sum | with_reducible exact bb_tuple | with_reducible exact bb_set | with_reducible exact bb_iter | with_reducible exact bb_bool | with_reducible exact bb_dict | with_reducible exact bb_divmod | with_reducible exact bb_enumerate | with_reducible exact bb_zip) (by decide) ?_ (Cx.Ok.glob (by assumption)) (Cx.Ok.blt (by assumption)) (Cx.Ok.fn (by assumption)) (by first | exact kindK hf rfl | (rw [hf]; rfl) | (rw [he]; rfl))
  refine cw (he := by rfl) ?_
  dsimp only [Args_]
  refine callName (he := by rfl) ?_
  refine nameB (hd := by decide) (by assumption) (by assumption) (by rw [hK]; kernel_rfl) (by first | with_reducible exact bb_len | with_reducible exact bb_list | with_reducible exact bb_range | with_reducible exact bb_abs | with_reducible exact bb_sorted | with_reducible exact bb_max | with_reducible exact bb_min | with_reducible exact bb_sum | with_reducible exact bb_tuple | with_reducible exact bb_set | with_reducible exact bb_iter | with_reducible exact bb_bool | with_reducible exact bb_dict | with_reducible exact bb_divmod | with_reducible exact bb_enumerate | with_reducible exact bb_zip) (by decide) ?_ (Cx.Ok.glob (by assumption)) (Cx.Ok.blt (by assumption)) (Cx.Ok.fn (by assumption)) (by first | exact kindK hf rfl | (rw [hf]; rfl) | (rw [he]; rfl))
  refine cw (he := by rfl) ?_
  dsimp only [Args_]
  with_reducible refine wpAny_BinOp ?_
  refine callName (he := by rfl) ?_
  refine nameB (hd := by decide) (by assumption) (by assumption) (by rw [hK]; kernel_rfl) (by first | with_reducible exact bb_len | with_reducible exact bb_list | with_reducible exact bb_range | with_reducible exact bb_abs | with_reducible exact bb_sorted | with_reducible exact bb_max | with_reducible exact bb_min | with_reducible exact bb_sum | with_reducible exact bb_tuple | with_reducible exact bb_set | with_reducible exact bb_iter | with_reducible exact bb_bool | with_reducible exact bb_dict | with_reducible exact bb_divmod | with_reducible exact bb_enumerate | with_reducible exact bb_zip) (by decide) ?_ (Cx.Ok.glob (by assumption)) (Cx.Ok.blt (by assumption)) (Cx.Ok.fn (by assumption)) (by first | exact kindK hf rfl | (rw [hf]; rfl) | (rw [he]; rfl))
  refine cw (he := by rfl) ?_
  dsimp only [Args_]
  refine nameC (hd := by decide) (by assumption) (by rw [hcells]; rfl) (by assumption) ?_ (Cx.Ok.fn (by assumption)) (by first | exact kindK hf rfl | (rw [hf]; rfl) | (rw [he]; rfl))
  refine gotRA ?_
  (first | refine ⟨trivial, ?_⟩ | refine ⟨stands_K (by assumption) (by assumption) (by (rw [hK]; first | with_reducible exact k_bisect _ | with_reducible exact k_insort _ | with_reducible exact k_info _ | with_reducible exact k_sorter _ | with_reducible exact k98 _ | with_reducible exact k105 _ | with_reducible exact k110 _ | with_reducible exact k117 _ | with_reducible exact k124 _ | with_reducible exact k138 _ | with_reducible exact k145 _ | with_reducible exact kp_least _)), ?_⟩)
  (try dsimp only [List.nil_append, List.cons_append])
  refine lenL (by assumption) hsa (by rw [List.length_map]; exact om140 hz) ?_
  intro tok s st
  rw [List.length_map]
  with_reducible refine cInt (by assumption) ?_
  intro tok s st
  refine divI (by assumption) (by decide) (PyProof.noPylong_small (x := sc.length) (y := 3) (by decide)) ?_
  intro tok s st
  have hnd : ((sc.length : Int)).fdiv 3 = n := by
    rw [hn, Int.fdiv_eq_ediv_of_nonneg _ (by decide)]; rfl
  rw [hnd]
  (first | refine ⟨trivial, ?_⟩ | refine ⟨stands_K (by assumption) (by assumption) (by (rw [hK]; first | with_reducible exact k_bisect _ | with_reducible exact k_insort _ | with_reducible exact k_info _ | with_reducible exact k_sorter _ | with_reducible exact k98 _ | with_reducible exact k105 _ | with_reducible exact k110 _ | with_reducible exact k117 _ | with_reducible exact k124 _ | with_reducible exact k138 _ | with_reducible exact k145 _ | with_reducible exact kp_least _)), ?_⟩)
  (try dsimp only [List.nil_append, List.cons_append])
  refine rangeC1 ok' (by assumption) ?_
  intro r s hr st
  (first | refine ⟨trivial, ?_⟩ | refine ⟨stands_K (by assumption) (by assumption) (by (rw [hK]; first | with_reducible exact k_bisect _ | with_reducible exact k_insort _ | with_reducible exact k_info _ | with_reducible exact k_sorter _ | with_reducible exact k98 _ | with_reducible exact k105 _ | with_reducible exact k110 _ | with_reducible exact k117 _ | with_reducible exact k124 _ | with_reducible exact k138 _ | with_reducible exact k145 _ | with_reducible exact kp_least _)), ?_⟩)
  (try dsimp only [List.nil_append, List.cons_append])
  refine listRng ok' rm.handled (by assumption) (upd_self ..) (by decide) (by decide) (by exact om141) (by exact om142 hz hn) (by exact om143 hz hn) ?_
  intro tA s htA st
  have hts : ((List.range ((n : Int) - 0).toNat).map fun (i : Nat) => AV.int (0 + (i : Int))) = (tasksS n).map AV.int := by
    unfold tasksS
    rw [List.map_map, show ((n : Int) - 0).toNat = n by exact om144]
    refine List.map_congr_left fun i _ => ?_
    show AV.int _ = AV.int _
    rw [Int.zero_add]
  rw [hts] at st
  refine storeL (by assumption) ?_ rfl (Cx.Ok.fn (by assumption)) (by first | exact kindK hf rfl | (rw [hf]; rfl) | (rw [he]; rfl))
  intro s st
  with_reducible refine openK (by assumption) ?_
  with_reducible refine execsK ?_
  intro K hStmt
  have hS1 : Sub H (upd (upd H r (rngO 0 n)) tA (.list ((tasksS n).map AV.int))) := ((Sub.refl H).upd hr).trans ((Sub.refl _).upd htA)
  have htA1 : upd (upd H r (rngO 0 n)) tA (.list ((tasksS n).map AV.int)) tA = some (.list ((tasksS n).map AV.int)) := upd_self ..
  generalize hH1 : upd (upd H r (rngO 0 n)) tA (.list ((tasksS n).map AV.int)) = H1 at st hS1 htA1
  have hlen : 3 * n ≤ sc.length := by exact om145 hn
  refine compAssignL (hs := by intro _; rfl) (ht := by intro _ _; rfl) ok' (by rw [hf]; rfl) ((closure_cells hcells).trans rfl) (by kernel_rfl) (by kernel_rfl) (by first | exact kindK hf rfl | (rw [hf]; rfl) | (rw [he]; rfl)) rfl ok'.fn ?_
  refine nameLR (hd := by decide) (by assumption) (by first | assumption | rfl) ?_ rfl (Cx.Ok.fn (by assumption)) (by first | exact kindK hf rfl | (rw [hf]; rfl) | (rw [he]; rfl))
  refine iterL ok' (by assumption) (.inl htA1) ?_
  intro it s hit hRit st
  refine CompAs.mk (xs := (tasksS n).map AV.int) (itr_list rm.handled) hRit st (by rw [List.length_map, sizeLine_eq]; unfold tasksS; rw [List.length_map, List.length_range]; exact om146 hz hn) (fun C i acc H' => H1 C = none ∧ acc = ((tasksS n).take i).map (fun k => AV.int (lenS sc k)) ∧ ∃ r, H' = upd H1 C (.ns r)) ?_ ?_ ?_ ?_
  · rintro C i acc H' ⟨hC, rfl, r, rfl⟩
    refine ⟨.inl ?_, r, upd_self ..⟩
    rw [upd_ne (fun q => by first | (rw [q, htA1] at hC; cases hC) | (rw [← q, htA1] at hC; cases hC))]; exact htA1
  · intro C hC
    refine ⟨?_, rfl, _, rfl⟩
    cases e : H1 C with
    | none => rfl
    | some ao => exact absurd (hC C (by rw [e]; intro q; cases q)) (Nat.lt_irrefl _)
  · intro C cenv i av R' acc H' s' v he hi  hJJ st hv KE hElt KN hNo
    obtain ⟨hC, rfl, r, rfl⟩ := hJJ
    rw [List.getElem?_map] at hi
    obtain ⟨t, hti, rfl⟩ := Option.map_eq_some_iff.mp hi
    obtain ⟨t0, t1⟩ := mem_tasks.mp (List.mem_of_getElem? hti)
    obtain ⟨tok, rfl⟩ := abs_int hv
    have hsC : Sub H1 (upd H1 C (.ns (put r "t" (.int t)))) := (Sub.refl H1).upd hC
    have hL : cenv.locals = C := by rw [he]; rfl
    with_reducible refine wpAny_assign_Name ?_
    refine storeN (by assumption) (r := r) (by rw [hL]; exact upd_self ..) ?_ (by rw [he]; rfl) (by rw [he]; rfl)
    intro s st
    rw [hL, upd_upd] at st
    refine wpAny_tests_nil ?_
    refine ifP rfl ?_
    have hcsC := hsC.le _ _ (hS1.le _ _ hcs)
    refine callName (he := by rfl) ?_
    refine nameB (hd := by decide) ok' (by assumption) (by rw [hK]; kernel_rfl) (by first | with_reducible exact bb_len | with_reducible exact bb_list | with_reducible exact bb_range | with_reducible exact bb_abs | with_reducible exact bb_sorted | with_reducible exact bb_max | with_reducible exact bb_min | with_reducible exact bb_sum | with_reducible exact bb_tuple | with_reducible exact bb_set | with_reducible exact bb_iter | with_reducible exact bb_bool | with_reducible exact bb_dict | with_reducible exact bb_divmod | with_reducible exact bb_enumerate | with_reducible exact bb_zip) (by decide) ?_ (by rw [he]; exact ok'.glob) (by rw [he]; exact ok'.blt) (by rw [he]; rfl) (by rw [he]; rfl)
    refine cw (he := by rfl) ?_
    dsimp only [Args_]
    with_reducible refine Subscript_ ?_
    refine nameC (hd := by decide) (by assumption) (by rw [he]; rfl) (by assumption) ?_ (by rw [he]; rfl) (by first | (rw [he, hf]; rfl) | (rw [he]; rfl))
    refine gotRA ?_
    with_reducible refine wpAny_BinOp ?_
    with_reducible refine cInt (by assumption) ?_
    intro tok s st
    refine nameN (hd := by decide) (by assumption) (by rw [hL]; exact upd_self ..) (by first | exact put_self .. | (rw [put_ne (by decide)]; exact put_self ..)) ?_ (by rw [he]; rfl) (by rw [he]; rfl)
    refine gotIA ?_
    intro tok
    refine mulI (by assumption) (IntMulOk.of_left (by decide +kernel)) ?_
    intro tok s st
    refine idxL (hs := by with_unfolding_all rfl) (by assumption) (hsa.mono (hS1.trans hsC)) (by exact om147 t0) (idx_script (by exact om147 t0) (by exact om148 hlen t1)) (by exact om149 hz hn t1) ?_
    refine gotIA ?_
    intro tok
    (first | refine ⟨trivial, ?_⟩ | refine ⟨stands_K (by assumption) (by assumption) (by (rw [hK]; first | with_reducible exact k_bisect _ | with_reducible exact k_insort _ | with_reducible exact k_info _ | with_reducible exact k_sorter _ | with_reducible exact k98 _ | with_reducible exact k105 _ | with_reducible exact k110 _ | with_reducible exact k117 _ | with_reducible exact k124 _ | with_reducible exact k138 _ | with_reducible exact k145 _ | with_reducible exact kp_least _)), ?_⟩)
    (try dsimp only [List.nil_append, List.cons_append])
    refine absI (by assumption) ?_
    intro tok s st
    with_reducible refine openV (by assumption) ?_
    refine ⟨_, st, hC, ?_, _, rfl⟩
    rw [take_succ' hti]; simp [abs, lenS]
  rintro lA C acc H' s' hlA ⟨hC, rfl, r, rfl⟩ hD' hDC st
  rw [List.length_map, List.take_length] at st
  have st := st.afterComp hC
  rw [tasks_map] at st
  clear hD' hDC hC
  have hS2 : Sub H (upd H1 lA (.list ((List.range n).map fun (i : Nat) => AV.int (lenS sc i)))) := hS1.trans ((Sub.refl _).upd hlA)
  have htA2 : upd H1 lA (.list ((List.range n).map fun (i : Nat) => AV.int (lenS sc i))) tA = some (.list ((tasksS n).map AV.int)) := ((Sub.refl _).upd hlA).le _ _ htA1
  have hlA2 : upd H1 lA (.list ((List.range n).map fun (i : Nat) => AV.int (lenS sc i))) lA = some (.list ((List.range n).map fun (i : Nat) => AV.int (lenS sc i))) := upd_self ..
  generalize hH2 : upd H1 lA (.list ((List.range n).map fun (i : Nat) => AV.int (lenS sc i))) = H2 at st hS2 htA2 hlA2
  refine openK (by assumption) ?_
  refine execsK ?_
  intro K hStmt
  refine wpAny_Assign_Name ?_ (by rw [hf]; rfl)
  refine compL (hs := by intro _; rfl) (ht := by intro _ _; rfl) ok' ((closure_cells hcells).trans rfl) (by kernel_rfl) (by kernel_rfl) ?_
  refine nameLR (hd := by decide) (by assumption) (by first | assumption | rfl) ?_ rfl (Cx.Ok.fn (by assumption)) (by first | exact kindK hf rfl | (rw [hf]; rfl) | (rw [he]; rfl))
  refine iterL ok' (by assumption) (.inl htA2) ?_
  intro it s hit hRit st
  refine CompIs.mk (xs := (tasksS n).map AV.int) (itr_list rm.handled) hRit st (by rw [List.length_map, sizeLine_eq, tasks_len]; exact om146 hz hn) (fun C i acc H' => H2 C = none ∧ acc = ((tasksS n).take i).map (fun k => AV.int (dueS sc k)) ∧ ∃ r, H' = upd H2 C (.ns r)) ?_ ?_ ?_ ?_
  · rintro C i acc H' ⟨hC, rfl, r, rfl⟩
    refine ⟨.inl ?_, r, upd_self ..⟩
    rw [upd_ne (fun q => by first | (rw [q, htA2] at hC; cases hC) | (rw [← q, htA2] at hC; cases hC))]; exact htA2
  · intro C hC
    refine ⟨?_, rfl, _, rfl⟩
    cases e : H2 C with
    | none => rfl
    | some ao => exact absurd (hC C (by rw [e]; intro q; cases q)) (Nat.lt_irrefl _)
  · intro C cenv i av R' acc H' s' v he hi  hJJ st hv KE hElt KN hNo
    obtain ⟨hC, rfl, r, rfl⟩ := hJJ
    rw [List.getElem?_map] at hi
    obtain ⟨t, hti, rfl⟩ := Option.map_eq_some_iff.mp hi
    obtain ⟨t0, t1⟩ := mem_tasks.mp (List.mem_of_getElem? hti)
    obtain ⟨tok, rfl⟩ := abs_int hv
    have hsC : Sub H2 (upd H2 C (.ns (put r "t" (.int t)))) := (Sub.refl H2).upd hC
    have hL : cenv.locals = C := by rw [he]; rfl
    with_reducible refine wpAny_assign_Name ?_
    refine storeN (by assumption) (r := r) (by rw [hL]; exact upd_self ..) ?_ (by rw [he]; rfl) (by rw [he]; rfl)
    intro s st
    rw [hL, upd_upd] at st
    refine wpAny_tests_nil ?_
    refine ifP rfl ?_
    have hcsC := hsC.le _ _ (hS2.le _ _ hcs)
    with_reducible refine Subscript_ ?_
    refine nameC (hd := by decide) (by assumption) (by rw [he]; rfl) (by assumption) ?_ (by rw [he]; rfl) (by first | (rw [he, hf]; rfl) | (rw [he]; rfl))
    refine gotRA ?_
    with_reducible refine wpAny_BinOp ?_
    with_reducible refine wpAny_BinOp ?_
    with_reducible refine cInt (by assumption) ?_
    intro tok s st
    refine nameN (hd := by decide) (by assumption) (by rw [hL]; exact upd_self ..) (by first | exact put_self .. | (rw [put_ne (by decide)]; exact put_self ..)) ?_ (by rw [he]; rfl) (by rw [he]; rfl)
    refine gotIA ?_
    intro tok
    refine mulI (by assumption) (IntMulOk.of_left (by decide +kernel)) ?_
    intro tok s st
    with_reducible refine cInt (by assumption) ?_
    intro tok s st
    with_reducible refine addI (by assumption) ?_
    intro tok s st
    refine idxL (hs := by with_unfolding_all rfl) (by assumption) (hsa.mono (hS2.trans hsC)) (by exact om150 t0) (idx_script (by exact om150 t0) (by exact om151 hlen t1)) (by exact om152 hz hn t1) ?_
    intro v hv
    with_reducible refine openV (by assumption) ?_
    refine ⟨_, st, hC, ?_, _, rfl⟩
    rw [take_succ' hti, hv]; simp [dueS]
  rintro dA C acc H' s' hdA ⟨hC, rfl, r, rfl⟩ hD' hDC st
  rw [List.length_map, List.take_length] at st
  have st := st.afterComp hC
  rw [tasks_map] at st
  clear hD' hDC hC
  have hsd := (Sub.refl H2).upd (o := .list ((List.range n).map fun (i : Nat) => AV.int (dueS sc i))) hdA
  have hS3' := hS2.trans hsd
  have htA3' := hsd.le _ _ htA2
  have hlA3' := hsd.le _ _ hlA2
  have hdA3' : upd H2 dA (.list ((List.range n).map fun (i : Nat) => AV.int (dueS sc i))) dA = some (.list ((List.range n).map fun (i : Nat) => AV.int (dueS sc i))) := upd_self ..
  generalize hH3' : upd H2 dA (.list ((List.range n).map fun (i : Nat) => AV.int (dueS sc i))) = H3' at st hS3' htA3' hlA3' hdA3'
  refine storeC (by assumption) (by rw [hcells]; rfl) (hS3'.le _ _ hcd) ?_ ok'.fn (by first | exact kindK hf rfl | (rw [hf]; rfl) | (rw [he]; rfl))
  intro s st
  have ncd : ∀ b ao, H3' b = some ao → (∀ v, ao ≠ .cell v) → upd H3' cd (.cell (some (.ref dA))) b = some ao := fun b ao e hn => by
    rw [upd_ne]; exact e
    rintro rfl
    rw [hS3'.le _ _ hcd] at e
    exact hn _ (Option.some.inj e).symm
  have hdis' : cs ≠ cd ∧ co ≠ cd ∧ cm ≠ cd ∧ cs ≠ co ∧ cs ≠ cm ∧ co ≠ cm := by
    simp only [List.nodup_cons, List.mem_cons, List.not_mem_nil, or_false, not_or] at hdis
    obtain ⟨⟨d1, d2, d3⟩, ⟨d4, d5⟩, d6, _⟩ := hdis
    exact ⟨fun q => d3 q.symm, fun q => d2 q.symm, fun q => d1 q.symm, fun q => d6 q.symm, fun q => d5 q.symm, fun q => d4 q.symm⟩
  have hcs3 : upd H3' cd (.cell (some (.ref dA))) cs = some (.cell (some (.ref sa))) := by rw [upd_ne hdis'.1]; exact hS3'.le _ _ hcs
  have hco3 : upd H3' cd (.cell (some (.ref dA))) co = some (.cell none) := by rw [upd_ne hdis'.2.1]; exact hS3'.le _ _ hco
  have hcm3 : upd H3' cd (.cell (some (.ref dA))) cm = some (.cell none) := by rw [upd_ne hdis'.2.2.1]; exact hS3'.le _ _ hcm
  have hcd3 : upd H3' cd (.cell (some (.ref dA))) cd = some (.cell (some (.ref dA))) := upd_self ..
  have hP3 := ncd _ _ (hS3'.le _ _ hP) (fun _ q => by cases q)
  have htA3 := ncd _ _ htA3' (fun _ q => by cases q)
  have hlA3 := ncd _ _ hlA3' (fun _ q => by cases q)
  have hdA3 := ncd _ _ hdA3' (fun _ q => by cases q)
  have hsa3 : SeesL c (upd H3' cd (.cell (some (.ref dA)))) sa (sc.map AV.int) := by
    rcases hsa with q | q
    · exact .inl (ncd _ _ (hS3'.le _ _ q) (fun _ q => by cases q))
    · exact .inr q
  have st : St c R _ (upd H3' cd (.cell (some (.ref dA)))) s := st
  generalize upd H3' cd (.cell (some (.ref dA))) = H3 at st hcs3 hco3 hcm3 hcd3 hP3 htA3 hlA3 hdA3 hsa3
  have st := st.names [("tasks", .ref tA), ("lengths", .ref lA)] ⟨rfl, rfl, trivial⟩
  clear ncd hS3' htA3' hlA3' hdA3' hsd hS2 htA2 hlA2 hS1 htA1 hH1 hH2 hH3' hdA hlA
  refine openK (by assumption) ?_
  refine execsK ?_
  intro K hStmt
  refine compAssignL (hs := by intro _; rfl) (ht := by intro _ _; rfl) ok' (by rw [hf]; rfl) ((closure_cells hcells).trans rfl) (by kernel_rfl) (by kernel_rfl) (by first | exact kindK hf rfl | (rw [hf]; rfl) | (rw [he]; rfl)) rfl ok'.fn ?_
  refine nameLR (hd := by decide) (by assumption) (by first | assumption | rfl) ?_ rfl (Cx.Ok.fn (by assumption)) (by first | exact kindK hf rfl | (rw [hf]; rfl) | (rw [he]; rfl))
  refine iterL ok' (by assumption) (.inl htA3) ?_
  intro it s hit hRit st
  refine CompAs.mk (xs := (tasksS n).map AV.int) (itr_list rm.handled) hRit st (by rw [List.length_map, sizeLine_eq, tasks_len]; exact om146 hz hn) (fun C i acc H' => H3 C = none ∧ H3 (C + 1) = none ∧ Sub H3 H' ∧ (∃ r, H' C = some (.ns r)) ∧ (∃ v, H' (C + 1) = some (.cell v)) ∧ ∃ as : List Addr, acc = as.map AV.ref ∧ as.length = i ∧ ∀ (j : Nat) a, as[j]? = some a → a ≠ C ∧ a ≠ C + 1 ∧ H' a = some (.list ((needS sc j).map AV.int))) ?_ ?_ ?_ ?_
  · rintro C i acc H' ⟨h1, h2, h3, h4, h5, h6⟩
    exact ⟨.inl (h3.le _ _ htA3), h4⟩
  · intro C hC
    have f1 : ∀ b, C ≤ b → H3 b = none := fun b hb => by
      cases e : H3 b with
      | none => rfl
      | some ao => exact absurd (Nat.lt_of_lt_of_le (hC b (by rw [e]; intro q; cases q)) hb) (Nat.lt_irrefl _)
    have hne : C ≠ C + 1 := Nat.ne_of_lt (Nat.lt_succ_self _)
    refine ⟨f1 _ (Nat.le_refl _), f1 _ (Nat.le_succ _), ?_, ⟨fun _ => none, ?_⟩, ⟨none, ?_⟩, [], rfl, rfl, fun j a e => by simp at e⟩
    · show Sub H3 (upd (upd H3 C (.ns fun _ => none)) (C + 1) (.cell none))
      exact ((Sub.refl H3).upd (f1 _ (Nat.le_refl _))).upd (f1 _ (Nat.le_succ _))
    · show upd (upd H3 C (.ns fun _ => none)) (C + 1) (.cell none) C = _
      rw [upd_ne hne]; exact upd_self ..
    · exact upd_self ..
  · intro C cenv i av R' acc H' s' v he hi  hJJ st hv KE hElt KN hNo
    obtain ⟨hC1, hC2, hsb, ⟨r, hr⟩, ⟨v0, hv0⟩, as, rfl, hlen', has⟩ := hJJ
    rw [List.getElem?_map] at hi
    obtain ⟨t, hti, rfl⟩ := Option.map_eq_some_iff.mp hi
    obtain ⟨t0, t1⟩ := mem_tasks.mp (List.mem_of_getElem? hti)
    obtain ⟨tok, rfl⟩ := abs_int hv
    with_reducible refine wpAny_assign_Name ?_
    refine storeC (a := C + 1) (by assumption) (by rw [he]; rfl) hv0 ?_ (by rw [he]; rfl) (by rw [he]; rfl)
    intro s st
    refine wpAny_tests_nil ?_
    refine ifP rfl ?_
    have hne : C ≠ C + 1 := Nat.ne_of_lt (Nat.lt_succ_self _)
    have hsb4 : Sub H3 (upd H' (C + 1) (.cell (some (.int t)))) := hsb.trans ⟨fun b ao e => e⟩ |>.upd hC2
    have hct4 : upd H' (C + 1) (.cell (some (.int t))) (C + 1) = some (.cell (some (.int t))) := upd_self ..
    have hr4 : upd H' (C + 1) (.cell (some (.int t))) C = some (.ns r) := by rw [upd_ne hne]; exact hr
    have has4 : ∀ (j : Nat) a, as[j]? = some a → a ≠ C ∧ a ≠ C + 1 ∧ upd H' (C + 1) (.cell (some (.int t))) a = some (.list ((needS sc j).map AV.int)) := fun j a e => by
      obtain ⟨x1, x2, x3⟩ := has j a e
      exact ⟨x1, x2, by rw [upd_ne x2]; exact x3⟩
    have st : St c R' _ (upd H' (C + 1) (.cell (some (.int t)))) s := st
    generalize upd H' (C + 1) (.cell (some (.int t))) = H4 at st hsb4 hct4 hr4 has4
    have hcs4 := hsb4.le _ _ hcs3
    refine compL (hs := by intro _; rfl) (ht := by intro _ _; rfl) ok' (by rw [he]; rfl) (by kernel_rfl) (by kernel_rfl) ?_
    refine callName (he := by rfl) ?_
    refine nameB (hd := by decide) ok' (by assumption) (by rw [hK]; kernel_rfl) (by first | with_reducible exact bb_len | with_reducible exact bb_list | with_reducible exact bb_range | with_reducible exact bb_abs | with_reducible exact bb_sorted | with_reducible exact bb_max | with_reducible exact bb_min | with_reducible exact bb_sum | with_reducible exact bb_tuple | with_reducible exact bb_set | with_reducible exact bb_iter | with_reducible exact bb_bool | with_reducible exact bb_dict | with_reducible exact bb_divmod | with_reducible exact bb_enumerate | with_reducible exact bb_zip) (by decide) ?_ (by rw [he]; exact ok'.glob) (by rw [he]; exact ok'.blt) (by rw [he]; rfl) (by rw [he]; rfl)
    refine cw (he := by rfl) ?_
    dsimp only [Args_]
    refine nameC (hd := by decide) (by assumption) (by rw [he]; rfl) (by assumption) ?_ (by rw [he]; rfl) (by first | (rw [he, hf]; rfl) | (rw [he]; rfl))
    refine gotIA ?_
    intro tok
    (first | refine ⟨trivial, ?_⟩ | refine ⟨stands_K (by assumption) (by assumption) (by (rw [hK]; first | with_reducible exact k_bisect _ | with_reducible exact k_insort _ | with_reducible exact k_info _ | with_reducible exact k_sorter _ | with_reducible exact k98 _ | with_reducible exact k105 _ | with_reducible exact k110 _ | with_reducible exact k117 _ | with_reducible exact k124 _ | with_reducible exact k138 _ | with_reducible exact k145 _ | with_reducible exact kp_least _)), ?_⟩)
    (try dsimp only [List.nil_append, List.cons_append])
    refine rangeC1 ok' (by assumption) ?_
    intro rr s hrr st
    have hsb5 : Sub H4 (upd H4 rr (rngO 0 t)) := (Sub.refl _).upd hrr
    have hrr5 : upd H4 rr (rngO 0 t) rr = some (rngO 0 t) := upd_self ..
    generalize upd H4 rr (rngO 0 t) = H5 at st hsb5 hrr5
    skip
    refine iterRng ok' (by assumption) hrr5 (by decide) (by decide) (by exact om153 t0) (by exact om154 hz hn t1) ?_
    intro it2 s hit2 hRit2 st
    refine CompIs.mk (xs := (List.range ((t - 0).toNat)).map fun (i : Nat) => AV.int (0 + i)) (itr_range rm.handled) hRit2 st (by rw [List.length_map, List.length_range, sizeLine_eq]; exact om155 hz hn t1) (fun C2 i2 acc2 H'' => H5 C2 = none ∧ acc2 = ((((List.range t.toNat).map fun (i : Nat) => (i : Int)).take i2).filter fun i => ((atS sc (3 * t + 2)).fdiv (2 ^ i.toNat)).fmod 2 == 1).map AV.int ∧ ∃ r2, H'' = upd H5 C2 (.ns r2)) ?_ ?_ ?_ ?_
    · rintro C2 i2 acc2 H'' ⟨hC, rfl, r2, rfl⟩
      exact ⟨trivial, r2, upd_self ..⟩
    · intro C2 hC
      refine ⟨?_, rfl, _, rfl⟩
      cases e : H5 C2 with
      | none => rfl
      | some ao => exact absurd (hC C2 (by rw [e]; intro q; cases q)) (Nat.lt_irrefl _)
    · intro C2 cenv2 i2 av R'' acc2 H'' s' v he2 hi2  hJJ st hv KE hElt KN hNo
      obtain ⟨hC, rfl, r2, rfl⟩ := hJJ
      rw [List.getElem?_map] at hi2
      obtain ⟨j, hj, rfl⟩ := Option.map_eq_some_iff.mp hi2
      obtain ⟨hj1, hj2⟩ := List.getElem?_eq_some_iff.mp hj
      rw [List.getElem_range] at hj2
      rw [List.length_range] at hj1
      subst hj2
      rw [Int.zero_add] at hv
      obtain ⟨tok, rfl⟩ := abs_int hv
      have hsC : Sub H5 (upd H5 C2 (.ns (put r2 "i" (.int i2)))) := (Sub.refl H5).upd hC
      have hL : cenv2.locals = C2 := by rw [he2]; rfl
      have hct5 := hsC.le _ _ (hsb5.le _ _ hct4)
      have hcs5 := hsC.le _ _ (hsb5.le _ _ hcs4)
      rw [he, hf] at he2
      have he := he2
      with_reducible refine wpAny_assign_Name ?_
      refine storeN (by assumption) (r := r2) (by rw [hL]; exact upd_self ..) ?_ (by rw [he]; rfl) (by rw [he]; rfl)
      intro s st
      rw [hL, upd_upd] at st
      refine wpAny_tests_one ?_
      with_reducible refine wpAny_isTrue_Compare1 ?_
      with_reducible refine wpAny_BinOp ?_
      with_reducible refine wpAny_BinOp ?_
      with_reducible refine Subscript_ ?_
      refine nameC (hd := by decide) (by assumption) (by rw [he]; rfl) (by assumption) ?_ (by rw [he]; rfl) (by first | (rw [he, hf]; rfl) | (rw [he]; rfl))
      refine gotRA ?_
      with_reducible refine wpAny_BinOp ?_
      with_reducible refine wpAny_BinOp ?_
      with_reducible refine cInt (by assumption) ?_
      intro tok s st
      refine nameC (hd := by decide) (by assumption) (by rw [he]; rfl) (by assumption) ?_ (by rw [he]; rfl) (by first | (rw [he, hf]; rfl) | (rw [he]; rfl))
      refine gotIA ?_
      intro tok
      refine mulI (by assumption) (IntMulOk.of_left (by decide +kernel)) ?_
      intro tok s st
      with_reducible refine cInt (by assumption) ?_
      intro tok s st
      with_reducible refine addI (by assumption) ?_
      intro tok s st
      refine idxL (hs := by with_unfolding_all rfl) (by assumption) (hsa3.mono (hsb4.trans (hsb5.trans hsC))) (by exact om156 t0) (idx_script (by exact om156 t0) (by exact om157 hn t1)) (by exact om158 hz hn t1) ?_
      refine gotIA ?_
      intro tok
      with_reducible refine wpAny_BinOp ?_
      with_reducible refine cInt (by assumption) ?_
      intro tok s st
      refine nameN (hd := by decide) (by assumption) (by rw [hL]; exact upd_self ..) (by first | exact put_self .. | (rw [put_ne (by decide)]; exact put_self ..)) ?_ (by rw [he]; rfl) (by rw [he]; rfl)
      refine gotIA ?_
      intro tok
      refine powI (by assumption) (by exact om34) (by
        have e : (Builtin.Int.intBits 2 : Int) = 2 := by decide +kernel
        rw [e]; exact om159 hz hn t1 hj1) ?_
      intro tok s st
      skip
      have hi2t : i2 < 21 := by exact om160 hz hn t1 hj1
      have hpos : (0 : Int) < 2 ^ (Int.toNat (i2 : Int)) := Int.pow_pos (by decide)
      refine divI (by assumption) (by exact om161 hpos) (PyProof.noPylong_small (pow_small hi2t)) ?_
      intro tok s st
      with_reducible refine cInt (by assumption) ?_
      intro tok s st
      refine modI (by assumption) (by decide) ?_
      intro tok s st
      with_reducible refine cInt (by assumption) ?_
      intro tok s st
      with_reducible refine eqI ?_
      with_reducible refine wpAny_truthy_bool ?_
      have hget : ((List.range t.toNat).map fun (i : Nat) => (i : Int))[i2]? = some (i2 : Int) := by
        rw [List.getElem?_map, List.getElem?_range (by exact om162 hj1)]; rfl
      cases hb : (((atS sc (3 * t + 2)).fdiv (2 ^ (Int.toNat (i2 : Int)))).fmod 2 == 1) with
      | false =>
        refine ifN Bool.false_ne_true ?_
        with_reducible refine openS (by assumption) ?_
        refine ⟨_, st, hC, ?_, _, rfl⟩
        rw [take_succ' hget, List.filter_append]; simp only [List.filter_cons, hb, List.filter_nil]; simp
      | true =>
        refine ifP rfl ?_
        refine nameN (hd := by decide) (by assumption) (by rw [hL]; exact upd_self ..) (by first | exact put_self .. | (rw [put_ne (by decide)]; exact put_self ..)) ?_ (by rw [he]; rfl) (by rw [he]; rfl)
        refine gotIA ?_
        intro tok
        with_reducible refine openV (by assumption) ?_
        refine ⟨_, st, hC, ?_, _, rfl⟩
        rw [take_succ' hget, List.filter_append]; simp only [List.filter_cons, hb, List.filter_nil]; simp [abs]
    · rintro D2 C2 acc2 H'' s' hD2 ⟨hC, rfl, r2, rfl⟩ hD' hDC st
      have st := st.afterComp hC
      have e1 : (((List.range t.toNat).map fun (i : Nat) => (i : Int)).take (((List.range ((t - 0).toNat)).map fun (i : Nat) => AV.int (0 + (i : Int))).length)) = (List.range t.toNat).map fun (i : Nat) => (i : Int) :=
        List.take_of_length_le (by rw [List.length_map, List.length_map, List.length_range, List.length_range]; exact om163)
      rw [e1] at st
      have hD5 : Sub H5 (upd H5 D2 (.list ((needS sc t).map AV.int))) := (Sub.refl _).upd hD2
      have hD4 : H4 D2 = none := by
        cases e : H4 D2 with
        | none => rfl
        | some ao => rw [hsb5.le _ _ e] at hD2; cases hD2
      have hti' := tasks_take hti
      with_reducible refine openV (by assumption) ?_
      refine ⟨_, st, hC1, hC2, hsb4.trans (hsb5.trans hD5), ⟨r, hD5.le _ _ (hsb5.le _ _ hr4)⟩, ⟨_, hD5.le _ _ (hsb5.le _ _ hct4)⟩, as ++ [D2], by simp [abs], by simp [hlen'], fun j a e => ?_⟩
      by_cases q : j < as.length
      · rw [List.getElem?_append_left q] at e
        obtain ⟨x1, x2, x3⟩ := has4 j a e
        exact ⟨x1, x2, hD5.le _ _ (hsb5.le _ _ x3)⟩
      · rw [List.getElem?_append_right (by exact om164 q)] at e
        have hj : j = as.length := by
          have := (List.getElem?_eq_some_iff.mp e).1
          simp at this; exact om165 q this
        subst hj
        rw [Nat.sub_self] at e
        have ea : a = D2 := by simpa using e.symm
        subst ea
        refine ⟨?_, ?_, ?_⟩
        · intro q; first | (rw [q, hr4] at hD4; cases hD4) | (rw [← q, hr4] at hD4; cases hD4)
        · intro q; first | (rw [q, hct4] at hD4; cases hD4) | (rw [← q, hct4] at hD4; cases hD4)
        · rw [hlen', ← hti'.1]; exact upd_self ..
  · rintro nA C acc H' s' hnA ⟨hC1, hC2, hsb, ⟨r, hr⟩, ⟨v0, hv0⟩, as, rfl, hlen', has⟩ hD' hDC st
    have hsd : Sub H3 (upd (del H' C) nA (.list (as.map AV.ref))) := by
      refine ⟨fun b ao e => ?_⟩
      have q1 : b ≠ nA := fun q => by first | (rw [q, hnA] at e; cases e) | (rw [← q, hnA] at e; cases e)
      have q2 : b ≠ C := fun q => by first | (rw [q, hC1] at e; cases e) | (rw [← q, hC1] at e; cases e)
      rw [upd_ne q1, del_ne q2]; exact hsb.le _ _ e
    rw [List.length_map, tasks_len] at hlen'
    refine openK (by assumption) ?_
    refine h tA lA dA nA as _ _ ⟨hsd.le _ _ hco3, hsd.le _ _ hcm3, hsd.le _ _ hcd3, hsd.le _ _ hP3, hsd.le _ _ htA3, hsd.le _ _ hlA3, hsd.le _ _ hdA3, upd_self .., hlen', fun j a e => ?_⟩ (St.names st [("tasks", .ref tA), ("lengths", .ref lA), ("needs", .ref nA)] ⟨rfl, rfl, rfl, trivial⟩)
    obtain ⟨x1, x2, x3⟩ := has j a e
    rw [upd_ne (fun q => by first | (rw [q, hD'] at x3; cases x3) | (rw [← q, hD'] at x3; cases x3)), del_ne x1]
    exact x3
end


section
variable {c : Cx} {R : Ledger} {ρ : Str → Option AV} {H : Ledger} {s : Shared} {A : Around} {d n : Nat} {fA sa L' P cs co cm cd tA lA dA nA : Addr} {sc : List Int} {nas : List Addr} {Q : Flow → Shared → Prop}

theorem law_sort (hK : c.G.K = KP c.G.w.params) (ok : c.Ok) (rm : Room c A 8) (hout : c.outer = []) (hf : c.fenv = envK "law" sLaw L' fA (.ref 168) (cellsFrom (L' + 1) (scopeOf sLaw).names []))
    (htA : H tA = some (.list ((tasksS n).map AV.int))) (G : Given H lA dA nA n (lenS sc) (dueS sc) (needS sc) nas) (hn : n ≤ 21)
    (st : St c R (lk [("tasks", .ref tA), ("lengths", .ref lA), ("needs", .ref nA)]) H s)
    (h : ∀ σ F l H' s', Sub H H' → (∀ b, F b → H b = none) → SrtL H' F σ l → σ.rd = some (σ.g.ks.filter fun k => σ.g.np k == 0) → σ.po = 0 → σ.nf = 0 → GB (tasksS n) (cntOf (needS sc) (tasksS n)) (needS sc) σ.g →
      St c R (lk [("tasks", .ref tA), ("lengths", .ref lA), ("needs", .ref nA), ("sorter", .ref σ.self)]) H' s' → wpAny c.M A (execs ((bodyOf sLaw).drop 7) c.fenv) Q (fun _ _ => False) s') :
    wpAny c.M A (execs ((bodyOf sLaw).drop 4) c.fenv) Q (fun _ _ => False) s := by
  have ok' := ok
  refine execsK ?_
  intro K hStmt
  refine wpAny_Assign_Name ?_
  refine callName (he := by rfl) ?_
  refine nameG (hd := by decide) (by assumption) (by assumption) (by (rw [hK]; first | with_reducible exact g_bisect _ | with_reducible exact g_insort _ | with_reducible exact g_out _ | with_reducible exact g_done _ | with_reducible exact g_info _ | with_reducible exact g_sorter _)) ?_ (Cx.Ok.glob (by assumption)) (Cx.Ok.fn (by assumption)) (by first | exact kindK hf rfl | (rw [hf]; rfl) | (rw [he]; rfl))
  refine cw (he := by rfl) ?_
  dsimp only [Args_]
  (first | refine ⟨trivial, ?_⟩ | refine ⟨stands_K (by assumption) (by assumption) (by (rw [hK]; first | with_reducible exact k_bisect _ | with_reducible exact k_insort _ | with_reducible exact k_info _ | with_reducible exact k_sorter _ | with_reducible exact k98 _ | with_reducible exact k105 _ | with_reducible exact k110 _ | with_reducible exact k117 _ | with_reducible exact k124 _ | with_reducible exact k138 _ | with_reducible exact k145 _ | with_reducible exact kp_least _)), ?_⟩)
  (try dsimp only [List.nil_append, List.cons_append])
  refine make_sorter (d := 6) hK ok' rm (by assumption) ?_
  intro x dx nd H1 F l s hF hS S st
  refine storeL (by assumption) ?_ rfl (Cx.Ok.fn (by assumption)) (by first | exact kindK hf rfl | (rw [hf]; rfl) | (rw [he]; rfl))
  intro s st
  with_reducible refine openK (by assumption) ?_
  with_reducible refine execsK ?_
  intro K hStmt
  refine wpAny_For ?_
  refine nameLR (hd := by decide) (by assumption) (by first | assumption | rfl) ?_ rfl (Cx.Ok.fn (by assumption)) (by first | exact kindK hf rfl | (rw [hf]; rfl) | (rw [he]; rfl))
  refine iterL ok' (by assumption) (.inl (hS.le _ _ htA)) ?_
  intro it s hit hRit st
  refine forLoopR (ht := by intro _; rfl) (itr_list rm.handled) hRit st (fun i ρ' H' => (∀ y av, lk [("tasks", .ref tA), ("lengths", .ref lA), ("needs", .ref nA), ("sorter", .ref x)] y = some av → ρ' y = some av) ∧ Sub H H' ∧ ∃ F l g, (∀ b, F b → H b = none) ∧ SrtL H' F ⟨x, dx, nd, g, none, 0, 0⟩ l ∧ GB (tasksS i) (cntOf (needS sc) (tasksS i)) (needS sc) g)
    (fun i ρ' H' q => .inl (q.2.1.le _ _ htA)) ⟨fun y av e => AllIn.mem (l := [("tasks", .ref tA), ("lengths", .ref lA), ("needs", .ref nA), ("sorter", .ref x)]) ⟨rfl, rfl, rfl, rfl, trivial⟩ y av e, hS, F, l, .empty, hF, S, ⟨rfl, fun _ q => (nomatch q), fun _ q => (nomatch q), fun _ _ => rfl⟩⟩ ?_ ?_
  · intro i av R' ρ' H' s' v hi hR  hJJ st hv K hTurn
    obtain ⟨hρ, hS, F, l, g, hF, S, B⟩ := hJJ
    rw [List.getElem?_map] at hi
    obtain ⟨t, hti, rfl⟩ := Option.map_eq_some_iff.mp hi
    obtain ⟨rfl, hin⟩ := tasks_take hti
    obtain ⟨tok, rfl⟩ := abs_int hv
    have st := st.weaken hρ
    have hsl : ∀ k, (g.sc k).length ≤ 21 := B.len fun k hk => by
      have h1 := need_len (sc := sc) (t := k)
      have h2 := (mem_tasks.mp hk).2
      exact om166 hn hin h1 h2
    have hkl : g.ks.length ≤ 21 := by rw [B.ks, tasks_len]; exact om167 hn hin
    with_reducible refine wpAny_assign_Name ?_
    refine storeL (by assumption) ?_ rfl (Cx.Ok.fn (by assumption)) (by first | exact kindK hf rfl | (rw [hf]; rfl) | (rw [he]; rfl))
    intro s st
    with_reducible refine execsK ?_
    intro K hStmt
    refine exprV (hs := by rfl) (Cx.Ok.fn (by assumption)) ?_
    refine callMeth (he := by rfl) ?_
    refine nameLR (hd := by decide) (by assumption) (by first | assumption | rfl) ?_ rfl (Cx.Ok.fn (by assumption)) (by first | exact kindK hf rfl | (rw [hf]; rfl) | (rw [he]; rfl))
    refine meth155 hK ok' (by assumption) S.inst S.attr (f := 105) (by kernel_rfl) (by kernel_rfl) rfl ?_
    refine cw (he := by rfl) ?_
    dsimp only [Args_]
    refine nameLI (hd := by decide) (by assumption) (by first | assumption | rfl) ?_ rfl (Cx.Ok.fn (by assumption)) (by first | exact kindK hf rfl | (rw [hf]; rfl) | (rw [he]; rfl))
    intro tok
    (first | refine ⟨trivial, ?_⟩ | refine ⟨stands_K (by assumption) (by assumption) (by (rw [hK]; first | with_reducible exact k_bisect _ | with_reducible exact k_insort _ | with_reducible exact k_info _ | with_reducible exact k_sorter _ | with_reducible exact k98 _ | with_reducible exact k105 _ | with_reducible exact k110 _ | with_reducible exact k117 _ | with_reducible exact k124 _ | with_reducible exact k138 _ | with_reducible exact k145 _ | with_reducible exact kp_least _)), ?_⟩)
    (try dsimp only [List.nil_append, List.cons_append])
    refine add_spec (σ := ⟨x, dx, nd, g, none, 0, 0⟩) (preds := []) (ps := []) (d := 4) hK ok' rm (by assumption) S rfl rfl (by show g.ks.length + 0 ≤ 9000; exact om168 hkl) (fun k => by show (g.sc k).length + 0 ≤ 9000; have := hsl k; exact om168 this) ?_
    intro H2 F2 l2 s P2 S2 st
    have hS2 : Sub H H2 := ⟨fun b ao e => P2.keep b ao (fun q => by rw [hF b q] at e; cases e) (hS.le _ _ e)⟩
    have hF2 : ∀ b, F2 b → H b = none := fun b q => by
      rcases P2.new b q with q | q
      · exact hF b q
      · cases e : H b with
        | none => rfl
        | some ao => rw [hS.le _ _ e] at q; cases q
    have B2 := B.first
    have S2 : SrtL H2 F2 ⟨x, dx, nd, addG i [] g, none, 0, 0⟩ l2 := S2
    generalize addG i [] g = g2 at S2 B2
    have hbt : i < nas.length := by rw [G.nlen]; exact om169 hin
    with_reducible refine openK (by assumption) ?_
    with_reducible refine execsK ?_
    intro K hStmt
    refine wpAny_For ?_
    with_reducible refine Subscript_ ?_
    refine nameLR (hd := by decide) (by assumption) (by first | assumption | rfl) ?_ rfl (Cx.Ok.fn (by assumption)) (by first | exact kindK hf rfl | (rw [hf]; rfl) | (rw [he]; rfl))
    refine nameLI (hd := by decide) (by assumption) (by first | assumption | rfl) ?_ rfl (Cx.Ok.fn (by assumption)) (by first | exact kindK hf rfl | (rw [hf]; rfl) | (rw [he]; rfl))
    intro tok
    refine idxL (hs := by with_unfolding_all rfl) (by assumption) (.inl (hS2.le _ _ G.need)) (by exact om34) (av := .ref nas[i]) (by rw [Int.toNat_natCast, List.getElem?_map, List.getElem?_eq_getElem hbt]; rfl) (by exact om170 hn hin) ?_
    refine gotRA ?_
    have hnt := G.each i nas[i] (List.getElem?_eq_getElem hbt)
    skip
    refine iterL ok' (by assumption) (.inl (hS2.le _ _ hnt)) ?_
    intro it2 s hit2 hRit2 st
    refine forLoopR (ht := by intro _; rfl) (itr_list rm.handled) hRit2 st (fun j ρ' H' => (∀ y av, lk [("tasks", .ref tA), ("lengths", .ref lA), ("needs", .ref nA), ("sorter", .ref x), ("t", .int i)] y = some av → ρ' y = some av) ∧ Sub H H' ∧ ∃ F l g, (∀ b, F b → H b = none) ∧ SrtL H' F ⟨x, dx, nd, g, none, 0, 0⟩ l ∧ GB (tasksS (i + 1)) (midC sc i j) (setF (needS sc) i ((needS sc i).take j)) g)
      (fun j ρ' H' q => .inl (q.2.1.le _ _ hnt)) ⟨fun y av e => AllIn.mem (l := [("tasks", .ref tA), ("lengths", .ref lA), ("needs", .ref nA), ("sorter", .ref x), ("t", .int i)]) ⟨rfl, rfl, rfl, rfl, rfl, trivial⟩ y av e, hS2, F2, l2, g2, hF2, S2, B2⟩ ?_ ?_
    · intro j av R'' ρ' H' s' v hj hR2  hJJ st hv K hTurn
      obtain ⟨hρ, hS, F, l, g, hF, S, B⟩ := hJJ
      rw [List.getElem?_map] at hj
      obtain ⟨k, hkj, rfl⟩ := Option.map_eq_some_iff.mp hj
      obtain ⟨tok, rfl⟩ := abs_int hv
      have st := st.weaken hρ
      have hsl : ∀ k, (g.sc k).length ≤ 22 := B.len fun k hk => by
        have h2 := (mem_tasks.mp hk).2
        by_cases q : k = i
        · subst q
          rw [setF_self, List.length_take]
          have h1 := need_len (sc := sc) (t := (i : Int))
          exact om171 hn hin h1
        · rw [setF_ne q]
          have h1 := need_len (sc := sc) (t := k)
          exact om172 hn hin h2 h1
      have hkl : g.ks.length ≤ 21 := by rw [B.ks, tasks_len]; exact om173 hn hin
      with_reducible refine wpAny_assign_Name ?_
      refine storeL (by assumption) ?_ rfl (Cx.Ok.fn (by assumption)) (by first | exact kindK hf rfl | (rw [hf]; rfl) | (rw [he]; rfl))
      intro s st
      with_reducible refine execsK ?_
      intro K hStmt
      refine exprV (hs := by rfl) (Cx.Ok.fn (by assumption)) ?_
      refine callMeth (he := by rfl) ?_
      refine nameLR (hd := by decide) (by assumption) (by first | assumption | rfl) ?_ rfl (Cx.Ok.fn (by assumption)) (by first | exact kindK hf rfl | (rw [hf]; rfl) | (rw [he]; rfl))
      refine meth155 hK ok' (by assumption) S.inst S.attr (f := 105) (by kernel_rfl) (by kernel_rfl) rfl ?_
      refine cw (he := by rfl) ?_
      dsimp only [Args_]
      refine nameLI (hd := by decide) (by assumption) (by first | assumption | rfl) ?_ rfl (Cx.Ok.fn (by assumption)) (by first | exact kindK hf rfl | (rw [hf]; rfl) | (rw [he]; rfl))
      intro tok
      refine nameLI (hd := by decide) (by assumption) (by first | assumption | rfl) ?_ rfl (Cx.Ok.fn (by assumption)) (by first | exact kindK hf rfl | (rw [hf]; rfl) | (rw [he]; rfl))
      intro tok
      (first | refine ⟨trivial, ?_⟩ | refine ⟨stands_K (by assumption) (by assumption) (by (rw [hK]; first | with_reducible exact k_bisect _ | with_reducible exact k_insort _ | with_reducible exact k_info _ | with_reducible exact k_sorter _ | with_reducible exact k98 _ | with_reducible exact k105 _ | with_reducible exact k110 _ | with_reducible exact k117 _ | with_reducible exact k124 _ | with_reducible exact k138 _ | with_reducible exact k145 _ | with_reducible exact kp_least _)), ?_⟩)
      (try dsimp only [List.nil_append, List.cons_append])
      refine add_spec (σ := ⟨x, dx, nd, g, none, 0, 0⟩) (preds := [(i : Int)]) (d := 4) hK ok' rm (by assumption) S rfl rfl (by show g.ks.length + 1 ≤ 9000; exact om174 hkl) (fun k => by show (g.sc k).length + 1 ≤ 9000; have := hsl k; exact om175 this) ?_
      intro H2 F2 l2 s P2 S2 st
      have hS2 : Sub H H2 := ⟨fun b ao e => P2.keep b ao (fun q => by rw [hF b q] at e; cases e) (hS.le _ _ e)⟩
      have hF2 : ∀ b, F2 b → H b = none := fun b q => by
        rcases P2.new b q with q | q
        · exact hF b q
        · cases e : H b with
          | none => rfl
          | some ao => rw [hS.le _ _ e] at q; cases q
      with_reducible refine openK (by assumption) ?_
      with_reducible refine wpAny_execs_nil ?_
      with_reducible refine openK (by assumption) ?_
      dsimp only
      exact ⟨_, _, st, fun y av e => AllIn.mem (l := [("tasks", .ref tA), ("lengths", .ref lA), ("needs", .ref nA), ("sorter", .ref x), ("t", .int i)]) ⟨rfl, rfl, rfl, rfl, rfl, trivial⟩ y av e, hS2, F2, l2, _, hF2, S2, B.mid hkj⟩
    · rintro ρ' H' s' ⟨hρ, hS, F, l, g, hF, S, B⟩ st
      rw [List.length_map] at B
      have st := st.weaken hρ
      with_reducible refine wpAny_execs_nil ?_
      with_reducible refine openK (by assumption) ?_
      with_reducible refine wpAny_execs_nil ?_
      with_reducible refine openK (by assumption) ?_
      dsimp only
      exact ⟨_, _, st, fun y av e => AllIn.mem (l := [("tasks", .ref tA), ("lengths", .ref lA), ("needs", .ref nA), ("sorter", .ref x)]) ⟨rfl, rfl, rfl, rfl, trivial⟩ y av e, hS, F, l, g, hF, S, B.last⟩
  · rintro ρ' H' s' ⟨hρ, hS, F, l, g, hF, S, B⟩ st
    rw [List.length_map, tasks_len] at B
    have st := st.weaken hρ
    have hsl : ∀ k, (g.sc k).length ≤ 21 := B.len fun k hk => by
      have h1 := need_len (sc := sc) (t := k)
      have h2 := (mem_tasks.mp hk).2
      exact om176 hn h1 h2
    with_reducible refine wpAny_execs_nil ?_
    with_reducible refine openK (by assumption) ?_
    with_reducible refine execsK ?_
    intro K hStmt
    refine exprV (hs := by rfl) (Cx.Ok.fn (by assumption)) ?_
    refine callMeth (he := by rfl) ?_
    refine nameLR (hd := by decide) (by assumption) (by first | assumption | rfl) ?_ rfl (Cx.Ok.fn (by assumption)) (by first | exact kindK hf rfl | (rw [hf]; rfl) | (rw [he]; rfl))
    refine meth155 hK ok' (by assumption) S.inst S.attr (f := 110) (by kernel_rfl) (by kernel_rfl) rfl ?_
    refine cw (he := by rfl) ?_
    dsimp only [Args_]
    (first | refine ⟨trivial, ?_⟩ | refine ⟨stands_K (by assumption) (by assumption) (by (rw [hK]; first | with_reducible exact k_bisect _ | with_reducible exact k_insort _ | with_reducible exact k_info _ | with_reducible exact k_sorter _ | with_reducible exact k98 _ | with_reducible exact k105 _ | with_reducible exact k110 _ | with_reducible exact k117 _ | with_reducible exact k124 _ | with_reducible exact k138 _ | with_reducible exact k145 _ | with_reducible exact kp_least _)), ?_⟩)
    (try dsimp only [List.nil_append, List.cons_append])
    have hdep := rm.depth
    refine prepare_spec (σ := ⟨x, dx, nd, g, none, 0, 0⟩) (le := []) (rk := Int.toNat) hK ok' (by exact om177 hdep) rm.handled (by rw [rm.frames, hout]) (fun _ q => (nomatch q)) (by assumption) S rfl (by show g.ks.length ≤ 1000; rw [B.ks, tasks_len]; exact om178 hn) (fun k hk => by show (g.sc k).length ≤ 1000; have := hsl k; exact om178 this) (fun k hk k' hk' => ?_) ?_
    · have hk : k ∈ tasksS n := B.ks ▸ hk
      have hk' : k' ∈ needS sc k := B.sc k hk ▸ hk'
      obtain ⟨h1, h2⟩ := need_in k hk k' hk'
      refine ⟨?_, ?_⟩
      · show k' ∈ g.ks; rw [B.ks]; exact h1
      · exact (Int.toNat_lt_toNat (Int.lt_of_le_of_lt (mem_tasks.mp h1).1 h2)).mpr h2
    intro H2 F2 l2 s P2 S2 st
    have hS2 : Sub H H2 := ⟨fun b ao e => P2.keep b ao (fun q => by rw [hF b q] at e; cases e) (hS.le _ _ e)⟩
    have hF2 : ∀ b, F2 b → H b = none := fun b q => by
      rcases P2.new b q with q | q
      · exact hF b q
      · cases e : H b with
        | none => rfl
        | some ao => rw [hS.le _ _ e] at q; cases q
    refine openK (by assumption) ?_
    exact h ⟨x, dx, nd, g, some (g.ks.filter fun k => g.np k == 0), 0, 0⟩ F2 l2 H2 s hS2 hF2 S2 rfl rfl rfl B st
end


theorem nodup_len : ∀ {l ts : List Int}, l.Nodup → (∀ x ∈ l, x ∈ ts) → l.length ≤ ts.length
  | [], _, _, _ => Nat.zero_le _
  | a :: r, ts, hn, hs => by
    rw [List.nodup_cons] at hn
    have ha := hs a List.mem_cons_self
    have := nodup_len (l := r) (ts := ts.erase a) hn.2 fun x hx => (List.mem_erase_of_ne (fun q => hn.1 (by rw [← q]; exact hx))).mpr (hs x (List.mem_cons_of_mem _ hx))
    rw [List.length_erase_of_mem ha] at this
    have h2 := List.length_pos_of_mem ha
    rw [List.length_cons]; exact om179 this h2

theorem SrtL.keepF {H H' : Ledger} {F : Addr → Prop} {σ : Srt} {l : Lay} (S : SrtL H F σ l) (h : ∀ b ao, F b → H b = some ao → H' b = some ao) : SrtL H' F σ l :=
  ⟨h _ _ S.fp.1 S.inst, h _ _ S.fp.2.1 S.attr, h _ _ S.fp.2.2 S.dict, fun k hk => h _ _ (S.fpn k hk).1 (S.node k hk), fun k hk => h _ _ (S.fpn k hk).2.1 (S.ndct k hk), fun k hk => h _ _ (S.fpn k hk).2.2 (S.succ k hk), S.inj, S.nodup,
    fun r hr => let ⟨a, b, c⟩ := S.rdy r hr; ⟨h _ _ c a, b, c⟩, S.fp, S.fpn, fun b hb => by
      cases e : H b with
      | none => exact absurd e (S.all b hb)
      | some ao => rw [h b ao hb e]; intro q; cases q⟩

noncomputable def LamTabF (F : Addr → Prop) (H : Ledger) (P : Addr) (pos : Pos) (qual : Str) : Prop := H P = some (tabO #[]) ∨ ∃ c', H P = some (tabO #[rawInt pos.line, rawInt pos.col, .ref c']) ∧ H c' = some (codeO qual) ∧ c' ≠ P ∧ ¬ F c'
theorem LamTabF.keep {F F' : Addr → Prop} {H H' : Ledger} {P : Addr} {pos : Pos} {qual : Str} (x : LamTabF F H P pos qual) (hP : H' P = H P) (h : ∀ b q, H b = some (codeO q) → ¬ F b → H' b = some (codeO q) ∧ ¬ F' b) : LamTabF F' H' P pos qual := by
  rcases x with x | ⟨c', x1, x2, x3, x4⟩
  · exact .inl (hP.trans x)
  · obtain ⟨h1, h2⟩ := h c' qual x2 x4
    exact .inr ⟨c', hP.trans x1, h1, x3, h2⟩
theorem lamMakeF {c : Cx} {R : Ledger} {ρ : Str → Option AV} {H : Ledger} {s : Shared} {A : Around} {E : Value → Shared → Prop} {name qual cn : Str} {params : Arguments} {body : Expr} {scope cs : Scope} {cl clos : List (Str × Addr)} {a P cc : Addr} {pos : Pos} {firstLine : Nat} {Q : Value → Shared → Prop} {F : Addr → Prop}
    (ok : c.Ok) (st : St c R ρ H s) (C : CodeHd c.h₀ cc P) (he : c.fenv = envX cn cs c.L a (.ref cc) cl) (hF : ∀ b, F b → H b ≠ none) (ht : LamTabF F H P pos qual) (hcl : closureFor scope c.fenv = pure clos)
    (h : ∀ f c' H' s', H f = none → (∀ b ao, b ≠ P → H b = some ao → H' b = some ao) → LamTabF F H' P pos qual → H' f = some (lamO name qual params body scope clos c') → H' c' = some (codeO qual) → St c R ρ H' s' → Q (.ref f) s') :
    wpAny c.M A (makeFunction name qual params (.expr body) scope c.fenv [] [] [] pos firstLine) Q E s := by
  rcases ht with hP | ⟨c', hP, hc, hne, hcF⟩
  · refine lamNew ok st C he hP hcl fun f c' s' hf hc hne st' => ?_
    have nP : c' ≠ P := fun q => by first | (rw [q, hP] at hc; cases hc) | (rw [← q, hP] at hc; cases hc)
    have nf : f ≠ P := fun q => by first | (rw [q, hP] at hf; cases hf) | (rw [← q, hP] at hf; cases hf)
    refine h f c' _ s' hf (fun b ao n e => ?_) (.inr ⟨c', ?_, ?_, nP, fun q => hF _ q hc⟩) (upd_self ..) ?_ st'
    · rw [upd_ne (fun q => by first | (rw [q, hf] at e; cases e) | (rw [← q, hf] at e; cases e)), upd_ne (fun q => by first | (rw [q, hc] at e; cases e) | (rw [← q, hc] at e; cases e)), upd_ne n]; exact e
    · rw [upd_ne (Ne.symm nf), upd_ne (Ne.symm nP)]; exact upd_self ..
    · rw [upd_ne (Ne.symm hne)]; exact upd_self ..
    · rw [upd_ne (Ne.symm hne)]; exact upd_self ..
  · refine lamHit ok st C he hP hcl fun f s' hf st' => ?_
    have hs := (Sub.refl H).upd (o := lamO name qual params body scope clos c') hf
    exact h f c' _ s' hf (fun b ao _ e => hs.le b ao e) (.inr ⟨c', hs.le _ _ hP, hs.le _ _ hc, hne, hcF⟩) (upd_self ..) (hs.le _ _ hc) st'

theorem ins_perm {xs : List Int} {x : Int} {r : Nat} : (xs.take r ++ x :: xs.drop r).Perm (xs ++ [x]) := by
  have h1 : (xs.take r ++ x :: xs.drop r).Perm (x :: (xs.take r ++ xs.drop r)) := List.perm_middle
  rw [List.take_append_drop] at h1
  exact h1.trans (List.perm_append_singleton x xs).symm
theorem ins_sorted {D : Int → Int} {xs : List Int} {x : Int} {r : Nat} (hs : (xs.map D).Pairwise (· ≤ ·)) (hr : r ≤ xs.length) (h1 : ∀ i (hi : i < xs.length), i < r → decide (D x < D xs[i]) = false) (h2 : ∀ i (hi : i < xs.length), r ≤ i → decide (D x < D xs[i]) = true) :
    ((xs.take r ++ x :: xs.drop r).map D).Pairwise (· ≤ ·) := by
  have hsplit : (xs.take r).map D ++ (xs.drop r).map D = xs.map D := by rw [← List.map_append, List.take_append_drop]
  have hp := hs
  rw [← hsplit, List.pairwise_append] at hp
  have a1 : ∀ a ∈ xs.take r, D a ≤ D x := fun a ha => by
    obtain ⟨i, hi, e⟩ := List.mem_take_iff_getElem.mp ha
    have := of_decide_eq_false (h1 i (by exact om180 hi) (by exact om181 hi))
    rw [e] at this; exact om182 this
  have a2 : ∀ a ∈ xs.drop r, D x ≤ D a := fun a ha => by
    obtain ⟨i, hi, e⟩ := List.mem_drop_iff_getElem.mp ha
    have := of_decide_eq_true (h2 (r + i) (by exact om183 hi) (by exact om184))
    have e' : xs[r + i]'(by exact om183 hi) = a := by rw [← e]
    rw [e'] at this; exact om185 this
  rw [List.map_append, List.map_cons, List.pairwise_append, List.pairwise_cons]
  refine ⟨hp.1, ⟨fun b hb => ?_, hp.2.1⟩, fun a ha b hb => ?_⟩
  · obtain ⟨y, hy, rfl⟩ := List.mem_map.mp hb
    exact a2 y hy
  · rcases List.mem_cons.mp hb with rfl | hb
    · obtain ⟨y, hy, rfl⟩ := List.mem_map.mp ha
      exact a1 y hy
    · exact hp.2.2 a ha b hb
theorem ins_mono {D : Int → Int} {xs : List Int} {x : Int} (hs : (xs.map D).Pairwise (· ≤ ·)) : ∀ i j (hi : i ≤ j) (hj : j < xs.length), decide (D x < D (xs[i]'(by exact om26 hi hj))) = true → decide (D x < D xs[j]) = true := fun i j hi hj q => by
  rw [List.pairwise_map] at hs
  have q := of_decide_eq_true q
  refine decide_eq_true ?_
  rcases Nat.lt_or_eq_of_le hi with h | rfl
  · have := List.pairwise_iff_getElem.mp hs i j (by exact om26 hi hj) hj h
    exact om186 q this
  · exact q

structure WInv (Hk : Ledger) (P rA bA x dx nd : Addr) (n : Nat) (sc : List Int) (scf : Int → List Int) (H : Ledger) (F : Addr → Prop) (l : Lay) (np : Int → Int) (rd row back : List Int) : Prop where
  sub : Sub Hk H
  off : ∀ b, F b → Hk b = none ∧ b ≠ P ∧ b ≠ rA ∧ b ≠ bA
  srt : SrtL H F ⟨x, dx, nd, ⟨tasksS n, np, scf⟩, some rd, back.length + row.length, back.length⟩ l
  hr : H rA = some (.list (row.map AV.int))
  hb : H bA = some (.list (back.map AV.int))
  lam : LamTabF F H P lamPos lamQ
  inv : LInv (tasksS n) (needS sc) (dueS sc) np rd row back

section
variable {c : Cx} {R : Ledger} {ρ : Str → Option AV} {H Hk : Ledger} {s : Shared} {A : Around} {d n : Nat} {fA sa L' P cs co cm cd tA lA dA nA rA bA x dx nd : Addr} {sc : List Int} {nas : List Addr} {Q : Flow → Shared → Prop} {scf np : Int → List Int} {F : Addr → Prop} {l : Lay} {rd row back : List Int}

abbrev NMw (tA lA nA x rA bA : Addr) : List (Str × AV) := [("tasks", .ref tA), ("lengths", .ref lA), ("needs", .ref nA), ("sorter", .ref x), ("row", .ref rA), ("back", .ref bA)]

theorem law_while {np : Int → Int} (hK : c.G.K = KP c.G.w.params) (ok : c.Ok) (rm : Room c A 8) (hf : c.fenv = envK "law" sLaw L' fA (.ref 168) (cellsFrom (L' + 1) (scopeOf sLaw).names [])) (C : CodeHd c.h₀ 168 P)
    (hcells : c.fenv.cells = [(("dues" : Str), cd), (("m" : Str), cm), (("order" : Str), co), (("script" : Str), cs)])
    (hcd : Hk cd = some (.cell (some (.ref dA)))) (hdA : Hk dA = some (.list ((List.range n).map fun (i : Nat) => AV.int (dueS sc i)))) (kP : Hk P = none) (kr : Hk rA = none) (kb : Hk bA = none) (hrb : rA ≠ bA) (hn : n ≤ 21)
    (hscf : ∀ k ∈ tasksS n, scf k = needS sc k)
    (W : WInv Hk P rA bA x dx nd n sc scf H F l np rd row back)
    (st : St c R (lk (NMw tA lA nA x rA bA)) H s)
    (h : ∀ H' s' np back, Sub Hk H' → (∃ ps, H' P = some (tabO ps)) → H' bA = some (.list (back.map AV.int)) → LInv (tasksS n) (needS sc) (dueS sc) np [] [] back → St c R (lk (NMw tA lA nA x rA bA)) H' s' → wpAny c.M A (execs ((bodyOf sLaw).drop 10) c.fenv) Q (fun _ _ => False) s') :
    wpAny c.M A (execs ((bodyOf sLaw).drop 9) c.fenv) Q (fun _ _ => False) s := by
  have ok' := ok
  refine execsK ?_
  intro K hStmt
  refine whileR (fun m ρ' H' => (∀ y av, lk (NMw tA lA nA x rA bA) y = some av → ρ' y = some av) ∧ ∃ F l np rd row back, m = n - back.length ∧ WInv Hk P rA bA x dx nd n sc scf H' F l np rd row back) (n - back.length) st ⟨fun y av e => e, F, l, np, rd, row, back, rfl, W⟩ ?_
  intro m ρ' H' s'  hJJ st K hTurn KQ hQ
  obtain ⟨hρ, F, l, np, rd, row, back, rfl, W⟩ := hJJ
  have st := st.weaken hρ
  have hlen : (back ++ (row ++ rd)).length ≤ n := by have := nodup_len W.inv.nd W.inv.sub; rwa [tasks_len] at this
  rw [List.length_append, List.length_append] at hlen
  refine wpAny_isTrue_value ?_
  refine callMeth (he := by rfl) ?_
  refine nameLR (hd := by decide) (by assumption) (by first | assumption | rfl) ?_ rfl (Cx.Ok.fn (by assumption)) (by first | exact kindK hf rfl | (rw [hf]; rfl) | (rw [he]; rfl))
  refine meth155 hK ok' (by assumption) W.srt.inst W.srt.attr (f := 124) (by kernel_rfl) (by kernel_rfl) rfl ?_
  refine cw (he := by rfl) ?_
  dsimp only [Args_]
  (first | refine ⟨trivial, ?_⟩ | refine ⟨stands_K (by assumption) (by assumption) (by (rw [hK]; first | with_reducible exact k_bisect _ | with_reducible exact k_insort _ | with_reducible exact k_info _ | with_reducible exact k_sorter _ | with_reducible exact k98 _ | with_reducible exact k105 _ | with_reducible exact k110 _ | with_reducible exact k117 _ | with_reducible exact k124 _ | with_reducible exact k138 _ | with_reducible exact k145 _ | with_reducible exact kp_least _)), ?_⟩)
  (try dsimp only [List.nil_append, List.cons_append])
  refine active_spec (σ := ⟨x, dx, nd, ⟨tasksS n, np, scf⟩, some rd, back.length + row.length, back.length⟩) (d := 7) hK ok' rm (by assumption) W.srt rfl (by exact om187 hn hlen) ?_
  intro s st
  with_reducible refine wpAny_truthy_bool ?_
  dsimp only
  by_cases hact : row = [] ∧ rd = []
  · obtain ⟨rfl, rfl⟩ := hact
    refine ifN (by simp) ?_
    refine wpAny_execs_nil ?_
    refine openK hQ (openK hStmt ?_)
    exact h H' _ np back W.sub (by rcases W.lam with q | ⟨c', q, _⟩ <;> exact ⟨_, q⟩) W.hb W.inv st
  · rw [if_pos (by
      rw [Bool.or_eq_true, decide_eq_true_eq, Bool.not_eq_true', List.isEmpty_eq_false_iff]
      rcases rd with _ | ⟨a, r⟩
      · left
        cases row with
        | nil => exact absurd ⟨rfl, rfl⟩ hact
        | cons a r => show (back.length : Int) < back.length + (a :: r).length; rw [List.length_cons]; exact om188
      · right; simp)]
    with_reducible refine execsK ?_
    intro K hStmt
    refine wpAny_For ?_
    refine callMeth (he := by rfl) ?_
    refine nameLR (hd := by decide) (by assumption) (by first | assumption | rfl) ?_ rfl (Cx.Ok.fn (by assumption)) (by first | exact kindK hf rfl | (rw [hf]; rfl) | (rw [he]; rfl))
    refine meth155 hK ok' (by assumption) W.srt.inst W.srt.attr (f := 117) (by kernel_rfl) (by kernel_rfl) rfl ?_
    refine cw (he := by rfl) ?_
    dsimp only [Args_]
    (first | refine ⟨trivial, ?_⟩ | refine ⟨stands_K (by assumption) (by assumption) (by (rw [hK]; first | with_reducible exact k_bisect _ | with_reducible exact k_insort _ | with_reducible exact k_info _ | with_reducible exact k_sorter _ | with_reducible exact k98 _ | with_reducible exact k105 _ | with_reducible exact k110 _ | with_reducible exact k117 _ | with_reducible exact k124 _ | with_reducible exact k138 _ | with_reducible exact k145 _ | with_reducible exact kp_least _)), ?_⟩)
    (try dsimp only [List.nil_append, List.cons_append])
    refine ready_spec (σ := ⟨x, dx, nd, ⟨tasksS n, np, scf⟩, some rd, back.length + row.length, back.length⟩) (d := 7) hK ok' rm (by assumption) W.srt rfl (by exact om187 hn hlen) (fun k hk => W.inv.sub k (by simp [hk])) ?_
    intro D H1 s hD hD1 P1 S1 st
    have nF : ∀ b ao, Hk b = some ao → ¬ F b := fun b ao e q => by rw [(W.off b q).1] at e; cases e
    have hS1 : Sub Hk H1 := ⟨fun b ao e => P1.keep b ao (nF b ao e) (W.sub.le _ _ e)⟩
    have hr1 := P1.keep _ _ (fun q => (W.off _ q).2.2.1 rfl) W.hr
    have hb1 := P1.keep _ _ (fun q => (W.off _ q).2.2.2 rfl) W.hb
    have hPe : ∀ o, H' P = some o → H1 P = some o := fun o e => P1.keep _ _ (fun q => (W.off _ q).2.1 rfl) e
    have hL1 : LamTabF F H1 P lamPos lamQ := W.lam.keep (by
      rcases W.lam with q | ⟨c', q, _⟩
      · rw [q]; exact hPe _ q
      · rw [q]; exact hPe _ q) fun b q e hn => ⟨P1.keep _ _ hn e, hn⟩
    skip
    refine iterT ok' (by assumption) hD1 ?_
    intro it s hit hRit st
    refine forLoopR (ht := by intro _; rfl) (itr_tuple rm.handled) hRit st (fun i ρ' H' => (∀ y av, lk (NMw tA lA nA x rA bA) y = some av → ρ' y = some av) ∧ H' D = some (.tuple (rd.map AV.int)) ∧ Sub Hk H' ∧
        SrtL H' F ⟨x, dx, nd, ⟨tasksS n, outs rd np, scf⟩, some [], back.length + row.length + rd.length, back.length⟩ l ∧ H' bA = some (.list (back.map AV.int)) ∧ LamTabF F H' P lamPos lamQ ∧
        ∃ row', H' rA = some (.list (row'.map AV.int)) ∧ row'.Perm (row ++ rd.take i) ∧ (row'.map (dueS sc)).Pairwise (· ≤ ·))
      (fun i ρ' H' q => q.2.1) ⟨fun y av e => AllIn.mem (l := NMw tA lA nA x rA bA) ⟨rfl, rfl, rfl, rfl, rfl, rfl, trivial⟩ y av e, hD1, hS1, S1, hb1, hL1, row, hr1, by rw [List.take_zero, List.append_nil], W.inv.srt⟩ ?_ ?_
    · intro i av R' ρ' H' s' v hi hR  hJJ st hv K hTurn
      obtain ⟨hρ, hD', hS', S', hb', hL', row', hr', hp', hs'⟩ := hJJ
      rw [List.getElem?_map] at hi
      obtain ⟨t, hti, rfl⟩ := Option.map_eq_some_iff.mp hi
      have htm := mem_tasks.mp (W.inv.sub t (by simp [List.mem_of_getElem? hti]))
      have hrow' : ∀ k ∈ row', 0 ≤ k ∧ k < n := fun k hk => by
        have := hp'.mem_iff.mp hk
        refine mem_tasks.mp (W.inv.sub k ?_)
        rw [List.mem_append] at this ⊢
        right
        rcases this with q | q
        · exact List.mem_append_left _ q
        · exact List.mem_append_right _ (List.mem_of_mem_take q)
      obtain ⟨tok, rfl⟩ := abs_int hv
      have st := st.weaken hρ
      with_reducible refine wpAny_assign_Name ?_
      refine storeL (by assumption) ?_ rfl (Cx.Ok.fn (by assumption)) (by first | exact kindK hf rfl | (rw [hf]; rfl) | (rw [he]; rfl))
      intro s st
      with_reducible refine execsK ?_
      intro K hStmt
      refine exprV (hs := by rfl) (Cx.Ok.fn (by assumption)) ?_
      refine callNameKw (he := by rfl) ?_
      refine nameG (hd := by decide) (by assumption) (by assumption) (by (rw [hK]; first | with_reducible exact g_bisect _ | with_reducible exact g_insort _ | with_reducible exact g_out _ | with_reducible exact g_done _ | with_reducible exact g_info _ | with_reducible exact g_sorter _)) ?_ (Cx.Ok.glob (by assumption)) (Cx.Ok.fn (by assumption)) (by first | exact kindK hf rfl | (rw [hf]; rfl) | (rw [he]; rfl))
      refine cwKw (he := by rfl) (hk := by rfl) (hall := by rfl) (hn := by rfl) ?_
      dsimp only [Args_]
      refine nameLR (hd := by decide) (by assumption) (by first | assumption | rfl) ?_ rfl (Cx.Ok.fn (by assumption)) (by first | exact kindK hf rfl | (rw [hf]; rfl) | (rw [he]; rfl))
      refine nameLI (hd := by decide) (by assumption) (by first | assumption | rfl) ?_ rfl (Cx.Ok.fn (by assumption)) (by first | exact kindK hf rfl | (rw [hf]; rfl) | (rw [he]; rfl))
      intro tok
      dsimp only [Kws_]
      refine kla_eval rfl ?_
      refine lamMakeF (F := F) (cn := "law") (cs := scopeOf sLaw) (a := fA) (cc := 168) (cl := cellsFrom (L' + 1) (scopeOf sLaw).names []) (clos := [(("dues" : Str), cd)]) ok' (by assumption) C (by unfold Cx.L; rw [hf]) S'.all (by
        have : LamTabF F H' P lamPos lamQ := hL'
        rw [hf]; exact this) ((closure_cells hcells).trans rfl) ?_
      intro f c' H2 s hf2 hk2 hL2 hfn hco2 st
      have nP : ∀ b ao, Hk b = some ao → b ≠ P := fun b ao e q => by rw [q, kP] at e; cases e
      have hS2 : Sub Hk H2 := ⟨fun b ao e => hk2 b ao (nP b ao e) (hS'.le _ _ e)⟩
      have rP : rA ≠ P := fun e => by
        rcases hL' with q | ⟨_, q, _⟩ <;> (rw [← e, hr'] at q; cases q)
      have bP : bA ≠ P := fun e => by
        rcases hL' with q | ⟨_, q, _⟩ <;> (rw [← e, hb'] at q; cases q)
      have DP : D ≠ P := fun e => by
        rcases hL' with q | ⟨_, q, _⟩ <;> (rw [← e, hD'] at q; cases q)
      have hr2 := hk2 _ _ rP hr'
      have hb2 := hk2 _ _ bP hb'
      have hD2 := hk2 _ _ DP hD'
      have S2 := S'.keepF (H' := H2) fun b ao hb e => hk2 b ao (W.off b hb).2.1 e
      rw [hf] at hfn hco2 hL2
      have hL2 : LamTabF F H2 P lamPos lamQ := hL2
      have KF := key_dues (G := c.G) (d := 0) (n := n) (D := dueS sc) (by exact om178 hn) hfn hco2 (hS2.le _ _ hcd) (hS2.le _ _ hdA)
      have hlr : row'.length ≤ n := by
        have := hp'.length_eq
        rw [List.length_append, List.length_take] at this
        exact om189 hlen this
      (first | refine ⟨trivial, ?_⟩ | refine ⟨stands_K (by assumption) (by assumption) (by (rw [hK]; first | with_reducible exact k_bisect _ | with_reducible exact k_insort _ | with_reducible exact k_info _ | with_reducible exact k_sorter _ | with_reducible exact k98 _ | with_reducible exact k105 _ | with_reducible exact k110 _ | with_reducible exact k117 _ | with_reducible exact k124 _ | with_reducible exact k138 _ | with_reducible exact k145 _ | with_reducible exact kp_least _)), ?_⟩)
      (try dsimp only [List.nil_append, List.cons_append])
      show wpAny _ _ (call _ [_, _] [(("key" : Str), _)]) _ _ _
      refine insort_key (d := 0) hK ok' (room_less rm (by exact om190)) (by assumption) KF hr2 hrow' htm (ins_mono hs') (by exact om191 hn hlr) ?_
      intro r s hrl hi1 hi2 st
      have cr : ∀ b q, H2 b = some (codeO q) → b ≠ rA := fun b q e z => by rw [z, hr2] at e; cases e
      with_reducible refine openK (by assumption) ?_
      with_reducible refine wpAny_execs_nil ?_
      with_reducible refine openK (by assumption) ?_
      dsimp only
      refine ⟨_, _, st, fun y av e => AllIn.mem (l := NMw tA lA nA x rA bA) ⟨rfl, rfl, rfl, rfl, rfl, rfl, trivial⟩ y av e, ?_, ?_, ?_, ?_, ?_, _, upd_self .., ?_, ins_sorted hs' hrl hi1 hi2⟩
      · rw [upd_ne (fun q => by first | (rw [q, hr2] at hD2; cases hD2) | (rw [← q, hr2] at hD2; cases hD2))]; exact hD2
      · exact hS2.upd kr
      · exact S2.keepF fun b ao hb e => by rw [upd_ne (W.off b hb).2.2.1]; exact e
      · rw [upd_ne (Ne.symm hrb)]; exact hb2
      · exact hL2.keep (by rw [upd_ne (Ne.symm rP)]) fun b q e hnF => ⟨by rw [upd_ne (cr b q e)]; exact e, hnF⟩
      · rw [take_succ' hti, ← List.append_assoc]
        exact ins_perm.trans (hp'.append_right _)
    · rintro ρ' H' s' ⟨hρ, hD', hS', S', hb', hL', row', hr', hp', hs'⟩ st
      rw [List.length_map, List.take_length] at hp'
      have M := W.inv.move hp' hs'
      have hlr := hp'.length_eq
      rw [List.length_append] at hlr
      have hrne : row' ≠ [] := by
        rintro rfl
        have := hp'.symm.eq_nil
        exact hact (List.append_eq_nil_iff.mp this)
      rcases List.eq_nil_or_concat row' with q | ⟨row2, b, q⟩
      · exact absurd q hrne
      rw [List.concat_eq_append] at q
      subst q
      rw [List.length_append, List.length_singleton] at hlr
      have st := st.weaken hρ
      have bm : b ∈ tasksS n := M.sub b (by simp)
      with_reducible refine wpAny_execs_nil ?_
      with_reducible refine openK (by assumption) ?_
      with_reducible refine execsK ?_
      intro K hStmt
      refine exprV (hs := by rfl) (Cx.Ok.fn (by assumption)) ?_
      refine callMeth (he := by rfl) ?_
      refine nameLR (hd := by decide) (by assumption) (by first | assumption | rfl) ?_ rfl (Cx.Ok.fn (by assumption)) (by first | exact kindK hf rfl | (rw [hf]; rfl) | (rw [he]; rfl))
      refine methL (by assumption) hb' PySem.F.slot_list_append PySem.F.type_list_append ?_
      refine cw (he := by rfl) ?_
      dsimp only [Args_]
      refine callMeth (he := by rfl) ?_
      refine nameLR (hd := by decide) (by assumption) (by first | assumption | rfl) ?_ rfl (Cx.Ok.fn (by assumption)) (by first | exact kindK hf rfl | (rw [hf]; rfl) | (rw [he]; rfl))
      refine methL (by assumption) hr' PySem.F.slot_list_pop PySem.F.type_list_pop ?_
      refine cw (he := by rfl) ?_
      dsimp only [Args_]
      (first | refine ⟨trivial, ?_⟩ | refine ⟨stands_K (by assumption) (by assumption) (by (rw [hK]; first | with_reducible exact k_bisect _ | with_reducible exact k_insort _ | with_reducible exact k_info _ | with_reducible exact k_sorter _ | with_reducible exact k98 _ | with_reducible exact k105 _ | with_reducible exact k110 _ | with_reducible exact k117 _ | with_reducible exact k124 _ | with_reducible exact k138 _ | with_reducible exact k145 _ | with_reducible exact kp_least _)), ?_⟩)
      (try dsimp only [List.nil_append, List.cons_append])
      refine popL (by assumption) (xs := row2.map AV.int) (av := .int b) (by rw [hr']; simp) (by rw [List.length_map, sizeLine_eq]; exact om192 hn hlen hlr) ?_
      refine gotIS ?_
      intro tok s st
      (first | refine ⟨trivial, ?_⟩ | refine ⟨stands_K (by assumption) (by assumption) (by (rw [hK]; first | with_reducible exact k_bisect _ | with_reducible exact k_insort _ | with_reducible exact k_info _ | with_reducible exact k_sorter _ | with_reducible exact k98 _ | with_reducible exact k105 _ | with_reducible exact k110 _ | with_reducible exact k117 _ | with_reducible exact k124 _ | with_reducible exact k138 _ | with_reducible exact k145 _ | with_reducible exact kp_least _)), ?_⟩)
      (try dsimp only [List.nil_append, List.cons_append])
      refine appendL (by assumption) (xs := back.map AV.int) (by rw [upd_ne (Ne.symm hrb)]; exact hb') (by rw [List.length_map, sizeLine_eq]; exact om193 hn hlen) ?_
      intro s st
      have hPv : ∀ b, b ≠ rA → b ≠ bA → upd (upd H' rA (.list (row2.map AV.int))) bA (.list (back.map AV.int ++ [AV.int b])) b = H' b := fun b q1 q2 => by rw [upd_ne q2, upd_ne q1]
      have st : St c R (lk (NMw tA lA nA x rA bA)) (upd (upd H' rA (.list (row2.map AV.int))) bA (.list (back.map AV.int ++ [AV.int b]))) s := st
      have hS3 : Sub Hk (upd (upd H' rA (.list (row2.map AV.int))) bA (.list (back.map AV.int ++ [AV.int b]))) := (hS'.upd kr).upd kb
      have S3 := S'.keepF (H' := upd (upd H' rA (.list (row2.map AV.int))) bA (.list (back.map AV.int ++ [AV.int b]))) fun b ao hb e => by rw [upd_ne (W.off b hb).2.2.2, upd_ne (W.off b hb).2.2.1]; exact e
      have hr3 : upd (upd H' rA (.list (row2.map AV.int))) bA (.list (back.map AV.int ++ [AV.int b])) rA = some (.list (row2.map AV.int)) := by rw [upd_ne hrb]; exact upd_self ..
      have hb3 : upd (upd H' rA (.list (row2.map AV.int))) bA (.list (back.map AV.int ++ [AV.int b])) bA = some (.list ((back ++ [b]).map AV.int)) := by rw [upd_self, List.map_append]; rfl
      have rP : rA ≠ P := fun e => by
        rcases hL' with q | ⟨_, q, _⟩ <;> (rw [← e, hr'] at q; cases q)
      have bP : bA ≠ P := fun e => by
        rcases hL' with q | ⟨_, q, _⟩ <;> (rw [← e, hb'] at q; cases q)
      have hL3 : LamTabF F (upd (upd H' rA (.list (row2.map AV.int))) bA (.list (back.map AV.int ++ [AV.int b]))) P lamPos lamQ := hL'.keep (by rw [upd_ne (Ne.symm bP), upd_ne (Ne.symm rP)]) fun b q e hnF => ⟨by
        rw [upd_ne (fun z => by rw [z, hb'] at e; cases e), upd_ne (fun z => by rw [z, hr'] at e; cases e)]; exact e, hnF⟩
      generalize upd (upd H' rA (.list (row2.map AV.int))) bA (.list (back.map AV.int ++ [AV.int b])) = H3 at st hS3 S3 hr3 hb3 hL3
      with_reducible refine openK (by assumption) ?_
      with_reducible refine execsK ?_
      intro K hStmt
      refine exprV (hs := by rfl) (Cx.Ok.fn (by assumption)) ?_
      refine callMeth (he := by rfl) ?_
      refine nameLR (hd := by decide) (by assumption) (by first | assumption | rfl) ?_ rfl (Cx.Ok.fn (by assumption)) (by first | exact kindK hf rfl | (rw [hf]; rfl) | (rw [he]; rfl))
      refine meth155 hK ok' (by assumption) S3.inst S3.attr (f := 138) (by kernel_rfl) (by kernel_rfl) rfl ?_
      refine cw (he := by rfl) ?_
      dsimp only [Args_]
      with_reducible refine Subscript_ ?_
      refine nameLR (hd := by decide) (by assumption) (by first | assumption | rfl) ?_ rfl (Cx.Ok.fn (by assumption)) (by first | exact kindK hf rfl | (rw [hf]; rfl) | (rw [he]; rfl))
      with_reducible refine UnaryOp_ ?_
      with_reducible refine cInt (by assumption) ?_
      intro tok s st
      with_reducible refine negI (by assumption) ?_
      intro tok s st
      refine idxLneg (hs := by with_unfolding_all rfl) (by assumption) (.inl hb3) (by decide) (by simp; exact om66) (av := .int b) (by
        have e : ((-1 : Int) + ((back ++ [b]).map AV.int).length).toNat = back.length := by simp; exact om67
        rw [e]; simp) (by decide) ?_
      refine gotIA ?_
      intro tok
      (first | refine ⟨trivial, ?_⟩ | refine ⟨stands_K (by assumption) (by assumption) (by (rw [hK]; first | with_reducible exact k_bisect _ | with_reducible exact k_insort _ | with_reducible exact k_info _ | with_reducible exact k_sorter _ | with_reducible exact k98 _ | with_reducible exact k105 _ | with_reducible exact k110 _ | with_reducible exact k117 _ | with_reducible exact k124 _ | with_reducible exact k138 _ | with_reducible exact k145 _ | with_reducible exact kp_least _)), ?_⟩)
      (try dsimp only [List.nil_append, List.cons_append])
      have hscb : scf b = needS sc b := hscf b bm
      have hnl : (needS sc b).length ≤ 21 := by
        have h1 := need_len (sc := sc) (t := b)
        have h2 := mem_tasks.mp bm
        exact om194 hn h1 h2
      refine done_spec (σ := ⟨x, dx, nd, ⟨tasksS n, outs rd np, scf⟩, some [], back.length + row.length + rd.length, back.length⟩) (ns := [b]) (d := 7) hK ok' rm (by assumption) S3 rfl rfl (by show 1 ≤ 1000; decide) (fun k hk => by rw [List.mem_singleton.mp hk]; exact bm)
        (fun k hk => ?_) (fun i hi => ?_) (fun i hi => ?_) ?_
      · show (∀ y ∈ scf k, y ∈ tasksS n) ∧ (scf k).length ≤ 1000
        rw [hscf k hk]
        refine ⟨fun y hy => (need_in k hk y hy).1, ?_⟩
        have h1 := need_len (sc := sc) (t := k)
        have h2 := mem_tasks.mp hk
        exact om195 hn h1 h2
      · have hi0 : i = 0 := by simpa using hi
        subst hi0
        exact M.out b (by simp)
      · have hi0 : i = 0 ∨ i = 1 := by simp at hi; exact om196 hi
        rcases hi0 with rfl | rfl
        · exact Nat.zero_le _
        · refine Nat.le_trans (decs_length (scf b) (setF (outs rd np) b (-2)) []) ?_
          rw [hscb]; show 0 + _ ≤ _; exact om197 hnl
      intro H4 s P4 S4 st
      have M2 := M.step tasks_nodup (fun _ _ => need_nodup) need_in
      have S4 : SrtL H4 F ⟨x, dx, nd, ⟨tasksS n, (decs (setF (outs rd np) b (-2)) [] (scf b)).1, scf⟩, some (decs (setF (outs rd np) b (-2)) [] (scf b)).2, back.length + row.length + rd.length, back.length + 1⟩ l := S4
      rw [hscb] at S4
      with_reducible refine openK (by assumption) ?_
      with_reducible refine wpAny_execs_nil ?_
      with_reducible refine openK (by assumption) ?_
      dsimp only
      refine ⟨n - (back ++ [b]).length, _, H4, by rw [List.length_append, List.length_singleton]; exact om198 hlen hlr, st, fun y av e => e, F, l, _, _, row2, back ++ [b], rfl, ?_, W.off, ?_, ?_, ?_, ?_, M2⟩
      · exact ⟨fun b ao e => P4.keep b ao (nF b ao e) (hS3.le _ _ e)⟩
      · have e1 : ((back ++ [b]).length : Int) = back.length + 1 := by rw [List.length_append, List.length_singleton]; push_cast; rfl
        have e2 : ((back ++ [b]).length : Int) + row2.length = back.length + row.length + rd.length := by rw [e1]; exact om199 hlr
        rw [e2, e1]
        exact S4
      · exact P4.keep _ _ (fun q => (W.off _ q).2.2.1 rfl) hr3
      · exact P4.keep _ _ (fun q => (W.off _ q).2.2.2 rfl) hb3
      · have hPe : ∀ o, H3 P = some o → H4 P = some o := fun o e => P4.keep _ _ (fun q => (W.off _ q).2.1 rfl) e
        refine hL3.keep ?_ fun b q e hnF => ⟨P4.keep _ _ hnF e, hnF⟩
        rcases hL3 with q | ⟨c', q, _⟩
        · rw [q]; exact hPe _ q
        · rw [q]; exact hPe _ q
end

theorem g_least (P : Params) : nsIn (KP P) mainGlobals "_law_least" = some (some (.ref 164)) := by kernel_rfl
theorem kp_least (P : Params) : keepIn (KP P) (.ref 164) = true := by kernel_rfl

section
variable {c : Cx} {R : Ledger} {ρ : Str → Option AV} {H Hk : Ledger} {s : Shared} {A : Around} {d n : Nat} {fA sa L' P cs co cm cd tA lA dA nA rA bA x dx nd : Addr} {sc : List Int} {nas : List Addr} {Q : Flow → Shared → Prop} {np : Int → Int} {back : List Int}

theorem loadL {E : Value → Shared → Prop} {env : Env} {y : Str} {av : AV} {Q : Value → Shared → Prop} (st : St c R ρ H s) (hv : ρ y = some av) (h : ∀ v, abs v = av → Q v s) (hL : env.locals = c.L) (hk : env.scope.kind = .function) (hx : env.kindOf y = some .local) : wpAny c.M A (loadName env y) Q E s := by
  obtain ⟨m, F, r⟩ := st.fr
  obtain ⟨v, h1, h2⟩ := r y av hv
  exact wpAny_loadName_local hk hx (hL ▸ F.ns) h1 (h v h2)
structure LL (Hk : Ledger) (co cm oA lt : Addr) (order : List Int) (L D : Int → Int) (i : Nat) (H : Ledger) : Prop where
  sub : Sub Hk H
  hoA : H oA = some (.list (order.map AV.int))
  hco : H co = some (.cell (some (.ref oA)))
  hcm : ∃ v, H cm = some (.cell v)
  ne : oA ≠ lt
  hlt : H lt = some (.list (((List.range i).map fun k => ((order.take (k + 1)).map L).sum - D (order.getD k 0)).map AV.int))
theorem LL.mono {Hk H H' : Ledger} {co cm oA lt : Addr} {order : List Int} {L D : Int → Int} {i : Nat} (x : LL Hk co cm oA lt order L D i H) (s : Sub H H') : LL Hk co cm oA lt order L D i H' :=
  ⟨x.sub.trans s, s.le _ _ x.hoA, s.le _ _ x.hco, let ⟨v, e⟩ := x.hcm; ⟨v, s.le _ _ e⟩, x.ne, s.le _ _ x.hlt⟩
theorem LL.setM {Hk H : Ledger} {co cm oA lt : Addr} {order : List Int} {L D : Int → Int} {i : Nat} {v : AV} (x : LL Hk co cm oA lt order L D i H) (kcm : Hk cm = none) (hcc : co ≠ cm) : LL Hk co cm oA lt order L D i (upd H cm (.cell (some v))) := by
  obtain ⟨w, hw⟩ := x.hcm
  have n1 : oA ≠ cm := fun q => by have this := x.hoA; first | (rw [q, hw] at this; cases this) | (rw [← q, hw] at this; cases this)
  have n2 : lt ≠ cm := fun q => by have this := x.hlt; first | (rw [q, hw] at this; cases this) | (rw [← q, hw] at this; cases this)
  exact ⟨x.sub.upd kcm, by rw [upd_ne n1]; exact x.hoA, by rw [upd_ne hcc]; exact x.hco, ⟨_, upd_self ..⟩, x.ne, by rw [upd_ne n2]; exact x.hlt⟩

theorem law_last (hK : c.G.K = KP c.G.w.params) (ok : c.Ok) (rm : Room c A 8) (hf : c.fenv = envK "law" sLaw L' fA (.ref 168) (cellsFrom (L' + 1) (scopeOf sLaw).names []))
    (hcells : c.fenv.cells = [(("dues" : Str), cd), (("m" : Str), cm), (("order" : Str), co), (("script" : Str), cs)])
    (htA : Hk tA = some (.list ((tasksS n).map AV.int))) (G : Given Hk lA dA nA n (lenS sc) (dueS sc) (needS sc) nas) (hcd : Hk cd = some (.cell (some (.ref dA)))) (kco : Hk co = none) (kcm : Hk cm = none) (hcc : co ≠ cm) (hn : n ≤ 21)
    (sub : Sub Hk H) (hco : H co = some (.cell none)) (hcm : H cm = some (.cell none)) (hb : H bA = some (.list (back.map AV.int))) (inv : LInv (tasksS n) (needS sc) (dueS sc) np [] [] back)
    (st : St c R (lk [("tasks", .ref tA), ("lengths", .ref lA), ("needs", .ref nA), ("back", .ref bA)]) H s)
    (h : ∀ ρ' H' s', Sub Hk H' → St c R ρ' H' s' → Q (.ret (.bool true)) s') :
    wpAny c.M A (execs ((bodyOf sLaw).drop 10) c.fenv) Q (fun _ _ => False) s := by
  have ok' := ok
  have good := good_of (N := n) (L := lenS sc) inv tasks_nodup need_in (fun t ht => (mem_tasks.mp ht).2) len_nonneg
  have hlen : back.length = n := by have := good.perm.length_eq; rwa [List.length_reverse, tasks_len] at this
  have hunits := rm.units
  refine execsK ?_
  intro K hStmt
  refine wpAny_Assign_Name ?_
  with_reducible refine Subscript_ ?_
  refine nameLR (hd := by decide) (by assumption) (by first | assumption | rfl) ?_ rfl (Cx.Ok.fn (by assumption)) (by first | exact kindK hf rfl | (rw [hf]; rfl) | (rw [he]; rfl))
  refine sliceE ok' ?_
  refine wpAny_pure ?_
  refine wpAny_pure ?_
  show wpAny _ _ (eval _ _) _ _ _
  with_reducible refine UnaryOp_ ?_
  with_reducible refine cInt (by assumption) ?_
  intro tok s st
  with_reducible refine negI (by assumption) ?_
  intro tok s st
  refine ⟨_, _, _, by assumption, ?_⟩
  intro sl s hsl st
  have u1 := (Sub.refl H).upd (o := slO .none .none (.int (-1) tok)) hsl
  refine revL ok' (by assumption) (.inl (u1.le _ _ hb)) (upd_self ..) (by rw [List.length_map, sizeLine_eq]; exact om200 hn hlen) ?_ (by with_unfolding_all rfl)
  intro oA s hoA st
  rw [← List.map_reverse] at st
  have u2 := u1.trans ((Sub.refl _).upd (o := .list (back.reverse.map AV.int)) hoA)
  have hoA2 : upd (upd H sl (slO .none .none (.int (-1) tok))) oA (.list (back.reverse.map AV.int)) oA = some (.list (back.reverse.map AV.int)) := upd_self ..
  generalize upd (upd H sl (slO .none .none (.int (-1) tok))) oA (.list (back.reverse.map AV.int)) = H1 at st u2 hoA2
  generalize back.reverse = order at *
  have hol : order.length = n := by have := good.perm.length_eq; rwa [tasks_len] at this
  skip
  refine storeC (a := co) (by assumption) (by rw [hcells]; rfl) (u2.le _ _ hco) ?_ ok'.fn (by first | exact kindK hf rfl | (rw [hf]; rfl) | (rw [he]; rfl))
  intro s st
  have st : St c R _ (upd H1 co (.cell (some (.ref oA)))) s := st
  have hS2 : Sub Hk (upd H1 co (.cell (some (.ref oA)))) := (sub.trans u2).upd kco
  have noA : oA ≠ co := fun q => by first | (rw [q, u2.le _ _ hco] at hoA2; cases hoA2) | (rw [← q, u2.le _ _ hco] at hoA2; cases hoA2)
  have hoA3 : upd H1 co (.cell (some (.ref oA))) oA = some (.list (order.map AV.int)) := by rw [upd_ne noA]; exact hoA2
  have hco3 : upd H1 co (.cell (some (.ref oA))) co = some (.cell (some (.ref oA))) := upd_self ..
  have hcm3 : upd H1 co (.cell (some (.ref oA))) cm = some (.cell none) := by rw [upd_ne (Ne.symm hcc)]; exact u2.le _ _ hcm
  generalize upd H1 co (.cell (some (.ref oA))) = H2 at st hS2 hoA3 hco3 hcm3
  with_reducible refine openK (by assumption) ?_
  with_reducible refine execsK ?_
  intro K hStmt
  with_reducible refine wpAny_If ?_
  with_reducible refine wpAny_isTrue_Compare1 ?_
  refine callName (he := by rfl) ?_
  refine nameB (hd := by decide) (by assumption) (by assumption) (by rw [hK]; kernel_rfl) (by first | with_reducible exact bb_len | with_reducible exact bb_list | with_reducible exact bb_range | with_reducible exact bb_abs | with_reducible exact bb_sorted | with_reducible exact bb_max | with_reducible exact bb_min | with_reducible exact bb_sum | with_reducible exact bb_tuple | with_reducible exact bb_set | with_reducible exact bb_iter | with_reducible exact bb_bool | with_reducible exact bb_dict | with_reducible exact bb_divmod | with_reducible exact bb_enumerate | with_reducible exact bb_zip) (by decide) ?_ (Cx.Ok.glob (by assumption)) (Cx.Ok.blt (by assumption)) (Cx.Ok.fn (by assumption)) (by first | exact kindK hf rfl | (rw [hf]; rfl) | (rw [he]; rfl))
  refine cw (he := by rfl) ?_
  dsimp only [Args_]
  refine nameC (hd := by decide) (by assumption) (by rw [hcells]; rfl) (by assumption) ?_ (Cx.Ok.fn (by assumption)) (by first | exact kindK hf rfl | (rw [hf]; rfl) | (rw [he]; rfl))
  refine gotRA ?_
  (first | refine ⟨trivial, ?_⟩ | refine ⟨stands_K (by assumption) (by assumption) (by (rw [hK]; first | with_reducible exact k_bisect _ | with_reducible exact k_insort _ | with_reducible exact k_info _ | with_reducible exact k_sorter _ | with_reducible exact k98 _ | with_reducible exact k105 _ | with_reducible exact k110 _ | with_reducible exact k117 _ | with_reducible exact k124 _ | with_reducible exact k138 _ | with_reducible exact k145 _ | with_reducible exact kp_least _)), ?_⟩)
  (try dsimp only [List.nil_append, List.cons_append])
  refine sortedL ok' (by assumption) (.inl hoA3) (by exact om201 hn hol) ?_
  intro so ns s hso hperm hsrt st
  have hns : ns = tasksS n := List.Perm.eq_of_pairwise (le := (· ≤ ·)) (fun a b _ _ h1 h2 => Int.le_antisymm h1 h2) hsrt tasks_sorted (hperm.trans good.perm)
  subst hns
  have u3 := (Sub.refl H2).upd (o := .list ((tasksS n).map AV.int)) hso
  have hso3 : upd H2 so (.list ((tasksS n).map AV.int)) so = some (.list ((tasksS n).map AV.int)) := upd_self ..
  have hS3 := hS2.trans u3
  have hoA4 := u3.le _ _ hoA3
  have hco4 := u3.le _ _ hco3
  have hcm4 := u3.le _ _ hcm3
  generalize upd H2 so (.list ((tasksS n).map AV.int)) = H3 at st hso3 hS3 hoA4 hco4 hcm4
  refine nameLR (hd := by decide) (by assumption) (by first | assumption | rfl) ?_ rfl (Cx.Ok.fn (by assumption)) (by first | exact kindK hf rfl | (rw [hf]; rfl) | (rw [he]; rfl))
  refine neL (by assumption) (.inl hso3) (.inl (hS3.le _ _ htA)) (by exact om202 hunits) ?_
  with_reducible refine wpAny_truthy_bool ?_
  refine ifN (by simp) ?_
  with_reducible refine wpAny_execs_nil ?_
  with_reducible refine openK (by assumption) ?_
  with_reducible refine execsK ?_
  intro K hStmt
  refine wpAny_Assign_Name ?_
  with_reducible refine cInt (by assumption) ?_
  intro tok s st
  refine storeL (by assumption) ?_ rfl (Cx.Ok.fn (by assumption)) (by first | exact kindK hf rfl | (rw [hf]; rfl) | (rw [he]; rfl))
  intro s st
  with_reducible refine openK (by assumption) ?_
  with_reducible refine execsK ?_
  intro K hStmt
  refine wpAny_Assign_Name ?_
  refine listE (he := by rfl) ?_
  dsimp only [Args_]
  refine newL ok' (by assumption) (by decide) ?_
  intro lt s hlt st
  have u5 := (Sub.refl H3).upd (o := .list []) hlt
  have I : LL Hk co cm oA lt order (lenS sc) (dueS sc) 0 (upd H3 lt (.list [])) := ⟨hS3.trans u5, u5.le _ _ hoA4, u5.le _ _ hco4, ⟨_, u5.le _ _ hcm4⟩, (fun q => by first | (rw [q, hoA4] at hlt; cases hlt) | (rw [← q, hoA4] at hlt; cases hlt)), upd_self ..⟩
  have st : St c R _ (upd H3 lt (.list [])) s := st
  have hklt : Hk lt = none := by
    cases e : Hk lt with
    | none => rfl
    | some ao => rw [hS3.le _ _ e] at hlt; cases hlt
  generalize upd H3 lt (.list []) = H4 at st I
  refine storeL (by assumption) ?_ rfl (Cx.Ok.fn (by assumption)) (by first | exact kindK hf rfl | (rw [hf]; rfl) | (rw [he]; rfl))
  intro s st
  with_reducible refine openK (by assumption) ?_
  with_reducible refine execsK ?_
  intro K hStmt
  refine wpAny_For ?_
  refine nameLR (hd := by decide) (by assumption) (by first | assumption | rfl) ?_ rfl (Cx.Ok.fn (by assumption)) (by first | exact kindK hf rfl | (rw [hf]; rfl) | (rw [he]; rfl))
  refine iterL ok' (by assumption) (.inl (I.sub.le _ _ htA)) ?_
  intro it s hit hRit st
  refine forLoopR (ht := by intro _; rfl) (itr_list rm.handled) hRit st (fun i ρ' H' => (∀ y av, lk [("tasks", .ref tA), ("lengths", .ref lA), ("needs", .ref nA), ("late", .ref lt), ("end", .int ((order.take i).map (lenS sc)).sum)] y = some av → ρ' y = some av) ∧ LL Hk co cm oA lt order (lenS sc) (dueS sc) i H')
    (fun i ρ' H' q => .inl (q.2.sub.le _ _ htA)) ⟨fun y av e => AllIn.mem (l := [("tasks", .ref tA), ("lengths", .ref lA), ("needs", .ref nA), ("late", .ref lt), ("end", .int ((order.take 0).map (lenS sc)).sum)]) ⟨rfl, rfl, rfl, rfl, rfl, trivial⟩ y av e, I⟩ ?_ ?_
  · intro i av R' ρ' H' s' v hi hR  hJJ st hv K hTurn
    obtain ⟨hρ, I⟩ := hJJ
    rw [List.getElem?_map] at hi
    obtain ⟨t, hti, rfl⟩ := Option.map_eq_some_iff.mp hi
    obtain ⟨rfl, hin⟩ := tasks_take hti
    obtain ⟨tok, rfl⟩ := abs_int hv
    have st := st.weaken hρ
    obtain ⟨v0, hv0⟩ := I.hcm
    have hio : i < order.length := by exact om203 hol hin
    with_reducible refine wpAny_assign_Name ?_
    refine storeC (a := cm) (by assumption) (by rw [hcells]; rfl) hv0 ?_ ok'.fn (by first | exact kindK hf rfl | (rw [hf]; rfl) | (rw [he]; rfl))
    intro s st
    have I := I.setM (v := .int i) kcm hcc
    have hcm5 : upd H' cm (.cell (some (.int i))) cm = some (.cell (some (.int i))) := upd_self ..
    have st : St c R' _ (upd H' cm (.cell (some (.int i)))) s := st
    generalize upd H' cm (.cell (some (.int i))) = H5 at st I hcm5
    have hco5 := I.hco
    have hcd5 := I.sub.le _ _ hcd
    with_reducible refine execsK ?_
    intro K hStmt
    refine wpAny_Assign_Name ?_
    with_reducible refine Subscript_ ?_
    refine nameC (hd := by decide) (by assumption) (by rw [hcells]; rfl) (by assumption) ?_ (Cx.Ok.fn (by assumption)) (by first | exact kindK hf rfl | (rw [hf]; rfl) | (rw [he]; rfl))
    refine gotRA ?_
    refine nameC (hd := by decide) (by assumption) (by rw [hcells]; rfl) (by assumption) ?_ (Cx.Ok.fn (by assumption)) (by first | exact kindK hf rfl | (rw [hf]; rfl) | (rw [he]; rfl))
    refine gotIA ?_
    intro tok
    refine idxL (hs := by with_unfolding_all rfl) (by assumption) (.inl I.hoA) (by exact om34) (av := .int order[i]) (by rw [Int.toNat_natCast, List.getElem?_map, List.getElem?_eq_getElem hio]; rfl) (by exact om170 hn hin) ?_
    refine gotIA ?_
    intro tok
    have htm := mem_tasks.mp (good.perm.mem_iff.mp (List.getElem_mem hio))
    have hget : order.getD i 0 = order[i] := by rw [List.getD_eq_getElem?_getD, List.getElem?_eq_getElem hio]; rfl
    have hneed := good.need i hio
    have htake : order.take (i + 1) = order.take i ++ [order[i]] := take_succ' (List.getElem?_eq_getElem hio)
    generalize hto : order[i] = t at *
    have hbt : t.toNat < nas.length := by rw [G.nlen]; exact om204 htm
    refine storeL (by assumption) ?_ rfl (Cx.Ok.fn (by assumption)) (by first | exact kindK hf rfl | (rw [hf]; rfl) | (rw [he]; rfl))
    intro s st
    with_reducible refine openK (by assumption) ?_
    with_reducible refine execsK ?_
    intro K hStmt
    with_reducible refine wpAny_If ?_
    with_reducible refine wpAny_isTrue_Compare1 ?_
    refine compL (hs := by intro _; rfl) (ht := by intro _ _; rfl) ok' ((closure_cells hcells).trans rfl) (by kernel_rfl) (by kernel_rfl) ?_
    with_reducible refine Subscript_ ?_
    refine nameLR (hd := by decide) (by assumption) (by first | assumption | rfl) ?_ rfl (Cx.Ok.fn (by assumption)) (by first | exact kindK hf rfl | (rw [hf]; rfl) | (rw [he]; rfl))
    refine nameLI (hd := by decide) (by assumption) (by first | assumption | rfl) ?_ rfl (Cx.Ok.fn (by assumption)) (by first | exact kindK hf rfl | (rw [hf]; rfl) | (rw [he]; rfl))
    intro tok
    refine idxL (hs := by with_unfolding_all rfl) (by assumption) (.inl (I.sub.le _ _ G.need)) htm.1 (av := .ref nas[t.toNat]) (by rw [List.getElem?_map, List.getElem?_eq_getElem hbt]; rfl) (by exact om205 hn htm) ?_
    refine gotRA ?_
    have hnt := G.each t.toNat nas[t.toNat] (List.getElem?_eq_getElem hbt)
    rw [show ((t.toNat : Nat) : Int) = t by exact om206 htm] at hnt
    have hnl := need_len (sc := sc) (t := t)
    skip
    refine iterL ok' (by assumption) (.inl (I.sub.le _ _ hnt)) ?_
    intro it2 s hit2 hRit2 st
    refine CompIs.mk (xs := (needS sc t).map AV.int) (itr_list rm.handled) hRit2 st (by rw [List.length_map, sizeLine_eq]; exact om207 hn htm hnl) (fun C j acc H' => H5 C = none ∧ acc = [] ∧ (∃ r, H' C = some (.ns r)) ∧ Sub H5 H') ?_ ?_ ?_ ?_
    · rintro C j acc H' ⟨hC, rfl, hr, hs⟩
      exact ⟨.inl (hs.le _ _ (I.sub.le _ _ hnt)), hr⟩
    · intro C hC
      have hC0 : H5 C = none := by
        cases e : H5 C with
        | none => rfl
        | some ao => exact absurd (hC C (by rw [e]; intro q; cases q)) (Nat.lt_irrefl _)
      exact ⟨hC0, rfl, ⟨_, upd_self ..⟩, (Sub.refl _).upd hC0⟩
    · intro C cenv j av R'' acc H' s' v he hj  hJJ st hv KE hElt KN hNo
      obtain ⟨hC, rfl, ⟨r, hr⟩, hs⟩ := hJJ
      rw [List.getElem?_map] at hj
      obtain ⟨k, hkj, rfl⟩ := Option.map_eq_some_iff.mp hj
      obtain ⟨tok, rfl⟩ := abs_int hv
      have hkn := hneed k (List.mem_of_getElem? hkj)
      have hL : cenv.locals = C := by rw [he]; rfl
      with_reducible refine wpAny_assign_Name ?_
      refine storeN (by assumption) (r := r) (by rw [hL]; exact hr) ?_ (by rw [he]; rfl) (by rw [he]; rfl)
      intro s st
      rw [hL] at st
      have hs6 : Sub H5 (upd H' C (.ns (put r "i" (.int k)))) := hs.upd hC
      have st : St c R'' _ (upd H' C (.ns (put r "i" (.int k)))) s := st
      have hco6 := hs6.le _ _ hco5
      have hcm6 := hs6.le _ _ hcm5
      refine wpAny_tests_one ?_
      rw [hf] at he
      with_reducible refine wpAny_isTrue_Compare1 ?_
      refine nameN (hd := by decide) (by assumption) (by rw [hL]; exact upd_self ..) (by first | exact put_self .. | (rw [put_ne (by decide)]; exact put_self ..)) ?_ (by rw [he]; rfl) (by rw [he]; rfl)
      refine gotIA ?_
      intro tok
      with_reducible refine Subscript_ ?_
      refine nameC (hd := by decide) (by assumption) (by rw [he]; rfl) (by assumption) ?_ (by rw [he]; rfl) (by first | (rw [he, hf]; rfl) | (rw [he]; rfl))
      refine gotRA ?_
      refine sliceE ok' ?_
      refine wpAny_pure ?_
      show wpAny _ _ (eval _ _) _ _ _
      refine nameC (hd := by decide) (by assumption) (by rw [he]; rfl) (by assumption) ?_ (by rw [he]; rfl) (by first | (rw [he, hf]; rfl) | (rw [he]; rfl))
      refine gotIA ?_
      intro tok
      refine wpAny_pure ?_
      refine ⟨_, _, _, by assumption, ?_⟩
      intro sl s hsl st
      have u1 := (Sub.refl (upd H' C (.ns (put r "i" (.int k))))).upd (o := slO .none (.int i tok) .none) hsl
      refine uptoL ok' (by assumption) (xs := order.map AV.int) (.inl (u1.le _ _ (hs6.le _ _ I.hoA))) (upd_self ..) (by exact om34) (by rw [List.length_map, sizeLine_eq]; exact om200 hn hol) ?_ (by with_unfolding_all rfl)
      intro D s hD st
      rw [Int.toNat_natCast, ← List.map_take] at st
      have u2 := u1.trans ((Sub.refl _).upd (o := .list ((order.take i).map AV.int)) hD)
      refine notInL (by assumption) (.inl (upd_self ..)) ?_
      with_reducible refine wpAny_truthy_bool ?_
      refine ifN (by rw [List.contains_iff_mem.mpr hkn]; exact Bool.false_ne_true) ?_
      with_reducible refine openS (by assumption) ?_
      exact ⟨_, st, hC, rfl, ⟨_, u2.le _ _ (upd_self ..)⟩, hs6.trans u2⟩
    · rintro D2 C2 acc2 H'' s' hD2 ⟨hC, rfl, ⟨r2, hr2⟩, hs⟩ hD' hDC st
      have u6 : Sub H5 (upd (del H'' C2) D2 (.list [])) := by
        refine ⟨fun b ao e => ?_⟩
        rw [upd_ne (fun q => by first | (rw [q, hD2] at e; cases e) | (rw [← q, hD2] at e; cases e)), del_ne (fun q => by first | (rw [q, hC] at e; cases e) | (rw [← q, hC] at e; cases e))]
        exact hs.le _ _ e
      have hD26 : upd (del H'' C2) D2 (.list []) D2 = some (.list []) := upd_self ..
      generalize upd (del H'' C2) D2 (.list []) = H6 at st u6 hD26
      have I := I.mono u6
      refine listE (he := by rfl) ?_
      dsimp only [Args_]
      refine newL ok' (by assumption) (by decide) ?_
      intro e2 s he2 st
      have u7 := (Sub.refl H6).upd (o := .list []) he2
      have I := I.mono u7
      have hD27 := u7.le _ _ hD26
      have he27 : upd H6 e2 (.list []) e2 = some (.list []) := upd_self ..
      have u67 := u6.trans u7
      have st : St c R' _ (upd H6 e2 (.list [])) s := st
      generalize upd H6 e2 (.list []) = H7 at st I hD27 he27 u67
      have hco7 := u67.le _ _ hco5
      have hcm7 := u67.le _ _ hcm5
      have hcd7 := u67.le _ _ hcd5
      refine neL (ns := []) (ms := []) (by assumption) (.inl hD27) (.inl he27) (by exact om202 hunits) ?_
      with_reducible refine wpAny_truthy_bool ?_
      refine ifN (by simp) ?_
      with_reducible refine wpAny_execs_nil ?_
      with_reducible refine openK (by assumption) ?_
      with_reducible refine execsK ?_
      intro K hStmt
      with_reducible refine wpAny_AugAssign_Name ?_
      refine loadL (by assumption) (av := .int ((order.take i).map (lenS sc)).sum) (by first | assumption | rfl) ?_ rfl ok'.fn (by first | exact kindK hf rfl | (rw [hf]; rfl) | (rw [he]; rfl))
      refine gotIA ?_
      intro tok
      with_reducible refine Subscript_ ?_
      refine nameLR (hd := by decide) (by assumption) (by first | assumption | rfl) ?_ rfl (Cx.Ok.fn (by assumption)) (by first | exact kindK hf rfl | (rw [hf]; rfl) | (rw [he]; rfl))
      refine nameLI (hd := by decide) (by assumption) (by first | assumption | rfl) ?_ rfl (Cx.Ok.fn (by assumption)) (by first | exact kindK hf rfl | (rw [hf]; rfl) | (rw [he]; rfl))
      intro tok
      refine idxL (hs := by with_unfolding_all rfl) (by assumption) (.inl (I.sub.le _ _ G.len)) htm.1 (idx_rng htm.1 htm.2) (by exact om205 hn htm) ?_
      refine gotIA ?_
      intro tok
      with_reducible refine iaddI (by assumption) ?_
      intro tok s st
      refine storeL (by assumption) ?_ rfl (Cx.Ok.fn (by assumption)) (by first | exact kindK hf rfl | (rw [hf]; rfl) | (rw [he]; rfl))
      intro s st
      with_reducible refine openK (by assumption) ?_
      with_reducible refine execsK ?_
      intro K hStmt
      refine exprV (hs := by rfl) (Cx.Ok.fn (by assumption)) ?_
      refine callMeth (he := by rfl) ?_
      refine nameLR (hd := by decide) (by assumption) (by first | assumption | rfl) ?_ rfl (Cx.Ok.fn (by assumption)) (by first | exact kindK hf rfl | (rw [hf]; rfl) | (rw [he]; rfl))
      refine methL (by assumption) I.hlt PySem.F.slot_list_append PySem.F.type_list_append ?_
      refine cw (he := by rfl) ?_
      dsimp only [Args_]
      with_reducible refine wpAny_BinOp ?_
      refine nameLI (hd := by decide) (by assumption) (by first | assumption | rfl) ?_ rfl (Cx.Ok.fn (by assumption)) (by first | exact kindK hf rfl | (rw [hf]; rfl) | (rw [he]; rfl))
      intro tok
      with_reducible refine Subscript_ ?_
      refine nameC (hd := by decide) (by assumption) (by rw [hcells]; rfl) (by assumption) ?_ (Cx.Ok.fn (by assumption)) (by first | exact kindK hf rfl | (rw [hf]; rfl) | (rw [he]; rfl))
      refine gotRA ?_
      refine nameLI (hd := by decide) (by assumption) (by first | assumption | rfl) ?_ rfl (Cx.Ok.fn (by assumption)) (by first | exact kindK hf rfl | (rw [hf]; rfl) | (rw [he]; rfl))
      intro tok
      refine idxL (hs := by with_unfolding_all rfl) (by assumption) (.inl (I.sub.le _ _ G.due)) htm.1 (idx_rng htm.1 htm.2) (by exact om205 hn htm) ?_
      refine gotIA ?_
      intro tok
      with_reducible refine subI (by assumption) ?_
      intro tok s st
      (first | refine ⟨trivial, ?_⟩ | refine ⟨stands_K (by assumption) (by assumption) (by (rw [hK]; first | with_reducible exact k_bisect _ | with_reducible exact k_insort _ | with_reducible exact k_info _ | with_reducible exact k_sorter _ | with_reducible exact k98 _ | with_reducible exact k105 _ | with_reducible exact k110 _ | with_reducible exact k117 _ | with_reducible exact k124 _ | with_reducible exact k138 _ | with_reducible exact k145 _ | with_reducible exact kp_least _)), ?_⟩)
      (try dsimp only [List.nil_append, List.cons_append])
      refine appendL (by assumption) I.hlt (by rw [List.length_map, List.length_map, List.length_range, sizeLine_eq]; exact om208 hn hin) ?_
      intro s st
      have hsum : ((order.take i).map (lenS sc)).sum + lenS sc t = ((order.take (i + 1)).map (lenS sc)).sum := by rw [htake]; simp
      have hlate : (((List.range i).map fun k => ((order.take (k + 1)).map (lenS sc)).sum - dueS sc (order.getD k 0)).map AV.int) ++ [AV.int (((order.take i).map (lenS sc)).sum + lenS sc t - dueS sc t)] = (lateL order (lenS sc) (dueS sc) i).map AV.int := by
        unfold lateL
        rw [List.range_succ, List.map_append, List.map_append, hsum]
        simp only [List.map_cons, List.map_nil, hget]
      have nlt : ∀ b, H7 b = H7 lt → b ≠ lt → upd H7 lt (.list ((lateL order (lenS sc) (dueS sc) i).map AV.int)) b = H7 b := fun b _ q => upd_ne q
      have st : St c R' _ (upd H7 lt (.list ((((List.range i).map fun k => ((order.take (k + 1)).map (lenS sc)).sum - dueS sc (order.getD k 0)).map AV.int) ++ [AV.int (((order.take i).map (lenS sc)).sum + lenS sc t - dueS sc t)]))) s := st
      rw [hlate] at st
      have I8 : LL Hk co cm oA lt order (lenS sc) (dueS sc) (i + 1) (upd H7 lt (.list ((lateL order (lenS sc) (dueS sc) i).map AV.int))) := by
        obtain ⟨v0, hv0⟩ := I.hcm
        have n1 : oA ≠ lt := I.ne
        have n2 : co ≠ lt := fun q => by have this := I.hlt; first | (rw [q, I.hco] at this; cases this) | (rw [← q, I.hco] at this; cases this)
        have n3 : cm ≠ lt := fun q => by have this := I.hlt; first | (rw [q, hv0] at this; cases this) | (rw [← q, hv0] at this; cases this)
        exact ⟨I.sub.upd hklt, by rw [upd_ne n1]; exact I.hoA, by rw [upd_ne n2]; exact I.hco, ⟨v0, by rw [upd_ne n3]; exact hv0⟩, n1, upd_self ..⟩
      have n2 : co ≠ lt := fun q => by have this := I.hlt; first | (rw [q, I.hco] at this; cases this) | (rw [← q, I.hco] at this; cases this)
      have n3 : cm ≠ lt := fun q => by have this := I.hlt; first | (rw [q, hcm7] at this; cases this) | (rw [← q, hcm7] at this; cases this)
      have n4 : cd ≠ lt := fun q => by have this := I.hlt; first | (rw [q, hcd7] at this; cases this) | (rw [← q, hcd7] at this; cases this)
      have hco8 : upd H7 lt (.list ((lateL order (lenS sc) (dueS sc) i).map AV.int)) co = some (.cell (some (.ref oA))) := by rw [upd_ne n2]; exact hco7
      have hcm8 : upd H7 lt (.list ((lateL order (lenS sc) (dueS sc) i).map AV.int)) cm = some (.cell (some (.int i))) := by rw [upd_ne n3]; exact hcm7
      have hcd8 : upd H7 lt (.list ((lateL order (lenS sc) (dueS sc) i).map AV.int)) cd = some (.cell (some (.ref dA))) := by rw [upd_ne n4]; exact hcd7
      generalize upd H7 lt (.list ((lateL order (lenS sc) (dueS sc) i).map AV.int)) = H8 at st I8 hco8 hcm8 hcd8
      have hlt8 : H8 lt = some (.list ((lateL order (lenS sc) (dueS sc) i).map AV.int)) := I8.hlt
      with_reducible refine openK (by assumption) ?_
      with_reducible refine execsK ?_
      intro K hStmt
      with_reducible refine wpAny_If ?_
      with_reducible refine wpAny_isTrue_Compare1 ?_
      refine callName (he := by rfl) ?_
      refine nameB (hd := by decide) (by assumption) (by assumption) (by rw [hK]; kernel_rfl) (by first | with_reducible exact bb_len | with_reducible exact bb_list | with_reducible exact bb_range | with_reducible exact bb_abs | with_reducible exact bb_sorted | with_reducible exact bb_max | with_reducible exact bb_min | with_reducible exact bb_sum | with_reducible exact bb_tuple | with_reducible exact bb_set | with_reducible exact bb_iter | with_reducible exact bb_bool | with_reducible exact bb_dict | with_reducible exact bb_divmod | with_reducible exact bb_enumerate | with_reducible exact bb_zip) (by decide) ?_ (Cx.Ok.glob (by assumption)) (Cx.Ok.blt (by assumption)) (Cx.Ok.fn (by assumption)) (by first | exact kindK hf rfl | (rw [hf]; rfl) | (rw [he]; rfl))
      refine cw (he := by rfl) ?_
      dsimp only [Args_]
      refine nameLR (hd := by decide) (by assumption) (by first | assumption | rfl) ?_ rfl (Cx.Ok.fn (by assumption)) (by first | exact kindK hf rfl | (rw [hf]; rfl) | (rw [he]; rfl))
      (first | refine ⟨trivial, ?_⟩ | refine ⟨stands_K (by assumption) (by assumption) (by (rw [hK]; first | with_reducible exact k_bisect _ | with_reducible exact k_insort _ | with_reducible exact k_info _ | with_reducible exact k_sorter _ | with_reducible exact k98 _ | with_reducible exact k105 _ | with_reducible exact k110 _ | with_reducible exact k117 _ | with_reducible exact k124 _ | with_reducible exact k138 _ | with_reducible exact k145 _ | with_reducible exact kp_least _)), ?_⟩)
      (try dsimp only [List.nil_append, List.cons_append])
      refine maxL rm.handled (by assumption) (.inl hlt8) (by unfold lateL; rw [List.length_map, List.length_range]; exact om209) ?_
      intro M' tok s hM1 hM2 st
      refine callName (he := by rfl) ?_
      refine nameG (hd := by decide) ok' (by assumption) (v := .ref 164) (by rw [hK]; exact g_least _) ?_ ok'.glob ok'.fn (by first | exact kindK hf rfl | (rw [hf]; rfl) | (rw [he]; rfl))
      refine cw (he := by rfl) ?_
      dsimp only [Args_]
      with_reducible refine Subscript_ ?_
      refine nameC (hd := by decide) (by assumption) (by rw [hcells]; rfl) (by assumption) ?_ (Cx.Ok.fn (by assumption)) (by first | exact kindK hf rfl | (rw [hf]; rfl) | (rw [he]; rfl))
      refine gotRA ?_
      refine sliceE ok' ?_
      refine wpAny_pure ?_
      show wpAny _ _ (eval _ _) _ _ _
      with_reducible refine wpAny_BinOp ?_
      refine nameC (hd := by decide) (by assumption) (by rw [hcells]; rfl) (by assumption) ?_ (Cx.Ok.fn (by assumption)) (by first | exact kindK hf rfl | (rw [hf]; rfl) | (rw [he]; rfl))
      refine gotIA ?_
      intro tok
      with_reducible refine cInt (by assumption) ?_
      intro tok s st
      with_reducible refine addI (by assumption) ?_
      intro tok s st
      refine wpAny_pure ?_
      refine ⟨_, _, _, by assumption, ?_⟩
      intro sl s hsl st
      have u9 := (Sub.refl H8).upd (o := slO .none (.int ((i : Int) + 1) tok) .none) hsl
      refine uptoL ok' (by assumption) (xs := order.map AV.int) (.inl (u9.le _ _ I8.hoA)) (upd_self ..) (by exact om210) (by rw [List.length_map, sizeLine_eq]; exact om200 hn hol) ?_ (by with_unfolding_all rfl)
      intro oD s hoD st
      rw [show ((i : Int) + 1).toNat = i + 1 by exact om211, ← List.map_take] at st
      have u10 := u9.trans ((Sub.refl _).upd (o := .list ((order.take (i + 1)).map AV.int)) hoD)
      have hoD10 : upd (upd H8 sl (slO .none (.int ((i : Int) + 1) tok) .none)) oD (.list ((order.take (i + 1)).map AV.int)) oD = some (.list ((order.take (i + 1)).map AV.int)) := upd_self ..
      generalize upd (upd H8 sl (slO .none (.int ((i : Int) + 1) tok) .none)) oD (.list ((order.take (i + 1)).map AV.int)) = H9 at st u10 hoD10
      have hco9 := u10.le _ _ hco8
      have hcm9 := u10.le _ _ hcm8
      have hcd9 := u10.le _ _ hcd8
      have I9 := I8.mono u10
      refine nameLR (hd := by decide) (by assumption) (by first | assumption | rfl) ?_ rfl (Cx.Ok.fn (by assumption)) (by first | exact kindK hf rfl | (rw [hf]; rfl) | (rw [he]; rfl))
      refine nameC (hd := by decide) (by assumption) (by rw [hcells]; rfl) (by assumption) ?_ (Cx.Ok.fn (by assumption)) (by first | exact kindK hf rfl | (rw [hf]; rfl) | (rw [he]; rfl))
      refine gotRA ?_
      refine nameLR (hd := by decide) (by assumption) (by first | assumption | rfl) ?_ rfl (Cx.Ok.fn (by assumption)) (by first | exact kindK hf rfl | (rw [hf]; rfl) | (rw [he]; rfl))
      (first | refine ⟨trivial, ?_⟩ | refine ⟨stands_K (by assumption) (by assumption) (by (rw [hK]; first | with_reducible exact k_bisect _ | with_reducible exact k_insort _ | with_reducible exact k_info _ | with_reducible exact k_sorter _ | with_reducible exact k98 _ | with_reducible exact k105 _ | with_reducible exact k110 _ | with_reducible exact k117 _ | with_reducible exact k124 _ | with_reducible exact k138 _ | with_reducible exact k145 _ | with_reducible exact kp_least _)), ?_⟩)
      (try dsimp only [List.nil_append, List.cons_append])
      have hond : order.Nodup := good.perm.nodup_iff.mpr tasks_nodup
      have hosub : ∀ t ∈ order.take (i + 1), 0 ≤ t ∧ t < n := fun t ht => mem_tasks.mp (good.perm.mem_iff.mp (List.mem_of_mem_take ht))
      refine least_spec (d := 7) hK ok' rm (by assumption) (G.mono I9.sub) hoD10 (hond.sublist (List.take_sublist _ _)) (by rw [htake]; simp) (by rw [List.length_take]; exact om212 hn hol) (by exact om178 hn) hosub (good.closed (i + 1)) ?_
      intro us M tokM H10 s hup hus hMm hMx hS10 st
      with_reducible refine neI ?_
      with_reducible refine wpAny_truthy_bool ?_
      have hMM := good.best i hio us hup hus M M' hMm hMx hM1 hM2
      refine ifN (by rw [hMM]; simp) ?_
      with_reducible refine wpAny_execs_nil ?_
      with_reducible refine openK (by assumption) ?_
      with_reducible refine wpAny_execs_nil ?_
      with_reducible refine openK (by assumption) ?_
      dsimp only
      refine ⟨_, _, st, fun y av e => AllIn.mem (l := [("tasks", .ref tA), ("lengths", .ref lA), ("needs", .ref nA), ("late", .ref lt), ("end", .int ((order.take (i + 1)).map (lenS sc)).sum)]) ⟨rfl, rfl, rfl, rfl, by rw [← hsum]; rfl, trivial⟩ y av e, I9.mono hS10⟩
  · rintro ρ' H' s' ⟨hρ, I⟩ st
    have st := st.weaken hρ
    with_reducible refine wpAny_execs_nil ?_
    with_reducible refine openK (by assumption) ?_
    with_reducible refine execsK ?_
    intro K hStmt
    with_reducible refine wpAny_Return_some ?_
    with_reducible refine wpAny_Constant_bool ?_
    with_reducible refine openK (by assumption) ?_
    dsimp only
    exact h _ _ _ I.sub st
end


section
variable {c : Cx} {R : Ledger} {ρ : Str → Option AV} {H : Ledger} {s : Shared} {A : Around} {fA sa L' P cs co cm cd : Addr} {sc : List Int} {Q : Flow → Shared → Prop}

theorem law_body (hK : c.G.K = KP c.G.w.params) (ok : c.Ok) (rm : Room c A 8) (hout : c.outer = []) (hf : c.fenv = envK "law" sLaw L' fA (.ref 168) (cellsFrom (L' + 1) (scopeOf sLaw).names [])) (C : CodeHd c.h₀ 168 P)
    (hcells : c.fenv.cells = [(("dues" : Str), cd), (("m" : Str), cm), (("order" : Str), co), (("script" : Str), cs)])
    (hcs : H cs = some (.cell (some (.ref sa)))) (hco : H co = some (.cell none)) (hcm : H cm = some (.cell none)) (hcd : H cd = some (.cell none)) (hdis : [cd, cm, co, cs].Nodup)
    (hP : H P = some (tabO #[])) (hsa : SeesL c H sa (sc.map AV.int)) (hz : sc.length ≤ 63) (st : St c R ρ H s)
    (h : ∀ ρ' H' s' ps, H' P = some (tabO ps) → St c R ρ' H' s' → Q (.ret (.bool true)) s') :
    wpAny c.M A (execs (bodyOf sLaw) c.fenv) Q (fun _ _ => False) s := by
  obtain ⟨n, hn⟩ : ∃ n : Nat, n = sc.length / 3 := ⟨_, rfl⟩
  have hn21 : n ≤ 21 := by exact om213 hz hn
  refine law_a hK ok rm hout hf C hcells hcs hco hcm hcd hdis hP hsa hz hn st ?_
  clear hcs hco hcm hcd hP hsa st
  intro tA lA dA nA nas H1 s X st
  refine law_sort hK ok rm hout hf X.htA X.G hn21 st ?_
  rintro ⟨x, dx, nd, ⟨ks, np, scf⟩, rd, po, nf⟩ F l H2 s hS2 hF2 S2 hrd hpo hnf B st
  obtain rfl : rd = some (ks.filter fun k => np k == 0) := hrd
  obtain rfl : po = 0 := hpo
  obtain rfl : nf = 0 := hnf
  obtain rfl : ks = tasksS n := B.ks
  refine wpAny_execs_cons ?_
  refine wpAny_Assign_Name ?_
  refine listE (he := by rfl) ?_
  dsimp only [Args_]
  refine newL ok (by assumption) (by decide) ?_
  intro rA s hrA st
  refine storeL (by assumption) ?_ rfl ok.fn (by rw [hf]; rfl)
  intro s st
  have u3 := (Sub.refl H2).upd (o := .list []) hrA
  have hrA3 : upd H2 rA (.list []) rA = some (.list []) := upd_self ..
  have st : St c R _ (upd H2 rA (.list [])) s := st
  generalize upd H2 rA (.list []) = H3 at st u3 hrA3
  refine wpAny_execs_cons ?_
  refine wpAny_Assign_Name ?_
  refine listE (he := by rfl) ?_
  dsimp only [Args_]
  refine newL ok (by assumption) (by decide) ?_
  intro bA s hbA st
  refine storeL (by assumption) ?_ rfl ok.fn (by rw [hf]; rfl)
  intro s st
  have u4 := u3.trans ((Sub.refl H3).upd (o := .list []) hbA)
  have hrA4 := ((Sub.refl H3).upd (o := .list []) hbA).le _ _ hrA3
  have hbA4 : upd H3 bA (.list []) bA = some (.list []) := upd_self ..
  have hrb : rA ≠ bA := fun q => by first | (rw [q, hrA3] at hbA; cases hbA) | (rw [← q, hrA3] at hbA; cases hbA)
  have hbA2 : H2 bA = none := by
    cases e : H2 bA with
    | none => rfl
    | some ao => rw [u3.le _ _ e] at hbA; cases hbA
  have st : St c R _ (upd H3 bA (.list [])) s := st
  generalize upd H3 bA (.list []) = H4 at st u4 hrA4 hbA4
  have st := st.names (NMw tA lA nA x rA bA) ⟨rfl, rfl, rfl, rfl, rfl, rfl, trivial⟩
  have none1 : ∀ b, H2 b = none → H1 b = none := fun b q => by
    cases e : H1 b with
    | none => rfl
    | some ao => rw [hS2.le _ _ e] at q; cases q
  have k1 : ∀ b ao, H1 b = some ao → b ≠ P → del H1 P b = some ao := fun b ao e q => by rw [del_ne q]; exact e
  have hsub1 : Sub (del H1 P) H4 := ⟨fun b ao e => by
    have q : b ≠ P := fun q => by first | (rw [q, del_self] at e; cases e) | (rw [← q, del_self] at e; cases e)
    rw [del_ne q] at e
    exact u4.le _ _ (hS2.le _ _ e)⟩
  have hnone : ∀ b, H1 b = none → del H1 P b = none := fun b q => by
    by_cases e : b = P
    · subst e; exact del_self ..
    · rw [del_ne e]; exact q
  have W : WInv (del H1 P) P rA bA x dx nd n sc scf H4 F l np ((tasksS n).filter fun k => np k == 0) [] [] := by
    refine ⟨hsub1, fun b hb => ⟨hnone b (hF2 b hb), ?_, ?_, ?_⟩, S2.mono u4, hrA4, hbA4, .inl (u4.le _ _ (hS2.le _ _ X.hP)), linv0 B tasks_nodup⟩
    · rintro rfl; have := hF2 _ hb; rw [X.hP] at this; cases this
    · rintro rfl; exact S2.all _ hb hrA
    · rintro rfl; exact S2.all _ hb hbA2
  have nP : ∀ b xs, H1 b = some (.list xs) → b ≠ P := fun b xs e q => by rw [q, X.hP] at e; cases e
  have cP : ∀ b v, H1 b = some (.cell v) → b ≠ P := fun b xs e q => by rw [q, X.hP] at e; cases e
  refine law_while (dA := dA) (cs := cs) hK ok rm hf C hcells (k1 _ _ X.hcd (cP _ _ X.hcd)) (k1 _ _ X.G.due (nP _ _ X.G.due)) (del_self ..) (hnone _ (none1 _ hrA)) (hnone _ (none1 _ hbA2)) hrb hn21 (fun k hk => B.sc k hk) W st ?_
  intro H5 s np' back hS5 hP5 hb5 inv st
  obtain ⟨ps, hP5⟩ := hP5
  have hdis' : cs ≠ cd ∧ co ≠ cd ∧ cm ≠ cd ∧ cs ≠ co ∧ cs ≠ cm ∧ co ≠ cm := by
    simp only [List.nodup_cons, List.mem_cons, List.not_mem_nil, or_false, not_or] at hdis
    obtain ⟨⟨d1, d2, d3⟩, ⟨d4, d5⟩, d6, _⟩ := hdis
    exact ⟨fun q => d3 q.symm, fun q => d2 q.symm, fun q => d1 q.symm, fun q => d6 q.symm, fun q => d5 q.symm, fun q => d4 q.symm⟩
  obtain ⟨Hk, hHk⟩ : ∃ Hk, Hk = upd (del (del (del H1 P) co) cm) P (tabO ps) := ⟨_, rfl⟩
  have k2 : ∀ b ao, H1 b = some ao → b ≠ P → b ≠ co → b ≠ cm → Hk b = some ao := fun b ao e q1 q2 q3 => by rw [hHk, upd_ne q1, del_ne q3, del_ne q2]; exact k1 b ao e q1
  have l2 : ∀ b xs, H1 b = some (.list xs) → Hk b = some (.list xs) := fun b xs e => k2 b _ e (nP b xs e) (fun q => by rw [q, X.hco] at e; cases e) (fun q => by rw [q, X.hcm] at e; cases e)
  have cPo := cP _ _ X.hco
  have cPm := cP _ _ X.hcm
  refine law_last (Hk := Hk) (nas := nas) (cd := cd) (co := co) (cm := cm) (cs := cs) (bA := bA) hK ok rm hf hcells (l2 _ _ X.htA) ⟨l2 _ _ X.G.len, l2 _ _ X.G.due, l2 _ _ X.G.need, X.G.nlen, fun i a e => l2 _ _ (X.G.each i a e)⟩ (k2 _ _ X.hcd (cP _ _ X.hcd) (Ne.symm hdis'.2.1) (Ne.symm hdis'.2.2.1))
    (by rw [hHk, upd_ne cPo, del_ne hdis'.2.2.2.2.2]; exact del_self ..) (by rw [hHk, upd_ne cPm]; exact del_self ..) hdis'.2.2.2.2.2 hn21 ?_ (hS5.le _ _ (k1 _ _ X.hco cPo)) (hS5.le _ _ (k1 _ _ X.hcm cPm)) hb5 inv (St.names st [("tasks", .ref tA), ("lengths", .ref lA), ("needs", .ref nA), ("back", .ref bA)] ⟨rfl, rfl, rfl, rfl, trivial⟩) ?_
  · refine ⟨fun b ao e => ?_⟩
    rw [hHk] at e
    by_cases q : b = P
    · subst q; rw [upd_self] at e; cases e; exact hP5
    · rw [upd_ne q] at e
      have q3 : b ≠ cm := fun q => by first | (rw [q, del_self] at e; cases e) | (rw [← q, del_self] at e; cases e)
      rw [del_ne q3] at e
      have q2 : b ≠ co := fun q => by first | (rw [q, del_self] at e; cases e) | (rw [← q, del_self] at e; cases e)
      rw [del_ne q2] at e
      exact hS5.le _ _ e
  · intro ρ' H' s' hS' st'
    exact h ρ' H' s' ps (hS'.le _ _ (by rw [hHk]; exact upd_self ..)) st'
end

theorem law_entry {prog p : Program} {w : World} {loose : List Str} {mean : ExcName → Option Value} {mg mb m : Str → Option Value} {h₀ : Heap} {L' fA sa : Addr} {vs : List Value} {sc : List Int} {o1 o2 o3 o4 : Obj} {s : Shared} {Q : Flow → Shared → Prop}
    (X : (KP w.params).In h₀) (T : Top p loose mean mg mb h₀) (B : Below callerA h₀ [] h₀) (F : Fr h₀ L' s.heap m) (N : News h₀ L' s.heap [(L' + 1 + 1 + 1 + 1, o1), (L' + 1 + 1 + 1, o2), (L' + 1 + 1, o3), (L' + 1, o4), (166, tabObj #[])])
    (e1 : o1.data = .cell none) (e2 : o2.data = .cell none) (e3 : o3.data = .cell none) (e4 : o4.data = .cell (some (.ref sa))) (hl : h₀.IsList sa vs.toArray) (hI : IntsAre vs sc) (C : CodeHd h₀ 168 166) (l0 : 166 < L') (hz : sc.length ≤ 63)
    (h : ∀ s', (∃ m', Fr h₀ L' s'.heap m') → (∃ ps, s'.heap.get? 166 = some (tabObj ps)) → s'.gens = s.gens → s'.os = s.os → Q (.ret (.bool true)) s') :
    wpAny (model prog w) (callerA.deeper (envK "law" sLaw L' fA (.ref 168) (cellsFrom (L' + 1) (scopeOf sLaw).names []))) (execs (bodyOf sLaw) (envK "law" sLaw L' fA (.ref 168) (cellsFrom (L' + 1) (scopeOf sLaw).names []))) Q (fun _ _ => False) s := by
  let c : Cx := ⟨⟨prog, w, KP w.params, p, loose, mean, mg, mb⟩, callerA, h₀, h₀, [], envK "law" sLaw L' fA (.ref 168) (cellsFrom (L' + 1) (scopeOf sLaw).names []), s⟩
  have ok : c.Ok := ⟨B, X, T, rfl, rfl, rfl, rfl⟩
  have rm : Room c (callerA.deeper c.fenv) 8 := ⟨rfl, by show callerA.depth + 1 + 8 < recursionLimit; decide +kernel, by show callerA.units + 3 + 20 * 8 < cLine; decide +kernel, rfl⟩
  have hL3 : 3 < L' := Nat.lt_of_le_of_lt (show 3 ≤ 166 by decide) l0
  have own : ∀ a o ao, (a, o) ∈ [(L' + 1 + 1 + 1 + 1, o1), (L' + 1 + 1 + 1, o2), (L' + 1 + 1, o3), (L' + 1, o4), (166, tabObj #[])] → AO.Is ao o → 3 < a → OwnAt c s.heap a ao := fun a o ao hm hi h3 =>
    ⟨o, (N (a, o) hm).1, hi, (N (a, o) hm).2.1, (N (a, o) hm).2.2, h3⟩
  have gt : ∀ k : Nat, L' < L' + 1 + k := fun k => Nat.lt_of_lt_of_le (Nat.lt_succ_self _) (Nat.le_add_right _ _)
  have ne : ∀ i j : Nat, i < j → L' + i ≠ L' + j := fun i j h q => Nat.ne_of_lt h (Nat.add_left_cancel q)
  have st : St c (fun _ => none) (fun _ => none) (upd (upd (upd (upd (upd (fun _ => none) 166 (tabO #[])) (L' + 1) (.cell (some (.ref sa)))) (L' + 1 + 1) (.cell none)) (L' + 1 + 1 + 1) (.cell none)) (L' + 1 + 1 + 1 + 1) (.cell none)) s := by
    refine ⟨⟨m, F, fun x av e => (nomatch e)⟩, fun a ao e => ?_, fun a ao e => (nomatch e), fun a _ => rfl, rfl⟩
    by_cases q1 : a = L' + 1 + 1 + 1 + 1
    · subst q1; rw [upd_self] at e; cases e
      exact own _ o1 _ (by simp) ⟨_, e1, rfl⟩ (Nat.lt_trans hL3 (gt 3))
    rw [upd_ne q1] at e
    by_cases q2 : a = L' + 1 + 1 + 1
    · subst q2; rw [upd_self] at e; cases e
      exact own _ o2 _ (by simp) ⟨_, e2, rfl⟩ (Nat.lt_trans hL3 (gt 2))
    rw [upd_ne q2] at e
    by_cases q3 : a = L' + 1 + 1
    · subst q3; rw [upd_self] at e; cases e
      exact own _ o3 _ (by simp) ⟨_, e3, rfl⟩ (Nat.lt_trans hL3 (gt 1))
    rw [upd_ne q3] at e
    by_cases q4 : a = L' + 1
    · subst q4; rw [upd_self] at e; cases e
      exact own _ o4 _ (by simp) ⟨_, e4, rfl⟩ (Nat.lt_trans hL3 (gt 0))
    rw [upd_ne q4] at e
    by_cases q5 : a = 166
    · subst q5; rw [upd_self] at e; cases e
      exact own _ (tabObj #[]) _ (by simp) rfl (by decide)
    rw [upd_ne q5] at e
    cases e
  have n166 : ∀ k : Nat, 166 ≠ L' + 1 + k := fun k => Nat.ne_of_lt (Nat.lt_trans l0 (gt k))
  refine law_body (c := c) (cs := L' + 1) (co := L' + 1 + 1) (cm := L' + 1 + 1 + 1) (cd := L' + 1 + 1 + 1 + 1) (P := 166) (sa := sa) (L' := L') (fA := fA) rfl ok rm rfl rfl C rfl ?_ ?_ ?_ (upd_self ..) ?_ ?_ (.inr ⟨vs, hl, of_intsAre hI⟩) hz st ?_
  · rw [upd_ne (ne 1 4 (by decide)), upd_ne (ne 1 3 (by decide)), upd_ne (ne 1 2 (by decide))]; exact upd_self ..
  · rw [upd_ne (ne 2 4 (by decide)), upd_ne (ne 2 3 (by decide))]; exact upd_self ..
  · rw [upd_ne (ne 3 4 (by decide))]; exact upd_self ..
  · have a1 := ne 3 4 (by decide)
    have a2 := ne 2 4 (by decide)
    have a3 := ne 1 4 (by decide)
    have a4 := ne 2 3 (by decide)
    have a5 := ne 1 3 (by decide)
    have a6 := ne 1 2 (by decide)
    refine List.nodup_cons.mpr ⟨fun q => ?_, List.nodup_cons.mpr ⟨fun q => ?_, List.nodup_cons.mpr ⟨fun q => ?_, List.nodup_cons.mpr ⟨fun q => (nomatch q), .nil⟩⟩⟩⟩
    · rcases List.mem_cons.mp q with q | q
      · exact a1 q.symm
      rcases List.mem_cons.mp q with q | q
      · exact a2 q.symm
      rcases List.mem_cons.mp q with q | q
      · exact a3 q.symm
      · cases q
    · rcases List.mem_cons.mp q with q | q
      · exact a4 q.symm
      rcases List.mem_cons.mp q with q | q
      · exact a5 q.symm
      · cases q
    · rcases List.mem_cons.mp q with q | q
      · exact a6 q.symm
      · cases q
  · rw [upd_ne (n166 3), upd_ne (n166 2), upd_ne (n166 1), upd_ne (n166 0)]; exact upd_self ..
  · intro ρ' H' s' ps hP st'
    obtain ⟨m', F', _⟩ := st'.fr
    obtain ⟨o, ho, hi⟩ := st'.get hP
    have hi : o = tabObj ps := hi
    have sh := st'.sh
    refine h s' ⟨m', F'⟩ ⟨ps, by rw [ho, hi]⟩ (by rw [sh]) (by rw [sh])

end Mine
open PySem PySem.W PyProof.Rows
theorem PySem.Challenge.cw_dn0038_10_holds : PySem.Challenge.rw_dn0038_10.Holds := by
  refine Mine.hd10 ?_
  k_go0
  rename_i hI hr hz hz' hD h₁ tk o1 o2 o3 o4 e1 e2 e3 e4 X0 X T K F N l0
  refine wpAny_mono (Q := fun fl s' => GoodW _ _ _ _ _ (.ok (.ret (match fl with | .ret v => v | _ => .none))) s' ∧ GrownAll [(168, 166)] s'.heap) (E := fun _ _ => False) ?_ (fun fl s' hq => hq) (fun _ _ z => z.elim)
  refine Mine.law_entry X T K F N e1 e2 e3 e4 lifted hI codeHd l0 (by omega) ?_
  intro s' hF hG hgen hos
  obtain ⟨m', F'⟩ := hF
  obtain ⟨ps, hG⟩ := hG
  exact ⟨goodW_bool F' (hgen.trans (by assumption)) (fun _ => rfl) (by with_unfolding_all rfl) hos, ⟨ps, hG⟩, trivial⟩
