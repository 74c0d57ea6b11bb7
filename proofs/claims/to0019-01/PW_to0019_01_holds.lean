import PyProof.Rows.All
import Wide.All
import OpenK.AllK
import Wide.FinOn
import Lean
import PySem.Challenge.RW_to0019_01
set_option Elab.async false
set_option compiler.extract_closed false
set_option genInjectivity false
set_option genSizeOf false
set_option maxRecDepth 100000
set_option rowWalk.seconds 0
section
set_option linter.all false
namespace Mine
theorem om1 {n0 n1 n2 : Nat} (h0 : ((n0 + (n1 + 1)) < n2)) : (((n0 + 1) + n1) < n2) := by lia
theorem om2 {n0 n1 n2 : Nat} (h0 : ((n0 + (8 * (n1 + 1))) < n2)) : (((n0 + 3) + (8 * n1)) < n2) := by lia
theorem om3 {n0 n1 n2 : Nat} (h0 : ((n0 + (n1 + 1)) < n2)) : ((n0 + n1) < n2) := by exact Nat.le_of_lt h0
theorem om4 {n0 n1 n2 : Nat} (h0 : ((n0 + (8 * (n1 + 1))) < n2)) : (((n0 + 1) + (8 * n1)) < n2) := by lia
theorem om5 {n0 n1 n2 n3 : Nat} (h0 : (n0 ≤ n1)) (h1 : ((n2 + n1) < n3)) : ((n2 + n0) < n3) := by lia
theorem om6 {n0 n1 n2 n3 : Nat} (h0 : (n0 ≤ n1)) (h1 : ((n2 + (8 * n1)) < n3)) : ((n2 + (8 * n0)) < n3) := by lia
theorem om7 {n0 n1 n2 : Nat} (h0 : ((n0 + n1) < n2)) : (n0 < n2) := by lia
theorem om8 {n0 n1 n2 : Nat} (h0 : ((n0 + (8 * n1)) < n2)) : (n0 < n2) := by lia
theorem om9 {n0 n1 : Nat} (h0 : (n0 < n1)) : ((n1 - (n0 + 1)) < (n1 - n0)) := by lia
theorem om10 {n0 n1 : Nat} (h0 : (n0 ≤ n1)) (h1 : (¬ (n0 < n1))) : (n0 = n1) := by omega
theorem om11 {n0 n1 : Nat} (h0 : (n0 ≤ n1)) (h1 : (0 < n0)) : (n1 ≠ 0) := by lia
theorem om12 {n0 n1 n2 : Nat} (h0 : (n0 ≤ n1)) (h1 : (n1 < n2)) : (n0 ≤ n2) := by exact Nat.le_of_lt (Nat.lt_of_le_of_lt h0 h1)
theorem om13 {n0 n1 : Nat} (h0 : (¬ (n0 < n1))) : (n1 ≤ n0) := by exact Nat.le_of_not_lt h0
theorem om14 {n0 : Nat} : (2 ≤ (n0 + 5)) := by exact Nat.le_of_ble_eq_true rfl
theorem om15 {n0 n1 n2 : Nat} (h0 : (n0 < n1)) (h1 : ((n1 + 7) ≤ n2)) : (n0 < n2) := by lia
theorem om16 {n0 n1 n2 n3 : Nat} (h0 : (n0 = n1)) (h1 : (n2 = n3)) (h2 : (0 = (n3 - n1))) (h3 : (((n0 : Nat) : Int) < ((n2 : Nat) : Int))) : False := by lia
theorem om17 {n0 n1 n2 n3 : Nat} (h0 : (n0 = n1)) (h1 : (n2 = n3)) (h2 : (((n0 : Nat) : Int) < ((n2 : Nat) : Int))) : (n1 < n3) := by omega
theorem om18 {n0 n1 n2 : Nat} (h0 : (n0 ≤ 20)) (h1 : ((n1 + 1) = (n0 - n2))) : (n1 ≤ 1000) := by lia
theorem om19 {n0 n1 n2 : Nat} (h0 : ((n0 + 2) ≤ n1)) (h1 : ((n2 + 5) ≤ n0)) : (n2 ≤ n1) := by lia
theorem om20 {n0 n1 : Nat} (h0 : (n0 = 5)) (h1 : (n1 < 4)) : (n1 < n0) := by omega
theorem om21 {n0 n1 : Nat} (h0 : (n0 = 5)) (h1 : (n1 < 4)) : ((n1 + 1) < n0) := by omega
theorem om22 {n0 n1 : Nat} (h0 : (n0 < 4)) : ((min n0 n1) ≤ 100) := by lia
theorem om23 {n0 n1 : Nat} (h0 : (n0 = 5)) : ((n0 - (n1 + 2)) ≤ 100) := by omega
theorem om24 {n0 n1 : Nat} (h0 : (n0 < 4)) : ((min n0 n1) ≤ 99) := by omega
theorem om25 {n0 n1 : Nat} (h0 : (n0 = 5)) : (n0 ≤ (99 + (n1 + 2))) := by lia
theorem om26 {n0 n1 : Nat} (h0 : (n0 = 5)) (h1 : (n1 < 4)) : (((min n1 n0) + (((n0 - (n1 + 2)) + 1) + 1)) = 5) := by lia
theorem om27 {n0 : Nat} : (4 ≤ (n0 + 5)) := by exact Nat.le_of_ble_eq_true rfl
theorem om28 {n0 n1 n2 : Nat} (h0 : (n0 = n1)) (h1 : ((n2 + 1) ≤ n1)) : (n2 < n0) := by (subst h0; exact h1)
theorem om29 {n0 n1 : Nat} (h0 : (n0 = (n1 + 1))) : ((((n0 : Nat) : Int) - (1 : Int)) = ((n1 : Nat) : Int)) := by omega
theorem om30 {n0 n1 n2 n3 n4 n5 : Nat} (h0 : (n0 = n1)) (h1 : (((n0 : Nat) : Int) < (17 : Int))) (h2 : (n2 < 4)) (h3 : (n3 ≤ (n1 + n2))) (h4 : (n4 = (n3 - (n5 + 1)))) : (n4 ≤ 100) := by lia
theorem om31 {n0 n1 n2 : Nat} (h0 : ((n0 + 1) ≤ n1)) : ((n0 + 1) ≤ (n1 + n2)) := by exact Nat.le_add_right_of_le h0
theorem om32 {n0 n1 n2 : Nat} (h0 : (n0 ≤ (n1 + n2))) : ((n0 + 1) ≤ (n1 + (n2 + 1))) := by exact Nat.succ_le_succ h0
theorem om33 {n0 n1 n2 : Nat} (h0 : ((n0 + 1) ≤ n1)) (h1 : (n2 = n1)) : ((n0 + 1) ≤ n2) := by lia
theorem om34 {n0 n1 n2 : Nat} (h0 : ((n0 + 1) ≤ n1)) (h1 : (n2 = n1)) : (0 < n2) := by omega
theorem om35 {n0 n1 : Nat} (h0 : ((n0 + 1) ≤ n1)) : ((n0 + 1) ≤ n1) := by exact h0
theorem om36 {n0 n1 n2 n3 n4 n5 n6 : Nat} (h0 : (n0 ≤ n1)) (h1 : (n2 ≤ n3)) (h2 : ((n4 + 3) ≤ n2)) (h3 : ((n5 + 3) ≤ n4)) (h4 : (n1 ≤ n5)) (h5 : (n3 ≤ n6)) : (n0 ≤ n6) := by lia
theorem om37 {n0 n1 n2 : Nat} (h0 : (n0 < n1)) (h1 : ((n1 + 1) ≤ n2)) : (n0 < n2) := by exact Nat.lt_trans h0 h1
theorem om38 {n0 n1 n2 : Nat} (h0 : (n0 ≤ (n1 + n2))) : (n0 ≤ (n1 + (n2 + 1))) := by exact Nat.le_succ_of_le h0
theorem om39 {n0 n1 n2 : Nat} (h0 : (n0 ≤ n1)) (h1 : (n1 ≤ n2)) : (n0 ≤ n2) := by exact Nat.le_trans h0 h1
theorem om40 {n0 n1 n2 n3 : Nat} (h0 : ((n0 + n1) = 17)) (h1 : (n2 = n3)) (h2 : (n1 < n3)) (h3 : (((n2 : Nat) : Int) < (17 : Int))) : (n0 = ((n0 - 1) + 1)) := by lia
theorem om41 {n0 n1 n2 : Nat} (h0 : (n0 = n1)) (h1 : (((n0 : Nat) : Int) < (17 : Int))) (h2 : (n2 ≤ (n1 + 4))) : (n2 ≤ 20) := by lia
theorem om42 {n0 n1 : Nat} (h0 : (((n0 + 1) + n1) = 17)) : ((n0 + (n1 + 1)) = 17) := by lia
theorem om43 {n0 n1 : Nat} (h0 : (n0 ≤ n1)) : (n0 ≤ n1) := by exact h0
theorem om44 {n0 n1 : Nat} (h0 : (n0 < n1)) : (n0 < n1) := by exact h0
theorem om45 {n0 n1 : Nat} (h0 : (n0 = n1)) (h1 : (((n0 : Nat) : Int) < (17 : Int))) : (n1 < 17) := by omega
theorem om46 {n0 n1 : Nat} (h0 : (n0 = n1)) (h1 : (¬ (((n0 : Nat) : Int) < (17 : Int)))) (h2 : (n1 < 17)) : False := by lia
theorem om47 {n0 n1 n2 n3 : Nat} (h0 : (n0 = n1)) (h1 : (n2 = n3)) (h2 : (¬ (((n0 : Nat) : Int) < ((n2 : Nat) : Int)))) (h3 : (n1 < n3)) : False := by omega
theorem om48 {n0 : Nat} : (((((n0 : Nat) : Int) % (3 : Int)) = (0 : Int)) ∨ (((((n0 : Nat) : Int) % (3 : Int)) = (1 : Int)) ∨ ((((n0 : Nat) : Int) % (3 : Int)) = (2 : Int)))) := by lia
theorem om49 {n0 n1 n2 : Nat} : ((((n0 + (2 * (max n1 n2))) + 4) + 1) ≤ ((n0 + (2 * ((max n1 n2) + 1))) + 3)) := by lia
theorem om50 {n0 n1 n2 : Nat} : (((0 + (2 * n0)) + 3) ≤ ((n1 + (2 * (max n0 n2))) + 4)) := by omega
theorem om51 {n0 n1 : Nat} (h0 : (((n0 + n1) + 1) ≤ 100)) : (n0 ≤ 100) := by omega
theorem om52 {n0 n1 n2 : Nat} : (((0 + (2 * n0)) + 3) ≤ ((n1 + (2 * (max n2 n0))) + 4)) := by lia
theorem om53 {n0 n1 : Nat} (h0 : (((n0 + n1) + 1) ≤ 100)) : (n1 ≤ 100) := by lia
theorem om54 {n0 n1 n2 n3 n4 : Nat} (h0 : (n0 ≤ 10)) (h1 : (n1 ≤ (n2 + 1))) (h2 : (n2 < n0)) (h3 : (n1 = n3)) (h4 : (n4 = 16777216)) : ((n3 + 1) ≤ n4) := by lia
theorem om55 {n0 n1 n2 n3 : Nat} (h0 : (n0 = n1)) (h1 : (n1 = n2)) (h2 : (n3 < (n2 + 1))) : (n3 ≤ n0) := by lia
theorem om58 {n0 n1 n2 n3 : Nat} (h0 : (n0 ≤ (n1 + 1))) (h1 : (n0 = n2)) (h2 : (n3 = (n2 + 1))) : (n3 ≤ (n1 + 2)) := by lia
theorem om59 {n0 : Nat} : ((n0 = 0) → ((0 : Int) = ((n0 : Nat) : Int))) := by lia
theorem om61 {n0 n1 n2 : Nat} (h0 : (n0 ≤ 10)) (h1 : (n1 = n0)) (h2 : (n2 = 16777216)) : (n1 ≤ n2) := by omega
theorem om62 {n0 : Nat} (h0 : ((n0 - 1) < n0)) : ((((0 : Int) ≤ ((-(1 : Int)) + ((n0 : Nat) : Int))) ∧ (((-(1 : Int)) + ((n0 : Nat) : Int)) < ((n0 : Nat) : Int))) ∧ ((Int.toNat ((-(1 : Int)) + ((n0 : Nat) : Int))) = (n0 - 1))) := by lia
theorem om63 {n0 : Nat} : ((1 + n0) = (n0 + 1)) := by exact Nat.add_comm _ _
theorem om64 {n0 : Nat} (h0 : (n0 ≤ 1000)) : (n0 ≤ 16777216) := by exact Nat.le_trans h0 (Nat.le_of_ble_eq_true rfl)
theorem om65 {n0 : Nat} (h0 : (0 < n0)) : ((n0 - 1) < n0) := by omega
theorem om66 {n0 n1 n2 n3 : Nat} (h0 : (n0 < (n1 + 1))) (h1 : ((n1 + 1) ≤ 20)) (h2 : (n2 = (n0 - 1))) (h3 : (n3 = 16777216)) : (n2 ≤ n3) := by lia
theorem om67 {n0 n1 : Nat} (h0 : (n0 ≤ n1)) : (¬ (n1 < n0)) := by exact Nat.not_lt.mpr h0
theorem om68 {n0 n1 : Nat} (h0 : (¬ (n0 ≤ n1))) : (n1 < n0) := by exact Nat.lt_of_not_le h0
theorem om69 {n0 n1 n2 : Nat} (h0 : (n0 < (n1 + 1))) (h1 : ((n1 + 1) ≤ 20)) (h2 : (n2 ≤ (n0 - 1))) : (n2 ≤ 1000) := by omega
theorem om70 {n0 n1 : Nat} : ((((n0 + (2 * n1)) + 5) + 1) ≤ ((n0 + (2 * (n1 + 1))) + 4)) := by lia
theorem om71 {n0 n1 : Nat} : (((0 + (2 * n0)) + 4) ≤ ((n1 + (2 * n0)) + 5)) := by lia
theorem om72 {n0 n1 n2 : Nat} (h0 : (n0 < (n1 + 1))) (h1 : (0 < n0)) (h2 : (n2 ≤ (n0 - 1))) : (n2 < n1) := by lia
theorem om73 {n0 : Nat} (h0 : ((n0 + 1) ≤ 20)) : (n0 ≤ 20) := by exact Nat.le_of_lt h0
theorem om74 {n0 : Nat} (h0 : (0 < n0)) : (0 < n0) := by exact h0
theorem om75 {n0 : Nat} (h0 : (n0 = 5)) : (((5 * n0) + n0) ≤ 1000) := by lia
theorem om76 {n0 n1 n2 : Nat} (h0 : (n0 ≤ (2 * n1))) (h1 : (n2 ≤ 2)) : ((n2 + n0) ≤ (2 * (n1 + 1))) := by lia
theorem om77 {n0 n1 : Nat} (h0 : (n0 ≤ 100)) (h1 : (n1 ≤ (2 * n0))) : (n1 ≤ 16777216) := by lia
theorem om78 {n0 : Nat} : ((2 + (2 * n0)) = (2 * (n0 + 1))) := by exact Nat.add_comm _ _
theorem om79 {n0 : Nat} (h0 : (n0 ≤ 100)) : ((2 * n0) ≤ 200) := by lia
theorem om80 {n0 n1 : Nat} (h0 : (n0 ≤ 100)) (h1 : (n1 ≤ (2 * n0))) : (n1 ≤ 200) := by omega
theorem om81 {n0 n1 n2 : Nat} (h0 : (n0 < n1)) : (1 ≤ ((min (n0 + (n2 + 2)) n1) - n0)) := by omega
theorem om82 {n0 n1 n2 : Nat} : (((min (n0 + (n1 + 2)) n2) - n0) ≤ (n1 + 2)) := by lia
theorem om84 : (0 ≤ 200) := by exact Nat.le_of_ble_eq_true rfl
theorem om85 {n0 n1 : Nat} (h0 : (((n0 : Nat) : Int) < ((n1 : Nat) : Int))) : (n0 < n1) := by omega
theorem om86 {n0 n1 : Nat} (h0 : (n0 < n1)) (h1 : (n1 ≤ n0)) : False := by exact absurd h0 (Nat.not_lt.mpr h1)
theorem om87 {n0 : Nat} (h0 : (n0 ≤ 3)) : (n0 ≤ 100) := by exact Nat.le_trans h0 (Nat.le_of_ble_eq_true rfl)
theorem om88 {n0 n1 n2 : Nat} (h0 : (n0 ≤ 100)) (h1 : (n1 < n0)) (h2 : (n2 ≤ 3)) : ((n1 + n2) ≤ 200) := by lia
theorem om89 {n0 n1 n2 : Nat} (h0 : (n0 ≤ n1)) (h1 : (1 ≤ n2)) : ((n0 + 1) ≤ (n1 + n2)) := by lia
theorem om90 {m0 : Int} (h0 : (m0 < (256 : Int))) (h1 : ((256 : Int) ≤ m0)) : False := by lia
theorem om91 {n0 : Nat} : (2 ≤ (n0 + 3)) := by exact Nat.le_of_ble_eq_true rfl
theorem om92 {n0 n1 : Nat} (h0 : ((n0 + 2) ≤ n1)) : (n1 ≠ 0) := by lia
theorem om93 {n0 n1 n2 : Nat} (h0 : ((n0 + 5) ≤ n1)) (h1 : (n1 ≤ (n2 + 5))) : (n0 ≤ n2) := by lia
theorem om94 {n0 : Nat} : (n0 < (n0 + 5)) := by lia
theorem om95 {n0 n1 n2 : Nat} (h0 : (((((n0 + 4) + n1) + 1) + 1) ≤ n2)) : (n2 ≠ 0) := by lia
theorem om96 {n0 n1 n2 n3 n4 n5 : Nat} (h0 : (n0 ≤ n1)) (h1 : (n1 ≤ n2)) (h2 : (((((n2 + 4) + n3) + 1) + 1) ≤ n4)) (h3 : (n5 < n0)) : (¬ (n5 = n4)) := by lia
theorem om97 {n0 : Nat} (h0 : (((n0 : Nat) : Int) = (2 : Int))) : (n0 = 2) := by lia
theorem om98 {n0 : Nat} : (2 ≤ (n0 + 2)) := by exact Nat.le_of_ble_eq_true rfl
theorem om100 {n0 n1 : Nat} (h0 : (n0 ≠ n1)) : (n0 ≠ n1) := by exact h0
theorem om101 {n0 n1 : Nat} (h0 : (124 < n0)) (h1 : (n0 < n1)) : (124 < n1) := by exact Nat.lt_trans h0 h1
theorem om102 {n0 : Nat} (h0 : (124 < n0)) : (124 < n0) := by exact h0
theorem om104 {n0 n1 : Nat} (h0 : (n0 = (n1 + 1))) : (n1 ≠ n0) := by omega
theorem om105 {n0 n1 n2 n3 : Nat} (h0 : (n0 = n1)) (h1 : (n2 = (n1 + 1))) (h2 : (n3 < n0)) : (n3 ≠ n2) := by lia
theorem om106 {n0 n1 n2 n3 n4 : Nat} (h0 : (n0 = n1)) (h1 : (n2 = (n1 + 1))) (h2 : (n3 ≤ n4)) (h3 : (n4 < n0)) : (n3 ≤ n2) := by lia
theorem om107 {n0 n1 n2 : Nat} (h0 : (n0 = n1)) (h1 : (n1 ≤ n2)) (h2 : (n2 < n0)) : False := by omega
theorem om108 {n0 n1 n2 : Nat} (h0 : (n0 = n1)) (h1 : (n2 = (n1 + 1))) (h2 : (n2 < n0)) : False := by lia
theorem om109 {n0 n1 : Nat} (h0 : (n0 = n1)) (h1 : (n1 < n0)) : False := by lia
theorem om110 {n0 n1 n2 : Nat} (h0 : (n0 = n1)) (h1 : (n2 < n0)) (h2 : (n1 = n2)) : False := by lia
theorem om111 {n0 n1 : Nat} (h0 : (n0 ≤ n1)) : (n0 ≤ (n1 + 1)) := by exact Nat.le_succ_of_le h0
theorem om112 {n0 n1 : Nat} (h0 : (n0 < n1)) : (n0 ≠ n1) := by exact Nat.ne_of_lt h0
theorem om113 {n0 n1 n2 : Nat} (h0 : (n0 = n1)) (h1 : (n2 < n0)) : (n2 ≠ n1) := by omega
theorem om114 {n0 n1 : Nat} (h0 : (n0 ≤ n1)) : ((n0 + 1) ≤ (n1 + 1)) := by exact Nat.succ_le_succ h0
theorem om115 {n0 n1 n2 n3 n4 : Nat} (h0 : (n0 ≤ n1)) (h1 : (n1 ≤ n2)) (h2 : ((n2 + 1) ≤ n3)) (h3 : (n3 ≤ n4)) : (n0 ≤ n4) := by omega
theorem om116 {n0 n1 n2 n3 : Nat} (h0 : (n0 ≤ n1)) (h1 : (n1 ≤ n2)) (h2 : ((n2 + 1) ≤ n3)) : (n0 ≤ n3) := by omega
theorem om117 {n0 n1 n2 : Nat} (h0 : (n0 = (n1 + 1))) (h1 : (n2 < n1)) : (n2 ≠ n0) := by omega
theorem om118 {n0 n1 : Nat} (h0 : (n0 = (n1 + 1))) : (n1 ≤ n0) := by lia
theorem om119 {n0 n1 : Nat} (h0 : (n0 < n1)) : (n1 ≠ n0) := by exact Nat.ne_of_gt h0
theorem om120 {n0 n1 n2 : Nat} (h0 : (n0 = n1)) (h1 : (¬ (n2 < n0))) (h2 : ((n2 - n0) = 0)) : (n2 = n1) := by lia
theorem om121 {n0 : Nat} : (((0 : Int) + (((n0 : Nat) : Int) * (1 : Int))) = ((n0 : Nat) : Int)) := by lia
theorem om122 {n0 n1 : Nat} (h0 : (n0 = n1)) : (n0 ≤ n1) := by exact Nat.le_of_eq h0
theorem om123 {n0 : Nat} (h0 : (n0 ≤ 1000)) : (((((-(9223372036854775808 : Int)) ≤ ((2 : Int) * ((n0 : Nat) : Int))) ∧ (((2 : Int) * ((n0 : Nat) : Int)) < (9223372036854775808 : Int))) ∧ (((n0 : Nat) : Int) < (9223372036854775808 : Int))) ∧ ((n0 = 0) ∨ (((-(9223372036854775808 : Int)) ≤ (((2 : Int) * ((n0 : Nat) : Int)) + (1 : Int))) ∧ ((((2 : Int) * ((n0 : Nat) : Int)) + (1 : Int)) < (9223372036854775808 : Int))))) := by lia
theorem om124 {n0 n1 : Nat} (h0 : (n0 ≤ 1000)) (h1 : (n1 = 16777216)) : (n0 ≤ n1) := by lia
theorem om125 {n0 : Nat} : (((0 : Int) + (((n0 : Nat) : Int) * (2 : Int))) = (((2 * n0) : Nat) : Int)) := by lia
theorem om126 {n0 n1 n2 : Nat} (h0 : (n0 ≤ n1)) (h1 : (n1 < n2)) : (n0 < (n2 + 1)) := by omega
theorem om127 {n0 n1 n2 : Nat} (h0 : ((n0 + (n1 + 1)) ≤ (n2 + 1))) : (((n0 + 1) + n1) ≤ (n2 + 1)) := by lia
theorem om128 {n0 n1 : Nat} : (((n0 + 1) + n1) = (n0 + (n1 + 1))) := by exact Nat.add_right_comm _ _ _
theorem om129 {n0 n1 : Nat} (h0 : (¬ (n0 < n1))) : (n1 ≤ (n0 + 1)) := by exact Nat.le_of_not_le h0
theorem om130 {n0 : Nat} : ((0 + ((n0 + 1) - 0)) ≤ (n0 + 1)) := by lia
theorem om131 {n0 : Nat} : (n0 ≤ (n0 + 1)) := by exact Nat.le_succ _
theorem om132 {n0 : Nat} : (4 ≤ (n0 + 4)) := by exact Nat.le_of_ble_eq_true rfl
theorem om133 {n0 n1 : Nat} (h0 : ((n0 + (n1 + 1)) ≤ 1000)) : (n0 ≤ 1000) := by omega
theorem om134 {n0 : Nat} (h0 : (n0 ≤ 1)) : (n0 ≤ 1000) := by exact Nat.le_trans h0 (Nat.le_of_ble_eq_true rfl)
theorem om135 {n0 n1 : Nat} (h0 : (n0 ≤ n1)) : ((n0 + 1) < (n1 + 2)) := by lia
theorem om136 {n0 n1 n2 n3 : Nat} (h0 : ((n0 + (n1 + 1)) ≤ 1000)) (h1 : ((n2 + n3) ≤ (n1 + 1))) : (((n0 + n2) + n3) ≤ 1000) := by lia
theorem om137 {n0 n1 n2 : Nat} (h0 : ((0 + (n0 + 1)) ≤ 1000)) (h1 : ((n1 + n2) ≤ (n0 + 1))) : ((n1 + n2) ≤ 1000) := by lia
theorem om138 {n0 : Nat} : ((1 + n0) ≤ (n0 + 2)) := by lia
theorem om139 {n0 : Nat} : ((1 + n0) ≤ (n0 + 1)) := by lia
theorem om140 {n0 : Nat} : (3 ≤ (n0 + 3)) := by exact Nat.le_of_ble_eq_true rfl
theorem om141 {n0 : Nat} (h0 : (n0 < 3)) : ((n0 = 0) ∨ ((n0 = 1) ∨ (n0 = 2))) := by lia
theorem om142 {n0 : Nat} (h0 : (¬ (((63 : Nat) : Int) < ((n0 : Nat) : Int)))) : (n0 ≤ 63) := by lia
theorem om143 : (4 ≤ 59) := by exact Nat.le_of_ble_eq_true rfl
theorem om144 {m0 : Int} (h0 : ((1 : Int) ≤ m0)) : (m0 ≠ (0 : Int)) := by omega
theorem om145 {n0 n1 n2 n3 : Nat} (h0 : ((n0 + 2) ≤ n1)) (h1 : (n2 ≤ n3)) (h2 : (n1 ≤ n2)) : (n3 ≠ 0) := by lia
theorem om146 {n0 n1 : Nat} (h0 : (n0 < 6)) (h1 : (n1 < 3)) : ((n0 + n1) < 12) := by lia
theorem om147 : (2 ≤ 59) := by exact Nat.le_of_ble_eq_true rfl
theorem om148 {n0 : Nat} (h0 : (n0 ≤ 4)) : ((n0 + 1) ≤ 5) := by exact Nat.succ_le_succ h0
theorem om152 {n0 n1 n2 : Nat} (h0 : (n0 ≤ 5)) (h1 : (n1 = n0)) (h2 : (n2 = 16777216)) : (n1 ≤ n2) := by lia
theorem om153 {n0 n1 n2 : Nat} (h0 : (n0 ≤ 5)) (h1 : (n1 = n0)) (h2 : (n2 < n1)) : (n2 < 5) := by omega
theorem om154 {n0 : Nat} (h0 : (n0 ≤ 6)) : (n0 ≤ 100) := by exact Nat.le_trans h0 (Nat.le_of_ble_eq_true rfl)
theorem om155 {n0 n1 n2 n3 : Nat} (h0 : (n0 = n1)) (h1 : (n2 < n0)) (h2 : (n3 = n1)) : (n2 < n3) := by lia
theorem om156 {n0 n1 n2 : Nat} (h0 : (n0 ≤ 5)) (h1 : (n1 = n0)) (h2 : (n2 ≤ (15 * n1))) : (n2 ≤ 16777216) := by lia
theorem om157 {n0 n1 n2 : Nat} (h0 : (n0 ≤ 5)) (h1 : (n1 = n0)) (h2 : (n2 ≤ (15 * n1))) : (n2 ≤ 75) := by omega
theorem om158 {n0 : Nat} (h0 : (n0 ≤ 75)) : ((n0 + 3) ≤ 1000) := by lia
theorem om159 {n0 n1 : Nat} (h0 : (n0 ≤ 5)) (h1 : (n1 = 16777216)) : (n0 ≤ n1) := by lia
theorem om160 {n0 n1 : Nat} (h0 : (n0 ≤ 1000)) (h1 : (n1 = n0)) : (n1 ≤ 1000) := by lia
theorem om161 : (5 ≤ 59) := by exact Nat.le_of_ble_eq_true rfl
theorem om162 {m0 : Int} {n1 n2 n3 n4 : Nat} (h0 : ((m0 + ((n1 : Nat) : Int)) = ((1 : Int) + ((n2 : Nat) : Int)))) (h1 : ((n3 + n4) = (0 + n1))) : (((m0 + ((n3 : Nat) : Int)) + ((n4 : Nat) : Int)) = ((1 : Int) + ((n2 : Nat) : Int))) := by lia
theorem om163 {n0 n1 n2 n3 n4 : Nat} (h0 : ((n0 + 1) ≤ n1)) (h1 : (n1 ≤ (n2 + 1))) (h2 : ((n2 + 1) ≤ n3)) (h3 : (n3 ≤ n4)) : (n0 ≤ n4) := by lia
theorem om164 {n0 n1 : Nat} (h0 : (n0 ≤ 4)) (h1 : (n1 = 16777216)) : (n0 ≤ n1) := by lia
theorem om165 {n0 n1 n2 : Nat} (h0 : (n0 ≤ n1)) (h1 : ((n2 + 2) ≤ n0)) : (n2 ≤ n1) := by lia
theorem om166 {n0 n1 n2 : Nat} (h0 : (n0 ≤ n1)) (h1 : ((n2 + 2) ≤ n0)) : (0 < n1) := by lia
theorem om167 {n0 n1 n2 n3 : Nat} (h0 : (n0 ≤ 4)) (h1 : (n1 = n0)) (h2 : (n2 = n1)) (h3 : (n2 = (2 * n3))) : (n3 ≤ 1000) := by lia
theorem om168 {n0 n1 n2 n3 n4 n5 : Nat} (h0 : (n0 ≤ n1)) (h1 : ((n1 + 4) ≤ n2)) (h2 : (n3 ≤ n4)) (h3 : (n5 ≤ n0)) (h4 : (n2 ≤ n3)) : (n5 ≤ (n4 + 2)) := by lia
theorem om169 : (6 ≤ 59) := by exact Nat.le_of_ble_eq_true rfl
theorem om170 : (16 ≤ 59) := by exact Nat.le_of_ble_eq_true rfl
theorem om171 {n0 : Nat} (h0 : (n0 = 5)) : (n0 < 64) := by lia
theorem om172 {n0 n1 : Nat} (h0 : (n0 ≤ 20)) (h1 : (n1 = n0)) : (n1 ≤ 20) := by lia
theorem om173 {n0 : Nat} (h0 : (n0 ≤ 6)) : (((0 + (2 * n0)) + 3) ≤ 59) := by lia
theorem om174 {n0 n1 n2 n3 : Nat} (h0 : (n0 = n1)) (h1 : (n2 ≤ 20)) (h2 : (n2 = n1)) (h3 : (n3 = 16777216)) : (n0 ≤ n3) := by lia
theorem om175 {n0 : Nat} (h0 : (n0 = 5)) : (n0 ≤ 10) := by lia
theorem om176 {n0 n1 n2 : Nat} (h0 : (n0 = n1)) (h1 : (n2 = n1)) : (n2 ≤ n0) := by lia
theorem om177 {n0 n1 : Nat} (h0 : ((n0 + 0) = (0 + n1))) : (n0 = n1) := by lia
theorem om178 {n0 : Nat} (h0 : (0 < n0)) : ((0 : Int) < ((n0 : Nat) : Int)) := by exact Int.ofNat_lt.mpr h0
theorem om179 {m0 : Int} (h0 : ((0 : Int) ≤ m0)) : (m0 = (((Int.toNat m0) : Nat) : Int)) := by lia
theorem om180 {m0 : Int} {n1 : Nat} (h0 : ((0 : Int) ≤ m0)) (h1 : (m0 < ((n1 : Nat) : Int))) : ((Int.toNat m0) < n1) := by omega
theorem om181 {n0 : Nat} (h0 : (((n0 : Nat) : Int) = (1 : Int))) : (n0 = 1) := by lia
theorem om182 {n0 : Nat} (h0 : (n0 = 1)) : (((n0 : Nat) : Int) = (1 : Int)) := by lia
theorem om183 {n0 : Nat} (h0 : (((n0 : Nat) : Int) = (0 : Int))) : (n0 = 0) := by lia
theorem om184 {n0 : Nat} (h0 : (n0 = 0)) : (((n0 : Nat) : Int) = (0 : Int)) := by omega
theorem om185 {m0 : Int} {n1 : Nat} (h0 : (m0 = ((n1 : Nat) : Int))) (h1 : (n1 < 3)) : ((m0 = (0 : Int)) ∨ ((m0 = (1 : Int)) ∨ (m0 = (2 : Int)))) := by lia
theorem om188 {n0 n1 : Nat} (h0 : (n0 ≤ 6)) (h1 : (n1 ≤ (2 * n0))) : (n1 ≤ 12) := by lia
theorem om189 {n0 : Nat} (h0 : (n0 ≤ 12)) : ((n0 + 3) ≤ 15) := by omega
theorem om190 {n0 : Nat} (h0 : (n0 ≤ 12)) : ((n0 + 2) ≤ 15) := by lia
theorem om191 {n0 n1 : Nat} (h0 : (n0 < n1)) : (n0 < (n1 + 1)) := by exact Nat.le_succ_of_le h0
theorem om192 {n0 : Nat} : (n0 < (n0 + 1)) := by omega
theorem om193 {n0 n1 n2 n3 : Nat} (h0 : (n0 ≤ 15)) (h1 : (n1 ≤ (15 * n2))) (h2 : (n3 ≤ (15 * n2))) : (((n1 + n0) ≤ (15 * (n2 + 1))) ∧ ((n3 + (n0 + 0)) ≤ (15 * (n2 + 1)))) := by lia
theorem om194 {n0 : Nat} (h0 : (n0 < 128)) : (n0 < 1114112) := by exact Nat.le_trans h0 (Nat.le_of_ble_eq_true rfl)
theorem om195 {n0 n1 n2 n3 : Nat} (h0 : (n0 ≤ n1)) (h1 : (n1 ≤ n2)) (h2 : (n3 ≤ n0)) : (n3 ≤ n2) := by lia
theorem om196 {n0 n1 n2 n3 : Nat} (h0 : (n0 ≤ n1)) (h1 : (n2 ≤ n0)) (h2 : (n1 ≤ n3)) : (n2 ≤ n3) := by lia
theorem om197 {n0 : Nat} (h0 : (n0 < 2)) : ((n0 = 0) ∨ (n0 = 1)) := by lia
theorem om198 {n0 n1 : Nat} (h0 : (n0 < n1)) (h1 : (n1 = 1)) : (n0 = 0) := by lia
theorem om199 {n0 n1 : Nat} (h0 : (n0 < n1)) (h1 : (n1 = 2)) : ((n0 = 0) ∨ (n0 = 1)) := by lia
theorem om200 {n0 n1 : Nat} (h0 : (n0 < 64)) (h1 : (n1 = 16777216)) : (n0 ≤ n1) := by omega
theorem om201 {n0 n1 n2 n3 n4 : Nat} (h0 : (n0 ≤ (n1 + 1))) (h1 : (n2 ≤ (n3 + 1))) (h2 : (n4 = ((max n1 n3) + 1))) : (((max 0 (max n0 (max n2 0))) + 1) ≤ (n4 + 1)) := by lia
theorem om202 {n0 n1 : Nat} (h0 : (n0 ≤ (n1 + 1))) (h1 : (n1 ≤ 6)) : (n0 ≤ 64) := by lia
theorem om203 {n0 n1 n2 : Nat} (h0 : (n0 ≤ (n1 + 1))) : ((n0 + n2) ≤ (n1 + (n2 + 1))) := by lia
theorem om204 {n0 n1 : Nat} (h0 : (n0 < 17)) (h1 : (n1 ≤ (n0 + 4))) : (n1 ≤ 20) := by lia
theorem om205 {n0 : Nat} : (((n0 + (2 * 6)) + 4) ≤ (n0 + 16)) := by lia
theorem om206 {n0 : Nat} (h0 : (n0 = 5)) : (n0 < 6) := by lia
theorem om207 : (6 ≤ 20) := by exact Nat.le_of_ble_eq_true rfl
theorem om208 {n0 : Nat} : ((n0 + 4) ≤ (n0 + 16)) := by lia
theorem om209 {n0 n1 : Nat} (h0 : (n0 ≤ n1)) (h1 : (n1 ≤ n0)) : (n0 = n1) := by lia
theorem om210 {n0 : Nat} : ((n0 + 1) ≠ n0) := by lia
theorem om211 {n0 n1 : Nat} (h0 : ((n0 + 1) < n1)) : (n1 ≠ (n0 + 1)) := by exact Nat.ne_of_gt h0
theorem om212 {n0 n1 : Nat} (h0 : (n0 < n1)) : (n0 ≠ (n1 + 1)) := by omega
theorem om213 {n0 n1 n2 n3 : Nat} (h0 : (n0 ≤ n1)) (h1 : (n1 < n2)) (h2 : (n3 < n0)) : (n3 ≠ (n2 + 1)) := by lia
theorem om214 {n0 n1 n2 n3 : Nat} (h0 : (n0 ≤ n1)) (h1 : (n1 < n2)) (h2 : (n3 < n0)) : (n3 ≠ n2) := by omega
theorem om215 {n0 n1 : Nat} (h0 : (n0 < n1)) : ((n1 + 1) ≠ n0) := by lia
theorem om216 {n0 n1 : Nat} (h0 : ((n0 + 1) < n1)) : ((n0 + 1) < n1) := by exact h0
theorem om217 {n0 n1 : Nat} (h0 : ((n0 + 1) < n1)) : (n0 < n1) := by exact Nat.le_of_lt h0
theorem om218 {n0 : Nat} : (n0 ≠ (n0 + 1)) := by lia
theorem om219 {n0 n1 : Nat} (h0 : (n0 ≤ n1)) : (n0 ≤ (n1 + 3)) := by exact Nat.le_add_right_of_le h0
theorem om220 {n0 : Nat} : (n0 ≤ n0) := by lia
theorem om221 {n0 n1 : Nat} (h0 : (n0 < n1)) : (((n1 + 1) - (n0 + 1)) < ((n1 + 1) - n0)) := by omega
theorem om222 {n0 n1 n2 : Nat} (h0 : (n0 ≤ n1)) (h1 : ((n1 + 3) ≤ n2)) : (n0 ≤ n2) := by lia
theorem om223 {n0 n1 : Nat} (h0 : ((n0 + 1) ≤ n1)) : (n0 ≤ n1) := by exact Nat.le_of_lt h0
theorem om224 {n0 n1 n2 n3 : Nat} (h0 : ((n0 + n1) ≤ 1000)) (h1 : (n2 < n1)) (h2 : (n3 ≤ n2)) : ((n0 + n3) ≤ 1000) := by lia
theorem om225 {n0 n1 n2 n3 : Nat} (h0 : (n0 ≤ (n1 * n2))) (h1 : (n3 ≤ n2)) : ((n3 + n0) ≤ ((n1 * n2) + n2)) := by lia
theorem om226 {n0 n1 n2 : Nat} (h0 : (n0 = (n1 + 1))) (h1 : (n2 = (n1 + 2))) : (n0 ≠ n2) := by lia
theorem om227 {n0 n1 n2 n3 n4 : Nat} (h0 : (n0 = (n1 + 1))) (h1 : (n2 = n0)) (h2 : (n3 = (n1 + 2))) (h3 : (n4 < n2)) : (n4 ≠ n3) := by lia
theorem om228 {n0 n1 n2 n3 : Nat} (h0 : (n0 = (n1 + 2))) (h1 : (n2 ≤ n3)) (h2 : (n3 < n1)) : (n2 ≤ n0) := by lia
theorem om229 {n0 n1 : Nat} (h0 : (n0 = (n1 + 2))) : (n0 ≠ n1) := by lia
theorem om230 {n0 n1 : Nat} (h0 : (n0 = (n1 + 1))) : (n0 ≠ n1) := by omega
theorem om231 {n0 n1 : Nat} (h0 : (((n0 * n1) + n1) ≤ 1000)) : ((((n1 : Nat) : Int) < (9223372036854775808 : Int)) ∧ ((n1 = 0) ∨ (((n1 : Nat) : Int) < (9223372036854775808 : Int)))) := by omega
theorem om232 {n0 n1 n2 : Nat} (h0 : (n0 = (n1 + 2))) (h1 : (n0 < n2)) : (n1 ≤ n2) := by omega
theorem om233 {n0 n1 n2 n3 : Nat} (h0 : (n0 = (n1 + 1))) (h1 : (n2 = (n1 + 2))) (h2 : (n2 < n3)) : (n3 ≠ n0) := by lia
theorem om234 {n0 n1 n2 n3 : Nat} (h0 : (((n0 * n1) + n1) ≤ 1000)) (h1 : (n2 ≤ (n3 * n1))) (h2 : ((n3 * n1) ≤ (n0 * n1))) : ((n2 + n1) ≤ 1000) := by lia
theorem om235 {n0 n1 n2 : Nat} (h0 : (n0 = (n1 + 2))) (h1 : (n2 < n1)) : (n2 ≠ n0) := by lia
theorem om236 {n0 n1 : Nat} (h0 : (n0 = (n1 + 2))) : (n1 ≤ n0) := by omega
theorem om237 {n0 n1 n2 : Nat} (h0 : (n0 = (n1 + 1))) (h1 : (n2 < n1)) : (n2 < n0) := by omega
theorem om238 {n0 n1 n2 : Nat} (h0 : (n0 = (n1 + 1))) (h1 : (n2 < n1)) : (n0 ≠ n2) := by lia
theorem om239 {n0 n1 : Nat} (h0 : (17 ≤ (n0 + (n1 + 1)))) : (17 ≤ (n0 + (n1 + 1))) := by exact h0
theorem om240 {n0 n1 : Nat} (h0 : (n0 < n1)) : (n1 = ((n1 - 1) + 1)) := by lia
theorem om241 {n0 n1 n2 : Nat} (h0 : (n0 < n1)) (h1 : ((n2 + 1) < (n0 + 1))) : (n2 < n1) := by omega
theorem om242 {n0 n1 : Nat} (h0 : ((n0 + 1) < (n1 + 1))) : (n0 < n1) := by lia
theorem om243 {n0 : Nat} : (0 < (97 + (n0 + 1))) := by exact Nat.le_of_ble_eq_true rfl
theorem om244 {n0 n1 : Nat} (h0 : (n0 ≤ 97)) : (n0 < (97 + (n1 + 1))) := by lia
theorem om245 {n0 n1 : Nat} (h0 : ((n0 + 1) < (n1 + 1))) : ((97 + (n0 + 1)) < (97 + (n1 + 1))) := by lia
theorem om246 {n0 n1 n2 : Nat} (h0 : ((n0 + 2) = (n1 + 1))) (h1 : (n1 < n2)) : (n0 < n2) := by lia
theorem om247 {n0 : Nat} (h0 : (n0 ≤ 5)) : (5 = (n0 + (5 - n0))) := by omega
theorem om248 {n0 n1 n2 n3 : Nat} (h0 : (n0 = (n1 + 1))) (h1 : (n1 < n2)) (h2 : (n0 = ((n2 + n3) + 1))) : False := by lia
theorem om249 {n0 : Nat} : ((n0 * 2) = (n0 + n0)) := by lia
theorem om250 {n0 n1 : Nat} (h0 : (n0 < n1)) (h1 : (n1 ≤ 5)) : ((n0 = 0) ∨ ((n0 = 1) ∨ ((n0 = 2) ∨ ((n0 = 3) ∨ (n0 = 4))))) := by lia
theorem om251 {n0 n1 n2 : Nat} (h0 : (n0 = n1)) (h1 : (n2 < n1)) : (n2 < n0) := by (subst h0; exact h1)
theorem om252 {n0 : Nat} (h0 : (n0 = 34)) : (¬ ((n0 = 92) ∨ (n0 = 32))) := by lia
theorem om253 {n0 n1 : Nat} (h0 : (n0 < n1)) : (((n0 : Nat) : Int) < ((n1 : Nat) : Int)) := by exact Int.ofNat_lt.mpr h0
theorem om254 {n0 n1 : Nat} : ((Int.toNat (((((n0 : Nat) : Int) - ((n1 : Nat) : Int)) + (1 : Int)) - (1 : Int))) = (n0 - n1)) := by lia
theorem om255 {n0 n1 : Nat} : ((Int.toNat (((n0 : Nat) : Int) + ((1 : Int) * ((n1 : Nat) : Int)))) = (n0 + n1)) := by lia
theorem om256 {n0 n1 : Nat} (h0 : (¬ (n0 < n1))) : (¬ (((n0 : Nat) : Int) < ((n1 : Nat) : Int))) := by omega
theorem om257 {n0 n1 : Nat} (h0 : (¬ (n0 < n1))) : ((n1 - n0) = 0) := by omega
theorem om258 {n0 n1 n2 n3 : Nat} (h0 : (n0 ≤ n1)) (h1 : (n2 < (n0 - n3))) : ((n3 + n2) < n1) := by omega
theorem om259 {n0 n1 n2 : Nat} (h0 : (n0 < (n1 - n2))) : ((n2 + n0) < n1) := by omega
theorem om260 {n0 n1 n2 : Nat} (h0 : (¬ (n0 < (n1 - n2)))) : (¬ ((n2 + n0) < n1)) := by lia
theorem om261 {n0 n1 n2 n3 : Nat} (h0 : ((n0 - n1) = n2)) (h1 : (n2 = n3)) : ((n0 - n1) = n3) := by (subst h0; exact h1)
theorem om262 {n0 n1 : Nat} (h0 : ((n0 - 0) = n1)) : (n0 = n1) := by exact h0
theorem om263 {n0 n1 n2 n3 : Nat} (h0 : (n0 ≤ n1)) (h1 : ((n0 - n2) = n3)) (h2 : (n3 = n1)) (h3 : (¬ (n2 = 0))) : (n1 = 0) := by lia
theorem om264 {n0 n1 : Nat} (h0 : (¬ (n0 ≤ n1))) : (n1 ≤ n0) := by exact Nat.le_of_not_le h0
theorem om265 {n0 n1 n2 : Nat} (h0 : (¬ (n0 ≤ n1))) : ((min n2 n1) ≤ n0) := by lia
theorem om266 {n0 n1 : Nat} : ((min n0 n1) ≤ n1) := by lia
theorem om267 {n0 : Nat} : ((n0 - 1) ≤ n0) := by lia
theorem om268 {n0 : Nat} : (¬ (((n0 : Nat) : Int) < (0 : Int))) := by omega
theorem om269 {n0 n1 n2 : Nat} (h0 : ((n0 + (n1 + 1)) ≤ n2)) : (n0 < n2) := by omega
theorem om270 {n0 n1 n2 : Nat} (h0 : ((n0 + (n1 + 1)) ≤ n2)) : (((n0 + 1) + n1) ≤ n2) := by omega
theorem om271 {n0 n1 : Nat} : ((n0 + (n1 + 1)) = ((n0 + 1) + n1)) := by lia
theorem om272 {n0 : Nat} : ((0 + n0) ≤ n0) := by lia
theorem om276 {n0 n1 : Nat} (h0 : (n0 ≤ 63)) (h1 : (n0 = n1)) : (n1 < ((2 : Nat) ^ 60)) := by lia
theorem om277 {n0 n1 n2 : Nat} (h0 : (((n0 + n1) + 1) ≤ 100)) (h1 : (n2 = n0)) : (n2 < ((2 : Nat) ^ 60)) := by lia
theorem om279 {n0 : Nat} (h0 : (n0 ≤ 10)) : (n0 ≤ ((2 : Nat) ^ 24)) := by exact Nat.le_trans h0 (Nat.le_of_ble_eq_true rfl)
theorem om282 {n0 n1 : Nat} (h0 : (n0 = 5)) (h1 : (n1 < n0)) : (n1 < ((2 : Nat) ^ 60)) := by lia
theorem om284 {n0 : Nat} (h0 : (n0 < 4)) : (n0 < ((2 : Nat) ^ 60)) := by exact Nat.le_trans h0 (Nat.le_of_ble_eq_true rfl)
theorem om285 {n0 : Nat} (h0 : (n0 < 4)) : ((n0 + 1) < ((2 : Nat) ^ 60)) := by exact Nat.lt_of_le_of_lt h0 (Nat.le_of_ble_eq_true rfl)
theorem om288 {n0 n1 : Nat} (h0 : (n0 ≤ n1)) (h1 : (n1 = 16777216)) : (n0 < ((2 : Nat) ^ 60)) := by lia
theorem om289 {n0 : Nat} (h0 : (n0 < ((2 : Nat) ^ 60))) : ((((n0 : Nat) : Int) < (9223372036854775808 : Int)) ∧ ((n0 = 0) ∨ (((n0 : Nat) : Int) < (9223372036854775808 : Int)))) := by lia
theorem om290 {n0 : Nat} (h0 : (n0 < ((2 : Nat) ^ 60))) : (((n0 : Nat) : Int) < ((2 : Int) ^ 63)) := by lia
theorem om292 {m0 : Int} (h0 : ((1 : Int) ≤ m0)) (h1 : (m0 ≤ (625 : Int))) : ((Int.natAbs m0) < 1073741824) := by lia
theorem om294 {n0 : Nat} (h0 : (n0 < 2)) : ((2 * n0) < ((2 : Nat) ^ 60)) := by lia
theorem om295 {n0 : Nat} (h0 : (n0 < 2)) : (((2 * n0) + 1) < ((2 : Nat) ^ 60)) := by lia
theorem om296 {n0 : Nat} (h0 : ((n0 + 1) ≤ ((2 : Nat) ^ 6))) : (n0 ≤ 100) := by lia
theorem om297 {n0 : Nat} (h0 : (n0 < ((2 : Nat) ^ 60))) : (((n0 : Nat) : Int) < (9223372036854775808 : Int)) := by lia
end Mine
end
section
open PySem PySem.W PyProof.Rows
set_option maxHeartbeats 8000000
namespace Mine
theorem e0 : Manifest.plain? = Manifest.plain? := rfl
name_quick tw8075568018651887793 for Manifest.plain? by Mine.e0
name_quick tw14979626087600564940 for Manifest.plain? by Mine.e0
name_quick tw8494801392506436534 for Manifest.plain? by Mine.e0
name_quick tw10468963151334188823 for Manifest.plain? by Mine.e0
name_quick tw8686526503394165142 for Manifest.plain? by Mine.e0
name_quick tw645008353064770918 for Manifest.plain? by Mine.e0
name_quick tw12880600461018141596 for Manifest.plain? by Mine.e0
name_quick tw2039238271031011813 for Manifest.plain? by Mine.e0
name_quick tw10938465397075749097 for Manifest.plain? by Mine.e0
name_quick tw5152614393039654373 for Manifest.plain? by Mine.e0
name_quick tw8537084889766193716 for Manifest.plain? by Mine.e0
name_quick tw13678640442995254988 for Manifest.plain? by Mine.e0
name_quick tw11788150170368784547 for Manifest.plain? by Mine.e0
name_quick tw15278061642289888581 for Manifest.plain? by Mine.e0
name_quick tw3129706707597842070 for Manifest.plain? by Mine.e0
name_quick tw4392076818467891588 for Manifest.plain? by Mine.e0
name_quick tw619697553891244110 for Manifest.plain? by Mine.e0
name_quick tw10459078713815827633 for Manifest.plain? by Mine.e0
name_quick tw15066959818950650227 for Manifest.plain? by Mine.e0
name_quick tw14781814936221603388 for Manifest.plain? by Mine.e0
name_quick tw15260796648200649335 for Manifest.plain? by Mine.e0
name_quick tw3362959441861295915 for Manifest.plain? by Mine.e0
name_quick tw17111948838632640456 for Manifest.plain? by Mine.e0
name_quick tw17532440430192770315 for Manifest.plain? by Mine.e0
name_quick tw4775785305629353868 for Manifest.plain? by Mine.e0
name_quick tw3577408171920636059 for Manifest.plain? by Mine.e0
name_quick tw8897938508979226211 for Manifest.plain? by Mine.e0
name_quick tw13254397897704925713 for Manifest.plain? by Mine.e0
name_quick tw117213463901210413 for Manifest.plain? by Mine.e0
name_quick tw4549333791460862111 for Manifest.plain? by Mine.e0
name_quick tw16593013826814733010 for Manifest.plain? by Mine.e0
name_quick tw17964007177503468958 for Manifest.plain? by Mine.e0
name_quick tw1092655722715705105 for Manifest.plain? by Mine.e0
name_quick tw13317431791736044220 for Manifest.plain? by Mine.e0
name_quick tw16049961110935095269 for Manifest.plain? by Mine.e0
name_quick tw3131671291697673992 for Manifest.plain? by Mine.e0
name_quick tw1537898542681612871 for Manifest.plain? by Mine.e0
name_quick tw17730428716208468724 for Manifest.plain? by Mine.e0
name_quick tw13789449189825218787 for Manifest.plain? by Mine.e0
name_quick tw10424941004445345732 for Manifest.plain? by Mine.e0
name_quick tw6654550962395885724 for Manifest.plain? by Mine.e0
name_quick tw3976722010076183465 for Manifest.plain? by Mine.e0
name_quick tw4558998842232669794 for Manifest.plain? by Mine.e0
name_quick tw470574548607681690 for Manifest.plain? by Mine.e0
name_quick tw10833955939284561965 for Manifest.plain? by Mine.e0
name_quick tw3891137856419664920 for Manifest.plain? by Mine.e0
name_quick tw17954471519018878134 for Manifest.plain? by Mine.e0
name_quick tw17730448691065144110 for Manifest.plain? by Mine.e0
name_quick tw16741492637210864865 for Manifest.plain? by Mine.e0
name_quick tw9862997608875712007 for Manifest.plain? by Mine.e0
name_quick tw10996506086634736982 for Manifest.plain? by Mine.e0
name_quick tw151948405760981731 for Manifest.plain? by Mine.e0
name_quick tw17975652961387846372 for Manifest.plain? by Mine.e0
name_quick tw1702518465993881591 for Manifest.plain? by Mine.e0
name_quick tw17532718790514356516 for Manifest.plain? by Mine.e0
name_quick tw16916688483869632129 for Manifest.plain? by Mine.e0
name_quick tw2283851925072248500 for Manifest.plain? by Mine.e0
name_quick tw8206430501311747189 for Manifest.plain? by Mine.e0
name_quick tw5721027456603625697 for Manifest.plain? by Mine.e0
name_quick tw18220123701641295943 for Manifest.plain? by Mine.e0
name_quick tw136631920214876835 for Manifest.plain? by Mine.e0
name_quick tw505943868828395459 for Manifest.plain? by Mine.e0
name_quick tw14126943448341045398 for Manifest.plain? by Mine.e0
name_quick tw1414301608579184545 for Manifest.plain? by Mine.e0
name_quick tw12233582284571471492 for Manifest.plain? by Mine.e0
name_quick tw9467589175468403638 for Manifest.plain? by Mine.e0
name_quick tw7269565832213808900 for Manifest.plain? by Mine.e0
name_quick tw6929956602132211858 for Manifest.plain? by Mine.e0
name_quick tw4090926877573551719 for Manifest.plain? by Mine.e0
name_quick tw18350330562280901221 for Manifest.plain? by Mine.e0
name_quick tw2478078296215019888 for Manifest.plain? by Mine.e0
name_quick tw8860024209350480642 for Manifest.plain? by Mine.e0
name_quick tw282004115355043989 for Manifest.plain? by Mine.e0
name_quick tw18345786424863182364 for Manifest.plain? by Mine.e0
name_quick tw9407582987413476825 for Manifest.plain? by Mine.e0
name_quick tw15980859228951719591 for Manifest.plain? by Mine.e0
name_quick tw15112985482279097393 for Manifest.plain? by Mine.e0
name_quick tw6434138532213402376 for Manifest.plain? by Mine.e0
name_quick tw6589095468515690095 for Manifest.plain? by Mine.e0
name_quick tw3619232141914619222 for Manifest.plain? by Mine.e0
name_quick tw14108194823987119177 for Manifest.plain? by Mine.e0
name_quick tw13016732220969518872 for Manifest.plain? by Mine.e0
name_quick tw10942035263794033107 for Manifest.plain? by Mine.e0
name_quick tw8753696776887207221 for Manifest.plain? by Mine.e0
name_quick tw4071324889030633612 for Manifest.plain? by Mine.e0
name_quick tw17000155066101142889 for Manifest.plain? by Mine.e0
name_quick tw5978237884098788730 for Manifest.plain? by Mine.e0
name_quick tw4527066259768149269 for Manifest.plain? by Mine.e0
name_quick tw15007238320947547705 for Manifest.plain? by Mine.e0
name_quick tw1829445100760108279 for Manifest.plain? by Mine.e0
name_quick tw16018607276475445134 for Manifest.plain? by Mine.e0
name_quick tw13607416678640721797 for Manifest.plain? by Mine.e0
name_quick tw13236226663087606529 for Manifest.plain? by Mine.e0
name_quick tw8579058602437062094 for Manifest.plain? by Mine.e0
name_quick tw6122645084068987007 for Manifest.plain? by Mine.e0
name_quick tw5349121933718820234 for Manifest.plain? by Mine.e0
name_quick tw17988542015724977305 for Manifest.plain? by Mine.e0
name_quick tw17000458434675057986 for Manifest.plain? by Mine.e0
name_quick tw13215998728584607739 for Manifest.plain? by Mine.e0
name_quick tw12290603225136948437 for Manifest.plain? by Mine.e0
name_quick tw8603108125212654177 for Manifest.plain? by Mine.e0
name_quick tw3282434896037501709 for Manifest.plain? by Mine.e0
name_quick tw10029231156530900338 for Manifest.plain? by Mine.e0
name_quick tw3152983702415266003 for Manifest.plain? by Mine.e0
name_quick tw7745614565497352828 for Manifest.plain? by Mine.e0
name_quick tw10205541121877940668 for Manifest.plain? by Mine.e0
name_quick tw11588390666370768167 for Manifest.plain? by Mine.e0
name_quick tw1333364371103165705 for Manifest.plain? by Mine.e0
name_quick tw10948738476641704880 for Manifest.plain? by Mine.e0
name_quick tw14386061602966655976 for Manifest.plain? by Mine.e0
name_quick tw1377046205977697930 for Manifest.plain? by Mine.e0
name_quick tw18211773271919218964 for Manifest.plain? by Mine.e0
name_quick tw15742981410569661332 for Manifest.plain? by Mine.e0
name_quick tw13981391230805400906 for Manifest.plain? by Mine.e0
name_quick tw11543547407058413889 for Manifest.plain? by Mine.e0
name_quick tw4302124980754421698 for Manifest.plain? by Mine.e0
name_quick tw7276740287692124622 for Manifest.plain? by Mine.e0
name_quick tw8424611434330503625 for Manifest.plain? by Mine.e0
name_quick tw16349804527192203551 for Manifest.plain? by Mine.e0
name_quick tw392140993173905013 for Manifest.plain? by Mine.e0
name_quick tw5902227825499142635 for Manifest.plain? by Mine.e0
name_quick tw18056578402003937789 for Manifest.plain? by Mine.e0
name_quick tw16531745337717519161 for Manifest.plain? by Mine.e0
name_quick tw14537914154153760125 for Manifest.plain? by Mine.e0
name_quick tw13439089654948313746 for Manifest.plain? by Mine.e0
name_quick tw17100903815162463580 for Manifest.plain? by Mine.e0
name_quick tw14834023430324568649 for Manifest.plain? by Mine.e0
name_quick tw10007627690174824804 for Manifest.plain? by Mine.e0
name_quick tw3778451253796500701 for Manifest.plain? by Mine.e0
name_quick tw8703263022893421829 for Manifest.plain? by Mine.e0
name_quick tw17672482021469178181 for Manifest.plain? by Mine.e0
open_top hd for PySem.Challenge.rw_to0019_01
end Mine
end
section
open PySem PySem.W PyProof.Rows PySem.Calls PySem.Spec
namespace Mine

theorem aR (h : True := by rfl) : True := h
theorem aD (h : True := by decide) : True := h

/-- the goal, hidden behind a letter -/
structure Hold (p : Prop) : Prop where
  out : p
theorem mem_of_eq {α : Type} {l l' : List α} {x : α} (e : l = l') (h : x ∈ l') : x ∈ l := e ▸ h
theorem list3 {α : Type} {l : List α} {P : Prop} (h : l.length = 3) (k : ∀ a b c, l = [a, b, c] → P) : P := by
  match l, h with
  | [a, b, c], _ => exact k a b c rfl
theorem ltM {ld : List (Addr × Obj)} {a D : Addr} {o : Obj} (h : ∀ p ∈ ld, p.1 < D) (m : (a, o) ∈ ld) : @LT.lt Nat _ a D := h _ m
theorem lt2 {a b D : Nat} {P : Prop} (h : @LT.lt Nat _ b D ∧ P) (k : @LT.lt Nat _ b D ∧ P → @LT.lt Nat _ a D) : @LT.lt Nat _ a D := k h
theorem get2 {α : Type} {a b : α} {P : Nat → α → Prop} (h0 : P 0 a) (h1 : P 1 b) : ∀ {i : Nat} {v : α}, [a, b][i]? = some v → P i v
  | 0, _, e => Option.some.inj e ▸ h0
  | 1, _, e => Option.some.inj e ▸ h1
theorem get3 {α : Type} {a b c : α} {P : Nat → α → Prop} (h0 : P 0 a) (h1 : P 1 b) (h2 : P 2 c) : ∀ {i : Nat} {v : α}, [a, b, c][i]? = some v → P i v
  | 0, _, e => Option.some.inj e ▸ h0
  | i + 1, _, e => get2 (P := fun i v => P (i + 1) v) h1 h2 (i := i) e
theorem get5 {α : Type} {a b c d f : α} {P : Nat → α → Prop} (h0 : P 0 a) (h1 : P 1 b) (h2 : P 2 c) (h3 : P 3 d) (h4 : P 4 f) : ∀ {i : Nat} {v : α}, [a, b, c, d, f][i]? = some v → P i v
  | 0, _, e => Option.some.inj e ▸ h0
  | 1, _, e => Option.some.inj e ▸ h1
  | i + 2, _, e => get3 (P := fun i v => P (i + 2) v) h2 h3 h4 (i := i) e
theorem ne2 {a b c d : Nat} {P : Prop} (h : c ≠ d ∧ P) (k : c ≠ d ∧ P → a ≠ b) : a ≠ b := k h
theorem fit63 {n : Nat} (h : n ≤ 1000) : (n : Int) < 2 ^ 63 := by omega
theorem lt60 {n : Nat} (h : n ≤ 1000) : n < 2 ^ 60 := Nat.lt_of_le_of_lt h (by decide)
theorem byGoal {G : Prop} (h : ∀ P : Prop, (G → P) → P) : G := h G id

theorem runs_toks {M : Model} {Γ : PySem.Ctx} {p : Pos} {t : Sem Fin} {fs : List Frame} {s : Shared} {e : End} {s' : Shared} (h : Runs M Γ p t fs s e s') : s.toks ≤ s'.toks ∧ s.heap.objs.size ≤ s'.heap.objs.size := by
  induction h with
  | alloc _ ih => exact ⟨ih.1, by have := ih.2; rw [Heap.size_push] at this; exact Mine.om223 this⟩
  | update _ _ ih => exact ⟨ih.1, by have := ih.2; simp only [Heap.update, Array.size_modify] at this; exact this⟩
  | fresh _ ih => exact ⟨by have := ih.1; simp only at this; exact Mine.om223 this, ih.2⟩
  | call _ _ ih1 ih2 => exact ⟨Nat.le_trans ih1.1 ih2.1, Nat.le_trans ih1.2 ih2.2⟩
  | resumeFresh _ _ _ _ ih1 ih2 => exact ⟨Nat.le_trans ih1.1 ih2.1, Nat.le_trans ih1.2 ih2.2⟩
  | resumeSuspended _ _ _ _ ih1 ih2 => exact ⟨Nat.le_trans ih1.1 ih2.1, Nat.le_trans ih1.2 ih2.2⟩
  | segRet _ _ ih1 ih2 => exact ⟨Nat.le_trans ih1.1 ih2.1, Nat.le_trans ih1.2 ih2.2⟩
  | segGen _ _ ih1 ih2 => exact ⟨Nat.le_trans ih1.1 ih2.1, Nat.le_trans ih1.2 ih2.2⟩
  | segSuspGen _ _ _ _ ih1 ih2 => exact ⟨Nat.le_trans ih1.1 ih2.1, Nat.le_trans ih1.2 ih2.2⟩
  | done => exact ⟨Nat.le_refl _, Nat.le_refl _⟩
  | raise => exact ⟨Nat.le_refl _, Nat.le_refl _⟩
  | yield => exact ⟨Nat.le_refl _, Nat.le_refl _⟩
  | _ => assumption

theorem wakes_toks {M : Model} {Γ : PySem.Ctx} {p : Pos} {g : Nat} {r : Resume} {s : Shared} {res : GenResult} {s' : Shared} (h : Wakes M Γ p g r s res s') : s.toks ≤ s'.toks ∧ s.heap.objs.size ≤ s'.heap.objs.size := by
  unfold Wakes at h
  split at h
  · exact h.elim
  · split at h
    · obtain ⟨e₁, s₁, h1, _, _, rfl⟩ := h; have := runs_toks h1; exact this
    · obtain ⟨_, rfl⟩ := h; exact ⟨Nat.le_refl _, Nat.le_refl _⟩
    · obtain ⟨_, rfl⟩ := h; exact ⟨Nat.le_refl _, Nat.le_refl _⟩
  · obtain ⟨e₁, s₁, h1, _, _, rfl⟩ := h; have := runs_toks h1; exact this
  · obtain ⟨_, rfl⟩ := h; exact ⟨Nat.le_refl _, Nat.le_refl _⟩
  · obtain ⟨_, rfl⟩ := h; exact ⟨Nat.le_refl _, Nat.le_refl _⟩

def Later (s s' : Shared) : Prop := s.toks ≤ s'.toks ∧ s.heap.objs.size ≤ s'.heap.objs.size
theorem Later.refl (s : Shared) : Later s s := ⟨Nat.le_refl _, Nat.le_refl _⟩
theorem Later.trans {a b c : Shared} (h : Later a b) (k : Later b c) : Later a c := ⟨Nat.le_trans h.1 k.1, Nat.le_trans h.2 k.2⟩

theorem wp_later {α : Type} {M : Model} {Γ : PySem.Ctx} : ∀ (t : Sem α) {Q : α → Pos → Shared → Prop} {E : Value → Pos → Shared → Prop} {p : Pos} {s : Shared},
    Sem.wp M Γ t Q E p s → Sem.wp M Γ t (fun a p' s' => Later s s' ∧ Q a p' s') (fun e p' s' => Later s s' ∧ E e p' s') p s := by
  intro t
  have lift : ∀ {t : Sem α} {Q : α → Pos → Shared → Prop} {E : Value → Pos → Shared → Prop} {p : Pos} {s s₁ : Shared}, Later s s₁ →
      Sem.wp M Γ t (fun a p' s' => Later s₁ s' ∧ Q a p' s') (fun e p' s' => Later s₁ s' ∧ E e p' s') p s₁ → Sem.wp M Γ t (fun a p' s' => Later s s' ∧ Q a p' s') (fun e p' s' => Later s s' ∧ E e p' s') p s₁ :=
    fun l h => Sem.wp_mono M Γ _ (fun _ _ _ x => ⟨l.trans x.1, x.2⟩) (fun _ _ _ x => ⟨l.trans x.1, x.2⟩) _ _ h
  induction t with
  | pure a => intro Q E p s h; exact ⟨.refl _, h⟩
  | raise e => intro Q E p s h; exact ⟨.refl _, h⟩
  | unsupported w => intro Q E p s h; exact h
  | finish e => intro Q E p s h; exact h
  | rule _ k ih => intro Q E p s h; exact ih () h
  | «at» _ k ih => intro Q E p s h; exact ih () h
  | load a _ k ih => intro Q E p s h; obtain ⟨o, ho, h⟩ := h; exact ⟨o, ho, ih o h⟩
  | update a _ f k ih => intro Q E p s h; rw [Sem.wp_update] at h ⊢; refine ⟨h.1, lift ?_ (ih () h.2)⟩; exact ⟨Nat.le_refl _, by simp [Heap.update]⟩
  | loadIfAlive a k ih => intro Q E p s h; exact ih _ h
  | point _ k ih => intro Q E p s h; exact ih () h
  | register _ k ih => intro Q E p s h; exact h
  | alloc o k ih => intro Q E p s h; rw [Sem.wp_alloc] at h ⊢; refine lift ?_ (ih _ h); exact ⟨Nat.le_refl _, by rw [Heap.size_push]; exact Nat.le_succ _⟩
  | fresh k ih => intro Q E p s h; rw [Sem.wp_fresh] at h ⊢; refine lift ?_ (ih _ h); exact ⟨Nat.le_succ _, Nat.le_refl _⟩
  | ask k ih => intro Q E p s h; exact ih _ h
  | choose src n k ih => intro Q E p s h; rw [Sem.wp_choose] at h ⊢; refine ⟨h.1, lift ?_ (ih _ h.2)⟩; exact ⟨Nat.le_refl _, Nat.le_refl _⟩
  | os q l k ih => intro Q E p s h; rw [Sem.wp_os] at h ⊢; refine lift ?_ (ih _ h); exact ⟨Nat.le_refl _, Nat.le_refl _⟩
  | call c h' g l k ih => intro Q E p s h; obtain ⟨r, s₁, h1, h2⟩ := h; exact ⟨r, s₁, h1, lift (s₁ := s₁) (runs_toks h1) (ih r h2)⟩
  | handled own k ih => intro Q E p s h; exact ih _ h
  | genState g k ih => intro Q E p s h; obtain ⟨st, ho, h⟩ := h; exact ⟨st, ho, ih _ h⟩
  | newGen c k ih => intro Q E p s h; rw [Sem.wp_newGen] at h ⊢; refine lift ?_ (ih _ h); exact ⟨Nat.le_refl _, Nat.le_refl _⟩
  | resume g r l k ih => intro Q E p s h; obtain ⟨res, s₁, h1, h2⟩ := h; exact ⟨res, s₁, h1, lift (s₁ := s₁) (wakes_toks h1) (ih _ h2)⟩
  | yield _ _ _ k ih => intro Q E p s h; exact h
  | stack k ih => intro Q E p s h; exact ih _ h
  | fork _ k ih => intro Q E p s h; exact h
  | thread k ih => intro Q E p s h; exact ih _ h
  | await _ _ _ _ k ih => intro Q E p s h; exact h

/-- what a tree leaves is no earlier than where it began -/
theorem later {α : Type} {M : Model} {A : Around} {t : Sem α} {Q : α → Shared → Prop} {E : Value → Shared → Prop} {s : Shared} (h : wpAny M A t (fun a s' => Later s s' → Q a s') E s) : wpAny M A t Q E s :=
  fun Γ p hΓ => Sem.wp_mono M Γ _ (fun _ _ _ x => x.2 x.1) (fun _ _ _ x => x.2) _ _ (wp_later _ (h Γ p hΓ))
end Mine
end
section
open PySem PySem.W PyProof.Rows PySem.Calls PySem.Spec
set_option maxHeartbeats 1000000
namespace Mine
open Sem (wp)
theorem ty_str_gi : typeOf (.builtin "str.__getitem__") = pure (.type "wrapper_descriptor") := by show builtinType _ = _; rw [builtinType_eq_fast]; kernel_rfl
theorem lk_wd_set : typeLookup (.type "wrapper_descriptor") "__set__" = pure none := by rw [typeLookup_type, builtinLookup_eq_fast]; kernel_rfl
theorem lk_wd_del : typeLookup (.type "wrapper_descriptor") "__delete__" = pure none := by rw [typeLookup_type, builtinLookup_eq_fast]; kernel_rfl
theorem slot_wd_get : Slot "wrapper_descriptor" "__get__" "wrapper_descriptor.__get__" :=
  .of (owner := "wrapper_descriptor") (n := "__get__") (by rw [typeLookup_type, builtinLookup_eq_fast]; kernel_rfl) (by decide +kernel) (by decide +kernel) (by decide +kernel)
    (by first | exact .inl (by decide +kernel) | exact .inr (by decide +kernel)) (by rw [isSubtype_type]; kernel_rfl)
theorem entry_wd_get : entryFor table "wrapper_descriptor.__get__" = some Builtin.«wrapper_descriptor.__get__» := entryFor_of_tree (by kernel_rfl)
theorem args_wd_get (a b c : Value) : argsOk "wrapper_descriptor.__get__" ⟨[a, b, c], []⟩ := by unfold argsOk; kernel_rfl
theorem sub_str_str : isSubtype (.type "str") (.type "str") = pure true := by rw [isSubtype_type]; kernel_rfl
theorem kind_hasattr : builtinKind "hasattr" = none := by decide +kernel
theorem plain_hasattr : plainId "hasattr" = true := by decide +kernel
theorem entry_hasattr : entryFor table "hasattr" = some Builtin.«hasattr» := entryFor_of_tree (by kernel_rfl)
example : True := by
  (k_with "WPS" => (first
  | with_reducible (first
      | refine wpAny_pure ?_ | refine wpAny_bind ?_ | refine wpAny_holding ?_ | refine wpAny_standAt ?_ | refine wpAny_point ?_ | refine wpAny_rule ?_
      | refine wpAny_mkInt' ?_ | refine wpAny_mkStr' ?_ | refine wpAny_fresh' ?_ | refine wpAny_alloc' ?_ | refine wpAny_attempt ?_
      | refine wpAny_of_eq (by assumption) ?_ | refine wpAny_typeOf (by assumption) ?_
      | refine wpAny_specialOf_val (by assumption) (by assumption) ?_ | refine wpAny_specialOf (by assumption) (by assumption) ?_
      | refine wpAny_isInstance_val (by assumption) (by assumption) ?_ | refine wpAny_isInstance (by assumption) (by assumption) ?_
      | refine wpAny_call ?_ | refine wpAny_runValue ?_ | refine wpAny_run ?_)
  | ((with_reducible refine wpAny_ite_false ?c ?_); (case c => rfl))
  | ((with_reducible refine wpAny_ite_true ?c ?_); (case c => rfl))
  | wp_delta
  | with_reducible_and_instances refine wpAny_pure ?_
  | with_reducible_and_instances refine wpAny_bind ?_))
  (k_with "WPW" => (repeat (k_extra "WPS")))
  trivial
section
variable {prog : Program} {w : World} {A : Around} {E : Value → Shared → Prop} {h : Heap} {g : Array GenState} {d : Drawn} {t : Nat} {os : OsState} {x : Str} {u : Tok}
theorem wd_get {R : Result → Shared → Prop} (hq : ∀ v h', h.StaysIn h' → R (.ok (.ret (.ref v))) ⟨h', g, d, t, os⟩) :
    codeAny (model prog w) A (.call (.builtin "wrapper_descriptor.__get__") ⟨[.builtin "str.__getitem__", .str x u, .type "str"], []⟩) R ⟨h, g, d, t, os⟩ := by
  have hT : (⟨h, g, d, t, os⟩ : Shared).TypeIs (.str x u) "str" := rfl
  have hT5 : (⟨h, g, d, t, os⟩ : Shared).TypeIs (.builtin "str.__getitem__") "wrapper_descriptor" := ty_str_gi
  have f8 := sub_str_str
  refine codeAny_call_builtin slot_wd_get.plain entry_wd_get (slot_wd_get.check _ _ _ _ _ _ _ _ hT5 (args_wd_get _ _ _) ?_)
  have f9 : isSubtype (Value.type "str") (Value.type (".".intercalate ("str.__getitem__".cutAt '.').dropLast)) = pure true := by
    have e0 : "str.__getitem__".cutAt '.' = ["str", "__getitem__"] := by decide +kernel
    rw [e0]; exact sub_str_str
  k_extra "WPW"
  exact hq _ _ (fun b o e => Heap.get?_push_of_some _ e)
theorem gi_entry {tk : Tok} {Q : Fin → Shared → Prop} (hq : ∀ v h', h.StaysIn h' → Q (.done (.ret (.ref v))) ⟨h', g, d, t, os⟩) :
    wpAny (model prog w) A (Builtin.«object.__getattribute__» ⟨[.str x u, .str "__getitem__" tk], []⟩) Q E ⟨h, g, d, t, os⟩ := by
  have hT : (⟨h, g, d, t, os⟩ : Shared).TypeIs (.str x u) "str" := rfl
  have hT5 : (⟨h, g, d, t, os⟩ : Shared).TypeIs (.builtin "str.__getitem__") "wrapper_descriptor" := ty_str_gi
  have f4 := F.slot_str_getitem.lookup
  have f5 := ty_str_gi
  have f6 := slot_wd_get.lookup
  have f7 := lk_wd_set
  have f8 := lk_wd_del
  k_extra "WPW"
  refine wd_get fun v h' k => ?_
  k_extra "WPW"
  exact hq _ _ k

theorem gi_call {tk : Tok} {R : Result → Shared → Prop} (hq : ∀ v h', h.StaysIn h' → R (.ok (.ret (.ref v))) ⟨h', g, d, t, os⟩) :
    codeAny (model prog w) A (.call (.builtin "object.__getattribute__") ⟨[.str x u, .str "__getitem__" tk], []⟩) R ⟨h, g, d, t, os⟩ :=
  codeAny_call_builtin F.slot_str_getattribute.plain F.entry_object_getattribute (F.slot_str_getattribute.check _ _ _ _ _ _ _ _ (show (⟨h, g, d, t, os⟩ : Shared).TypeIs (.str x u) "str" from rfl) (F.args_object_getattribute_2 _ _) (gi_entry hq))
theorem hasattr_str {tk : Tok} {Q : Value → Shared → Prop} (hq : ∀ h', h.StaysIn h' → Q (.bool true) ⟨h', g, d, t, os⟩) :
    wpAny (model prog w) A (call (.builtin "hasattr") [.str x u, .str "__getitem__" tk]) Q E ⟨h, g, d, t, os⟩ := by
  refine Calls.call_function_entry kind_hasattr plain_hasattr entry_hasattr (by unfold argsOk; kernel_rfl) ?_
  have hT : (⟨h, g, d, t, os⟩ : Shared).TypeIs (.str x u) "str" := rfl
  have f2 := F.slot_str_getattribute.lookup
  have f4 := F.slot_str_getitem.lookup
  have f3 := F.slot_str_getattribute.bind (.str x u)
  unfold Builtin.«hasattr»
  k_extra "WPW"
  refine gi_call fun v h' k => ?_
  k_extra "WPW"
  exact ⟨_, rfl, hq _ k⟩
end
end Mine
end
section
open PySem PySem.W PyProof.Rows
namespace Mine
open PySem PySem.W PyProof.Rows PySem.Calls PySem.Spec

noncomputable abbrev PG : Program := PySem.Challenge.rw_to0019_01.row.prog

/-- what every heap behind the law's start bears -/
structure G0 (w : World) (b : Heap) : Prop where
  X : (hd.heap_39 w.params).In b
  T : ∃ (p : Program) (loose : List Str) (mg mb : Str → Option Value), TopRead p loose mg mb b
theorem G0.keeps {w : World} {b h : Heap} (G : G0 w b) (k : ∀ a o, b.get? a = some o → h.get? a = some o) : G0 w h :=
  ⟨G.X.keeps k, let ⟨p, l, mg, mb, T⟩ := G.T; ⟨p, l, mg, mb, T.keeps k⟩⟩


theorem enterH {w : World} {A : Around} {R : Result → Shared → Prop} {s : Shared} {base : Heap} {ld : List (Addr × Obj)}
    {name qual : Str} {params : Arguments} {body : List Stmt} {scope : Scope} {dV kV doc pm cdv ct oc : Value} {an od : Option Addr} {osl : Array (Option Value)} {f : Addr} {args : List Value} {binds : List (Str × Value)}
    (G : G0 w base) (st : base.StaysIn s.heap) (hn : ∀ p ∈ ld, s.heap.get? p.1 = some p.2 ∧ base.get? p.1 = none)
    (hroom : A.depth < recursionLimit)
    (ho : (hd.heap_39 w.params).lookup f = some ⟨oc, od, .func (fnOf name qual params body scope dV kV doc pm an cdv ct), osl⟩) (hcd : codeIn (hd.heap_39 w.params) cdv qual = true)
    (hbind : BindsTo s (fnOf name qual params body scope dV kV doc pm an cdv ct) ⟨args, []⟩ binds) (hloc : ∀ y ∈ binds, scope.names.lookup y.1 = some .local)
    (h : ∀ g L h₁, (∀ b o, s.heap.get? b = some o → b ∉ ld.map (·.1) → g.get? b = some o) → (∀ b o, g.get? b = some o → s.heap.get? b = some o) → Fr g L h₁ (fun y => binds.reverse.lookup y) → News g L h₁ ld → (hd.heap_39 w.params).In g → G0 w g →
      wpAny (model PG w) (A.deeper (envOf qual scope L f cdv)) (execs body (envOf qual scope L f cdv))
        (fun fl s' => R (.ok (.ret (match fl with | .ret v => v | _ => .none))) s') (fun _ _ => False)
        { s with heap := h₁, toks := s.toks + binds.length })
    (hcell : ∀ x ∈ scope.names, x.2 ≠ .cell) (hco : autoParam (scope.isCoroutine = false) aR._auto_1) (hgen : autoParam (scope.isGenerator = false) aR._auto_1) (hk : autoParam (scope.kind = .function) aR._auto_1) :
    codeAny (model PG w) A (.call (.ref f) ⟨args, []⟩) R s := by
  have X := G.X.keeps st
  have hlim : s.heap.NoLimit := by obtain ⟨p, l, mg, mb, T⟩ := G.T; exact T.nolimit.keeps st
  refine codeAny_call_def (fd := fnOf name qual params body scope dV kV doc pm an cdv ct) (body := body) (binds := binds) hroom (X _ _ ho) rfl hlim (codeRec_of X hcd) rfl hbind hcell hloc (fun h₁ hns hk₁ => ?_) hco hgen hk
  have up : ∀ b o, s.heap.get? b = some o → b ∉ ld.map (·.1) → (hideAll s.heap (ld.map (·.1))).get? b = some o := fun b o e n => hideAll_get _ e n
  have nb : ∀ b o, base.get? b = some o → (hideAll s.heap (ld.map (·.1))).get? b = some o := fun b o e => up b o (st b o e) fun q => by
    refine byGoal fun P9 k9 => ?_
    obtain ⟨p, hp, rfl⟩ := List.mem_map.mp q
    refine k9 ?_
    clear k9 P9
    rw [(hn p hp).2] at e; cases e
  refine wpAny_mono (h (hideAll s.heap (ld.map (·.1))) s.heap.objs.size h₁ up (fun b o e => of_hideAll _ e)
    ⟨hns, fun b o e => hk₁ b o (of_hideAll _ e), Nat.le_of_eq (hideAll_size _ _)⟩
    (fun p hp => ⟨hk₁ _ _ (hn p hp).1, Nat.ne_of_lt (Heap.lt_size (hn p hp).1), hideAll_none _ (List.mem_map_of_mem hp)⟩) (G.X.keeps nb) (G.keeps nb)) (fun _ _ x => x) (fun _ _ x => x.elim)

abbrev NoE : Value → Shared → Prop := fun _ _ => False

structure Rm (A : Around) (k : Nat) : Prop where
  d : A.depth + k < recursionLimit
  u : A.units + 8 * k < cLine
  h : A.handled = none
theorem Rm.deeper {A : Around} {k : Nat} (R : Rm A (k + 1)) (env : Env) : Rm (A.deeper env) k := ⟨by have := R.d; show A.depth + 1 + k < _; exact Mine.om1 this, by have := R.u; show A.units + 3 + 8 * k < _; exact Mine.om2 this, R.h⟩
theorem Rm.in1 {A : Around} {k : Nat} (R : Rm A (k + 1)) : Rm A.in1 k := ⟨by have := R.d; show A.depth + k < _; exact Mine.om3 this, by have := R.u; show A.units + 1 + 8 * k < _; exact Mine.om4 this, R.h⟩
theorem Rm.le {A : Around} {k j : Nat} (R : Rm A k) (h : j ≤ k) : Rm A j := ⟨by have := R.d; exact Mine.om5 h this, by have := R.u; exact Mine.om6 h this, R.h⟩
theorem Rm.room {A : Around} {k : Nat} (R : Rm A k) : A.depth < recursionLimit := by have := R.d; exact Mine.om7 this
theorem Rm.units {A : Around} {k : Nat} (R : Rm A k) : A.units < cLine := by have := R.u; exact Mine.om8 this

theorem fr_stays {g h h' : Heap} {L : Addr} {m : Str → Option Value} (F : Fr g L h m) (k : h.StaysIn h') : Fr g L h' m :=
  let ⟨o, es, ep, ho, r⟩ := F.ns
  ⟨⟨o, es, ep, k _ _ ho, r⟩, fun b o e => k _ _ (F.keep b o e), F.above⟩
theorem news_stays {g h h' : Heap} {L : Addr} {ld : List (Addr × Obj)} (N : News g L h ld) (k : h.StaysIn h') : News g L h' ld :=
  fun p hp => ⟨k _ _ (N p hp).1, (N p hp).2⟩
theorem fr_nL {g h : Heap} {L a : Addr} {m : Str → Option Value} (F : Fr g L h m) (hn : h.get? a = none) : a ≠ L := fun e => by
  refine byGoal fun P9 k9 => ?_
  obtain ⟨o, es, ep, ho, r⟩ := F.ns
  refine k9 ?_
  clear k9 P9
  rw [← e, hn] at ho; cases ho
theorem news_cons {g h h' : Heap} {L a : Addr} {o : Obj} {m : Str → Option Value} {ld : List (Addr × Obj)} (N : News g L h' ld) (F : Fr g L h m) (hn : h.get? a = none) (ho : h'.get? a = some o) : News g L h' ((a, o) :: ld) := by
  intro p hp
  rcases List.mem_cons.mp hp with rfl | hp
  · refine ⟨ho, fr_nL F hn, ?_⟩
    cases q : g.get? a with
    | none => rfl
    | some x => have := F.keep _ _ q; rw [hn] at this; cases this
  · exact N p hp
theorem news_sub {g h : Heap} {L : Addr} {ld ld' : List (Addr × Obj)} (N : News g L h ld) (k : ∀ p ∈ ld', p ∈ ld) : News g L h ld' := fun p hp => N p (k p hp)
theorem fresh_of {h : Heap} {a : Addr} (ha : h.objs.size ≤ a) : h.get? a = none := by
  cases q : h.get? a with
  | none => rfl
  | some o => exact absurd (Heap.lt_size q) (Nat.not_lt.mpr ha)

def LoopR (Q : Flow → Shared → Prop) (r : Result) (s' : Shared) : Prop := match r with | .ok f => Q f s' | .error _ => False

theorem for_rule {w : World} {A : Around} {s : Shared} {env : Env} {target iter : Expr} {body orelse : List Stmt} {pos : Pos} {Q : Flow → Shared → Prop} {E : Value → Shared → Prop}
    (h : wpAny (model PG w) A (eval iter env) (fun v s₁ => wpAny (model PG w) A (pyIter v) (fun it s₂ => codeAny (model PG w) A (.forLoop target it body orelse env) (LoopR Q) s₂) NoE s₁) NoE s)
    (hs : ∀ x, foldedSetIterable iter env x = pure x := by intro _; rfl) : wpAny (model PG w) A (exec (.For target iter body orelse pos) env) Q E s :=
  wpAny_For (wpAny_mono h (fun _ _ h₁ => wpAny_mono h₁ (fun _ _ h₂ => codeAny_mono h₂ fun r s' hr => by
    cases r with
    | ok f => exact hr
    | error e => exact hr.elim) fun _ _ x => x.elim) fun _ _ x => x.elim) hs

inductive NextT (g : Heap) (L : Addr) (J : Nat → (Str → Option Value) → List (Addr × Obj) → Prop) (own : List (Addr × Obj)) (adr : List Addr) (gs : Array GenState) (dr : Drawn) (os : OsState) (s₂ : Shared) : Prop
  | mk (h' : Heap) (tk : Nat) (m' : Str → Option Value) (ld' : List (Addr × Obj)) (e : s₂ = ⟨h', gs, dr, tk, os⟩) (F : Fr g L h' m') (N : News g L h' (ld' ++ own)) (a : ld'.map (·.1) = adr) (j : J tk m' ld')
inductive ForI (n : Nat) (St : Nat → Heap → Prop) (g : Heap) (L : Addr) (K : Nat → Nat → (Str → Option Value) → List (Addr × Obj) → Prop) (s : Shared) (k : Nat) (s' : Shared) : Prop
  | mk (i : Nat) (h : Heap) (tk : Nat) (m : Str → Option Value) (ld : List (Addr × Obj)) (e : k = n - i) (hin : i ≤ n) (htk : s.toks ≤ tk) (es : s' = { s with heap := h, toks := tk }) (hSt : St i h) (F : Fr g L h m) (N : News g L h ld) (hK : K i tk m ld)
def TurnEndT (g : Heap) (L : Addr) (J : Nat → (Str → Option Value) → List (Addr × Obj) → Prop) (own : List (Addr × Obj)) (adr : List Addr) (s : Shared) (Q : Flow → Shared → Prop) (f : Flow) (s₂ : Shared) : Prop :=
  match f with
  | .ret v => Q (.ret v) s₂
  | .brk => Q .next s₂
  | _ => NextT g L J own adr s.gens s.drawn s.os s₂

theorem forT {w : World} {A : Around} {s : Shared} {g : Heap} {env : Env} {target : Expr} {body orelse : List Stmt} {Q : Flow → Shared → Prop}
    {I : Addr} {fp wr : List Addr} {n : Nat} {P : Nat → Value → Prop} {St : Nat → Heap → Prop} {m₀ : Str → Option Value} {ld₀ : List (Addr × Obj)}
    (W : Walks PG w A I fp wr n P St) (J : Nat → Nat → (Str → Option Value) → List (Addr × Obj) → Prop)
    (hLf : env.locals ∉ fp) (hwr : ∀ b ∈ wr, g.get? b = none) (hfp : ∀ q ∈ ld₀, q.1 ∉ fp) (hst : St 0 s.heap)
    (F : Fr g env.locals s.heap m₀) (N : News g env.locals s.heap ld₀) (h0 : J 0 s.toks m₀ ld₀)
    (turn : ∀ (i : Nat) (v : Value) (m : Str → Option Value) (ld : List (Addr × Obj)) (h : Heap) (tk tk0 : Nat) (own : List (Addr × Obj)), i < n → P i v → s.toks ≤ tk0 → tk0 ≤ tk → ld.map (·.1) = ld₀.map (·.1) → OwnOff own (ld₀.map (·.1)) → J i tk0 m ld → St (i + 1) h → Fr g env.locals h m → News g env.locals h (ld ++ own) →
      wpAny (model PG w) A (letOwnedTupleGo target (.ref I) v) (fun _ s₁ => wpAny (model PG w) A (assign target env v) (fun _ s₂ =>
        wpAny (model PG w) A (execs body env) (fun f s₃ => Later { s with heap := h, toks := tk } s₃ → TurnEndT g env.locals (J (i + 1)) own (ld₀.map (·.1)) s Q f s₃) NoE s₂) NoE s₁) NoE { s with heap := h, toks := tk })
    (done : ∀ (m : Str → Option Value) (ld : List (Addr × Obj)) (h : Heap) (tk tk0 : Nat), s.toks ≤ tk0 → tk0 ≤ tk → J n tk0 m ld → Fr g env.locals h m → News g env.locals h ld → wpAny (model PG w) A (execs orelse env) Q NoE { s with heap := h, toks := tk }) :
    codeAny (model PG w) A (.forLoop target (.ref I) body orelse env) (LoopR Q) s := by
  have disj : ∀ (ld : List (Addr × Obj)), ld.map (·.1) = ld₀.map (·.1) → ∀ p ∈ ld, p.1 ∉ fp := fun ld e p hp => by
    have : p.1 ∈ ld₀.map (·.1) := e ▸ List.mem_map_of_mem hp
    refine byGoal fun P9 k9 => ?_
    obtain ⟨q, hq, e'⟩ := List.mem_map.mp this
    refine k9 ?_
    clear k9 P9
    exact e' ▸ hfp q hq
  refine codeAny_forLoop_any (ForI n St g env.locals (fun i tk m ld => ld.map (·.1) = ld₀.map (·.1) ∧ J i tk m ld) s) ?_ (n - 0) ⟨0, s.heap, s.toks, m₀, ld₀, rfl, Nat.zero_le _, Nat.le_refl _, rfl, hst, F, N, rfl, h0⟩
  intro k s' hJa
  refine byGoal fun P9 k9 => ?_
  obtain ⟨i, h, tk, m, ld, rfl, hin, htk, rfl, hSt, F₁, N₁, hadr, hJ⟩ := hJa
  refine k9 ?_
  clear k9 P9
  refine later ?_
  by_cases hlt : i < n
  · refine W.item i _ _ _ hlt hSt fun v h' tk' hP hSt' hk htk' => ?_
    have htk' : tk ≤ tk' := htk'.1
    have hwl : env.locals ∉ wr := fun q => hLf (W.sub _ q)
    refine byGoal fun P9 k9 => ?_
    obtain ⟨oL, es, ep, hL, r⟩ := id F₁.ns
    refine k9 ?_
    clear k9 P9
    have F₂ : Fr g env.locals h' m := ⟨⟨oL, es, ep, hk _ _ hwl hL, r⟩, fun b o e => hk b o (fun q => by rw [hwr b q] at e; cases e) (F₁.keep b o e), F₁.above⟩
    have N₂ : News g env.locals h' ld := fun p hp => ⟨hk _ _ (fun q => disj ld hadr p hp (W.sub _ q)) (N₁ p hp).1, (N₁ p hp).2⟩
    have N₃ : News g env.locals h' (ld ++ ownOf g fp h') := N₂.append (news_ownOf hLf)
    have hoff : OwnOff (ownOf g fp h') (ld₀.map (·.1)) := fun p hp b hb e => by
      refine byGoal fun P9 k9 => ?_
      obtain ⟨q, hq, rfl⟩ := List.mem_map.mp hb
      refine k9 ?_
      clear k9 P9
      refine byGoal fun P9 k9 => ?_
      obtain ⟨c, hc, hc'⟩ := List.mem_filterMap.mp hp
      refine k9 ?_
      clear k9 P9
      have : p.1 = c := by
        split at hc'
        · cases ho : h'.get? c with
          | none => simp [ho] at hc'
          | some o => simp [ho] at hc'; rw [← hc']
        · cases hc'
      exact hfp q hq (by rw [← e, this]; exact hc)
    refine later (wpAny_mono (turn i v m ld h' tk' tk _ hlt hP htk htk' hadr hoff hJ hSt' F₂ N₃) (fun _ s₁ h₁ l1 => later (wpAny_mono h₁ (fun _ s₂ h₂ l2 => later (wpAny_mono h₂ (fun f s₃ h₃' l3 => ?_) fun _ _ x => x.elim)) fun _ _ x => x.elim)) fun _ _ x => x.elim)
    have h₃ := h₃' ((l1.trans l2).trans l3)
    have nx : NextT g env.locals (J (i + 1)) (ownOf g fp h') (ld₀.map (·.1)) s.gens s.drawn s.os s₃ →
        ∃ m, m < n - i ∧ ForI n St g env.locals (fun i tk m ld => ld.map (·.1) = ld₀.map (·.1) ∧ J i tk m ld) s m s₃ := by
      intro hJa
      refine byGoal fun P9 k9 => ?_
      obtain ⟨h'', tk'', m', ld', rfl, F', N', ha', hJ'⟩ := hJa
      refine k9 ?_
      clear k9 P9
      refine ⟨n - (i + 1), by exact Mine.om9 hlt, i + 1, h'', tk'', m', ld', rfl, hlt, ?_, rfl, ?_, F', fun p hp => N' p (List.mem_append_left _ hp), ha', hJ'⟩
      · have := ((l1.trans l2).trans l3).1; exact Nat.le_trans (Nat.le_trans htk htk') this
      · refine W.frame _ _ _ hSt' fun b hb o e => ?_
        cases q : g.get? b with
        | none => exact (N' (b, o) (List.mem_append_right _ (mem_ownOf hb q e))).1
        | some x => have e' := F₂.keep _ _ q; rw [e] at e'; cases e'; exact F'.keep _ _ q
    cases f with
    | next => exact nx h₃
    | cont => exact nx h₃
    | brk => exact h₃
    | ret v => exact h₃
  · have hi : i = n := by exact Mine.om10 hin hlt
    subst hi
    refine W.done _ _ _ hSt fun h' tk' hk htk' => ?_
    have hwl : env.locals ∉ wr := fun q => hLf (W.sub _ q)
    refine byGoal fun P9 k9 => ?_
    obtain ⟨oL, es, ep, hL, r⟩ := id F₁.ns
    refine k9 ?_
    clear k9 P9
    have F₂ : Fr g env.locals h' m := ⟨⟨oL, es, ep, hk _ _ hwl hL, r⟩, fun b o e => hk b o (fun q => by rw [hwr b q] at e; cases e) (F₁.keep b o e), F₁.above⟩
    have N₂ : News g env.locals h' ld := fun p hp => ⟨hk _ _ (fun q => disj ld hadr p hp (W.sub _ q)) (N₁ p hp).1, (N₁ p hp).2⟩
    exact wpAny_mono (done m ld h' tk' tk htk htk'.1 hJ F₂ N₂) (fun _ _ x => x) fun _ _ x => x.elim


abbrev TurnEnd (g : Heap) (L : Addr) (J : (Str → Option Value) → List (Addr × Obj) → Prop) (own : List (Addr × Obj)) (adr : List Addr) (s : Shared) (Q : Flow → Shared → Prop) (f : Flow) (s₂ : Shared) : Prop :=
  TurnEndT g L (fun _ => J) own adr s Q f s₂
theorem forW {w : World} {A : Around} {s : Shared} {g : Heap} {env : Env} {target : Expr} {body orelse : List Stmt} {Q : Flow → Shared → Prop}
    {I : Addr} {fp wr : List Addr} {n : Nat} {P : Nat → Value → Prop} {St : Nat → Heap → Prop} {m₀ : Str → Option Value} {ld₀ : List (Addr × Obj)}
    (W : Walks PG w A I fp wr n P St) (J : Nat → (Str → Option Value) → List (Addr × Obj) → Prop)
    (hLf : env.locals ∉ fp) (hwr : ∀ b ∈ wr, g.get? b = none) (hfp : ∀ q ∈ ld₀, q.1 ∉ fp) (hst : St 0 s.heap)
    (F : Fr g env.locals s.heap m₀) (N : News g env.locals s.heap ld₀) (h0 : J 0 m₀ ld₀)
    (turn : ∀ (i : Nat) (v : Value) (m : Str → Option Value) (ld : List (Addr × Obj)) (h : Heap) (tk : Nat) (own : List (Addr × Obj)), i < n → P i v → s.toks ≤ tk → ld.map (·.1) = ld₀.map (·.1) → OwnOff own (ld₀.map (·.1)) → J i m ld → St (i + 1) h → Fr g env.locals h m → News g env.locals h (ld ++ own) →
      wpAny (model PG w) A (letOwnedTupleGo target (.ref I) v) (fun _ s₁ => wpAny (model PG w) A (assign target env v) (fun _ s₂ =>
        wpAny (model PG w) A (execs body env) (fun f s₃ => Later { s with heap := h, toks := tk } s₃ → TurnEnd g env.locals (J (i + 1)) own (ld₀.map (·.1)) s Q f s₃) NoE s₂) NoE s₁) NoE { s with heap := h, toks := tk })
    (done : ∀ (m : Str → Option Value) (ld : List (Addr × Obj)) (h : Heap) (tk : Nat), s.toks ≤ tk → J n m ld → Fr g env.locals h m → News g env.locals h ld → wpAny (model PG w) A (execs orelse env) Q NoE { s with heap := h, toks := tk }) :
    codeAny (model PG w) A (.forLoop target (.ref I) body orelse env) (LoopR Q) s :=
  forT W (fun i _ => J i) hLf hwr hfp hst F N h0 (fun i v m ld h tk tk0 own hi hP h1 h2 => turn i v m ld h tk own hi hP (Nat.le_trans h1 h2)) (fun m ld h tk tk0 h1 h2 => done m ld h tk (Nat.le_trans h1 h2))

inductive NextW (g : Heap) (L : Addr) (J : Nat → Nat → (Str → Option Value) → List (Addr × Obj) → Prop) (k : Nat) (gs : Array GenState) (dr : Drawn) (os : OsState) (s₂ : Shared) : Prop
  | mk (k' : Nat) (h' : Heap) (tk : Nat) (m' : Str → Option Value) (ld' : List (Addr × Obj)) (hk : k' < k) (e : s₂ = ⟨h', gs, dr, tk, os⟩) (F : Fr g L h' m') (N : News g L h' ld') (j : J k' tk m' ld')
inductive WhI (g : Heap) (L : Addr) (J : Nat → Nat → (Str → Option Value) → List (Addr × Obj) → Prop) (R : Nat → Prop) (s : Shared) (k : Nat) (s' : Shared) : Prop
  | mk (h : Heap) (tk : Nat) (m : Str → Option Value) (ld : List (Addr × Obj)) (e : s' = { s with heap := h, toks := tk }) (htk : R tk) (F : Fr g L h m) (N : News g L h ld) (j : J k tk m ld)
def WhileEnd (g : Heap) (L : Addr) (J : Nat → Nat → (Str → Option Value) → List (Addr × Obj) → Prop) (k : Nat) (s : Shared) (Q : Flow → Shared → Prop) (f : Flow) (s₂ : Shared) : Prop :=
  match f with
  | .ret v => Q (.ret v) s₂
  | .brk => Q .next s₂
  | _ => NextW g L J k s.gens s.drawn s.os s₂

theorem while_rule {L : Addr} {w : World} {A : Around} {s : Shared} {g : Heap} {env : Env} {test : Expr} {body orelse : List Stmt} {pos : Pos} {Q : Flow → Shared → Prop} {E : Value → Shared → Prop} {m₀ : Str → Option Value} {ld₀ : List (Addr × Obj)}
    (J : Nat → Nat → (Str → Option Value) → List (Addr × Obj) → Prop) (k₀ : Nat) (F : Fr g L s.heap m₀) (N : News g L s.heap ld₀) (h0 : J k₀ s.toks m₀ ld₀)
    (turn : ∀ (k : Nat) (m : Str → Option Value) (ld : List (Addr × Obj)) (h : Heap) (tk : Nat), s.toks ≤ tk → J k tk m ld → Fr g L h m → News g L h ld →
      wpAny (model PG w) A (isTrue test env (eval test env)) (fun b s₂ => if b = true then wpAny (model PG w) A (execs body env) (fun f s₃ => Later { s with heap := h, toks := tk } s₃ → WhileEnd g L J k s Q f s₃) NoE s₂ else wpAny (model PG w) A (execs orelse env) Q NoE s₂) NoE { s with heap := h, toks := tk }) (hL : autoParam (env.locals = L) aR._auto_1) :
    wpAny (model PG w) A (exec (.While test body orelse pos) env) Q E s := by
  subst hL
  refine wpAny_While (codeAny_whileLoop (WhI g env.locals J (s.toks ≤ ·) s) ?_ k₀ ⟨s.heap, s.toks, m₀, ld₀, rfl, Nat.le_refl _, F, N, h0⟩)
  intro k s' hJa
  refine byGoal fun P9 k9 => ?_
  obtain ⟨h, tk, m, ld, rfl, htk, F₁, N₁, hJ⟩ := hJa
  refine k9 ?_
  clear k9 P9
  refine later (wpAny_mono (turn k m ld h tk htk hJ F₁ N₁) (fun b s₂ h₂ l1 => ?_) fun _ _ x => x.elim)
  cases b with
  | false =>
    rw [if_neg Bool.false_ne_true] at h₂ ⊢
    exact wpAny_mono h₂ (fun _ _ x => x) fun _ _ x => x.elim
  | true =>
    rw [if_pos rfl] at h₂ ⊢
    refine later (wpAny_mono h₂ (fun f s₃ h₃' l2 => ?_) fun _ _ x => x.elim)
    have h₃ := h₃' (l1.trans l2)
    have nx : NextW g env.locals J k s.gens s.drawn s.os s₃ →
        ∃ m, m < k ∧ WhI g env.locals J (s.toks ≤ ·) s m s₃ := by
      intro hJa
      refine byGoal fun P9 k9 => ?_
      obtain ⟨k', h', tk', m', ld', hk, rfl, F', N', hj⟩ := hJa
      refine k9 ?_
      clear k9 P9
      exact ⟨k', hk, h', tk', m', ld', rfl, Nat.le_trans htk (l1.trans l2).1, F', N', hj⟩
    cases f with
    | next => exact nx h₃
    | cont => exact nx h₃
    | brk => exact h₃
    | ret v => exact h₃
end Mine
end
section
open PySem PySem.W PyProof.Rows PySem.Calls PySem.Spec
namespace Mine
theorem leN {a b : Nat} (h : a ≤ b) : a ≤ b := h
theorem eqN {a b : Nat} (h : a = b) : a = b := h

noncomputable abbrev Use := Option (Str × Pos)
noncomputable abbrev mUse (use : Use) (m : Str → Option Value) (D : Addr) : Str → Option Value := match use with | none => m | some y => fun z => if z = y.1 then some (.ref D) else m z
def usePost (w : World) (A : Around) (use : Use) (env : Env) (Q : Value → Shared → Prop) (acc : Value) (C : Addr) (r : Result) (s' : Shared) : Prop :=
  match use with
  | none => compPost (model PG w) A NoE none Q acc C r s'
  | some y => compPost (model PG w) A NoE (some (assign (.Name y.1 y.2) env)) (fun _ s' => ∃ v, Q v s') acc C r s'
def CompGoal (w : World) (A : Around) (use : Use) (elt : Expr) (gens : List Comprehension) (scope : Scope) (cl : List (Str × Addr)) (pos : Pos) (env : Env) (Q : Value → Shared → Prop) (it : Value) (s₂ : Shared) : Prop :=
  (∀ y, use = some y → env.kindOf y.1 = some .local ∧ (env.scope.kind == .class || (env.scope.kind == .module && env.locals != env.globals)) = false) →
  wpAny (model PG w) A (newList []) (fun acc s₃ => wpAny (model PG w) A (newFunctionEnv scope env.globals cl [] env.qual none .none (some env)) (fun cenv s₄ =>
    codeAny (model PG w) A (.compStart (.ListComp elt gens scope pos) 0 it acc { cenv with scope := relabel scope env }) (usePost w A use env Q acc cenv.locals) s₄) NoE s₃) NoE s₂

theorem comp_rule {w : World} {A : Around} {s : Shared} {env : Env} {elt target iter : Expr} {ifs : List Expr} {rest : List Comprehension} {scope : Scope} {cl : List (Str × Addr)} {pos : Pos} {Q : Value → Shared → Prop} {E : Value → Shared → Prop}
    (hclos : closureFor scope env = pure cl)
    (h : wpAny (model PG w) A (eval iter env) (fun xv s₁ => wpAny (model PG w) A (pyIter xv) (fun it s₂ => CompGoal w A none elt (⟨target, iter, ifs, 0⟩ :: rest) scope cl pos env Q it s₂) NoE s₁) NoE s)
    (hkind : autoParam (scope.kind = .function) aR._auto_1)
    (hnames : autoParam (∀ y ∈ scope.names, y.2 = .local → scope.names.lookup y.1 = some .local) aD._auto_1)
    (hs : ∀ x, foldedSetIterable iter env x = pure x := by intro _; rfl) :
    wpAny (model PG w) A (eval (.ListComp elt (⟨target, iter, ifs, 0⟩ :: rest) scope pos) env) Q E s := by
  rw [eval_ListComp]
  refine wpAny_mono (wpAny_comprehension_free (use := none) (E := NoE) rfl hs hclos hkind hnames (wpAny_mono h (fun _ _ h => wpAny_mono h (fun _ _ h => h fun _ q => nomatch q) fun _ _ x => x) fun _ _ x => x)) (fun _ _ x => x) fun _ _ x => x.elim
theorem comp_assign {w : World} {A : Around} {s : Shared} {env : Env} {elt iter : Expr} {x y : Str} {px py : Pos} {ifs : List Expr} {scope : Scope} {cl : List (Str × Addr)} {pos spos : Pos} {Q : Flow → Shared → Prop} {E : Value → Shared → Prop}
    (hclos : closureFor scope env = pure cl)
    (hsw : swapsWith (.ListComp elt [⟨.Name x px, iter, ifs, 0⟩] scope pos) (some (.Name y py)) spos.line env = pure true)
    (hy : env.kindOf y = some .local) (hp : (env.scope.kind == .class || (env.scope.kind == .module && env.locals != env.globals)) = false)
    (h : wpAny (model PG w) A (eval iter env) (fun xv s₁ => wpAny (model PG w) A (pyIter xv) (fun it s₂ => CompGoal w A (some (y, py)) elt [⟨.Name x px, iter, ifs, 0⟩] scope cl pos env (fun _ s' => Q .next s') it s₂) NoE s₁) NoE s)
    (hkind : autoParam (scope.kind = .function) aR._auto_1)
    (hnames : autoParam (∀ y ∈ scope.names, y.2 = .local → scope.names.lookup y.1 = some .local) aD._auto_1)
    (hs : ∀ x, foldedSetIterable iter env x = pure x := by intro _; rfl) :
    wpAny (model PG w) A (exec (.Assign [.Name y py] (.ListComp elt [⟨.Name x px, iter, ifs, 0⟩] scope pos) spos) env) Q E s := by
  rw [exec_Assign_Name_used _ _ _ _ hsw]
  refine wpAny_bind (wpAny_standAt (wpAny_bind ?_))
  show wpAny _ A (do let _ ← comprehension (.ListComp elt [⟨.Name x px, iter, ifs, 0⟩] scope pos) scope env _ (newList []) false (eval iter env) (some (assign (.Name y py) env))) _ _ s
  refine wpAny_bind (wpAny_mono (wpAny_comprehension_free (E := NoE) (use := some (assign (.Name y py) env)) (Q := fun _ s' => ∃ _v : Value, Q .next s') rfl hs hclos hkind hnames
    (wpAny_mono h (fun xv s₁ h₁ => wpAny_mono h₁ (fun it s₂ h₂ => h₂ fun z hz => by cases hz; exact ⟨hy, hp⟩) fun _ _ e => e) fun _ _ e => e)) (fun _ s' hq => wpAny_pure (wpAny_pure (Exists.elim hq fun _ h => h))) fun _ _ e => e.elim)

inductive NextC (g : Heap) (C : Addr) (J : Nat → List Value → List (Addr × Obj) → Prop) (own : List (Addr × Obj)) (adr : List Addr) (gs : Array GenState) (dr : Drawn) (os : OsState) (ys : List Value) (s₂ : Shared) : Prop
  | mk (h' : Heap) (tk : Nat) (m' : Str → Option Value) (ld' : List (Addr × Obj)) (e : s₂ = ⟨h', gs, dr, tk, os⟩) (F : Fr g C h' m') (N : News g C h' (ld' ++ own)) (a : ld'.map (·.1) = adr) (j : J tk ys ld')
def EltEnd (g : Heap) (C : Addr) (J : Nat → List Value → List (Addr × Obj) → Prop) (own : List (Addr × Obj)) (adr : List Addr) (s : Shared) (ys : List Value) (s₂ : Shared) : Prop := NextC g C J own adr s.gens s.drawn s.os ys s₂
inductive FinC (s : Shared) (g : Heap) (C : Addr) (p q : Addr × Obj) (K : Heap → Nat → List (Addr × Obj) → Prop) (s₄ : Shared) : Prop
  | mk (h' : Heap) (tk : Nat) (m' : Str → Option Value) (ld' : List (Addr × Obj)) (e : s₄ = { s with heap := h', toks := tk }) (F : Fr g C h' m') (N : News g C h' (p :: q :: ld')) (k : K h' tk ld')
inductive CInv (n : Nat) (St : Nat → Heap → Prop) (s : Shared) (g : Heap) (C D : Addr) (p : Addr × Obj) (Kd : List (Addr × Obj) → Prop) (J : Nat → Nat → List Value → List (Addr × Obj) → Prop) (k : Nat) (s' : Shared) : Prop
  | mk (i : Nat) (h : Heap) (tk : Nat) (m : Str → Option Value) (ys : List Value) (ld : List (Addr × Obj)) (ep : Nat) (e : k = n - i) (hin : i ≤ n) (htk : s.toks ≤ tk) (es : s' = { s with heap := h, toks := tk }) (hSt : St i h) (F : Fr g C h m)
    (N : News g C h ((D, { cls := .type "list", data := .seq ys.toArray ep }) :: p :: ld)) (ha : Kd ld) (hl : ys.length ≤ i) (hJ : J i tk ys ld)

theorem compAt {use : Use} {L : Addr} {w : World} {A : Around} {s : Shared} {g : Heap} {env : Env} {elt iter : Expr} {x : Str} {px : Pos} {ifs : List Expr} {scope : Scope} {cl : List (Str × Addr)} {pos : Pos} {Q : Value → Shared → Prop}
    {I : Addr} {fp wr : List Addr} {n : Nat} {P : Nat → Value → Prop} {St : Nat → Heap → Prop} {m₀ : Str → Option Value} {ld₀ : List (Addr × Obj)}
    (W : Walks PG w A I fp wr n P St) (J : Nat → Nat → List Value → List (Addr × Obj) → Prop) (hsz : n ≤ sizeLine)
    (hLf : L ∉ fp) (hwr : ∀ b ∈ wr, g.get? b = none) (hfp : ∀ q ∈ ld₀, q.1 ∉ fp) (hfl : ∀ b ∈ fp, b < s.heap.objs.size) (hst : St 0 s.heap)
    (F : Fr g L s.heap m₀) (N : News g L s.heap ld₀) (h0 : J 0 s.toks [] ld₀)
    (turn : ∀ (i : Nat) (v : Value) (ys : List Value) (ld : List (Addr × Obj)) (h : Heap) (tk tk0 : Nat) (own : List (Addr × Obj)) (C : Addr) (m : Str → Option Value), i < n → P i v → s.toks ≤ tk0 → tk0 ≤ tk → ld.map (·.1) = ld₀.map (·.1) → OwnOff own (ld₀.map (·.1)) → J i tk0 ys ld → ys.length ≤ i → Fr g C h (fun y => if y = x then some v else m y) → News g C h (ld ++ own) →
      wpAny (model PG w) A (forIn ifs true fun c r => if r = true then do let ok ← isTrue c (compEnvC scope cl C env) (eval c (compEnvC scope cl C env)); pure (ForInStep.yield ok) else pure (ForInStep.yield r))
        (fun ok s₃ => if ok = true then wpAny (model PG w) A (eval elt (compEnvC scope cl C env)) (fun y s₄ => Later { s with heap := h, toks := tk } s₄ → EltEnd g C (J (i + 1)) own (ld₀.map (·.1)) s (ys ++ [y]) s₄) NoE s₃ else Later { s with heap := h, toks := tk } s₃ → EltEnd g C (J (i + 1)) own (ld₀.map (·.1)) s ys s₃)
        NoE { s with heap := h, toks := tk })
    (done : ∀ (D : Addr) (ys : List Value) (ld : List (Addr × Obj)) (h : Heap) (tk tk0 k : Nat), s.toks ≤ tk0 → tk0 ≤ tk → J n tk0 ys ld → Fr g L h (mUse use m₀ D) → News g L h ((D, { cls := .type "list", data := .seq ys.toArray k }) :: ld) → (∀ p ∈ ld, p.1 < D) → Q (.ref D) { s with heap := h, toks := tk })
    (hcell : autoParam (∀ y ∈ scope.names, y.2 ≠ .cell) aD._auto_1) (hkind : autoParam (scope.kind = .function) aR._auto_1) (hx : autoParam (scope.names.lookup x = some .local) aR._auto_1) (hL : autoParam (env.locals = L) aR._auto_1) :
    CompGoal w A use elt [⟨.Name x px, iter, ifs, 0⟩] scope cl pos env Q (.ref I) s := by
  subst hL
  intro huse
  have disj : ∀ (ld : List (Addr × Obj)), ld.map (·.1) = ld₀.map (·.1) → ∀ p ∈ ld, p.1 ∉ fp := fun ld e p hp => by
    have : p.1 ∈ ld₀.map (·.1) := e ▸ List.mem_map_of_mem hp
    refine byGoal fun P9 k9 => ?_
    obtain ⟨q, hq, e'⟩ := List.mem_map.mp this
    refine k9 ?_
    clear k9 P9
    exact e' ▸ hfp q hq
  have small : ∀ (ld : List (Addr × Obj)), ld.map (·.1) = ld₀.map (·.1) → ∀ p ∈ ld, p.1 < s.heap.objs.size := fun ld e p hp => by
    have : p.1 ∈ ld₀.map (·.1) := e ▸ List.mem_map_of_mem hp
    refine byGoal fun P9 k9 => ?_
    obtain ⟨q, hq, e'⟩ := List.mem_map.mp this
    refine k9 ?_
    clear k9 P9
    rw [← e']; exact Heap.lt_size (N q hq).1
  refine wpAny_newObj_type (wpAny_newFunctionEnv hcell (by intro y hy; simp at hy) (fun h₁ hns₁ hsb₁ => ?_) hkind)
  dsimp only at hns₁ hsb₁ ⊢
  generalize hH2 : s.heap.push { cls := .type "list", dict := none, data := .seq ([] : List Value).toArray } = H2 at hns₁ hsb₁ ⊢
  have hC : H2.objs.size = s.heap.objs.size + 1 := by rw [← hH2, Heap.size_push]
  obtain ⟨D, hD⟩ : ∃ D : Nat, s.heap.objs.size = D := ⟨_, rfl⟩
  obtain ⟨C, hCe⟩ : ∃ C : Nat, H2.objs.size = C := ⟨_, rfl⟩
  rw [hCe] at hns₁ hsb₁ hC ⊢
  rw [hD] at hC ⊢
  have hDC : D ≠ C := by exact Mine.om104 hC
  have old : ∀ b o, s.heap.get? b = some o → h₁.get? b = some o := fun b o e => hsb₁.extBut b o (by have := ltN (Heap.lt_size e); refine neN ?_; exact Mine.om105 hD hC this) (Heap.get?_push_of_some _ (hH2 ▸ Heap.get?_push_of_some _ e))
  have hacc : h₁.get? D = some { cls := .type "list", data := .seq ([] : List Value).toArray } := hsb₁.extBut _ _ hDC (Heap.get?_push_of_some _ (hH2 ▸ hD ▸ Heap.get?_push_size _ rfl))
  have gS : g.objs.size ≤ C := by have := leN F.above; have := ltN F.ns.lt; exact Mine.om106 hD hC (by assumption) this
  have gn : ∀ b, D ≤ b → g.get? b = none := fun b hb => by
    cases q : g.get? b with
    | none => rfl
    | some o => have := ltN (Heap.lt_size (F.keep _ _ q)); exact False.elim (Mine.om107 hD hb this)
  refine byGoal fun P9 k9 => ?_
  obtain ⟨oL, esL, epL, hoL, hrL⟩ := id F.ns
  refine k9 ?_
  clear k9 P9
  have hLlt : env.locals < D := hD ▸ Heap.lt_size hoL
  -- the invariant
  let Inv : Nat → Shared → Prop := CInv n St s g C D (env.locals, oL) (fun ld => ld.map (·.1) = ld₀.map (·.1)) J
  have gL : g.get? env.locals = none := by
    cases q : g.get? env.locals with
    | none => rfl
    | some o => have := ltN (Heap.lt_size q); have := leN F.above; exact False.elim (Mine.om86 (by assumption) this)
  have loop : ∀ s₃ : Shared, s₃ = { s with heap := h₁, toks := s.toks + ([] : List (Str × Value)).length } →
      codeAny (model PG w) A (.compLoop (.ListComp elt [⟨.Name x px, iter, ifs, 0⟩] scope pos) 0 (.ref I) (.ref D) (compEnvC scope cl C env))
        (usePost w A use env Q (.ref D) C) s₃ := by
    rintro s₃ rfl
    refine codeAny_compLoop_tests Inv ?_ (n - 0) ⟨0, h₁, s.toks, (fun x => ([] : List (Str × Value)).reverse.lookup x), [], ld₀, 0, rfl, Nat.zero_le _, Nat.le_refl _, rfl, W.frame _ _ _ hst fun b _ o e => old b o e, ⟨hns₁, fun b o e => old b o (F.keep b o e), gS⟩, ?_, rfl, Nat.le_refl _, h0⟩
    · intro k s' hJa
      refine byGoal fun P9 k9 => ?_
      obtain ⟨i, h, tk, m, ys, ld, ep, rfl, hin, htk, rfl, hSt, F₁, N₁, hadr, hys, hJ⟩ := hJa
      refine k9 ?_
      clear k9 P9
      have hDh := (N₁ _ (.head _)).1
      have hLh := (N₁ _ (.tail _ (.head _))).1
      have hCf : C ∉ fp := fun q => by have := ltN (hfl _ q); exact Mine.om108 hD hC this
      have hDf : D ∉ fp := fun q => by have := ltN (hfl _ q); exact Mine.om109 hD this
      refine later ?_
      by_cases hlt : i < n
      · refine W.item i _ _ _ hlt hSt fun v h' tk' hP hSt' hk htk' => ?_
        have htk' : tk ≤ tk' := htk'.1
        refine byGoal fun P9 k9 => ?_
        obtain ⟨oC, es, ep', hCo, r⟩ := id F₁.ns
        refine k9 ?_
        clear k9 P9
        have F₂ : Fr g C h' m := ⟨⟨oC, es, ep', hk _ _ (fun q => hCf (W.sub _ q)) hCo, r⟩, fun b o e => hk b o (fun q => by rw [hwr b q] at e; cases e) (F₁.keep b o e), F₁.above⟩
        have N₂ : News g C h' ((D, { cls := .type "list", data := .seq ys.toArray ep }) :: (env.locals, oL) :: ld) := fun p hp => ⟨hk _ _ (fun q => by
          rcases List.mem_cons.mp hp with rfl | hp
          · exact hDf (W.sub _ q)
          · rcases List.mem_cons.mp hp with rfl | hp
            · exact hLf (W.sub _ q)
            · exact disj ld hadr p hp (W.sub _ q)) (N₁ p hp).1, (N₁ p hp).2⟩
        have kx : (compEnvC scope cl C env).kindOf x = some .local := lookup_relabel_local hx
        refine later ?_
        refine assign_Name ?_
        refine (wpAny_storeName_local kx F₂.ns (fun h'' hn'' hs'' l1 => ?_) (by show (scope.kind == .class || (scope.kind == .module && _)) = false; rw [hkind]; rfl))
        have F₃ := F₂.set hn'' hs''
        have N₃ := N₂.set hs''
        have hSt₃ : St (i + 1) h'' := W.frame _ _ _ hSt' fun b hb o e => (hs''.2 b (fun q => hCf (by rw [q] at hb; exact hb))).trans e
        let own := (D, ({ cls := .type "list", data := .seq ys.toArray ep } : Obj)) :: (env.locals, oL) :: ownOf g fp h''
        have hown : News g C h'' (ld ++ own) := fun p hp => by
          rcases List.mem_append.mp hp with hp | hp
          · exact N₃ p (.tail _ (.tail _ hp))
          · rcases List.mem_cons.mp hp with rfl | hp
            · exact N₃ _ (.head _)
            · rcases List.mem_cons.mp hp with rfl | hp
              · exact N₃ _ (.tail _ (.head _))
              · exact news_ownOf hCf p hp
        have hoff : OwnOff own (ld₀.map (·.1)) := fun p hp b hb e => by
          refine byGoal fun P9 k9 => ?_
          obtain ⟨q, hq, rfl⟩ := List.mem_map.mp hb
          refine k9 ?_
          clear k9 P9
          rcases List.mem_cons.mp hp with rfl | hp
          · have := ltN (small ld₀ rfl q hq); have := eqN e; exact Mine.om110 hD (by assumption) this
          · rcases List.mem_cons.mp hp with rfl | hp
            · exact (N q hq).2.1 e.symm
            · refine byGoal fun P9 k9 => ?_
              obtain ⟨c, hc, hc'⟩ := List.mem_filterMap.mp hp
              refine k9 ?_
              clear k9 P9
              have : p.1 = c := by
                split at hc'
                · cases ho : h''.get? c with
                  | none => simp [ho] at hc'
                  | some o => simp [ho] at hc'; rw [← hc']
                · cases hc'
              exact hfp q hq (by rw [← e, this]; exact hc)
        have fin : ∀ ys' (s₄ : Shared), EltEnd g C (J (i + 1)) own (ld₀.map (·.1)) s ys' s₄ → FinC s g C (D, { cls := .type "list", data := .seq ys.toArray ep }) (env.locals, oL) (fun h' tk ld' => ld'.map (·.1) = ld₀.map (·.1) ∧ J (i + 1) tk ys' ld' ∧ St (i + 1) h' ∧ News g C h' (ownOf g fp h'')) s₄ := by
          intro ys' s₄ hJa
          refine byGoal fun P9 k9 => ?_
          obtain ⟨h', tk, m', ld', rfl, F', N', ha, hj⟩ := hJa
          refine k9 ?_
          clear k9 P9
          refine ⟨h', tk, m', ld', rfl, F', fun p hp => ?_, ha, hj, W.frame _ _ _ hSt₃ fun b hb o e => ?_, fun p hp => N' p (List.mem_append_right _ (.tail _ (.tail _ hp)))⟩
          · rcases List.mem_cons.mp hp with rfl | hp
            · exact N' _ (List.mem_append_right _ (.head _))
            · rcases List.mem_cons.mp hp with rfl | hp
              · exact N' _ (List.mem_append_right _ (.tail _ (.head _)))
              · exact N' _ (List.mem_append_left _ hp)
          · cases q : g.get? b with
            | none => exact (N' (b, o) (List.mem_append_right _ (.tail _ (.tail _ (mem_ownOf hb q e))))).1
            | some x => have e' := F₃.keep _ _ q; rw [e] at e'; cases e'; exact F'.keep _ _ q
        have hl2 : tk' ≤ tk' + 1 := Nat.le_succ _
        refine later (wpAny_mono (turn i v ys ld h'' (tk' + 1) tk own C m hlt hP htk (by exact Mine.om111 htk') hadr hoff hJ hys F₃ hown) (fun ok s₃ h₃ l2 => ?_) fun _ _ x => x.elim)
        by_cases hok : ok = true
        · rw [if_pos hok] at h₃ ⊢
          refine later (wpAny_mono h₃ (fun y s₄ h₄' l3 => ?_) fun _ _ x => x.elim)
          have h₄ := h₄' (l2.trans l3)
          refine byGoal fun P9 k9 => ?_
          obtain ⟨h4, tk4, m4, ld4, rfl, F4, N4, ha4, hj4, hst4, NO4⟩ := fin _ _ h₄
          refine k9 ?_
          clear k9 P9
          have hO : ∀ p ∈ ownOf g fp h'', p.1 ∈ fp := fun p hp => by
            refine byGoal fun P9 k9 => ?_
            obtain ⟨c, hc, hc'⟩ := List.mem_filterMap.mp hp
            refine k9 ?_
            clear k9 P9
            have : p.1 = c := by
              split at hc'
              · cases ho : h''.get? c with
                | none => simp [ho] at hc'
                | some o => simp [ho] at hc'; rw [← hc']
              · cases hc'
            rw [this]; exact hc
          have N4' : News g C h4 ((D, { cls := .type "list", data := .seq ys.toArray ep }) :: (((env.locals, oL) :: ld4) ++ ownOf g fp h'')) := by
            intro p hp
            rcases List.mem_cons.mp hp with rfl | hp
            · exact N4 _ (.head _)
            · exact (List.mem_append.mp hp).elim (fun h => N4 p (.tail _ h)) (NO4 p)
          have ne4 : ∀ p ∈ ((env.locals, oL) :: ld4) ++ ownOf g fp h'', p.1 ≠ D := fun p hp => by
            rcases List.mem_append.mp hp with hp | hp
            case inr => exact fun q => hDf (by rw [q.symm]; exact hO p hp)
            rcases List.mem_cons.mp hp with rfl | hp
            · show env.locals ≠ D; have := ltN hLlt; refine neN ?_; exact Mine.om112 this
            · have := ltN (small ld4 ha4 p hp); refine neN ?_; exact Mine.om113 hD this
          refine later (append_K (n := ep) (its := ys.toArray) F4 N4' (Upd.head ne4) (fun h5 F5 N5 l4 => ?_) (by rw [List.size_toArray]; exact Nat.le_trans (Nat.le_trans hys (Nat.le_of_lt hlt)) hsz))
          have e5 : ys.toArray.push y = (ys ++ [y]).toArray := by simp
          rw [e5] at N5
          have N5' := news_sub (ld' := (D, { cls := .type "list", data := .seq (ys ++ [y]).toArray (ep + 1) }) :: (env.locals, oL) :: ld4) N5 (fun p hp => by
            rcases List.mem_cons.mp hp with rfl | hp
            · exact .head _
            · exact .tail _ (List.mem_append_left _ hp))
          refine ⟨n - (i + 1), by exact Mine.om9 hlt, i + 1, h5, _, m4, ys ++ [y], ld4, ep + 1, rfl, hlt, ?_, rfl, ?_, F5, N5', ha4, by rw [List.length_append]; show ys.length + 1 ≤ _; exact Mine.om114 hys, hj4⟩
          · have a := l2.1; have b := l3.1; have c := l4.1; simp only at a b c ⊢; exact Mine.om115 htk htk' a b
          · refine W.frame _ _ _ hSt₃ fun b hb o e => ?_
            cases q : g.get? b with
            | none => exact (N5 (b, o) (.tail _ (List.mem_append_right _ (mem_ownOf hb q e)))).1
            | some x => have e' := F₃.keep _ _ q; rw [e] at e'; cases e'; exact F5.keep _ _ q
        · rw [if_neg hok] at h₃ ⊢
          have h₃ := h₃ l2
          refine byGoal fun P9 k9 => ?_
          obtain ⟨h4, tk4, m4, ld4, rfl, F4, N4, ha4, hj4, hst4, NO4⟩ := fin _ _ h₃
          refine k9 ?_
          clear k9 P9
          refine ⟨n - (i + 1), by exact Mine.om9 hlt, i + 1, h4, tk4, m4, ys, ld4, ep, rfl, hlt, ?_, rfl, hst4, F4, N4, ha4, by exact Mine.om111 hys, hj4⟩
          have a := l2.1; simp only at a ⊢; exact Mine.om116 htk htk' a
      · have hi : i = n := by exact Mine.om10 hin hlt
        subst hi
        refine W.done _ _ _ hSt fun h' tk' hk htk' => ?_
        refine byGoal fun P9 k9 => ?_
        obtain ⟨oC, es, ep', hCo, r⟩ := id F₁.ns
        refine k9 ?_
        clear k9 P9
        have hCf' : C ∉ wr := fun q => hCf (W.sub _ q)
        have base : ∀ h'', Heap.SameBut C h' h'' → Fr g env.locals h'' m₀ ∧ News g env.locals h'' ((D, { cls := .type "list", data := .seq ys.toArray ep }) :: ld) := fun h'' hs'' => by
          have up : ∀ b o, b ∉ wr → b ≠ C → h.get? b = some o → h''.get? b = some o := fun b o hb hbC e => (hs''.2 b hbC).trans (hk b o hb e)
          refine ⟨⟨⟨oL, esL, epL, up _ _ (fun q => hLf (W.sub _ q)) (by have := ltN hLlt; refine neN ?_; exact Mine.om117 hC this) hLh, hrL⟩, fun b o e => up b o (fun q => by rw [hwr b q] at e; cases e) (fun q => by rw [q, gn C (by exact Mine.om118 hC)] at e; cases e) (F₁.keep b o e), F.above⟩, fun p hp => ?_⟩
          rcases List.mem_cons.mp hp with rfl | hp
          · exact ⟨up _ _ (fun q => hDf (W.sub _ q)) hDC hDh, by show D ≠ _; have := ltN hLlt; refine neN ?_; exact Mine.om119 this, gn D (Nat.le_refl _)⟩
          · have hp' := N₁ p (.tail _ (.tail _ hp))
            refine ⟨up _ _ (fun q => disj ld hadr p hp (W.sub _ q)) hp'.2.1 hp'.1, ?_, hp'.2.2⟩
            have : p.1 ∈ ld₀.map (·.1) := hadr ▸ List.mem_map_of_mem hp
            refine byGoal fun P9 k9 => ?_
            obtain ⟨q, hq, e'⟩ := List.mem_map.mp this
            refine k9 ?_
            clear k9 P9
            rw [← e']; exact (N q hq).2.1
        have hnC : h'.Ns C m := ⟨oC, es, ep', hk _ _ hCf' hCo, r⟩
        have hLC : env.locals ≠ C := by have := ltN hLlt; refine neN ?_; exact Mine.om117 hC this
        cases use with
        | none =>
          refine ⟨m, hnC, fun h'' hs'' => ?_⟩
          obtain ⟨F₄, N₄⟩ := base h'' hs''
          exact done D ys ld h'' tk' tk ep htk htk'.1 hJ F₄ N₄ (fun p hp => hD ▸ small ld hadr p hp)
        | some y =>
          show wpAny _ A (assign (.Name y.1 y.2) env (.ref D)) _ _ _
          obtain ⟨hy, hp⟩ := huse y rfl
          obtain ⟨F₄, N₄⟩ := base h' (Heap.SameBut.refl ..)
          refine wpAny_assign_Name (wpAny_storeName_local hy F₄.ns (fun h₂ hn₂ hs₂ => ?_) hp)
          refine ⟨m, hnC.sameBut hs₂ (Ne.symm hLC), fun h₃ hs₃ => ⟨.ref D, ?_⟩⟩
          have F₅ := F₄.set hn₂ hs₂
          have N₅ := N₄.set hs₂
          have gC : g.get? C = none := gn C (by exact Mine.om118 hC)
          refine done D ys ld h₃ (tk' + 1) tk ep htk (Nat.le_succ_of_le htk'.1) hJ ⟨F₅.ns.sameBut hs₃ hLC, fun b o e => (hs₃.2 b (fun q => by rw [q, gC] at e; cases e)).trans (F₅.keep b o e), F₅.above⟩ (fun p hp => ⟨(hs₃.2 p.1 ?_).trans (N₅ p hp).1, (N₅ p hp).2⟩) (fun p hp => hD ▸ small ld hadr p hp)
          rcases List.mem_cons.mp hp with rfl | hp
          · exact hDC
          · have := ltN (small ld hadr p hp); refine neN ?_; exact Mine.om105 hD hC this
    · intro p hp
      rcases List.mem_cons.mp hp with rfl | hp
      · exact ⟨hacc, hDC, gn D (Nat.le_refl _)⟩
      · rcases List.mem_cons.mp hp with rfl | hp
        · exact ⟨old _ _ hoL, by show env.locals ≠ C; have := ltN hLlt; refine neN ?_; exact Mine.om117 hC this, gL⟩
        · exact ⟨old _ _ (N p hp).1, by have := ltN (Heap.lt_size (N p hp).1); show p.1 ≠ C; refine neN ?_; exact Mine.om105 hD hC this, (N p hp).2.2⟩
  have hst1 : St 0 h₁ := W.frame _ _ _ hst fun b _ o e => old b o e
  exact codeAny_compStart_list (loop _ rfl) (W.self 0 _ _ _ hst1 (loop _ rfl))
end Mine
end
section
open PySem PySem.W PyProof.Rows PySem.Calls PySem.Spec
set_option maxHeartbeats 1000000
namespace Mine
theorem noneBooked {w : World} {h : Heap} (X : (hd.heap_39 w.params).In h) : NoneBooked h := by
  have e : (hd.heap_39 w.params).lookup cStatics = some ⟨.none, none, .dict #[] 0, #[]⟩ := by k_is
  refine ⟨fun _ => none, ⟨_, #[], 0, X _ _ e, rfl, ?_, fun _ => rfl⟩, rfl⟩
  intro e he; simp at he
section
variable {M : Model} {A : Around} {E : Value → Shared → Prop} {s : Shared} {Q : Value → Shared → Prop}
theorem isSame_created {t u : Tok} {q : Bool} {Q : Bool → Shared → Prop} (ht : t ≠ 0) (hu : u ≠ 0) (hb : NoneBooked s.heap) (hq : t = u → q = true) (h : ∀ b : Bool, (b = true → q = true) → Q b s) :
    wpAny M A (isSame.created q t u) Q E s := by
  unfold isSame.created
  refine wpAny_ite ?_
  split
  · rename_i h0; simp [ht, hu] at h0
  refine wpAny_ite ?_
  split
  · rename_i h0; exact wpAny_pure (h _ fun _ => hq (by simpa using h0))
  refine wpAny_ite ?_
  split
  · exact wpAny_pure (h _ fun e => by cases e)
  rename_i hq'
  have hq' : q = true := by simpa using hq'
  refine wpAny_bind (wpAny_sharingNotTold_none hb ?_)
  rw [if_neg Bool.false_ne_true]
  refine wpAny_bind (wpAny_sharingNotTold_none hb ?_)
  rw [if_neg Bool.false_ne_true]
  exact wpAny_bind (wpAny_rule (wpAny_bind (wpAny_askSetting (wpAny_pure (h _ fun _ => hq')))))
theorem is_str {x y : Str} {t u : Tok} (ht : t ≠ 0) (hu : u ≠ 0) (hb : NoneBooked s.heap) (hq : t = u → x = y) (h : ∀ b : Bool, (b = true → x = y) → Q (.bool b) s) :
    wpAny M A (compareOp .Is (.str x t) (.str y u)) Q E s := by
  show wpAny M A (do return .bool (← isSame (.str x t) (.str y u))) Q E s
  refine wpAny_bind ?_
  show wpAny M A (isSame.created (x == y) t u) _ E s
  exact isSame_created ht hu hb (fun e => by rw [hq e]; exact beq_self_eq_true _) fun b hb' => wpAny_pure (h b fun e => by simpa using hb' e)
theorem is_int {x y : Int} {t u : Tok} (ht : t ≠ 0) (hu : u ≠ 0) (hb : NoneBooked s.heap) (hq : t = u → x = y) (h : ∀ b : Bool, (b = true → x = y) → Q (.bool b) s) :
    wpAny M A (compareOp .Is (.int x t) (.int y u)) Q E s := by
  show wpAny M A (do return .bool (← isSame (.int x t) (.int y u))) Q E s
  refine wpAny_bind ?_
  show wpAny M A (if (x == y && smallInt x) = true then isSame.cachedInt t u else isSame.created (x == y) t u) _ E s
  refine wpAny_ite ?_
  split
  · rename_i h0
    unfold isSame.cachedInt
    refine wpAny_ite ?_
    split
    · rename_i h1; simp [ht, hu] at h1
    · refine wpAny_bind (wpAny_rule (wpAny_pure (wpAny_pure (h _ fun _ => ?_))))
      simp at h0; exact h0.1
  · exact isSame_created ht hu hb (fun e => by rw [hq e]; exact beq_self_eq_true _) fun b hb' => wpAny_pure (h b fun e => by simpa using hb' e)
end
end Mine
end
section
open PySem PySem.W PyProof.Rows PySem.Calls PySem.Spec
set_option maxHeartbeats 1000000
namespace Mine
section
variable {w : World} {A : Around} {s : Shared} {g : Heap} {env : Env} {x : Str} {px : Pos} {body orelse : List Stmt} {Q : Flow → Shared → Prop} {E : Value → Shared → Prop} {m₀ : Str → Option Value} {ld₀ : List (Addr × Obj)}

def forGoal (w : World) (A : Around) (env : Env) (target : Expr) (body orelse : List Stmt) (Q : Flow → Shared → Prop) (it : Value) (s₂ : Shared) : Prop :=
  codeAny (model PG w) A (.forLoop target it body orelse env) (LoopR Q) s₂

theorem forN {L : Addr} {I : Addr} {fp wr : List Addr} {n : Nat} {P : Nat → Value → Prop} {St : Nat → Heap → Prop}
    (W : Walks PG w A I fp wr n P St) (J : Nat → (Str → Option Value) → List (Addr × Obj) → Prop)
    (hLf : L ∉ fp) (hwr : ∀ b ∈ wr, g.get? b = none) (hfp : ∀ q ∈ ld₀, q.1 ∉ fp) (hst : St 0 s.heap)
    (F : Fr g L s.heap m₀) (N : News g L s.heap ld₀) (h0 : J 0 m₀ ld₀)
    (turn : ∀ (i : Nat) (v : Value) (m : Str → Option Value) (ld : List (Addr × Obj)) (h : Heap) (tk : Nat) (own : List (Addr × Obj)), i < n → P i v → s.toks ≤ tk → ld.map (·.1) = ld₀.map (·.1) → OwnOff own (ld₀.map (·.1)) → J i m ld →
      Fr g L h (fun y => if y = x then some v else m y) → News g L h (ld ++ own) →
      wpAny (model PG w) A (execs body env) (fun f s₃ => Later { s with heap := h, toks := tk } s₃ → TurnEnd g L (J (i + 1)) own (ld₀.map (·.1)) s Q f s₃) NoE { s with heap := h, toks := tk })
    (done : ∀ (m : Str → Option Value) (ld : List (Addr × Obj)) (h : Heap) (tk : Nat), s.toks ≤ tk → J n m ld → Fr g L h m → News g L h ld → wpAny (model PG w) A (execs orelse env) Q NoE { s with heap := h, toks := tk })
    (hx : autoParam (env.kindOf x = some .local) aR._auto_1) (hk : autoParam (env.scope.kind = .function) aR._auto_1) (hL : autoParam (env.locals = L) aR._auto_1) :
    forGoal w A env (.Name x px) body orelse Q (.ref I) s := by
  subst hL
  refine forW W J hLf hwr hfp hst F N h0 (fun i v m ld h tk own hi hP htk ha ho hJ _ F₁ N₁ => ?_) done
  show wpAny _ _ (pure ()) _ _ _
  refine wpAny_pure (assign_Name (wpAny_storeName_local hx F₁.ns (fun h' hn hs => ?_) (by rw [hk]; rfl)))
  exact later (wpAny_mono (turn i v m ld h' (tk + 1) own hi hP (Nat.le_succ_of_le htk) ha ho hJ (F₁.set hn hs) (N₁.set hs)) (fun f s₃ q l' _ => q l') fun _ _ x => x)

theorem ne_size {h : Heap} {a : Addr} {o : Obj} (e : h.get? a = some o) : a ≠ h.objs.size := Nat.ne_of_lt (Heap.lt_size e)
theorem gnone (F : Fr g env.locals s.heap m₀) {a : Addr} (ha : s.heap.objs.size ≤ a) : g.get? a = none := by
  cases q : g.get? a with
  | none => rfl
  | some o => exact absurd (Heap.lt_size (F.keep _ _ q)) (Nat.not_lt.mpr ha)

theorem for_list {L : Addr} {l : Addr} {vs : List Value} (J : Nat → (Str → Option Value) → List (Addr × Obj) → Prop)
    (hh : A.handled = none) (hl : s.heap.IsList l vs.toArray) (hlL : l ≠ L) (hld : ∀ q ∈ ld₀, q.1 ≠ l)
    (F : Fr g L s.heap m₀) (N : News g L s.heap ld₀) (h0 : J 0 m₀ ld₀)
    (turn : ∀ (i : Nat) (v : Value) (m : Str → Option Value) (ld : List (Addr × Obj)) (h : Heap) (tk : Nat) (own : List (Addr × Obj)), vs[i]? = some v → s.toks ≤ tk → ld.map (·.1) = ld₀.map (·.1) → OwnOff own (ld₀.map (·.1)) → J i m ld →
      Fr g L h (fun y => if y = x then some v else m y) → News g L h (ld ++ own) →
      wpAny (model PG w) A (execs body env) (fun f s₃ => Later { s with heap := h, toks := tk } s₃ → TurnEnd g L (J (i + 1)) own (ld₀.map (·.1)) s Q f s₃) NoE { s with heap := h, toks := tk })
    (done : ∀ (m : Str → Option Value) (ld : List (Addr × Obj)) (h : Heap) (tk : Nat), s.toks ≤ tk → J vs.length m ld → Fr g L h m → News g L h ld → wpAny (model PG w) A (execs orelse env) Q NoE { s with heap := h, toks := tk })
    (hx : autoParam (env.kindOf x = some .local) aR._auto_1) (hk : autoParam (env.scope.kind = .function) aR._auto_1) (hL : autoParam (env.locals = L) aR._auto_1) :
    wpAny (model PG w) A (pyIter (.ref l)) (forGoal w A env (.Name x px) body orelse Q) E s := by
  subst hL
  refine byGoal fun P9 k9 => ?_
  obtain ⟨ol, hol, rl⟩ := id hl
  refine k9 ?_
  clear k9 P9
  refine wpAny_pyIter_list hl ?_
  have hlen : vs.toArray.size = vs.length := by simp
  have W := Walks.list (prog := PG) (w := w) hh s.heap.objs.size l (ne_size hol) vs.toArray
  rw [hlen] at W
  refine forN W J (fun q => ?_) (fun b hb => ?_) (fun q hq hf => ?_) ⟨⟨_, Heap.get?_push_size _ rfl, rfl, rfl⟩, ⟨ol, Heap.get?_push_of_some _ hol, rl⟩⟩ (F.push _) (fun p hp => ⟨Heap.get?_push_of_some _ (N p hp).1, (N p hp).2⟩) h0 (fun i v m ld h tk own hi hP htk => turn i v m ld h tk own (by simpa using hP) htk) done hx hk
  · rcases List.mem_cons.mp q with q | q
    · exact absurd F.ns.lt (q ▸ Nat.lt_irrefl _)
    · exact hlL (List.mem_singleton.mp q).symm
  · rw [List.mem_singleton.mp hb]; exact gnone F (Nat.le_refl _)
  · rcases List.mem_cons.mp hf with e | e
    · exact ne_size (N q hq).1 e
    · exact hld q hq (List.mem_singleton.mp e)

theorem for_tuple {L : Addr} {l : Addr} {vs : List Value} (J : Nat → (Str → Option Value) → List (Addr × Obj) → Prop)
    (hh : A.handled = none) (hl : s.heap.IsTuple l vs.toArray) (hlL : l ≠ L) (hld : ∀ q ∈ ld₀, q.1 ≠ l)
    (F : Fr g L s.heap m₀) (N : News g L s.heap ld₀) (h0 : J 0 m₀ ld₀)
    (turn : ∀ (i : Nat) (v : Value) (m : Str → Option Value) (ld : List (Addr × Obj)) (h : Heap) (tk : Nat) (own : List (Addr × Obj)), vs[i]? = some v → s.toks ≤ tk → ld.map (·.1) = ld₀.map (·.1) → OwnOff own (ld₀.map (·.1)) → J i m ld →
      Fr g L h (fun y => if y = x then some v else m y) → News g L h (ld ++ own) →
      wpAny (model PG w) A (execs body env) (fun f s₃ => Later { s with heap := h, toks := tk } s₃ → TurnEnd g L (J (i + 1)) own (ld₀.map (·.1)) s Q f s₃) NoE { s with heap := h, toks := tk })
    (done : ∀ (m : Str → Option Value) (ld : List (Addr × Obj)) (h : Heap) (tk : Nat), s.toks ≤ tk → J vs.length m ld → Fr g L h m → News g L h ld → wpAny (model PG w) A (execs orelse env) Q NoE { s with heap := h, toks := tk })
    (hx : autoParam (env.kindOf x = some .local) aR._auto_1) (hk : autoParam (env.scope.kind = .function) aR._auto_1) (hL : autoParam (env.locals = L) aR._auto_1) :
    wpAny (model PG w) A (pyIter (.ref l)) (forGoal w A env (.Name x px) body orelse Q) E s := by
  subst hL
  refine byGoal fun P9 k9 => ?_
  obtain ⟨ol, hol, rl⟩ := id hl
  refine k9 ?_
  clear k9 P9
  refine wpAny_pyIter_tuple hl ?_
  have hlen : vs.toArray.size = vs.length := by simp
  have W := Walks.tuple (prog := PG) (w := w) hh s.heap.objs.size l (ne_size hol) vs.toArray
  rw [hlen] at W
  refine forN W J (fun q => ?_) (fun b hb => ?_) (fun q hq hf => ?_) ⟨⟨_, Heap.get?_push_size _ rfl, rfl, rfl⟩, ⟨ol, Heap.get?_push_of_some _ hol, rl⟩⟩ (F.push _) (fun p hp => ⟨Heap.get?_push_of_some _ (N p hp).1, (N p hp).2⟩) h0 (fun i v m ld h tk own hi hP htk => turn i v m ld h tk own (by simpa using hP) htk) done hx hk
  · rcases List.mem_cons.mp q with q | q
    · exact absurd F.ns.lt (q ▸ Nat.lt_irrefl _)
    · exact hlL (List.mem_singleton.mp q).symm
  · rw [List.mem_singleton.mp hb]; exact gnone F (Nat.le_refl _)
  · rcases List.mem_cons.mp hf with e | e
    · exact ne_size (N q hq).1 e
    · exact hld q hq (List.mem_singleton.mp e)


theorem for_range {L : Addr} {r : Addr} {n : Nat} {t u v : Tok} (J : Nat → (Str → Option Value) → List (Addr × Obj) → Prop)
    (hh : A.handled = none) (hr : IsRange s.heap r 0 n 1 t u v) (hn : n < 2 ^ 60) (hrL : r ≠ L)
    (F : Fr g L s.heap m₀) (N : News g L s.heap ld₀) (h0 : J 0 m₀ ld₀)
    (turn : ∀ (i : Nat) (ti : Tok) (m : Str → Option Value) (ld : List (Addr × Obj)) (h : Heap) (tk : Nat) (own : List (Addr × Obj)), i < n → s.toks ≤ tk → ld.map (·.1) = ld₀.map (·.1) → OwnOff own (ld₀.map (·.1)) → J i m ld →
      Fr g L h (fun z => if z = x then some (.int i ti) else m z) → News g L h (ld ++ own) →
      wpAny (model PG w) A (execs body env) (fun f s₃ => Later { s with heap := h, toks := tk } s₃ → TurnEnd g L (J (i + 1)) own (ld₀.map (·.1)) s Q f s₃) NoE { s with heap := h, toks := tk })
    (done : ∀ (m : Str → Option Value) (ld : List (Addr × Obj)) (h : Heap) (tk : Nat), s.toks ≤ tk → J n m ld → Fr g L h m → News g L h ld → wpAny (model PG w) A (execs orelse env) Q NoE { s with heap := h, toks := tk })
    (hx : autoParam (env.kindOf x = some .local) aR._auto_1) (hk : autoParam (env.scope.kind = .function) aR._auto_1) (hL : autoParam (env.locals = L) aR._auto_1) :
    wpAny (model PG w) A (pyIter (.ref r)) (forGoal w A env (.Name x px) body orelse Q) E s := by
  subst hL
  have hs : Builtin.Range.rangeSize 0 n 1 = n := by unfold Builtin.Range.rangeSize; simp; exact Mine.om59
  have W := Walks.range (prog := PG) (w := w) hh s.heap.objs.size 0 1 n
  refine wpAny_pyIter_range hr (by unfold Builtin.Range.small; rw [hs]; simp [Builtin.Range.rangeFitsLong]; exact Mine.om289 hn) ?_
  rw [hs]
  refine forN W J (fun q => ?_) (fun b hb => ?_) (fun q hq hf => ?_) (by have := Heap.get?_push_size s.heap (o := { cls := .type "range_iterator", data := .fields #[rawInt 0, rawInt n, rawInt 1] }) rfl; simpa using this) (F.push _) (fun p hp => ⟨Heap.get?_push_of_some _ (N p hp).1, (N p hp).2⟩) h0 (fun i v m ld h tk own hi hP htk => ?_) done hx hk
  · exact absurd F.ns.lt (List.mem_singleton.mp q ▸ Nat.lt_irrefl _)
  · rw [List.mem_singleton.mp hb]; exact gnone F (Nat.le_refl _)
  · exact ne_size (N q hq).1 (List.mem_singleton.mp hf)
  · obtain ⟨ti, rfl⟩ := hP
    have e : (0 : Int) + (i : Int) * 1 = i := by exact Mine.om121
    rw [e]
    exact turn i ti m ld h tk own hi htk
end
end Mine
namespace Mine
section
variable {w : World} {A : Around} {s : Shared} {g : Heap} {env : Env} {body orelse : List Stmt} {Q : Flow → Shared → Prop} {E : Value → Shared → Prop} {m₀ : Str → Option Value}
inductive NextE (g : Heap) (L : Addr) (J : (Str → Option Value) → Prop) (own : List (Addr × Obj)) (gs : Array GenState) (dr : Drawn) (os : OsState) (s₂ : Shared) : Prop
  | mk (h' : Heap) (tk : Nat) (m' : Str → Option Value) (e : s₂ = ⟨h', gs, dr, tk, os⟩) (F : Fr g L h' m') (N : News g L h' own) (j : J m')
inductive EnI (sz l : Addr) (vs : List Value) (g : Heap) (L : Addr) (J : Nat → (Str → Option Value) → Prop) (s : Shared) (k : Nat) (s' : Shared) : Prop
  | mk (h : Heap) (tk : Nat) (m : Str → Option Value) (i : Nat) (old : Value) (e : s' = { s with heap := h, toks := tk }) (htk : s.toks ≤ tk) (hE : IsEnum h (sz + 1) sz ((i : Nat) : Int) old) (hI : h.IsListIter sz l i) (F : Fr g L h m) (j : J i m) (hi : i ≤ vs.length) (ek : k = vs.length + 1 - i)
def EnumEnd (g : Heap) (L : Addr) (J : (Str → Option Value) → Prop) (own : List (Addr × Obj)) (s : Shared) (Q : Flow → Shared → Prop) (f : Flow) (s₂ : Shared) : Prop :=
  match f with
  | .ret v => Q (.ret v) s₂
  | .brk => Q .next s₂
  | _ => NextE g L J own s.gens s.drawn s.os s₂

theorem for_enum {L : Addr} {xi xv : Str} {pi pv pt : Pos} {x1} {l : Addr} {vs : List Value} (J : Nat → (Str → Option Value) → Prop)
    (hh : A.handled = none) (hlg : g.IsList l vs.toArray) (F : Fr g L s.heap m₀) (h0 : J 0 m₀)
    (turn : ∀ (i : Nat) (v : Value) (ti : Tok) (m : Str → Option Value) (h : Heap) (tk : Nat) (own : List (Addr × Obj)), vs[i]? = some v → s.toks ≤ tk → J i m →
      Fr g L h (fun y => if y = xv then some v else if y = xi then some (.int i ti) else m y) → News g L h own →
      wpAny (model PG w) A (execs body env) (fun f s₃ => Later { s with heap := h, toks := tk } s₃ → EnumEnd g L (J (i + 1)) own s Q f s₃) NoE { s with heap := h, toks := tk })
    (done : ∀ (m : Str → Option Value) (h : Heap) (tk : Nat), s.toks ≤ tk → J vs.length m → Fr g L h m → wpAny (model PG w) A (execs orelse env) Q NoE { s with heap := h, toks := tk })
    (hxi : autoParam (env.kindOf xi = some .local) aR._auto_1) (hxv : autoParam (env.kindOf xv = some .local) aR._auto_1) (hk : autoParam (env.scope.kind = .function) aR._auto_1) (hL : autoParam (env.locals = L) aR._auto_1) :
    wpAny (model PG w) A (call (.type "enumerate") [.ref l]) (fun v s₁ => wpAny (model PG w) A (pyIter v) (forGoal w A env (.Tuple [.Name xi pi, .Name xv pv] x1 pt) body orelse Q) E s₁) E s := by
  subst hL
  have hp : (env.scope.kind == .class || (env.scope.kind == .module && env.locals != env.globals)) = false := by rw [hk]; rfl
  refine byGoal fun P9 k9 => ?_
  obtain ⟨ol, hol, rl⟩ := id hlg
  refine k9 ?_
  clear k9 P9
  have hls : s.heap.IsList l vs.toArray := ⟨ol, F.keep _ _ hol, rl⟩
  refine call_enumerate_list hls fun h' he hit hz hk' => ?_
  refine wpAny_pyIter_enum he ?_
  have gn : ∀ a : Nat, s.heap.objs.size ≤ a → g.get? a = none := fun a ha => gnone F ha
  have hLlt := ltN F.ns.lt
  have lsz : l < g.objs.size := Heap.lt_size hol
  have lsz' := ltN lsz
  have Fab := leN F.above
  generalize hE : s.heap.objs.size = sz at *
  have F₁ : Fr g env.locals h' m₀ := fr_stays F (fun b o e => hk' b o e)
  unfold forGoal
  refine codeAny_forLoop_any (EnI sz l vs g env.locals J s) ?_ (vs.length + 1)
    ⟨h', s.toks, m₀, 0, .none, rfl, Nat.le_refl _, he, hit, F₁, h0, Nat.zero_le _, rfl⟩
  intro k s' hJa
  refine byGoal fun P9 k9 => ?_
  obtain ⟨H, tk, m, i, old, rfl, htk, heH, hitH, FH, hJ, hi, rfl⟩ := hJa
  refine k9 ?_
  clear k9 P9
  have hlH : H.IsList l vs.toArray := ⟨ol, FH.keep _ _ hol, rl⟩
  refine later ?_
  cases hv : vs.toArray[i]? with
  | none =>
    have hsz : i = vs.length := by have : vs[i]? = none := by simpa using hv
                                   have := List.getElem?_eq_none_iff.mp this; exact Mine.om209 hi this
    subst hsz
    refine wpAny_pyNext_enum_end hh heH hitH hlH hv fun h₁ he₁ l1 => ?_
    have F₂ : Fr g env.locals h₁ m := by
      refine byGoal fun P9 k9 => ?_
      obtain ⟨oL, es, ep, hL, r⟩ := FH.ns
      refine k9 ?_
      clear k9 P9
      refine ⟨⟨oL, es, ep, he₁ _ _ (neN (by exact Mine.om112 hLlt)) hL, r⟩, fun b o e => he₁ b o (fun q => by rw [q, gn sz (Nat.le_refl _)] at e; cases e) (FH.keep b o e), FH.above⟩
    exact wpAny_mono (done m h₁ tk htk hJ F₂) (fun _ _ x => x) fun _ _ x => x.elim
  | some v =>
    have hlt : i < vs.length := by have : vs[i]? = some v := by simpa using hv
                                   exact (List.getElem?_eq_some_iff.mp this).1
    have heH' := ltN (Heap.lt_size heH)
    refine wpAny_pyNext_enum_item heH hitH hlH hv (neN (by exact Mine.om210)) fun h₁ heo hit₁ ht₁ hz₁ hk₁ l1 => ?_
    refine later (wpAny_letOwnedTupleGo_enum heo fun h₂ he₂ hs₂ l2 => ?_)
    replace hs₂ : Heap.SameBut (sz + 1) h₁ h₂ := hs₂
    have ht₂ : h₂.IsTuple H.objs.size #[.int i tk, v] := ⟨_, (hs₂.2 _ (neN (by exact Mine.om211 heH'))).trans ht₁, rfl, _, rfl⟩
    have hz₂ : h₂.objs.size = H.objs.size + 1 := hs₂.1.trans hz₁
    refine later (wpAny_assign_Tuple hh ht₂ rfl rfl fun h₃ hx₃ => ?_)
    replace hx₃ : Heap.ExtBut h₂.objs.size h₂ h₃ := hx₃
    have old₃ : ∀ (b : Nat) (o : Obj), b < H.objs.size → h₂.get? b = some o → h₃.get? b = some o := fun b o hb x => hx₃ b o (neN (by exact Mine.om117 hz₂ hb)) x
    have hLH := ltN FH.ns.lt
    have hn₃ : h₃.Ns env.locals m := by
      refine byGoal fun P9 k9 => ?_
      obtain ⟨oL, es, ep, hL, r⟩ := FH.ns
      refine k9 ?_
      clear k9 P9
      exact ⟨oL, es, ep, old₃ _ _ hLH ((hs₂.2 _ (neN (by exact Mine.om212 hLlt))).trans (hk₁ _ _ (neN (by exact Mine.om212 hLlt)) (neN (by exact Mine.om112 hLlt)) hL)), r⟩
    have keep₃ : ∀ b o, g.get? b = some o → h₃.get? b = some o := fun b o e => by
      have hb := FH.keep b o e
      have hb' := ltN (Heap.lt_size hb)
      have hbg := ltN (Heap.lt_size e)
      exact old₃ _ _ hb' ((hs₂.2 _ (neN (by exact Mine.om213 Fab hLlt hbg))).trans (hk₁ _ _ (neN (by exact Mine.om213 Fab hLlt hbg)) (neN (by exact Mine.om214 Fab hLlt hbg)) hb))
    have F₃ : Fr g env.locals h₃ m := ⟨hn₃, keep₃, FH.above⟩
    show wpAny _ A (do holding [v] (assign (.Name xi pi) env (.int i tk)); do holding [] (assign (.Name xv pv) env v); pure ()) _ _ _
    refine wpAny_bind (wpAny_holding (wpAny_assign_Name (wpAny_storeName_local hxi F₃.ns (fun h₄ hn₄ hs₄ => ?_) hp)))
    have F₄ := F₃.set hn₄ hs₄
    refine wpAny_bind (wpAny_holding (wpAny_assign_Name (wpAny_storeName_local hxv F₄.ns (fun h₅ hn₅ hs₅ => wpAny_pure ?_) hp)))
    have F₅ := F₄.set hn₅ hs₅
    refine byGoal fun P9 k9 => ?_
    obtain ⟨oi, hoi, hoc, hod⟩ := id hit₁
    refine k9 ?_
    clear k9 P9
    have up5 : ∀ (b : Nat) (o : Obj), b ≠ env.locals → b < H.objs.size → h₂.get? b = some o → h₅.get? b = some o := fun b o hbL hb x => (hs₅.2 b hbL).trans ((hs₄.2 b hbL).trans (old₃ b o hb x))
    have e5 := up5 _ _ (neN (by exact Mine.om215 hLlt)) (by exact Mine.om216 heH') he₂
    have i5 : h₅.get? sz = some oi := up5 _ _ (neN (by exact Mine.om119 hLlt)) (by exact Mine.om217 heH') ((hs₂.2 _ (neN (by exact Mine.om218))).trans hoi)
    intro l3
    let eo : Obj := { cls := .type "enumerate", dict := none, data := .fields #[.none, .bool false, .ref sz, rawInt ((i : Int) + 1), .none, v], slots := #[] }
    refine later (wpAny_mono (turn i v tk m h₅ (tk + 1 + 1 + 1) [(sz + 1, eo), (sz, oi)] (by simpa using hv) (by exact Mine.om219 htk) hJ F₅ (fun p hp => ?_)) (fun f s₃ h₆' l4 => ?_) fun _ _ x => x.elim)
    · rcases List.mem_cons.mp hp with rfl | hp
      · exact ⟨e5, neN (by omega), gn _ (by omega)⟩
      · rw [List.mem_singleton.mp hp]; exact ⟨i5, neN (by show sz ≠ _; exact Mine.om119 hLlt), gn _ (by show sz ≤ sz; exact Mine.om220)⟩
    · have h₆ := h₆' l4
      have nx : NextE g env.locals (J (i + 1)) [(sz + 1, eo), (sz, oi)] s.gens s.drawn s.os s₃ →
          ∃ m, m < vs.length + 1 - i ∧ EnI sz l vs g env.locals J s m s₃ := by
        intro hJa
        refine byGoal fun P9 k9 => ?_
        obtain ⟨h6, tk6, m6, rfl, F6, N6, hj6⟩ := hJa
        refine k9 ?_
        clear k9 P9
        refine ⟨vs.length + 1 - (i + 1), by exact Mine.om221 hlt, h6, tk6, m6, i + 1, v, rfl, ?_, ?_, ?_, F6, hj6, hlt, rfl⟩
        · have := l4.1; simp only at this ⊢; exact Mine.om222 htk this
        · have : ((i + 1 : Nat) : Int) = (i : Int) + 1 := by push_cast; rfl
          rw [this]; exact (N6 _ (.head _)).1
        · exact ⟨oi, (N6 _ (.tail _ (.head _))).1, hoc, hod⟩
      cases f with
      | next => exact nx h₆
      | cont => exact nx h₆
      | brk => exact h₆
      | ret v => exact h₆
end
end Mine
end
section
open PySem PySem.W PyProof.Rows PySem.Calls PySem.Spec
set_option maxHeartbeats 1000000
namespace Mine
section
variable {prog : Program} {w : World} {A : Around} {E : Value → Shared → Prop} {s : Shared} {Q : Value → Shared → Prop} {x y : Str} {t u : Tok}
theorem str_add_nil (x : Str) (h : x.length = 0) (y : Str) : x ++ y = y := by
  have : x.cps = #[] := Array.eq_empty_of_size_eq_zero h
  show Str.mk (x.cps ++ y.cps) = y
  rw [this]; simp
theorem str_nil_add (x : Str) (h : x.length = 0) (y : Str) : y ++ x = y := by
  have : x.cps = #[] := Array.eq_empty_of_size_eq_zero h
  show Str.mk (y.cps ++ x.cps) = y
  rw [this]; simp
theorem str_len_add (x y : Str) : (x ++ y).length = x.length + y.length := by
  show (x.cps ++ y.cps).size = _
  rw [Array.size_append]; rfl
theorem addS (hsz : x.length + y.length ≤ sizeLine) (h : ∀ t' tk, s.toks ≤ tk → (x.length ≠ 0 → y.length ≠ 0 → s.toks ≤ t' ∧ t' < tk) → Q (.str (x ++ y) t') { s with toks := tk }) :
    wpAny (model prog w) A (binaryOp .Add (.str x t) (.str y u)) Q E s := by
  refine P.add_str ?_
  split
  · rename_i h0
    have h0 : x.length = 0 := by simpa using h0
    have := h u s.toks (Nat.le_refl _) (fun a => absurd h0 a)
    rw [str_add_nil x h0 y] at this
    exact this
  · split
    · rename_i h0 h1
      have h1 : y.length = 0 := by simpa using h1
      have := h t s.toks (Nat.le_refl _) (fun _ a => absurd h1 a)
      rw [str_nil_add y h1 x] at this
      exact this
    · exact ⟨by rw [str_len_add]; exact hsz, h _ _ (Nat.le_succ _) fun _ _ => ⟨Nat.le_refl _, Nat.lt_succ_self _⟩⟩
end

/-- lists of strs, items of lists -/
theorem strsAre_get {vs : List Value} {ys : List Str} (h : StrsAre vs ys) : ∀ {i : Nat} {v : Value}, vs[i]? = some v → ∃ y t, ys[i]? = some y ∧ v = .str y t := by
  induction h with
  | nil => intro i v e; cases e
  | cons y t _ ih =>
    intro i v e
    cases i with
    | zero => cases e; exact ⟨y, t, rfl, rfl⟩
    | succ i => exact ih e
theorem strsAre_length {vs : List Value} {ys : List Str} (h : StrsAre vs ys) : vs.length = ys.length := by
  induction h with
  | nil => rfl
  | cons _ _ _ ih => simp [ih]
theorem intsAre_get {vs : List Value} {ys : List Int} (h : IntsAre vs ys) : ∀ {i : Nat} {v : Value}, vs[i]? = some v → ∃ y t, ys[i]? = some y ∧ v = .int y t := by
  induction h with
  | nil => intro i v e; cases e
  | cons y t _ ih =>
    intro i v e
    cases i with
    | zero => cases e; exact ⟨y, t, rfl, rfl⟩
    | succ i => exact ih e
theorem isList_up {h g : Heap} {l : Addr} {items : Array Value} (hl : h.IsList l items) (up : ∀ b o, h.get? b = some o → b ∉ ([] : List (Addr × Obj)).map (·.1) → g.get? b = some o) : g.IsList l items :=
  let ⟨o, ho, r⟩ := hl; ⟨o, up _ _ ho (fun q => nomatch q), r⟩
theorem isList_keep {h g : Heap} {l : Addr} {items : Array Value} (hl : h.IsList l items) (up : h.StaysIn g) : g.IsList l items :=
  let ⟨o, ho, r⟩ := hl; ⟨o, up _ _ ho, r⟩
theorem noneBooked_keep {h g : Heap} (hb : NoneBooked h) (k : h.StaysIn g) : NoneBooked g := by
  refine byGoal fun P9 k9 => ?_
  obtain ⟨mc, ⟨o, es, ep, ho, r⟩, hk⟩ := hb
  refine k9 ?_
  clear k9 P9
  exact ⟨mc, ⟨o, es, ep, k _ _ ho, r⟩, hk⟩
theorem fr_ne {g h : Heap} {L a : Addr} {o : Obj} {m : Str → Option Value} (F : Fr g L h m) (ha : g.get? a = some o) : a ≠ L := Nat.ne_of_lt (Nat.lt_of_lt_of_le (Heap.lt_size ha) F.above)
theorem count_take_succ {ys : List Str} {x y : Str} {i : Nat} (hy : ys[i]? = some y) : (ys.take (i + 1)).count x = (ys.take i).count x + if y = x then 1 else 0 := by
  rw [List.take_add_one, hy]
  simp only [Option.toList_some, List.count_append, List.count_singleton]
  by_cases e : y = x <;> simp [e]
theorem idxOf_at {α : Type} [BEq α] [LawfulBEq α] {x : α} : ∀ {ys : List α} {i : Nat}, ys[i]? = some x → x ∉ ys.take i → ys.idxOf x = i
  | [], _, h, _ => by simp at h
  | y :: r, 0, h, _ => by simp at h; subst h; simp
  | y :: r, i + 1, h, hn => by
    simp only [List.take_succ_cons, List.mem_cons, not_or] at hn
    have ih := idxOf_at (ys := r) (i := i) (by simpa using h) hn.2
    rw [List.idxOf_cons, ih]
    have : (y == x) = false := by exact beq_false_of_ne (fun e => hn.1 e.symm)
    simp [this]
theorem not_take_succ {α : Type} {ys : List α} {x y : α} {i : Nat} (hy : ys[i]? = some y) (h : x ∉ ys.take i) (hne : y ≠ x) : x ∉ ys.take (i + 1) := by
  rw [List.take_add_one, hy]
  simp only [Option.toList_some, List.mem_append, List.mem_singleton, not_or]
  exact ⟨h, fun e => hne e.symm⟩
theorem fresh_up {h g : Heap} {l : Addr} (up : ∀ b o, h.get? b = some o → b ∉ ([] : List (Addr × Obj)).map (·.1) → g.get? b = some o) (hn : g.get? l = none) : h.get? l = none := by
  cases q : h.get? l with
  | none => rfl
  | some o => rw [up _ _ q (fun q => nomatch q)] at hn; cases hn
/-- a fresh object that a call hands back -/
structure Fresh (h h' : Heap) (l : Addr) (o : Obj) : Prop where
  new : h.get? l = none
  at_ : h'.get? l = some o
theorem fresh_of_news {h g h' : Heap} {L l : Addr} {o : Obj} {ld : List (Addr × Obj)} (N : News g L h' ld) (hm : (l, o) ∈ ld) (up : ∀ b o, h.get? b = some o → b ∉ ([] : List (Addr × Obj)).map (·.1) → g.get? b = some o) : Fresh h h' l o :=
  ⟨fresh_up up (N _ hm).2.2, (N _ hm).1⟩
noncomputable def wordsP (p q : Int) (x y z : Str) : List Str :=
  if p = 1 then
    if q = 0 then [x ++ z ++ "..." ++ y, z ++ ">" ++ y ++ ">=" ++ x]
    else if q = 1 then [y ++ "..." ++ x ++ z, z ++ ">=" ++ y ++ ">" ++ x]
    else [x ++ z ++ "..." ++ y, z ++ ">" ++ y ++ ">=" ++ x, y ++ "..." ++ x ++ z, z ++ ">=" ++ y ++ ">" ++ x]
  else
    if q = 0 then [x ++ z ++ "..." ++ y, x ++ "<=" ++ y ++ "<" ++ z]
    else if q = 1 then [y ++ "..." ++ x ++ z, x ++ "<" ++ y ++ "<=" ++ z]
    else [x ++ z ++ "..." ++ y, x ++ "<=" ++ y ++ "<" ++ z, y ++ "..." ++ x ++ z, x ++ "<" ++ y ++ "<=" ++ z]

noncomputable abbrev S (l : List Nat) : Str := ⟨l.toArray⟩
theorem S_append (a b : List Nat) : S a ++ S b = S (a ++ b) := by
  show Str.mk (a.toArray ++ b.toArray) = _
  simp
theorem S_len (a : List Nat) : (S a).length = a.length := by show a.toArray.size = _; simp
theorem S_inj {a b : List Nat} (h : S a = S b) : a = b := by
  have : a.toArray = b.toArray := congrArg Str.cps h
  simpa using this
theorem S_of (x : Str) : x = S x.cps.toList := by cases x; simp
theorem join_nil : ∀ ys : List Str, Str.join (S []) ys = S (ys.flatMap fun y => y.cps.toList)
  | [] => rfl
  | [x] => by
    show x = S ([x].flatMap fun y => y.cps.toList)
    rw [List.flatMap_cons, List.flatMap_nil, List.append_nil]
  | x :: y :: r => by
    have ih := join_nil (y :: r)
    show x ++ S [] ++ Str.join (S []) (y :: r) = _
    have e : x ++ S [] = S x.cps.toList := by rw [S_of x, S_append, List.append_nil]
    rw [ih, List.flatMap_cons (x := x), e, S_append]
section
variable {prog : Program} {w : World} {A : Around} {E : Value → Shared → Prop} {s : Shared} {Q : Value → Shared → Prop} {t u : Tok}
theorem joinS {D : Addr} {items : Array Value} {ys : List Str} (hl : s.heap.IsList D items) (hi : StrsAre items.toList ys) (hok : (ys.map (·.length)).sum ≤ 16777216)
    (h : ∀ t' k, s.toks ≤ k → (2 ≤ ys.length → s.toks ≤ t' ∧ t' < k) → Q (.str (S (ys.flatMap fun y => y.cps.toList)) t') { s with toks := k }) : wpAny (model prog w) A (call (.builtin "str.join") [.str (Str.ofString "") t, .ref D]) Q E s := by
  refine byGoal fun P9 k9 => ?_
  obtain ⟨l, hv, ht⟩ := strsAre_values hi
  refine k9 ?_
  clear k9 P9
  have e : items = (strValues l).toArray := by rw [← hv]
  subst e
  have e0 : Str.ofString "" = S [] := by decide
  rw [e0]
  have hok' : JoinOk (S []) ys = true := joinOk_of (by rw [S_len]; simpa using hok)
  subst ht
  unfold JoinOk at hok'
  rw [Bool.not_eq_true'] at hok'
  refine call_meets F.slot_str_join (typeIs_str _ _ _) F.entry_str_join (F.args_str_join_2 _ _) (meets_str_join_list (S []) t D l hok') ⟨hl, ?_⟩
  match l, hok', h with
  | [], hk, h => 
    have := h s.toks (s.toks + 1) (Nat.le_succ _) (fun a => by simp at a)
    exact ⟨joinFit_length hk, this⟩
  | [p], hk, h =>
    have := h p.2 s.toks (Nat.le_refl _) (fun a => by simp at a)
    show Q (.str p.1 p.2) s
    simp only [List.map_cons, List.map_nil, List.flatMap_cons, List.flatMap_nil, List.append_nil] at this
    rw [← S_of] at this
    exact this
  | p :: q :: r, hk, h =>
    have := h s.toks (s.toks + 1) (Nat.le_succ _) (fun _ => ⟨Nat.le_refl _, Nat.lt_succ_self _⟩)
    refine ⟨joinFit_length hk, ?_⟩
    rw [← join_nil, ← StrLaws.glued_eq_join] at this
    exact this
theorem inC {c : Nat} {y : Str} (h : Q (.bool (decide (c ∈ y.cps.toList))) s) : wpAny (model prog w) A (compareOp .In (.str ⟨#[c]⟩ u) (.str y t)) Q E s :=
  in_str (by rw [StrLaws.found_one]; exact h)
end
theorem addS' {prog : Program} {w : World} {A : Around} {E : Value → Shared → Prop} {s : Shared} {Q : Value → Shared → Prop} {x y : Str} {t u : Tok} (hx : x.length ≤ 4000000) (hy : y.length ≤ 4000000) (h : ∀ t' tk, s.toks ≤ tk → (x.length ≠ 0 → y.length ≠ 0 → s.toks ≤ t' ∧ t' < tk) → Q (.str (x ++ y) t') { s with toks := tk }) :
    wpAny (model prog w) A (binaryOp .Add (.str x t) (.str y u)) Q E s := addS (Nat.le_trans (Nat.add_le_add hx hy) (by decide)) h
theorem addS0 {prog : Program} {w : World} {A : Around} {E : Value → Shared → Prop} {s : Shared} {Q : Value → Shared → Prop} {x y : Str} {t u : Tok} (hz : x.length + y.length ≤ sizeLine) (h : ∀ t' tk, Q (.str (x ++ y) t') { s with toks := tk }) :
    wpAny (model prog w) A (binaryOp .Add (.str x t) (.str y u)) Q E s := addS hz fun t' tk _ _ => h t' tk
theorem addSN {prog : Program} {w : World} {A : Around} {E : Value → Shared → Prop} {s : Shared} {Q : Value → Shared → Prop} {x y : Str} {t u : Tok} (hx : x.length ≤ 4000000) (hy : y.length ≤ 4000000) (h : ∀ t' tk, Q (.str (x ++ y) t') { s with toks := tk }) :
    wpAny (model prog w) A (binaryOp .Add (.str x t) (.str y u)) Q E s := addS' hx hy fun t' tk _ _ => h t' tk
theorem addSl {prog : Program} {w : World} {A : Around} {E : Value → Shared → Prop} {s : Shared} {Q : Value → Shared → Prop} {x y : Str} {t u : Tok} (hx : x.length ≤ 4000000) (hy : y.length ≤ 4000000) (h : ∀ t' tk, s.toks ≤ tk → Q (.str (x ++ y) t') { s with toks := tk }) :
    wpAny (model prog w) A (binaryOp .Add (.str x t) (.str y u)) Q E s := addS' hx hy fun t' tk l _ => h t' tk l
theorem sm_add {a b : Str} {m n : Nat} (h : a.length ≤ m) (k : b.length ≤ n) : (a ++ b).length ≤ m + n := by rw [str_len_add]; exact Nat.add_le_add h k
theorem split_decN {c : Prop} [Decidable c] {a b : Prop} (ha : c → a) (hb : ¬ c → b) : if c then a else b := by split <;> simp_all
theorem seqIndex_nat {j n : Nat} (h : j < n) : seqIndex? (j : Int) n = some j := by
  unfold seqIndex?
  have h1 : ¬ ((j : Int) < 0) := by exact Mine.om268
  simp only [h1, if_false]
  have h2 : (decide ((0 : Int) ≤ (j : Int)) && decide ((j : Int) < (n : Int))) = true := by simp; exact Mine.om44 h
  rw [if_pos h2]; simp
theorem subS {prog : Program} {w : World} {A : Around} {E : Value → Shared → Prop} {s : Shared} {Q : Value → Shared → Prop} {value slice : Expr} {l : List Nat} {i : Int} {j c : Nat} {t u : Tok} (hi : i = (j : Int)) (hc : l[j]? = some c) (hj : j < 2 ^ 60)
    (h : Q (.str (S [c]) s.toks) { s with toks := s.toks + 1 })
    (hs : subscripted slice false (.str (S l) t) (.int i u) = operate [.str (S l) t, .int i u] (getItem (.str (S l) t) (.int i u)) := by with_unfolding_all rfl) :
    wpAny (model prog w) A (subscriptTail value slice (.str (S l) t) (.int i u)) Q E s := by
  subst hi
  have hlt : j < l.length := (List.getElem?_eq_some_iff.mp hc).1
  refine tail_any (typeIs_str s _ t) F.slot_str_getitem.lookup (P.getItem_str (c := c) (by simp; exact Mine.om297 hj) ?_ h) hs
  rw [S_len, seqIndex_nat hlt]
  simpa using hc
theorem itemS {l : List Nat} {j : Nat} (h : j < l.length) : Txt.item (S l) (j : Int) = S [l[j]] := by
  unfold Txt.item Txt.charAt
  rw [S_len, seqIndex_nat h]
  simp [h]
theorem execs_consL {M : Model} {A : Around} {E : Value → Shared → Prop} {s : Shared} {env : Env} {st : Stmt} {rest : List Stmt} {Q : Flow → Shared → Prop}
    (h : wpAny M A (exec st env) (fun f s' => Later s s' → match f with | .next => wpAny M A (execs rest env) Q E s' | f => Q f s') E s) : wpAny M A (execs (st :: rest) env) Q E s :=
  wpAny_execs_cons (later h)
end Mine
end
section
open PySem PySem.W PyProof.Rows PySem.Calls PySem.Spec
set_option maxHeartbeats 1000000
namespace Mine
section
variable {prog : Program} {w : World} {A : Around} {E : Value → Shared → Prop} {s : Shared}
theorem drawL {it t : Addr} {items : Array Value} (hne : t ≠ it) : ∀ (n i : Nat) (s : Shared) (Q : List Value → Shared → Prop), s.heap.IsListIter it t i → s.heap.IsList t items → i + n ≤ items.size →
    (∀ h', h'.IsListIter it t (i + n) → Heap.SameBut it s.heap h' → Q ((items.toList.drop i).take n) { s with heap := h' }) → wpAny (model prog w) A (draw (.ref it) n) Q E s
  | 0, i, s, Q, hit, _, _, hQ => by
    have := hQ s.heap hit (Heap.SameBut.refl ..)
    rw [List.take_zero] at this
    exact wpAny_pure this
  | n + 1, i, s, Q, hit, ht, hle, hQ => by
    have hlt : i < items.size := by exact Mine.om269 hle
    unfold draw
    refine wpAny_bind (wpAny_pyNext_list_item hit ht (x := items[i]) (by simp [hlt]) fun h₁ hit₁ hs₁ => ?_)
    refine wpAny_bind (wpAny_holding (drawL hne n (i + 1) _ _ hit₁ (ht.extBut hs₁.extBut hne) (by exact Mine.om270 hle) fun h₂ hit₂ hs₂ => wpAny_pure ?_))
    have hd : items.toList.drop i = items[i] :: items.toList.drop (i + 1) := by simp [List.drop_eq_getElem_cons, hlt]
    have := hQ h₂ (by rw [show i + (n + 1) = i + 1 + n by exact Mine.om271]; exact hit₂) (hs₁.trans hs₂)
    rw [hd, List.take_succ_cons] at this
    exact this
theorem unpackItemsL {t : Addr} {items : Array Value} {Q : List Value → Shared → Prop} (hh : A.handled = none) (ht : s.heap.IsList t items)
    (hQ : ∀ h', Heap.ExtBut s.heap.objs.size s.heap h' → Q items.toList { s with heap := h' }) : wpAny (model prog w) A (unpackItems (.ref t) items.size none) Q E s := by
  refine byGoal fun P9 k9 => ?_
  obtain ⟨o, ho, r⟩ := id ht
  refine k9 ?_
  clear k9 P9
  have hlt : t ≠ s.heap.objs.size := Nat.ne_of_lt (Heap.lt_size ho)
  unfold unpackItems
  refine wpAny_bind ?_
  unfold notIterableAtAll
  refine wpAny_bind (wpAny_specialOf ht.typeIs slot_list_iter.lookup ?_)
  refine wpAny_pure ?_
  simp only [Bool.false_eq_true, if_false]
  refine wpAny_bind (wpAny_holding (wpAny_pyIter_list ht ?_))
  have ht' : (s.heap.push { cls := .type "list_iterator", data := .fields #[.ref t, .int 0 0] }).IsList t items := ⟨o, Heap.get?_push_of_some _ ho, r⟩
  refine wpAny_bind (wpAny_holding (drawL hlt items.size 0 _ _ ⟨_, Heap.get?_push_size _ rfl, rfl, rfl⟩ ht' (by exact Mine.om272) fun h₁ hit₁ hs₁ => ?_))
  have hall : List.take items.size (List.drop 0 items.toList) = items.toList := by
    rw [List.drop_zero]; exact List.take_of_length_le (by simp)
  rw [hall]
  rw [if_neg (by simp)]
  refine wpAny_bind (wpAny_holding (wpAny_pyNext_list_end hh hit₁ (ht'.extBut hs₁.extBut hlt) (by simp) fun h₂ he₂ => ?_))
  simp only [Option.isSome_none, Bool.false_eq_true, if_false]
  exact wpAny_pure (hQ h₂ fun b o hb e => he₂ b o hb (hs₁.extBut b o hb (Heap.get?_push_of_some _ e)))
theorem unpackL {env : Env} {elts : List Expr} {x1} {pos : Pos} {t : Addr} {items : Array Value} {g : Heap} {L : Addr} {m : Str → Option Value} {ld : List (Addr × Obj)} {Q : Unit → Shared → Prop}
    (F : Fr g L s.heap m) (N : News g L s.heap ld) (hh : A.handled = none) (ht : s.heap.IsList t items)
    (hn : (assignEach elts env).length = items.size) (hstar : (assignEach elts env).findIdx? (·.1) = none)
    (h : ∀ h', Fr g L h' m → News g L h' ld → s.heap.StaysIn h' → wpAny (model prog w) A (assignInOrder ((assignEach elts env).map (·.2)) items.toList) Q E { s with heap := h' }) :
    wpAny (model prog w) A (assign (.Tuple elts x1 pos) env (.ref t)) Q E s := by
  rw [assign_Tuple]
  refine wpAny_bind (wpAny_standAt ?_)
  unfold unpack
  rw [hn, hstar]
  refine wpAny_bind (wpAny_holding (unpackItemsL hh ht fun h' he => h h' (F.extBut he (Nat.le_refl _)) (N.extBut he (Nat.le_refl _)) fun b o e => he b o (Nat.ne_of_lt (Heap.lt_size e)) e))
end
end Mine
end
section
open PySem PySem.W PyProof.Rows PySem.Calls PySem.Spec
set_option maxHeartbeats 1000000
namespace Mine
section
variable {use : Use} {w : World} {A : Around} {s : Shared} {g : Heap} {env : Env} {elt iter : Expr} {x : Str} {px : Pos} {scope : Scope} {cl : List (Str × Addr)} {pos : Pos} {Q : Value → Shared → Prop} {E : Value → Shared → Prop} {m₀ : Str → Option Value} {ld₀ : List (Addr × Obj)}

inductive NextEa (g : Heap) (C : Addr) (ld : List (Addr × Obj)) (gs : Array GenState) (dr : Drawn) (os : OsState) (R : Nat → Value → Prop) (y : Value) (s₄ : Shared) : Prop
  | mk (h' : Heap) (tk : Nat) (m' : Str → Option Value) (e : s₄ = ⟨h', gs, dr, tk, os⟩) (F : Fr g C h' m') (N : News g C h' ld) (r : R tk y)
def EachEnd (g : Heap) (C : Addr) (ld : List (Addr × Obj)) (s : Shared) (R : Nat → Value → Prop) (y : Value) (s₄ : Shared) : Prop := NextEa g C ld s.gens s.drawn s.os R y s₄

theorem comp_each {L : Addr} {I : Addr} {fp wr : List Addr} {n : Nat} {P : Nat → Value → Prop} {St : Nat → Heap → Prop}
    (W : Walks PG w A I fp wr n P St) (R : Nat → Nat → Value → Prop) (mono : ∀ i a b y, a ≤ b → R i a y → R i b y) (hsz : n ≤ sizeLine)
    (hLf : L ∉ fp) (hwr : ∀ b ∈ wr, g.get? b = none) (hfp : ∀ q ∈ ld₀, q.1 ∉ fp) (hfl : ∀ b ∈ fp, b < s.heap.objs.size) (hst : St 0 s.heap)
    (F : Fr g L s.heap m₀) (N : News g L s.heap ld₀)
    (turn : ∀ (i : Nat) (v : Value) (h : Heap) (tk : Nat) (own : List (Addr × Obj)) (C : Addr) (m : Str → Option Value), i < n → P i v → s.toks ≤ tk → Fr g C h (fun y => if y = x then some v else m y) → News g C h (ld₀ ++ own) →
      wpAny (model PG w) A (eval elt (compEnvC scope cl C env)) (fun y s₄ => Later { s with heap := h, toks := tk } s₄ → EachEnd g C (ld₀ ++ own) s (R i) y s₄) NoE { s with heap := h, toks := tk })
    (done : ∀ (D : Addr) (ys : List Value) (h : Heap) (tk k : Nat), s.toks ≤ tk → Fr g L h (mUse use m₀ D) → News g L h ((D, { cls := .type "list", data := .seq ys.toArray k }) :: ld₀) → (∀ p ∈ ld₀, p.1 < D) → ys.length = n → (∀ j y, ys[j]? = some y → R j tk y) → Q (.ref D) { s with heap := h, toks := tk })
    (hcell : autoParam (∀ y ∈ scope.names, y.2 ≠ .cell) aD._auto_1) (hkind : autoParam (scope.kind = .function) aR._auto_1) (hx : autoParam (scope.names.lookup x = some .local) aR._auto_1) (hL : autoParam (env.locals = L) aR._auto_1) :
    CompGoal w A use elt [⟨.Name x px, iter, [], 0⟩] scope cl pos env Q (.ref I) s := by
  subst hL
  refine compAt (ld₀ := ld₀) W (fun i tk ys ld => ld = ld₀ ∧ ys.length = i ∧ ∀ j y, ys[j]? = some y → R j tk y) hsz hLf hwr hfp hfl hst F N ⟨rfl, rfl, fun j y e => by simp at e⟩ ?_ ?_ hcell hkind hx
  · intro i v ys ld h tk tk0 own C m hi hP h1 h2 had hoff hJa _ F₁ N₁
    refine byGoal fun P9 k9 => ?_
    obtain ⟨rfl, hlen, hR⟩ := hJa
    refine k9 ?_
    clear k9 P9
    show wpAny _ _ (pure true) _ _ _
    refine wpAny_pure ?_
    rw [if_pos rfl]
    refine wpAny_mono (turn i v h tk own C m hi hP (Nat.le_trans h1 h2) F₁ N₁) (fun y s₄ h₄ l => ?_) fun _ _ x => x.elim
    refine byGoal fun P9 k9 => ?_
    obtain ⟨h', tk', m', rfl, F', N', hr⟩ := h₄ l
    refine k9 ?_
    clear k9 P9
    refine ⟨h', tk', m', ld, rfl, F', N', rfl, rfl, by rw [List.length_append, hlen]; rfl, fun j z e => ?_⟩
    by_cases hj : j < ys.length
    · rw [List.getElem?_append_left hj] at e
      exact mono _ _ _ _ (Nat.le_trans h2 l.1) (hR j z e)
    · rw [List.getElem?_append_right (by exact Mine.om13 hj)] at e
      have hj' : j - ys.length = 0 := by
        cases q : j - ys.length with
        | zero => rfl
        | succ k => rw [q] at e; simp at e
      rw [hj'] at e
      have hj2 : j = i := by exact Mine.om120 hlen hj hj'
      rw [hj2]
      simp at e
      rw [← e]; exact hr
  · intro D ys ld h tk tk0 k h1 h2 hJa F₁ N₁ hlt
    refine byGoal fun P9 k9 => ?_
    obtain ⟨rfl, hlen, hR⟩ := hJa
    refine k9 ?_
    clear k9 P9
    exact done D ys h tk k (Nat.le_trans h1 h2) F₁ N₁ hlt hlen fun j y e => mono _ _ _ _ h2 (hR j y e)

theorem comp_str {L : Addr} {y : Str} {t : Tok} (R : Nat → Nat → Value → Prop) (mono : ∀ i a b y, a ≤ b → R i a y → R i b y) (hh : A.handled = none) (hsz : y.length ≤ sizeLine)
    (F : Fr g L s.heap m₀) (N : News g L s.heap ld₀)
    (turn : ∀ (i c : Nat) (u : Tok) (h : Heap) (tk : Nat) (own : List (Addr × Obj)) (C : Addr) (m : Str → Option Value), y.cps[i]? = some c → s.toks ≤ tk → Fr g C h (fun z => if z = x then some (.str ⟨#[c]⟩ u) else m z) → News g C h (ld₀ ++ own) →
      wpAny (model PG w) A (eval elt (compEnvC scope cl C env)) (fun y s₄ => Later { s with heap := h, toks := tk } s₄ → EachEnd g C (ld₀ ++ own) s (R i) y s₄) NoE { s with heap := h, toks := tk })
    (done : ∀ (D : Addr) (ys : List Value) (h : Heap) (tk k : Nat), s.toks ≤ tk → Fr g L h (mUse use m₀ D) → News g L h ((D, { cls := .type "list", data := .seq ys.toArray k }) :: ld₀) → (∀ p ∈ ld₀, p.1 < D) → ys.length = y.cps.size → (∀ j y, ys[j]? = some y → R j tk y) → Q (.ref D) { s with heap := h, toks := tk })
    (hcell : autoParam (∀ y ∈ scope.names, y.2 ≠ .cell) aD._auto_1) (hkind : autoParam (scope.kind = .function) aR._auto_1) (hx : autoParam (scope.names.lookup x = some .local) aR._auto_1) (hL : autoParam (env.locals = L) aR._auto_1) :
    wpAny (model PG w) A (pyIter (.str y t)) (CompGoal w A use elt [⟨.Name x px, iter, [], 0⟩] scope cl pos env Q) E s := by
  subst hL
  refine wpAny_pyIter_str fun o St W hst => ?_
  refine comp_each (W A hh) R mono hsz (fun q => ?_) (fun b hb => ?_) (fun q hq hf => ?_) (fun b hb => ?_) hst (F.push _) (fun p hp => ⟨Heap.get?_push_of_some _ (N p hp).1, (N p hp).2⟩) (fun i v h tk own C m hi hP htk => ?_) done hcell hkind hx
  · exact absurd F.ns.lt (List.mem_singleton.mp q ▸ Nat.lt_irrefl _)
  · rw [List.mem_singleton.mp hb]; exact gnone (env := env) F (Nat.le_refl _)
  · exact ne_size (N q hq).1 (List.mem_singleton.mp hf)
  · rw [List.mem_singleton.mp hb]; show s.heap.objs.size < (s.heap.push o).objs.size; rw [Heap.size_push]; exact Nat.lt_succ_self _
  · refine byGoal fun P9 k9 => ?_
    obtain ⟨c, u, hc, rfl⟩ := hP
    refine k9 ?_
    clear k9 P9
    exact turn i c u h tk own C m hc htk

theorem comp_range {L : Addr} {r : Addr} {n : Nat} {t u v : Tok} (R : Nat → Nat → Value → Prop) (mono : ∀ i a b y, a ≤ b → R i a y → R i b y) (hh : A.handled = none) (hr : IsRange s.heap r 0 n 1 t u v) (hn : n ≤ sizeLine)
    (F : Fr g L s.heap m₀) (N : News g L s.heap ld₀)
    (turn : ∀ (i : Nat) (ti : Tok) (h : Heap) (tk : Nat) (own : List (Addr × Obj)) (C : Addr) (m : Str → Option Value), i < n → s.toks ≤ tk → Fr g C h (fun z => if z = x then some (.int i ti) else m z) → News g C h (ld₀ ++ own) →
      wpAny (model PG w) A (eval elt (compEnvC scope cl C env)) (fun y s₄ => Later { s with heap := h, toks := tk } s₄ → EachEnd g C (ld₀ ++ own) s (R i) y s₄) NoE { s with heap := h, toks := tk })
    (done : ∀ (D : Addr) (ys : List Value) (h : Heap) (tk k : Nat), s.toks ≤ tk → Fr g L h (mUse use m₀ D) → News g L h ((D, { cls := .type "list", data := .seq ys.toArray k }) :: ld₀) → (∀ p ∈ ld₀, p.1 < D) → ys.length = n → (∀ j y, ys[j]? = some y → R j tk y) → Q (.ref D) { s with heap := h, toks := tk })
    (hcell : autoParam (∀ y ∈ scope.names, y.2 ≠ .cell) aD._auto_1) (hkind : autoParam (scope.kind = .function) aR._auto_1) (hx : autoParam (scope.names.lookup x = some .local) aR._auto_1) (hL : autoParam (env.locals = L) aR._auto_1) :
    wpAny (model PG w) A (pyIter (.ref r)) (CompGoal w A use elt [⟨.Name x px, iter, [], 0⟩] scope cl pos env Q) E s := by
  subst hL
  have hn' : n < 2 ^ 60 := by have : sizeLine = 16777216 := rfl; exact Mine.om288 hn this
  have hs : Builtin.Range.rangeSize 0 n 1 = n := by unfold Builtin.Range.rangeSize; simp; exact Mine.om59
  have W := Walks.range (prog := PG) (w := w) hh s.heap.objs.size 0 1 n
  refine wpAny_pyIter_range hr (by unfold Builtin.Range.small; rw [hs]; simp [Builtin.Range.rangeFitsLong]; exact Mine.om289 hn') ?_
  rw [hs]
  refine comp_each W R mono hn (fun q => ?_) (fun b hb => ?_) (fun q hq hf => ?_) (fun b hb => ?_) (by have := Heap.get?_push_size s.heap (o := { cls := .type "range_iterator", data := .fields #[rawInt 0, rawInt n, rawInt 1] }) rfl; simpa using this) (F.push _) (fun p hp => ⟨Heap.get?_push_of_some _ (N p hp).1, (N p hp).2⟩) (fun i v h tk own C m hi hP htk => ?_) done hcell hkind hx
  · exact absurd F.ns.lt (List.mem_singleton.mp q ▸ Nat.lt_irrefl _)
  · rw [List.mem_singleton.mp hb]; exact gnone (env := env) F (Nat.le_refl _)
  · exact ne_size (N q hq).1 (List.mem_singleton.mp hf)
  · rw [List.mem_singleton.mp hb]; show s.heap.objs.size < (s.heap.push _).objs.size; rw [Heap.size_push]; exact Nat.lt_succ_self _
  · obtain ⟨ti, rfl⟩ := hP
    have e : (0 : Int) + (i : Int) * 1 = i := by exact Mine.om121
    rw [e]
    exact turn i ti h tk own C m hi htk

theorem comp_list {L : Addr} {l : Addr} {vs : List Value} (R : Nat → Nat → Value → Prop) (mono : ∀ i a b y, a ≤ b → R i a y → R i b y) (hh : A.handled = none) (hl : s.heap.IsList l vs.toArray) (hlL : l ≠ L) (hld : ∀ q ∈ ld₀, q.1 ≠ l) (hsz : vs.length ≤ sizeLine)
    (F : Fr g L s.heap m₀) (N : News g L s.heap ld₀)
    (turn : ∀ (i : Nat) (v : Value) (h : Heap) (tk : Nat) (own : List (Addr × Obj)) (C : Addr) (m : Str → Option Value), vs[i]? = some v → s.toks ≤ tk → Fr g C h (fun z => if z = x then some v else m z) → News g C h (ld₀ ++ own) →
      wpAny (model PG w) A (eval elt (compEnvC scope cl C env)) (fun y s₄ => Later { s with heap := h, toks := tk } s₄ → EachEnd g C (ld₀ ++ own) s (R i) y s₄) NoE { s with heap := h, toks := tk })
    (done : ∀ (D : Addr) (ys : List Value) (h : Heap) (tk k : Nat), s.toks ≤ tk → Fr g L h (mUse use m₀ D) → News g L h ((D, { cls := .type "list", data := .seq ys.toArray k }) :: ld₀) → (∀ p ∈ ld₀, p.1 < D) → ys.length = vs.length → (∀ j y, ys[j]? = some y → R j tk y) → Q (.ref D) { s with heap := h, toks := tk })
    (hcell : autoParam (∀ y ∈ scope.names, y.2 ≠ .cell) aD._auto_1) (hkind : autoParam (scope.kind = .function) aR._auto_1) (hx : autoParam (scope.names.lookup x = some .local) aR._auto_1) (hL : autoParam (env.locals = L) aR._auto_1) :
    wpAny (model PG w) A (pyIter (.ref l)) (CompGoal w A use elt [⟨.Name x px, iter, [], 0⟩] scope cl pos env Q) E s := by
  subst hL
  refine byGoal fun P9 k9 => ?_
  obtain ⟨ol, hol, rl⟩ := id hl
  refine k9 ?_
  clear k9 P9
  refine wpAny_pyIter_list hl ?_
  have hlen : vs.toArray.size = vs.length := by simp
  have W := Walks.list (prog := PG) (w := w) hh s.heap.objs.size l (ne_size hol) vs.toArray
  rw [hlen] at W
  refine comp_each W R mono hsz (fun q => ?_) (fun b hb => ?_) (fun q hq hf => ?_) (fun b hb => ?_) ⟨⟨_, Heap.get?_push_size _ rfl, rfl, rfl⟩, ⟨ol, Heap.get?_push_of_some _ hol, rl⟩⟩ (F.push _) (fun p hp => ⟨Heap.get?_push_of_some _ (N p hp).1, (N p hp).2⟩) (fun i v h tk own C m hi hP htk => turn i v h tk own C m (by simpa using hP) htk) done hcell hkind hx
  · rcases List.mem_cons.mp q with q | q
    · exact absurd F.ns.lt (q ▸ Nat.lt_irrefl _)
    · exact hlL (List.mem_singleton.mp q).symm
  · rw [List.mem_singleton.mp hb]; exact gnone (env := env) F (Nat.le_refl _)
  · rcases List.mem_cons.mp hf with e | e
    · exact ne_size (N q hq).1 e
    · exact hld q hq (List.mem_singleton.mp e)
  · show b < (s.heap.push _).objs.size
    rw [Heap.size_push]
    rcases List.mem_cons.mp hb with e | e
    · rw [e]; exact Nat.lt_succ_self _
    · rw [List.mem_singleton.mp e]; exact Nat.lt_succ_of_lt (Heap.lt_size hol)

/-- results that are strs, ints -/
theorem strsAre_of {f : Nat → Str} : ∀ {ys : List Value} {n : Nat}, ys.length = n → (∀ j y, ys[j]? = some y → ∃ t, y = Value.str (f j) t) → StrsAre ys ((List.range n).map f)
  | ys, 0, h, _ => by rw [List.eq_nil_of_length_eq_zero h]; exact .nil
  | ys, n + 1, h, hr => by
    refine byGoal fun P9 k9 => ?_
    obtain ⟨z, q, rfl⟩ : ∃ z q, ys = z ++ [q] := by
      have hne : ys ≠ [] := fun e => by rw [e] at h; simp at h
      exact ⟨ys.dropLast, ys.getLast hne, (List.dropLast_concat_getLast hne).symm⟩
    refine k9 ?_
    clear k9 P9
    have hz : z.length = n := by simp at h; exact h
    rw [List.range_succ, List.map_append]
    obtain ⟨t, ht⟩ := hr n q (by rw [List.getElem?_append_right (by exact Mine.om122 hz), hz]; simp)
    rw [ht]
    have ih := strsAre_of (f := f) hz (fun j y e => hr j y (by
      have : j < z.length := (List.getElem?_eq_some_iff.mp e).1
      rw [List.getElem?_append_left this]; exact e))
    have app : ∀ {a : List Value} {b : List Str}, StrsAre a b → ∀ {y t}, StrsAre (a ++ [.str y t]) (b ++ [y]) := by
      intro a b h
      induction h with
      | nil => intro y t; exact .cons _ _ .nil
      | cons y t _ ih => intro y' t'; exact .cons _ _ ih
    exact app ih

theorem ldC {M : Model} {C : Addr} {h₀ : Heap} {m : Str → Option Value} {z : Str} {p : Pos} {v : Value} (F : Fr h₀ C s.heap m) (hv : m z = some v) (h : Q v s)
    (hk : autoParam (scope.kind = .function) aR._auto_1) (hl : autoParam ((compEnvC scope cl C env).kindOf z = some .local) aR._auto_1) (hd : autoParam ((z == ("__debug__" : Str)) = false) aD._auto_1) :
    wpAny M A (eval (.Name z p) (compEnvC scope cl C env)) Q E s := wpAny_Name (wpAny_loadName_local hk hl F.ns hv h) hd
end
end Mine
end
section
open PySem PySem.W PyProof.Rows PySem.Calls PySem.Spec
set_option maxHeartbeats 1000000
namespace Mine
inductive All2 {α : Type} (rel : Value → α → Prop) : List Value → List α → Prop
  | nil : All2 rel [] []
  | cons {v : Value} {a : α} {vs : List Value} {as : List α} : rel v a → All2 rel vs as → All2 rel (v :: vs) (a :: as)
theorem All2.snoc {α : Type} {rel : Value → α → Prop} {v : Value} {a : α} : ∀ {vs : List Value} {as : List α}, All2 rel vs as → rel v a → All2 rel (vs ++ [v]) (as ++ [a])
  | _, _, .nil, h => .cons h .nil
  | _, _, .cons h r, h' => .cons h (r.snoc h')
theorem All2.eq : ∀ {vs as : List Value}, All2 (fun v a => v = a) vs as → vs = as
  | _, _, .nil => rfl
  | _, _, .cons h r => by rw [h, r.eq]
theorem take_succ_of {α : Type} {xs : List α} {i : Nat} {a : α} (h : xs[i]? = some a) : xs.take (i + 1) = xs.take i ++ [a] := by
  rw [List.take_succ, h]; rfl
section
variable {use : Use} {w : World} {A : Around} {s : Shared} {g : Heap} {env : Env} {iter c : Expr} {x : Str} {px pe : Pos} {scope : Scope} {cl : List (Str × Addr)} {pos : Pos} {Q : Value → Shared → Prop} {E : Value → Shared → Prop} {m₀ : Str → Option Value} {ld₀ : List (Addr × Obj)}

inductive NextFi (g : Heap) (C : Addr) (ld : List (Addr × Obj)) (gs : Array GenState) (dr : Drawn) (os : OsState) (x : Str) (v : Value) (want : Bool) (ok : Bool) (s₄ : Shared) : Prop
  | mk (h' : Heap) (tk : Nat) (m' : Str → Option Value) (e : s₄ = ⟨h', gs, dr, tk, os⟩) (F : Fr g C h' m') (N : News g C h' ld) (hv : m' x = some v) (ho : ok = want)
def FiltEnd (g : Heap) (C : Addr) (ld : List (Addr × Obj)) (s : Shared) (x : Str) (v : Value) (want : Bool) (ok : Bool) (s₄ : Shared) : Prop := NextFi g C ld s.gens s.drawn s.os x v want ok s₄

theorem comp_filter {L : Addr} {I : Addr} {fp wr : List Addr} {n : Nat} {P : Nat → Value → Prop} {St : Nat → Heap → Prop} {α : Type}
    (W : Walks PG w A I fp wr n P St) (rel : Value → α → Prop) (p : α → Bool) (xs : List α) (hsz : n ≤ sizeLine)
    (hLf : L ∉ fp) (hwr : ∀ b ∈ wr, g.get? b = none) (hfp : ∀ q ∈ ld₀, q.1 ∉ fp) (hfl : ∀ b ∈ fp, b < s.heap.objs.size) (hst : St 0 s.heap)
    (F : Fr g L s.heap m₀) (N : News g L s.heap ld₀) (hP : ∀ i v, i < n → P i v → ∃ a, xs[i]? = some a ∧ rel v a) (hn : xs.length = n)
    (turn : ∀ (i : Nat) (v : Value) (a : α) (h : Heap) (tk : Nat) (own : List (Addr × Obj)) (C : Addr) (m : Str → Option Value), xs[i]? = some a → rel v a → s.toks ≤ tk → Fr g C h (fun y => if y = x then some v else m y) → News g C h (ld₀ ++ own) →
      wpAny (model PG w) A (isTrue c (compEnvC scope cl C env) (eval c (compEnvC scope cl C env))) (fun ok s₃ => Later { s with heap := h, toks := tk } s₃ → FiltEnd g C (ld₀ ++ own) s x v (p a) ok s₃) NoE { s with heap := h, toks := tk })
    (done : ∀ (D : Addr) (ys : List Value) (h : Heap) (tk k : Nat), s.toks ≤ tk → Fr g L h (mUse use m₀ D) → News g L h ((D, { cls := .type "list", data := .seq ys.toArray k }) :: ld₀) → (∀ p ∈ ld₀, p.1 < D) → All2 rel ys (xs.filter p) → Q (.ref D) { s with heap := h, toks := tk })
    (hcell : autoParam (∀ y ∈ scope.names, y.2 ≠ .cell) aD._auto_1) (hkind : autoParam (scope.kind = .function) aR._auto_1) (hx : autoParam (scope.names.lookup x = some .local) aR._auto_1) (hd : autoParam ((x == ("__debug__" : Str)) = false) aD._auto_1) (hL : autoParam (env.locals = L) aR._auto_1) :
    CompGoal w A use (.Name x pe) [⟨.Name x px, iter, [c], 0⟩] scope cl pos env Q (.ref I) s := by
  subst hL
  refine compAt (ld₀ := ld₀) W (fun i tk ys ld => ld = ld₀ ∧ All2 rel ys ((xs.take i).filter p)) hsz hLf hwr hfp hfl hst F N ⟨rfl, .nil⟩ ?_ ?_ hcell hkind hx
  · rintro i v ys ld h tk tk0 own C m hi hPi h1 h2 had hoff ⟨rfl, hys⟩ _ F₁ N₁
    refine byGoal fun P9 k9 => ?_
    obtain ⟨a, ha, hr⟩ := hP i v hi hPi
    refine k9 ?_
    clear k9 P9
    rw [List.forIn_cons]
    refine wpAny_bind ?_
    rw [if_pos rfl]
    refine wpAny_bind (later (wpAny_mono (turn i v a h tk own C m ha hr (Nat.le_trans h1 h2) F₁ N₁) (fun ok s₃ hend lt => ?_) fun _ _ x => x.elim))
    refine byGoal fun P9 k9 => ?_
    obtain ⟨h', tk', m', rfl, F', N', hv, rfl⟩ := hend lt
    refine k9 ?_
    clear k9 P9
    refine wpAny_pure ?_
    show wpAny _ _ (forIn [] (p a) _) _ _ _
    rw [List.forIn_nil]
    refine wpAny_pure ?_
    cases hq : p a with
    | true =>
      rw [if_pos rfl]
      refine ldC F' hv (fun _ => ?_) hkind (lookup_relabel_local hx) hd
      exact ⟨h', tk', m', ld, rfl, F', N', rfl, rfl, by rw [take_succ_of ha, List.filter_append, List.filter_cons_of_pos (by rw [hq])]; exact hys.snoc hr⟩
    | false =>
      rw [if_neg (by decide)]
      exact fun _ => ⟨h', tk', m', ld, rfl, F', N', rfl, rfl, by rw [take_succ_of ha, List.filter_append, List.filter_cons_of_neg (by rw [hq]; decide), List.filter_nil, List.append_nil]; exact hys⟩
  · rintro D ys ld h tk tk0 k h1 h2 ⟨rfl, hys⟩ F₁ N₁ hlt
    rw [List.take_of_length_le (Nat.le_of_eq hn)] at hys
    exact done D ys h tk k (Nat.le_trans h1 h2) F₁ N₁ hlt hys

theorem filt_list {L : Addr} {l : Addr} {vs : List Value} (p : Value → Bool) (hh : A.handled = none) (hl : s.heap.IsList l vs.toArray) (hlL : l ≠ L) (hld : ∀ q ∈ ld₀, q.1 ≠ l) (hsz : vs.length ≤ sizeLine)
    (F : Fr g L s.heap m₀) (N : News g L s.heap ld₀)
    (turn : ∀ (i : Nat) (v : Value) (h : Heap) (tk : Nat) (own : List (Addr × Obj)) (C : Addr) (m : Str → Option Value), vs[i]? = some v → s.toks ≤ tk → Fr g C h (fun y => if y = x then some v else m y) → News g C h (ld₀ ++ own) →
      wpAny (model PG w) A (isTrue c (compEnvC scope cl C env) (eval c (compEnvC scope cl C env))) (fun ok s₃ => Later { s with heap := h, toks := tk } s₃ → FiltEnd g C (ld₀ ++ own) s x v (p v) ok s₃) NoE { s with heap := h, toks := tk })
    (done : ∀ (D : Addr) (h : Heap) (tk k : Nat), s.toks ≤ tk → Fr g L h (mUse use m₀ D) → News g L h ((D, { cls := .type "list", data := .seq (vs.filter p).toArray k }) :: ld₀) → (∀ p ∈ ld₀, p.1 < D) → Q (.ref D) { s with heap := h, toks := tk })
    (hcell : autoParam (∀ y ∈ scope.names, y.2 ≠ .cell) aD._auto_1) (hkind : autoParam (scope.kind = .function) aR._auto_1) (hx : autoParam (scope.names.lookup x = some .local) aR._auto_1) (hd : autoParam ((x == ("__debug__" : Str)) = false) aD._auto_1) (hL : autoParam (env.locals = L) aR._auto_1) :
    wpAny (model PG w) A (pyIter (.ref l)) (CompGoal w A use (.Name x pe) [⟨.Name x px, iter, [c], 0⟩] scope cl pos env Q) E s := by
  subst hL
  refine byGoal fun P9 k9 => ?_
  obtain ⟨ol, hol, rl⟩ := id hl
  refine k9 ?_
  clear k9 P9
  refine wpAny_pyIter_list hl ?_
  have hlen : vs.toArray.size = vs.length := by simp
  have W := Walks.list (prog := PG) (w := w) hh s.heap.objs.size l (ne_size hol) vs.toArray
  rw [hlen] at W
  refine comp_filter W (fun v a => v = a) p vs hsz (fun q => ?_) (fun b hb => ?_) (fun q hq hf => ?_) (fun b hb => ?_) ⟨⟨_, Heap.get?_push_size _ rfl, rfl, rfl⟩, ⟨ol, Heap.get?_push_of_some _ hol, rl⟩⟩ (F.push _) (fun p hp => ⟨Heap.get?_push_of_some _ (N p hp).1, (N p hp).2⟩) (fun i v hi hP => ⟨v, by simpa using hP, rfl⟩) rfl (fun i v a h tk own C m ha hr htk => by subst hr; exact turn i v h tk own C m ha htk) (fun D ys h tk k htk F N hlt ha => by rw [ha.eq] at N; exact done D h tk k htk F N hlt) hcell hkind hx hd
  · rcases List.mem_cons.mp q with q | q
    · exact absurd F.ns.lt (q ▸ Nat.lt_irrefl _)
    · exact hlL (List.mem_singleton.mp q).symm
  · rw [List.mem_singleton.mp hb]; exact gnone (env := env) F (Nat.le_refl _)
  · rcases List.mem_cons.mp hf with e | e
    · exact ne_size (N q hq).1 e
    · exact hld q hq (List.mem_singleton.mp e)
  · show b < (s.heap.push _).objs.size
    rw [Heap.size_push]
    rcases List.mem_cons.mp hb with e | e
    · rw [e]; exact Nat.lt_succ_self _
    · rw [List.mem_singleton.mp e]; exact Nat.lt_succ_of_lt (Heap.lt_size hol)

theorem filt_str {L : Addr} {l : List Nat} {t : Tok} (p : Nat → Bool) (hh : A.handled = none) (hsz : l.length ≤ sizeLine)
    (F : Fr g L s.heap m₀) (N : News g L s.heap ld₀)
    (turn : ∀ (i a : Nat) (u : Tok) (h : Heap) (tk : Nat) (own : List (Addr × Obj)) (C : Addr) (m : Str → Option Value), l[i]? = some a → s.toks ≤ tk → Fr g C h (fun y => if y = x then some (.str (S [a]) u) else m y) → News g C h (ld₀ ++ own) →
      wpAny (model PG w) A (isTrue c (compEnvC scope cl C env) (eval c (compEnvC scope cl C env))) (fun ok s₃ => Later { s with heap := h, toks := tk } s₃ → FiltEnd g C (ld₀ ++ own) s x (.str (S [a]) u) (p a) ok s₃) NoE { s with heap := h, toks := tk })
    (done : ∀ (D : Addr) (ys : List Value) (h : Heap) (tk k : Nat), s.toks ≤ tk → Fr g L h (mUse use m₀ D) → News g L h ((D, { cls := .type "list", data := .seq ys.toArray k }) :: ld₀) → (∀ p ∈ ld₀, p.1 < D) → StrsAre ys ((l.filter p).map fun a => S [a]) → Q (.ref D) { s with heap := h, toks := tk })
    (hcell : autoParam (∀ y ∈ scope.names, y.2 ≠ .cell) aD._auto_1) (hkind : autoParam (scope.kind = .function) aR._auto_1) (hx : autoParam (scope.names.lookup x = some .local) aR._auto_1) (hd : autoParam ((x == ("__debug__" : Str)) = false) aD._auto_1) (hL : autoParam (env.locals = L) aR._auto_1) :
    wpAny (model PG w) A (pyIter (.str (S l) t)) (CompGoal w A use (.Name x pe) [⟨.Name x px, iter, [c], 0⟩] scope cl pos env Q) E s := by
  subst hL
  refine wpAny_pyIter_str fun o St W hst => ?_
  have hl : (S l).cps.size = l.length := S_len l
  have conv : ∀ {ys : List Value} {as : List Nat}, All2 (fun v a => ∃ t, v = .str (S [a]) t) ys as → StrsAre ys (as.map fun a => S [a]) := by
    intro ys as h
    induction h with
    | nil => exact .nil
    | cons h _ ih => obtain ⟨t, rfl⟩ := h; exact .cons _ _ ih
  refine comp_filter (W A hh) (fun v a => ∃ t, v = .str (S [a]) t) p l (by rw [hl]; exact hsz) (fun q => ?_) (fun b hb => ?_) (fun q hq hf => ?_) (fun b hb => ?_) hst (F.push _) (fun p hp => ⟨Heap.get?_push_of_some _ (N p hp).1, (N p hp).2⟩) (fun i v hi hP => ?_) hl.symm (fun i v a h tk own C m ha hr htk => by obtain ⟨u, rfl⟩ := hr; exact turn i a u h tk own C m ha htk) (fun D ys h tk k htk F N hlt ha => done D ys h tk k htk F N hlt (conv ha)) hcell hkind hx hd
  · exact absurd F.ns.lt (List.mem_singleton.mp q ▸ Nat.lt_irrefl _)
  · rw [List.mem_singleton.mp hb]; exact gnone (env := env) F (Nat.le_refl _)
  · exact ne_size (N q hq).1 (List.mem_singleton.mp hf)
  · rw [List.mem_singleton.mp hb]; show s.heap.objs.size < (s.heap.push o).objs.size; rw [Heap.size_push]; exact Nat.lt_succ_self _
  · refine byGoal fun P9 k9 => ?_
    obtain ⟨c, u, hc, rfl⟩ := hP
    refine k9 ?_
    clear k9 P9
    exact ⟨c, by simpa using hc, u, rfl⟩
end
end Mine
namespace Mine
theorem addL {w : World} {A : Around} {E : Value → Shared → Prop} {s : Shared} {h₀ : Heap} {L a b : Addr} {m : Str → Option Value} {news : List (Addr × Obj)} {vs ws : List Value} {Q : Value → Shared → Prop}
    (F : Fr h₀ L s.heap m) (N : News h₀ L s.heap news) (ha : s.heap.IsList a vs.toArray) (hb : s.heap.IsList b ws.toArray) (hz : vs.length + ws.length ≤ sizeLine)
    (h : ∀ D h', Fr h₀ L h' m → News h₀ L h' ((D, listOf (vs ++ ws).toArray 0) :: news) → (∀ p ∈ news, p.1 < D) → Q (.ref D) { s with heap := h' }) :
    wpAny (model PG w) A (binaryOp .Add (.ref a) (.ref b)) Q E s :=
  add_lists F N ha hb (fun h' F' N' => h _ h' F' N' fun p hp => Heap.lt_size (N p hp).1) hz
end Mine
namespace Mine
section
variable {M : Model} {A : Around} {E : Value → Shared → Prop} {s : Shared} {g : Heap} {L c : Addr} {m : Str → Option Value} {ld : List (Addr × Obj)} {z : Str} {p : Pos} {v : Value} {o : Obj} {env : Env} {Q : Value → Shared → Prop} {Qu : Unit → Shared → Prop}
theorem ldE (F : Fr g L s.heap m) (hv : m z = some v) (h : Q v s) (hk : env.scope.kind = .function) (hl : env.kindOf z = some .local) (hL : env.locals = L) (hd : (z == ("__debug__" : Str)) = false) :
    wpAny M A (eval (.Name z p) env) Q E s := wpAny_Name (wpAny_loadName_local hk hl (hL ▸ F.ns) hv h) hd
theorem ldnE (F : Fr g L s.heap m) (hv : m z = some v) (h : Q v s) (hk : env.scope.kind = .function) (hl : env.kindOf z = some .local) (hL : env.locals = L) :
    wpAny M A (loadName env z) Q E s := wpAny_loadName_local hk hl (hL ▸ F.ns) hv h
theorem ldK (N : News g L s.heap ld) (hc : env.cells.lookup z = some c) (hm : (c, o) ∈ ld) (hd' : o.data = .cell (some v)) (h : Q v s) (hk : env.scope.kind = .function) (hl : env.kindOf z = some .cell) (hd : (z == ("__debug__" : Str)) = false) :
    wpAny M A (eval (.Name z p) env) Q E s := wpAny_Name (wpAny_loadName_cell hk hl hc ⟨o, N.get hm, hd'⟩ h) hd
theorem ldEp (F : Fr g L s.heap m) (hk : env.scope.kind = .function) (hl : env.kindOf z = some .local) (hL : env.locals = L) (hd : (z == ("__debug__" : Str)) = false) (hv : m z = some v) (h : Q v s) :
    wpAny M A (eval (.Name z p) env) Q E s := ldE F hv h hk hl hL hd
theorem ldnEp (F : Fr g L s.heap m) (hk : env.scope.kind = .function) (hl : env.kindOf z = some .local) (hL : env.locals = L) (hv : m z = some v) (h : Q v s) :
    wpAny M A (loadName env z) Q E s := ldnE F hv h hk hl hL
theorem ldKp (N : News g L s.heap ld) (hk : env.scope.kind = .function) (hl : env.kindOf z = some .cell) (hc : env.cells.lookup z = some c) (hd : (z == ("__debug__" : Str)) = false) (hm : (c, o) ∈ ld) (hd' : o.data = .cell (some v)) (h : Q v s) :
    wpAny M A (eval (.Name z p) env) Q E s := ldK N hc hm hd' h hk hl hd
end
end Mine
namespace Mine
theorem stK {M : Model} {A : Around} {E : Value → Shared → Prop} {s : Shared} {h₀ : Heap} {L : Addr} {m : Str → Option Value} {env : Env} {x : Str} {v : Value} {Q : Unit → Shared → Prop} {news : List (Addr × Obj)} {g : Obj → List (Addr × Obj)} {c : Addr} {o : Obj} {v₀ : Option Value}
    (F : Fr h₀ L s.heap m) (N : News h₀ L s.heap news) (hc : env.cells.lookup x = some c) (U : UpdF c o news g) (hd : o.data = .cell v₀)
    (h : ∀ h' o', Fr h₀ L h' m → News h₀ L h' (g o') → o'.data = .cell (some v) → Q () { s with heap := h' })
    (hk : env.scope.kind = .function) (hx : env.kindOf x = some .cell) : wpAny M A (storeName env x v) Q E s := by
  refine byGoal fun P9 k9 => ?_
  obtain ⟨own, rest, rfl, hg, h1, h2⟩ := U.split
  refine k9 ?_
  clear k9 P9
  have hmem := N (c, o) (List.mem_append_right _ (.head _))
  refine wpAny_storeName_cell hk hx hc ⟨o, hmem.1, hd⟩ fun h' hv hs => ?_
  refine byGoal fun P9 k9 => ?_
  obtain ⟨o', ho', hd'⟩ := hv
  refine k9 ?_
  clear k9 P9
  refine h h' o' ⟨F.ns.sameBut hs (Ne.symm hmem.2.1), fun b ob e => (hs.2 b (fun q => ?_)).trans (F.keep b ob e), F.above⟩ (hg o' ▸ N.setAt h1 h2 hs ho') hd'
  rw [q, hmem.2.2] at e; cases e
theorem stKp {M : Model} {A : Around} {E : Value → Shared → Prop} {s : Shared} {h₀ : Heap} {L : Addr} {m : Str → Option Value} {env : Env} {x : Str} {v : Value} {Q : Unit → Shared → Prop} {news : List (Addr × Obj)} {g : Obj → List (Addr × Obj)} {c : Addr} {o : Obj} {v₀ : Option Value}
    (F : Fr h₀ L s.heap m) (N : News h₀ L s.heap news) (hk : env.scope.kind = .function) (hx : env.kindOf x = some .cell) (hc : env.cells.lookup x = some c) (U : UpdF c o news g) (hd : o.data = .cell v₀)
    (h : ∀ h' o', Fr h₀ L h' m → News h₀ L h' (g o') → o'.data = .cell (some v) → Q () { s with heap := h' }) : wpAny M A (storeName env x v) Q E s := stK F N hc U hd h hk hx
end Mine
namespace Mine
section
variable {use : Use} {w : World} {A : Around} {s : Shared} {g : Heap} {env : Env} {elt iter : Expr} {x : Str} {px : Pos} {scope : Scope} {cl : List (Str × Addr)} {pos : Pos} {Q : Value → Shared → Prop} {E : Value → Shared → Prop} {m₀ : Str → Option Value} {ld₀ : List (Addr × Obj)}
theorem comp_tuple {L : Addr} {l : Addr} {vs : List Value} (R : Nat → Nat → Value → Prop) (mono : ∀ i a b y, a ≤ b → R i a y → R i b y) (hh : A.handled = none) (hl : s.heap.IsTuple l vs.toArray) (hlL : l ≠ L) (hld : ∀ q ∈ ld₀, q.1 ≠ l) (hsz : vs.length ≤ sizeLine)
    (F : Fr g L s.heap m₀) (N : News g L s.heap ld₀)
    (turn : ∀ (i : Nat) (v : Value) (h : Heap) (tk : Nat) (own : List (Addr × Obj)) (C : Addr) (m : Str → Option Value), vs[i]? = some v → s.toks ≤ tk → Fr g C h (fun z => if z = x then some v else m z) → News g C h (ld₀ ++ own) →
      wpAny (model PG w) A (eval elt (compEnvC scope cl C env)) (fun y s₄ => Later { s with heap := h, toks := tk } s₄ → EachEnd g C (ld₀ ++ own) s (R i) y s₄) NoE { s with heap := h, toks := tk })
    (done : ∀ (D : Addr) (ys : List Value) (h : Heap) (tk k : Nat), s.toks ≤ tk → Fr g L h (mUse use m₀ D) → News g L h ((D, { cls := .type "list", data := .seq ys.toArray k }) :: ld₀) → (∀ p ∈ ld₀, p.1 < D) → ys.length = vs.length → (∀ j y, ys[j]? = some y → R j tk y) → Q (.ref D) { s with heap := h, toks := tk })
    (hcell : autoParam (∀ y ∈ scope.names, y.2 ≠ .cell) aD._auto_1) (hkind : autoParam (scope.kind = .function) aR._auto_1) (hx : autoParam (scope.names.lookup x = some .local) aR._auto_1) (hL : autoParam (env.locals = L) aR._auto_1) :
    wpAny (model PG w) A (pyIter (.ref l)) (CompGoal w A use elt [⟨.Name x px, iter, [], 0⟩] scope cl pos env Q) E s := by
  subst hL
  refine byGoal fun P9 k9 => ?_
  obtain ⟨ol, hol, rl⟩ := id hl
  refine k9 ?_
  clear k9 P9
  refine wpAny_pyIter_tuple hl ?_
  have hlen : vs.toArray.size = vs.length := by simp
  have W := Walks.tuple (prog := PG) (w := w) hh s.heap.objs.size l (ne_size hol) vs.toArray
  rw [hlen] at W
  refine comp_each W R mono hsz (fun q => ?_) (fun b hb => ?_) (fun q hq hf => ?_) (fun b hb => ?_) ⟨⟨_, Heap.get?_push_size _ rfl, rfl, rfl⟩, ⟨ol, Heap.get?_push_of_some _ hol, rl⟩⟩ (F.push _) (fun p hp => ⟨Heap.get?_push_of_some _ (N p hp).1, (N p hp).2⟩) (fun i v h tk own C m hi hP htk => turn i v h tk own C m (by simpa using hP) htk) done hcell hkind hx
  · rcases List.mem_cons.mp q with q | q
    · exact absurd F.ns.lt (q ▸ Nat.lt_irrefl _)
    · exact hlL (List.mem_singleton.mp q).symm
  · rw [List.mem_singleton.mp hb]; exact gnone (env := env) F (Nat.le_refl _)
  · rcases List.mem_cons.mp hf with e | e
    · exact ne_size (N q hq).1 e
    · exact hld q hq (List.mem_singleton.mp e)
  · show b < (s.heap.push _).objs.size
    rw [Heap.size_push]
    rcases List.mem_cons.mp hb with e | e
    · rw [e]; exact Nat.lt_succ_self _
    · rw [List.mem_singleton.mp e]; exact Nat.lt_succ_of_lt (Heap.lt_size hol)


theorem subL {prog : Program} {value slice : Expr} {l : Addr} {items : Array Value} {i : Int} {j : Nat} {v : Value} {u : Tok} (hl : s.heap.IsList l items) (hi : i = (j : Int)) (hv : items[j]? = some v) (hj : j < 2 ^ 60)
    (h : Q v s)
    (hs : subscripted slice false (.ref l) (.int i u) = operate [.ref l, .int i u] (getItem (.ref l) (.int i u)) := by with_unfolding_all rfl) :
    wpAny (model prog w) A (subscriptTail value slice (.ref l) (.int i u)) Q E s := by
  subst hi
  exact tail_any hl.typeIs slot_list_getitem.lookup (wpAny_getItem_list hl (Int.natCast_nonneg j) (by exact Mine.om290 hj) (by simpa using hv) h) hs
end
end Mine
namespace Mine
theorem getI {w : World} {A : Around} {E : Value → Shared → Prop} {s : Shared} {g : Heap} {L : Addr} {ld : List (Addr × Obj)} {Q : Value → Shared → Prop} {kvs : List (Int × Value)} {d : Addr} {o : Obj} {v : Value} {i : Int} {t : Tok} {value slice : Expr}
    (N : News g L s.heap ld) (hm : (d, o) ∈ ld) (hd : o.IsDictOf (intKind PG w) kvs) (hv : valueAt kvs i = some v) (h : Q v { s with toks := s.toks + 1 })
    (hs : subscripted slice false (.ref d) (.int i t) = operate [.ref d, .int i t] (getItem (.ref d) (.int i t))) :
    wpAny (model PG w) A (subscriptTail value slice (.ref d) (.int i t)) Q E s :=
  have hm' := (Heap.dictOf_iff.mpr ⟨o, (N _ hm).1, hd⟩ : s.heap.DictOf (intKind PG w) d kvs).mapOf
  tail_any hm'.typeIs slot_dict_getitem.lookup (wpAny_getItem_of (intKind_is PG w i t) hm' hv h) hs
end Mine
end
section
open PySem PySem.W PyProof.Rows PySem.Calls PySem.Spec
set_option maxHeartbeats 1000000
namespace Mine
noncomputable def tabK : List (List Nat × Nat × Int × Nat) := [([33], 418, 54, 414), ([33,61], 420, 28, 362), ([37], 422, 24, 354), ([37,61], 424, 40, 386), ([38], 426, 19, 344), ([38,61], 428, 41, 388), ([40], 430, 7, 320), ([41], 432, 8, 322), ([42], 434, 16, 338), ([42,42], 436, 35, 376), ([42,42,61], 438, 46, 398), ([42,61], 440, 38, 382), ([43], 442, 14, 334), ([43,61], 444, 36, 378), ([44], 446, 12, 330), ([45], 448, 15, 336), ([45,61], 450, 37, 380), ([45,62], 452, 51, 408), ([46], 454, 23, 352), ([46,46,46], 456, 52, 410), ([47], 458, 17, 340), ([47,47], 460, 47, 400), ([47,47,61], 462, 48, 402), ([47,61], 464, 39, 384), ([58], 466, 11, 328), ([58,61], 468, 53, 412), ([59], 470, 13, 332), ([60], 472, 20, 346), ([60,60], 474, 33, 372), ([60,60,61], 476, 44, 394), ([60,61], 478, 29, 364), ([61], 480, 22, 350), ([61,61], 482, 27, 360), ([62], 484, 21, 348), ([62,61], 486, 30, 366), ([62,62], 487, 34, 374), ([62,62,61], 488, 45, 396), ([64], 489, 49, 404), ([64,61], 490, 50, 406), ([91], 491, 9, 324), ([93], 492, 10, 326), ([94], 493, 32, 370), ([94,61], 494, 43, 392), ([123], 495, 25, 356), ([124], 496, 18, 342), ([124,61], 497, 42, 390), ([125], 498, 26, 358), ([126], 499, 31, 368)]
noncomputable def tabE (P : Params) : List DictEntry := tabK.map fun e => ⟨PyData.keyHash P (S e.1), .str (S e.1) e.2.1, .int e.2.2.1 e.2.2.2⟩
noncomputable def tabFind (l : List Nat) : Option (Int × Nat) := (tabK.find? fun e => e.1 == l).map fun e => e.2.2
theorem tab113 (w : World) : ∃ n, (hd.heap_39 w.params).lookup 113 = some ⟨.type "dict", none, .dict (tabE w.params).toArray n, #[]⟩ := by
  refine ⟨48, ?_⟩
  rfl
theorem isStrOf_S (a l : List Nat) (t : Tok) : Value.isStrOf (S l) (.str (S a) t) = (a == l) := by
  show (S a == S l) = (a == l)
  rw [Bool.eq_iff_iff]
  simp only [beq_iff_eq]
  exact ⟨S_inj, fun h => h ▸ rfl⟩
theorem tabE_find (P : Params) (l : List Nat) : findBy Value.isStrOf (tabE P).toArray (S l) = (tabFind l).map fun v => .int v.1 v.2 := by
  unfold findBy tabFind tabE
  rw [List.find?_toArray, List.find?_map, Option.map_map, Option.map_map]
  have : ((fun e : DictEntry => Value.isStrOf (S l) e.key) ∘ fun e : List Nat × Nat × Int × Nat => (⟨PyData.keyHash P (S e.1), .str (S e.1) e.2.1, .int e.2.2.1 e.2.2.2⟩ : DictEntry)) = fun e => e.1 == l := funext fun e => isStrOf_S e.1 l e.2.1
  rw [this]
  rfl
theorem tab_map (prog : Program) {w : World} {h : Heap} (X : (hd.heap_39 w.params).In h) : h.MapOf (strKind prog w) 113 (fun k => findBy Value.isStrOf (tabE w.params).toArray k) := by
  obtain ⟨n, e⟩ := tab113 w
  refine mapOf_K X e ?_
  unfold tabE
  generalize tabK = T
  rw [List.toList_toArray]
  induction T with
  | nil => trivial
  | cons a r ih => exact ⟨⟨_, _, rfl, rfl⟩, ih⟩
section
variable {w : World} {A : Around} {E : Value → Shared → Prop} {s : Shared} {Q : Value → Shared → Prop} {t : Tok}
theorem inTab {x : Str} (X : (hd.heap_39 w.params).In s.heap) (h : Q (.bool (tabFind x.cps.toList).isSome) { s with toks := s.toks + 1 }) : wpAny (model PG w) A (compareOp .In (.str x t) (.ref 113)) Q E s := by
  rw [S_of x]
  exact wpAny_in_of (strKind_is PG w _ t) (by decide) (tab_map PG X) (by rw [tabE_find, Option.isSome_map]; exact h)
theorem getTab {x : Str} {v : Int} {u : Tok} {value slice : Expr} (X : (hd.heap_39 w.params).In s.heap) (hv : tabFind x.cps.toList = some (v, u)) (h : Q (.int v u) { s with toks := s.toks + 1 })
    (hs : subscripted slice false (.ref 113) (.str x t) = operate [.ref 113, .str x t] (getItem (.ref 113) (.str x t)) := by with_unfolding_all rfl) :
    wpAny (model PG w) A (subscriptTail value slice (.ref 113) (.str x t)) Q E s :=
  have hm := tab_map PG X
  tail_any hm.typeIs slot_dict_getitem.lookup (wpAny_getItem_of (strKind_is PG w _ t) hm (by rw [S_of x, tabE_find, hv]; rfl) h) hs
theorem tabFind_small {l : List Nat} {v : Int} {u : Nat} (h : tabFind l = some (v, u)) : u ≠ 0 ∧ v < 256 := by
  unfold tabFind at h
  cases q : tabK.find? (fun e => e.1 == l) with
  | none => rw [q] at h; cases h
  | some e =>
    rw [q] at h
    have hm := List.mem_of_find?_eq_some q
    have all : tabK.all (fun e => e.2.2.2 != 0 && decide (e.2.2.1 < 256)) = true := by decide +kernel
    have := List.all_eq_true.mp all e hm
    simp at h this
    rw [h] at this
    exact this
end
end Mine
end
section
open PySem PySem.W PyProof.Rows PySem.Calls PySem.Spec
open PySem.Builtin PySem.Builtin.Str
set_option maxHeartbeats 1000000
namespace Mine
theorem sliceRange_nat (a b : Nat) : sliceRange (a : Int) (b : Int) 1 = (List.range (b - a)).map (a + ·) := by
  unfold sliceRange
  by_cases h : a < b
  · have h' : ((a : Int) < (b : Int)) := by exact Mine.om253 h
    simp only [show (1 : Int) > 0 by decide, if_true, h', Int.ediv_one]
    have : ((b : Int) - a + 1 - 1).toNat = b - a := by exact Mine.om254
    rw [this]
    refine List.map_congr_left fun k _ => ?_
    exact Mine.om255
  · have h' : ¬ ((a : Int) < (b : Int)) := by exact Mine.om256 h
    simp only [show (1 : Int) > 0 by decide, if_true, h', if_false]
    have : b - a = 0 := by exact Mine.om257 h
    rw [this]; rfl
theorem pick_range (l : List Nat) (a b : Nat) (hb : b ≤ l.length) : (((List.range (b - a)).map (a + ·)).filterMap fun i => l.toArray[i]?) = (l.take b).drop a := by
  refine List.ext_getElem? fun i => ?_
  have hall : (((List.range (b - a)).map (a + ·)).filterMap fun i => l.toArray[i]?) = ((List.range (b - a)).map (a + ·)).map fun i => l[i]?.getD 0 := by
    have key : ∀ r : List Nat, (∀ x ∈ r, x < l.length) → (r.filterMap fun i => l.toArray[i]?) = r.map fun i => l[i]?.getD 0 := by
      intro r
      induction r with
      | nil => intro _; rfl
      | cons x r ih =>
        intro h
        have hx := h x (.head _)
        rw [List.filterMap_cons, List.map_cons, ih fun y hy => h y (.tail _ hy)]
        simp [hx]
    refine key _ fun x hx => ?_
    refine byGoal fun P9 k9 => ?_
    obtain ⟨k, hk, rfl⟩ := List.mem_map.mp hx
    refine k9 ?_
    clear k9 P9
    have : k < b - a := List.mem_range.mp hk
    exact Mine.om258 hb this
  rw [hall]
  by_cases h : i < b - a
  · have h1 : a + i < l.length := by exact Mine.om258 hb h
    simp [h, List.getElem?_drop, List.getElem?_take, h1]
    exact Mine.om259 h
  · simp [List.getElem?_drop, List.getElem?_take]
    have : ¬ (a + i < b) := by exact Mine.om260 h
    simp [h, this]
theorem slice_of (l : List Nat) (lo hi : Option Int) (a b : Nat) (hb : b ≤ l.length) (h : strSliceIndices lo hi 1 (S l).length = sliceRange (a : Int) (b : Int) 1) : Txt.slice (S l) lo hi = S ((l.take b).drop a) := by
  unfold Txt.slice
  rw [h, sliceRange_nat]
  split
  · rename_i hq
    simp at hq
    have hL : (S l).length = l.length := S_len l
    have e : (l.take b).drop a = l := by
      have h1 : b - a = l.length := by exact Mine.om261 hq hL
      by_cases h2 : a = 0
      · subst h2
        have h3 : b = l.length := by exact Mine.om262 h1
        subst h3; simp
      · have h3 : l.length = 0 := by exact Mine.om263 hb hq hL h2
        have : l = [] := List.eq_nil_of_length_eq_zero h3
        subst this; simp
    rw [e]
  · rw [pick_range l a b hb]
theorem sliceSS (l : List Nat) (i j : Nat) : Txt.slice (S l) (some (i : Int)) (some (j : Int)) = S ((l.take j).drop i) := by
  have e : (l.take j).drop i = (l.take (min j l.length)).drop (min i l.length) := by
    rw [← List.take_eq_take_min]
    by_cases h : i ≤ l.length
    · rw [Nat.min_eq_left h]
    · rw [Nat.min_eq_right (by exact Mine.om264 h), List.drop_eq_nil_of_le (by simp; exact Mine.om265 h), List.drop_eq_nil_of_le (by simp; exact Mine.om266)]
  rw [e]
  refine slice_of l _ _ _ _ (Nat.min_le_right _ _) ?_
  rw [S_len]
  unfold strSliceIndices
  simp only [show (1 : Int) > 0 by decide, if_true]
  congr 1 <;> (split <;> omega)
theorem sliceSN (l : List Nat) (i : Nat) : Txt.slice (S l) (some (i : Int)) none = S (l.drop i) := by
  have e : l.drop i = (l.take l.length).drop (min i l.length) := by
    rw [List.take_length]
    by_cases h : i ≤ l.length
    · rw [Nat.min_eq_left h]
    · rw [Nat.min_eq_right (by exact Mine.om264 h), List.drop_eq_nil_of_le (by exact Mine.om264 h), List.drop_eq_nil_of_le (by exact Mine.om220)]
  rw [e]
  refine slice_of l _ _ _ _ (Nat.le_refl _) ?_
  rw [S_len]
  unfold strSliceIndices
  simp only [show (1 : Int) > 0 by decide, if_true]
  congr 1
  split <;> omega
theorem sliceNS (l : List Nat) (j : Nat) : Txt.slice (S l) none (some (j : Int)) = S (l.take j) := by
  have e : l.take j = (l.take (min j l.length)).drop 0 := by rw [← List.take_eq_take_min, List.drop_zero]
  rw [e]
  refine slice_of l _ _ _ _ (Nat.min_le_right _ _) ?_
  rw [S_len]
  unfold strSliceIndices
  simp only [show (1 : Int) > 0 by decide, if_true]
  congr 1
  split <;> omega
theorem sliceNm1 (l : List Nat) : Txt.slice (S l) none (some (-1)) = S l.dropLast := by
  have e : l.dropLast = (l.take (l.length - 1)).drop 0 := by rw [List.drop_zero, List.dropLast_eq_take]
  rw [e]
  refine slice_of l _ _ _ _ (by exact Mine.om267) ?_
  rw [S_len]
  unfold strSliceIndices
  simp only [show (1 : Int) > 0 by decide, if_true]
  congr 1
  split <;> omega
end Mine
end
section
open PySem PySem.W PyProof.Rows PySem.Calls PySem.Spec
namespace Mine

theorem enterC {w : World} {A : Around} {R : Result → Shared → Prop} {s : Shared} {base : Heap} {ld : List (Addr × Obj)}
    {name qual : Str} {params : Arguments} {body : List Stmt} {scope : Scope} {dV kV doc pm cdv ct oc : Value} {an od : Option Addr} {osl : Array (Option Value)} {f : Addr} {args : List Value} {binds : List (Str × Value)}
    (G : G0 w base) (st : base.StaysIn s.heap) (hn : ∀ p ∈ ld, s.heap.get? p.1 = some p.2 ∧ base.get? p.1 = none)
    (hroom : A.depth < recursionLimit)
    (ho : (hd.heap_39 w.params).lookup f = some ⟨oc, od, .func (fnOf name qual params body scope dV kV doc pm an cdv ct), osl⟩) (hcd : codeIn (hd.heap_39 w.params) cdv qual = true)
    (hbind : BindsTo s (fnOf name qual params body scope dV kV doc pm an cdv ct) ⟨args, []⟩ binds)
    (hkind : (binds.all fun y => scope.names.lookup y.1 == some .local || scope.names.lookup y.1 == some .cell) = true)
    (h : ∀ g L h₁ tk cells, (∀ b o, s.heap.get? b = some o → b ∉ ld.map (·.1) → g.get? b = some o) → (∀ b o, g.get? b = some o → s.heap.get? b = some o) → s.toks ≤ tk →
      Fr g L h₁ (bindL (envOfC qual scope L f cdv).kindOf binds fun _ => none) → News g L h₁ (cells ++ ld) →
      CellsAre (bindC (envOfC qual scope L f cdv).kindOf binds fun _ => none) (cellsFrom (L + 1) scope.names []) cells → (∀ p ∈ ld, p.1 < L) → (hd.heap_39 w.params).In g → G0 w g →
      wpAny (model PG w) (A.deeper (envOfC qual scope L f cdv)) (execs body (envOfC qual scope L f cdv))
        (fun fl s' => R (.ok (.ret (match fl with | .ret v => v | _ => .none))) s') (fun _ _ => False)
        { s with heap := h₁, toks := tk })
    (hnd : ((cellsFrom 0 scope.names []).map (·.1)).Nodup) (hco : autoParam (scope.isCoroutine = false) aR._auto_1) (hgen : autoParam (scope.isGenerator = false) aR._auto_1) (hk : autoParam (scope.kind = .function) aR._auto_1) :
    codeAny (model PG w) A (.call (.ref f) ⟨args, []⟩) R s := by
  have X := G.X.keeps st
  have hlim : s.heap.NoLimit := by obtain ⟨p, l, mg, mb, T⟩ := G.T; exact T.nolimit.keeps st
  have up : ∀ b o, s.heap.get? b = some o → b ∉ ld.map (·.1) → (hideAll s.heap (ld.map (·.1))).get? b = some o := fun b o e n => hideAll_get _ e n
  have nb : ∀ b o, base.get? b = some o → (hideAll s.heap (ld.map (·.1))).get? b = some o := fun b o e => up b o (st b o e) fun q => by
    refine byGoal fun P9 k9 => ?_
    obtain ⟨p, hp, rfl⟩ := List.mem_map.mp q
    refine k9 ?_
    clear k9 P9
    rw [(hn p hp).2] at e; cases e
  refine codeAny_call_function (fd := fnOf name qual params body scope dV kV doc pm an cdv ct) hroom (X _ _ ho) rfl hco hgen rfl (codeRec_of X hcd) (hbind _ _ _ _ ?_)
  refine later (wpAny_newFunctionEnv_cells hk (kindsX hkind _) fun env' he s' x lt => ?_)
  subst he
  refine ⟨hlim.keeps x.toInCall.keep, codeAny_func ?_⟩
  refine byGoal fun P9 k9 => ?_
  obtain ⟨h₁, tk, rfl, _⟩ := x.done
  refine k9 ?_
  clear k9 P9
  have hk₁ := x.toInCall.keep
  refine byGoal fun P9 k9 => ?_
  obtain ⟨cells, NC, Y⟩ := Cl.news (h₀ := s.heap) (Nat.le_refl _) fun n c hm => ⟨x.cell n c (lookup_of_mem_nodup (cellsFrom_names scope.names 0 (s.heap.objs.size + 1) [] [] rfl ▸ hnd) hm), x.above n c hm⟩
  refine k9 ?_
  clear k9 P9
  refine wpAny_mono (h (hideAll s.heap (ld.map (·.1))) s.heap.objs.size h₁ tk cells up (fun b o e => of_hideAll _ e) lt.1
    ⟨x.toInCall.ns, fun b o e => hk₁ b o (of_hideAll _ e), Nat.le_of_eq (hideAll_size _ _)⟩ (fun p hp => ?_) Y (fun p hp => Heap.lt_size (hn p hp).1) (G.X.keeps nb) (G.keeps nb)) (fun _ _ x => x) (fun _ _ x => x.elim)
  rcases List.mem_append.mp hp with hp | hp
  · refine ⟨(NC p hp).1, (NC p hp).2.1, ?_⟩
    cases q : (hideAll s.heap (ld.map (·.1))).get? p.1 with
    | none => rfl
    | some o => have := of_hideAll _ q; rw [(NC p hp).2.2] at this; cases this
  · exact ⟨hk₁ _ _ (hn p hp).1, Nat.ne_of_lt (Heap.lt_size (hn p hp).1), hideAll_none _ (List.mem_map_of_mem hp)⟩
end Mine
end
section
open PySem PySem.W PyProof.Rows PySem.Calls PySem.Spec
set_option maxHeartbeats 1000000
namespace Mine
section
variable {w : World} {A : Around} {s : Shared} {g : Heap} {env : Env} {target : Expr} {body orelse : List Stmt} {Q : Flow → Shared → Prop} {E : Value → Shared → Prop} {m₀ : Str → Option Value} {ld₀ : List (Addr × Obj)}


theorem letGoOr (it v : Value) (t : Expr) : letOwnedTupleGo t it v = pure () ∨ letOwnedTupleGo t it v = letOwnedTupleGo (.List [] default) it v := by
  cases t <;> first | exact .inl rfl | exact .inr rfl
theorem letGoStr (t : Expr) (a : Addr) (l : Str) (u : Tok) : letOwnedTupleGo t (.ref a) (.str l u) = pure () := (letGoOr (.ref a) (.str l u) t).elim id id
theorem letGo {prog : Program} {M : Model} {I : Addr} {o : Obj} {n : String} {v : Value} {Qu : Unit → Shared → Prop} (ho : s.heap.get? I = some o) (hc : o.cls = .type n)
    (hn : (["enumerate", "zip", "dict_itemiterator", "dict_reverseitemiterator", "odict_iterator", "itertools.zip_longest", "itertools.pairwise"] : List String).contains n = false) (h : Qu () s) : wpAny M A (letOwnedTupleGo target (.ref I) v) Qu E s := by
  have key : ∀ a : Addr, wpAny M A (do
      let o ← load I
      match o.cls, o.data with
      | .type n, .fields vs =>
        if (["enumerate", "zip", "dict_itemiterator", "dict_reverseitemiterator", "odict_iterator", "itertools.zip_longest", "itertools.pairwise"] : List String).contains n && vs[0]? == some (rawInt a) then
          rule "for.unpacks-the-owned-tuple"
          updateField I 0 .none
      | _, _ => pure () : Sem Unit) Qu E s := fun a => by
    refine wpAny_bind (wpAny_load ho ?_)
    refine byGoal fun P9 k9 => ?_
    obtain ⟨cls, dd, data, sl⟩ := o
    refine k9 ?_
    clear k9 P9
    simp only at hc
    subst hc
    cases data <;> first | exact wpAny_pure h | skip
    simp only [hn, Bool.false_and, Bool.false_eq_true, if_false]
    exact wpAny_pure h
  rcases letGoOr (.ref I) v target with e | e <;> rw [e]
  · exact wpAny_pure h
  · cases v <;> first | exact wpAny_pure h | exact key _

theorem for_listG {L : Addr} {l : Addr} {vs : List Value} (J : Nat → (Str → Option Value) → List (Addr × Obj) → Prop)
    (hh : A.handled = none) (hl : s.heap.IsList l vs.toArray) (hlL : l ≠ L) (hld : ∀ q ∈ ld₀, q.1 ≠ l)
    (F : Fr g L s.heap m₀) (N : News g L s.heap ld₀) (h0 : J 0 m₀ ld₀)
    (turn : ∀ (i : Nat) (v : Value) (m : Str → Option Value) (ld : List (Addr × Obj)) (h : Heap) (tk : Nat) (own : List (Addr × Obj)), vs[i]? = some v → s.toks ≤ tk → ld.map (·.1) = ld₀.map (·.1) → OwnOff own (ld₀.map (·.1)) → J i m ld →
      Fr g L h m → News g L h (ld ++ own) →
      wpAny (model PG w) A (assign target env v) (fun _ s₂ => wpAny (model PG w) A (execs body env) (fun f s₃ => Later { s with heap := h, toks := tk } s₃ → TurnEnd g L (J (i + 1)) own (ld₀.map (·.1)) s Q f s₃) NoE s₂) NoE { s with heap := h, toks := tk })
    (done : ∀ (m : Str → Option Value) (ld : List (Addr × Obj)) (h : Heap) (tk : Nat), s.toks ≤ tk → J vs.length m ld → Fr g L h m → News g L h ld → wpAny (model PG w) A (execs orelse env) Q NoE { s with heap := h, toks := tk })
    (hL : autoParam (env.locals = L) aR._auto_1) :
    wpAny (model PG w) A (pyIter (.ref l)) (forGoal w A env target body orelse Q) E s := by
  subst hL
  refine byGoal fun P9 k9 => ?_
  obtain ⟨ol, hol, rl⟩ := id hl
  refine k9 ?_
  clear k9 P9
  refine wpAny_pyIter_list hl ?_
  have hlen : vs.toArray.size = vs.length := by simp
  have W := Walks.list (prog := PG) (w := w) hh s.heap.objs.size l (ne_size hol) vs.toArray
  rw [hlen] at W
  refine forW W J (fun q => ?_) (fun b hb => ?_) (fun q hq hf => ?_) ⟨⟨_, Heap.get?_push_size _ rfl, rfl, rfl⟩, ⟨ol, Heap.get?_push_of_some _ hol, rl⟩⟩ (F.push _) (fun p hp => ⟨Heap.get?_push_of_some _ (N p hp).1, (N p hp).2⟩) h0 (fun i v m ld h tk own hi hP htk ha ho hJ hst F N => by
    refine byGoal fun P9 k9 => ?_
    obtain ⟨⟨oI, hoI, hcI, _⟩, _⟩ := hst
    refine k9 ?_
    clear k9 P9
    exact letGo (prog := PG) (n := _) hoI hcI rfl (turn i v m ld h tk own (by simpa using hP) htk ha ho hJ F N)) done
  · rcases List.mem_cons.mp q with q | q
    · exact absurd F.ns.lt (q ▸ Nat.lt_irrefl _)
    · exact hlL (List.mem_singleton.mp q).symm
  · rw [List.mem_singleton.mp hb]; exact gnone F (Nat.le_refl _)
  · rcases List.mem_cons.mp hf with e | e
    · exact ne_size (N q hq).1 e
    · exact hld q hq (List.mem_singleton.mp e)

theorem for_tupleG {L : Addr} {l : Addr} {vs : List Value} (J : Nat → (Str → Option Value) → List (Addr × Obj) → Prop)
    (hh : A.handled = none) (hl : s.heap.IsTuple l vs.toArray) (hlL : l ≠ L) (hld : ∀ q ∈ ld₀, q.1 ≠ l)
    (F : Fr g L s.heap m₀) (N : News g L s.heap ld₀) (h0 : J 0 m₀ ld₀)
    (turn : ∀ (i : Nat) (v : Value) (m : Str → Option Value) (ld : List (Addr × Obj)) (h : Heap) (tk : Nat) (own : List (Addr × Obj)), vs[i]? = some v → s.toks ≤ tk → ld.map (·.1) = ld₀.map (·.1) → OwnOff own (ld₀.map (·.1)) → J i m ld →
      Fr g L h m → News g L h (ld ++ own) →
      wpAny (model PG w) A (assign target env v) (fun _ s₂ => wpAny (model PG w) A (execs body env) (fun f s₃ => Later { s with heap := h, toks := tk } s₃ → TurnEnd g L (J (i + 1)) own (ld₀.map (·.1)) s Q f s₃) NoE s₂) NoE { s with heap := h, toks := tk })
    (done : ∀ (m : Str → Option Value) (ld : List (Addr × Obj)) (h : Heap) (tk : Nat), s.toks ≤ tk → J vs.length m ld → Fr g L h m → News g L h ld → wpAny (model PG w) A (execs orelse env) Q NoE { s with heap := h, toks := tk })
    (hL : autoParam (env.locals = L) aR._auto_1) :
    wpAny (model PG w) A (pyIter (.ref l)) (forGoal w A env target body orelse Q) E s := by
  subst hL
  refine byGoal fun P9 k9 => ?_
  obtain ⟨ol, hol, rl⟩ := id hl
  refine k9 ?_
  clear k9 P9
  refine wpAny_pyIter_tuple hl ?_
  have hlen : vs.toArray.size = vs.length := by simp
  have W := Walks.tuple (prog := PG) (w := w) hh s.heap.objs.size l (ne_size hol) vs.toArray
  rw [hlen] at W
  refine forW W J (fun q => ?_) (fun b hb => ?_) (fun q hq hf => ?_) ⟨⟨_, Heap.get?_push_size _ rfl, rfl, rfl⟩, ⟨ol, Heap.get?_push_of_some _ hol, rl⟩⟩ (F.push _) (fun p hp => ⟨Heap.get?_push_of_some _ (N p hp).1, (N p hp).2⟩) h0 (fun i v m ld h tk own hi hP htk ha ho hJ hst F N => by
    refine byGoal fun P9 k9 => ?_
    obtain ⟨⟨oI, hoI, hcI, _⟩, _⟩ := hst
    refine k9 ?_
    clear k9 P9
    exact letGo (prog := PG) (n := _) hoI hcI rfl (turn i v m ld h tk own (by simpa using hP) htk ha ho hJ F N)) done
  · rcases List.mem_cons.mp q with q | q
    · exact absurd F.ns.lt (q ▸ Nat.lt_irrefl _)
    · exact hlL (List.mem_singleton.mp q).symm
  · rw [List.mem_singleton.mp hb]; exact gnone F (Nat.le_refl _)
  · rcases List.mem_cons.mp hf with e | e
    · exact ne_size (N q hq).1 e
    · exact hld q hq (List.mem_singleton.mp e)

theorem for_strG {L : Addr} {y : Str} {t : Tok} (J : Nat → (Str → Option Value) → List (Addr × Obj) → Prop)
    (hh : A.handled = none)
    (F : Fr g L s.heap m₀) (N : News g L s.heap ld₀) (h0 : J 0 m₀ ld₀)
    (turn : ∀ (i c : Nat) (u : Tok) (m : Str → Option Value) (ld : List (Addr × Obj)) (h : Heap) (tk : Nat) (own : List (Addr × Obj)), y.cps[i]? = some c → s.toks ≤ tk → ld.map (·.1) = ld₀.map (·.1) → OwnOff own (ld₀.map (·.1)) → J i m ld →
      Fr g L h m → News g L h (ld ++ own) →
      wpAny (model PG w) A (assign target env (.str ⟨#[c]⟩ u)) (fun _ s₂ => wpAny (model PG w) A (execs body env) (fun f s₃ => Later { s with heap := h, toks := tk } s₃ → TurnEnd g L (J (i + 1)) own (ld₀.map (·.1)) s Q f s₃) NoE s₂) NoE { s with heap := h, toks := tk })
    (done : ∀ (m : Str → Option Value) (ld : List (Addr × Obj)) (h : Heap) (tk : Nat), s.toks ≤ tk → J y.cps.size m ld → Fr g L h m → News g L h ld → wpAny (model PG w) A (execs orelse env) Q NoE { s with heap := h, toks := tk })
    (hL : autoParam (env.locals = L) aR._auto_1) :
    wpAny (model PG w) A (pyIter (.str y t)) (forGoal w A env target body orelse Q) E s := by
  subst hL
  refine wpAny_pyIter_str fun o St W hst => ?_
  refine forW (W A hh) J (fun q => ?_) (fun b hb => ?_) (fun q hq hf => ?_) hst (F.push _) (fun p hp => ⟨Heap.get?_push_of_some _ (N p hp).1, (N p hp).2⟩) h0 (fun i v m ld h tk own hi hP htk ha ho hJ hst F N => ?_) done
  · exact absurd F.ns.lt (List.mem_singleton.mp q ▸ Nat.lt_irrefl _)
  · rw [List.mem_singleton.mp hb]; exact gnone F (Nat.le_refl _)
  · exact ne_size (N q hq).1 (List.mem_singleton.mp hf)
  · refine byGoal fun P9 k9 => ?_
    obtain ⟨c, u, hc, rfl⟩ := hP
    refine k9 ?_
    clear k9 P9
    show wpAny _ _ (letOwnedTupleGo _ _ _) _ _ _
    rw [letGoStr]
    exact wpAny_pure (turn i c u m ld h tk own hc htk ha ho hJ F N)

theorem UpdF.app {d : Addr} {o : Obj} {l own : List (Addr × Obj)} {gf : Obj → List (Addr × Obj)} (U : UpdF d o l gf) (ho : ∀ p ∈ own, p.1 ≠ d) : UpdF d o (l ++ own) (fun o' => gf o' ++ own) := by
  induction U with
  | head h => exact .head fun p hp => (List.mem_append.mp hp).elim (h p) (ho p)
  | tail h _ ih => exact .tail h ih
theorem unpackT {env : Env} {elts : List Expr} {x1} {pos : Pos} {t : Addr} {items : Array Value} {L : Addr} {m : Str → Option Value} {ld : List (Addr × Obj)} {Q : Unit → Shared → Prop} {prog : Program}
    (F : Fr g L s.heap m) (N : News g L s.heap ld) (hh : A.handled = none) (ht : s.heap.IsTuple t items)
    (hn : (assignEach elts env).length = items.size) (hstar : (assignEach elts env).findIdx? (·.1) = none)
    (h : ∀ h', Fr g L h' m → News g L h' ld → s.heap.StaysIn h' → wpAny (model prog w) A (assignInOrder ((assignEach elts env).map (·.2)) items.toList) Q E { s with heap := h' }) :
    wpAny (model prog w) A (assign (.Tuple elts x1 pos) env (.ref t)) Q E s :=
  wpAny_assign_Tuple hh ht hn hstar fun h' he => h h' (F.extBut he (Nat.le_refl _)) (N.extBut he (Nat.le_refl _)) fun b o e => he b o (Nat.ne_of_lt (Heap.lt_size e)) e
end
end Mine
end
section
open PySem PySem.W PyProof.Rows PySem.Calls PySem.Spec
set_option maxHeartbeats 1000000
namespace Mine
inductive NextV (g : Heap) (L : Addr) (J : (Str → Option Value) → List (Addr × Obj) → Prop) (own : List (Addr × Obj)) (gs : Array GenState) (dr : Drawn) (os : OsState) (s₂ : Shared) : Prop
  | mk (h' : Heap) (tk : Nat) (m' : Str → Option Value) (ld' : List (Addr × Obj)) (e : s₂ = ⟨h', gs, dr, tk, os⟩) (F : Fr g L h' m') (N : News g L h' (ld' ++ own)) (a : OwnOff own (ld'.map (·.1))) (j : J m' ld')
def TurnEndV (g : Heap) (L : Addr) (J : (Str → Option Value) → List (Addr × Obj) → Prop) (own : List (Addr × Obj)) (s : Shared) (Q : Flow → Shared → Prop) (f : Flow) (s₂ : Shared) : Prop :=
  match f with
  | .ret v => Q (.ret v) s₂
  | .brk => Q .next s₂
  | _ => NextV g L J own s.gens s.drawn s.os s₂
section
variable {w : World} {A : Around} {s : Shared} {g : Heap} {env : Env} {target : Expr} {body orelse : List Stmt} {Q : Flow → Shared → Prop} {E : Value → Shared → Prop} {m₀ : Str → Option Value} {ld₀ : List (Addr × Obj)}
theorem forV {I : Addr} {fp wr : List Addr} {n : Nat} {P : Nat → Value → Prop} {St : Nat → Heap → Prop}
    (W : Walks PG w A I fp wr n P St) (J : Nat → (Str → Option Value) → List (Addr × Obj) → Prop)
    (hLf : env.locals ∉ fp) (hwr : ∀ b ∈ wr, g.get? b = none) (hfp : ∀ q ∈ ld₀, q.1 ∉ fp) (hst : St 0 s.heap) (hex : ∀ i h, St i h → ∀ b ∈ fp, ∃ o, h.get? b = some o)
    (F : Fr g env.locals s.heap m₀) (N : News g env.locals s.heap ld₀) (h0 : J 0 m₀ ld₀)
    (turn : ∀ (i : Nat) (v : Value) (m : Str → Option Value) (ld : List (Addr × Obj)) (h : Heap) (tk : Nat) (own : List (Addr × Obj)), i < n → P i v → s.toks ≤ tk → OwnOff own (ld.map (·.1)) → J i m ld → St (i + 1) h → Fr g env.locals h m → News g env.locals h (ld ++ own) →
      wpAny (model PG w) A (letOwnedTupleGo target (.ref I) v) (fun _ s₁ => wpAny (model PG w) A (assign target env v) (fun _ s₂ =>
        wpAny (model PG w) A (execs body env) (fun f s₃ => TurnEndV g env.locals (J (i + 1)) own s Q f s₃) NoE s₂) NoE s₁) NoE { s with heap := h, toks := tk })
    (done : ∀ (m : Str → Option Value) (ld : List (Addr × Obj)) (h : Heap) (tk : Nat), s.toks ≤ tk → J n m ld → Fr g env.locals h m → News g env.locals h ld → wpAny (model PG w) A (execs orelse env) Q NoE { s with heap := h, toks := tk }) :
    codeAny (model PG w) A (.forLoop target (.ref I) body orelse env) (LoopR Q) s := by
  refine codeAny_forLoop_any (ForI n St g env.locals (fun i _ m ld => (∀ p ∈ ld, p.1 ∉ fp) ∧ J i m ld) s) ?_ (n - 0) ⟨0, s.heap, s.toks, m₀, ld₀, rfl, Nat.zero_le _, Nat.le_refl _, rfl, hst, F, N, hfp, h0⟩
  intro k s' hJa
  refine byGoal fun P9 k9 => ?_
  obtain ⟨i, h, tk, m, ld, rfl, hin, htk, rfl, hSt, F₁, N₁, disj, hJ⟩ := hJa
  refine k9 ?_
  clear k9 P9
  refine later ?_
  by_cases hlt : i < n
  · refine W.item i _ _ _ hlt hSt fun v h' tk' hP hSt' hk htk' => ?_
    have htk' : tk ≤ tk' := htk'.1
    have hwl : env.locals ∉ wr := fun q => hLf (W.sub _ q)
    refine byGoal fun P9 k9 => ?_
    obtain ⟨oL, es, ep, hL, r⟩ := id F₁.ns
    refine k9 ?_
    clear k9 P9
    have F₂ : Fr g env.locals h' m := ⟨⟨oL, es, ep, hk _ _ hwl hL, r⟩, fun b o e => hk b o (fun q => by rw [hwr b q] at e; cases e) (F₁.keep b o e), F₁.above⟩
    have N₂ : News g env.locals h' ld := fun p hp => ⟨hk _ _ (fun q => disj p hp (W.sub _ q)) (N₁ p hp).1, (N₁ p hp).2⟩
    have N₃ : News g env.locals h' (ld ++ ownOf g fp h') := N₂.append (news_ownOf hLf)
    have hoff : OwnOff (ownOf g fp h') (ld.map (·.1)) := fun p hp b hb e => by
      refine byGoal fun P9 k9 => ?_
      obtain ⟨q, hq, rfl⟩ := List.mem_map.mp hb
      refine k9 ?_
      clear k9 P9
      refine byGoal fun P9 k9 => ?_
      obtain ⟨c, hc, hc'⟩ := List.mem_filterMap.mp hp
      refine k9 ?_
      clear k9 P9
      have : p.1 = c := by
        split at hc'
        · cases ho : h'.get? c with
          | none => simp [ho] at hc'
          | some o => simp [ho] at hc'; rw [← hc']
        · cases hc'
      exact disj q hq (by rw [← e, this]; exact hc)
    refine later (wpAny_mono (turn i v m ld h' tk' _ hlt hP (Nat.le_trans htk htk') hoff hJ hSt' F₂ N₃) (fun _ s₁ h₁ l1 => later (wpAny_mono h₁ (fun _ s₂ h₂ l2 => later (wpAny_mono h₂ (fun f s₃ h₃ l3 => ?_) fun _ _ x => x.elim)) fun _ _ x => x.elim)) fun _ _ x => x.elim)
    have nx : NextV g env.locals (J (i + 1)) (ownOf g fp h') s.gens s.drawn s.os s₃ →
        ∃ m, m < n - i ∧ ForI n St g env.locals (fun i _ m ld => (∀ p ∈ ld, p.1 ∉ fp) ∧ J i m ld) s m s₃ := by
      intro hJa
      refine byGoal fun P9 k9 => ?_
      obtain ⟨h'', tk'', m', ld', rfl, F', N', ha', hJ'⟩ := hJa
      refine k9 ?_
      clear k9 P9
      refine ⟨n - (i + 1), by exact Mine.om9 hlt, i + 1, h'', tk'', m', ld', rfl, hlt, ?_, rfl, ?_, F', fun p hp => N' p (List.mem_append_left _ hp), fun p hp hf => ?_, hJ'⟩
      · have := ((l1.trans l2).trans l3).1; exact Nat.le_trans (Nat.le_trans htk htk') this
      · refine W.frame _ _ _ hSt' fun b hb o e => ?_
        cases q : g.get? b with
        | none => exact (N' (b, o) (List.mem_append_right _ (mem_ownOf hb q e))).1
        | some x => have e' := F₂.keep _ _ q; rw [e] at e'; cases e'; exact F'.keep _ _ q
      · obtain ⟨o, e⟩ := hex _ _ hSt' p.1 hf
        have q := (N' p (List.mem_append_left _ hp)).2.2
        exact ha' (p.1, o) (mem_ownOf hf q e) _ (List.mem_map_of_mem hp) rfl
    cases f with
    | next => exact nx h₃
    | cont => exact nx h₃
    | brk => exact h₃
    | ret v => exact h₃
  · have hi : i = n := by exact Mine.om10 hin hlt
    subst hi
    refine W.done _ _ _ hSt fun h' tk' hk htk' => ?_
    have hwl : env.locals ∉ wr := fun q => hLf (W.sub _ q)
    refine byGoal fun P9 k9 => ?_
    obtain ⟨oL, es, ep, hL, r⟩ := id F₁.ns
    refine k9 ?_
    clear k9 P9
    have F₂ : Fr g env.locals h' m := ⟨⟨oL, es, ep, hk _ _ hwl hL, r⟩, fun b o e => hk b o (fun q => by rw [hwr b q] at e; cases e) (F₁.keep b o e), F₁.above⟩
    have N₂ : News g env.locals h' ld := fun p hp => ⟨hk _ _ (fun q => disj p hp (W.sub _ q)) (N₁ p hp).1, (N₁ p hp).2⟩
    exact wpAny_mono (done m ld h' tk' (Nat.le_trans htk htk'.1) hJ F₂ N₂) (fun _ _ x => x) fun _ _ x => x.elim
theorem for_listV {L : Addr} {l : Addr} {vs : List Value} (J : Nat → (Str → Option Value) → List (Addr × Obj) → Prop)
    (hh : A.handled = none) (hl : s.heap.IsList l vs.toArray) (hlL : l ≠ L) (hld : ∀ q ∈ ld₀, q.1 ≠ l)
    (F : Fr g L s.heap m₀) (N : News g L s.heap ld₀) (h0 : J 0 m₀ ld₀)
    (turn : ∀ (i : Nat) (v : Value) (m : Str → Option Value) (ld : List (Addr × Obj)) (h : Heap) (tk : Nat) (own : List (Addr × Obj)), vs[i]? = some v → s.toks ≤ tk → OwnOff own (ld.map (·.1)) → J i m ld →
      Fr g L h m → News g L h (ld ++ own) →
      wpAny (model PG w) A (assign target env v) (fun _ s₂ => wpAny (model PG w) A (execs body env) (fun f s₃ => TurnEndV g L (J (i + 1)) own s Q f s₃) NoE s₂) NoE { s with heap := h, toks := tk })
    (done : ∀ (m : Str → Option Value) (ld : List (Addr × Obj)) (h : Heap) (tk : Nat), s.toks ≤ tk → J vs.length m ld → Fr g L h m → News g L h ld → wpAny (model PG w) A (execs orelse env) Q NoE { s with heap := h, toks := tk })
    (hL : autoParam (env.locals = L) aR._auto_1) :
    wpAny (model PG w) A (pyIter (.ref l)) (forGoal w A env target body orelse Q) E s := by
  subst hL
  refine byGoal fun P9 k9 => ?_
  obtain ⟨ol, hol, rl⟩ := id hl
  refine k9 ?_
  clear k9 P9
  refine wpAny_pyIter_list hl ?_
  have hlen : vs.toArray.size = vs.length := by simp
  have W := Walks.list (prog := PG) (w := w) hh s.heap.objs.size l (ne_size hol) vs.toArray
  rw [hlen] at W
  refine forV W J (fun q => ?_) (fun b hb => ?_) (fun q hq hf => ?_) ⟨⟨_, Heap.get?_push_size _ rfl, rfl, rfl⟩, ⟨ol, Heap.get?_push_of_some _ hol, rl⟩⟩ (fun i h st b hb => ?_) (F.push _) (fun p hp => ⟨Heap.get?_push_of_some _ (N p hp).1, (N p hp).2⟩) h0 (fun i v m ld h tk own hi hP htk ho hJ hst F N => by
    refine byGoal fun P9 k9 => ?_
    obtain ⟨⟨oI, hoI, hcI, _⟩, _⟩ := hst
    refine k9 ?_
    clear k9 P9
    exact letGo (prog := PG) (n := _) hoI hcI rfl (turn i v m ld h tk own (by simpa using hP) htk ho hJ F N)) done
  · rcases List.mem_cons.mp q with q | q
    · exact absurd F.ns.lt (q ▸ Nat.lt_irrefl _)
    · exact hlL (List.mem_singleton.mp q).symm
  · rw [List.mem_singleton.mp hb]; exact gnone F (Nat.le_refl _)
  · rcases List.mem_cons.mp hf with e | e
    · exact ne_size (N q hq).1 e
    · exact hld q hq (List.mem_singleton.mp e)
  · refine byGoal fun P9 k9 => ?_
    obtain ⟨⟨oI, hoI, _⟩, ⟨oL, hoL, _⟩⟩ := st
    refine k9 ?_
    clear k9 P9
    rcases List.mem_cons.mp hb with e | e
    · exact ⟨oI, e ▸ hoI⟩
    · exact ⟨oL, (List.mem_singleton.mp e) ▸ hoL⟩
theorem for_strV {L : Addr} {y : Str} {t : Tok} (hasc : y.cps.all (· < 128) = true) (J : Nat → (Str → Option Value) → List (Addr × Obj) → Prop)
    (hh : A.handled = none)
    (F : Fr g L s.heap m₀) (N : News g L s.heap ld₀) (h0 : J 0 m₀ ld₀)
    (turn : ∀ (i c : Nat) (u : Tok) (m : Str → Option Value) (ld : List (Addr × Obj)) (h : Heap) (tk : Nat) (own : List (Addr × Obj)), y.cps[i]? = some c → s.toks ≤ tk → OwnOff own (ld.map (·.1)) → J i m ld →
      Fr g L h m → News g L h (ld ++ own) →
      wpAny (model PG w) A (assign target env (.str ⟨#[c]⟩ u)) (fun _ s₂ => wpAny (model PG w) A (execs body env) (fun f s₃ => TurnEndV g L (J (i + 1)) own s Q f s₃) NoE s₂) NoE { s with heap := h, toks := tk })
    (done : ∀ (m : Str → Option Value) (ld : List (Addr × Obj)) (h : Heap) (tk : Nat), s.toks ≤ tk → J y.cps.size m ld → Fr g L h m → News g L h ld → wpAny (model PG w) A (execs orelse env) Q NoE { s with heap := h, toks := tk })
    (hL : autoParam (env.locals = L) aR._auto_1) :
    wpAny (model PG w) A (pyIter (.str y t)) (forGoal w A env target body orelse Q) E s := by
  subst hL
  refine wpAny_pyIter_ascii hasc ?_
  refine forV (Walks.strAscii (prog := PG) (w := w) hh s.heap.objs.size y t) J (fun q => ?_) (fun b hb => ?_) (fun q hq hf => ?_) ⟨_, Heap.get?_push_size _ rfl, rfl, rfl⟩ (fun i h st b hb => ?_) (F.push _) (fun p hp => ⟨Heap.get?_push_of_some _ (N p hp).1, (N p hp).2⟩) h0 (fun i v m ld h tk own hi hP htk ho hJ hst F N => ?_) done
  · exact absurd F.ns.lt (List.mem_singleton.mp q ▸ Nat.lt_irrefl _)
  · rw [List.mem_singleton.mp hb]; exact gnone F (Nat.le_refl _)
  · exact ne_size (N q hq).1 (List.mem_singleton.mp hf)
  · refine byGoal fun P9 k9 => ?_
    obtain ⟨o, ho, _⟩ := st
    refine k9 ?_
    clear k9 P9
    exact ⟨o, List.mem_singleton.mp hb ▸ ho⟩
  · refine byGoal fun P9 k9 => ?_
    obtain ⟨c, u, hc, rfl⟩ := hP
    refine k9 ?_
    clear k9 P9
    show wpAny _ _ (letOwnedTupleGo _ _ _) _ _ _
    rw [letGoStr]
    exact wpAny_pure (turn i c u m ld h tk own hc htk ho hJ F N)
end
end Mine
end
section
open PySem PySem.W PyProof.Rows PySem.Calls PySem.Spec
set_option maxHeartbeats 1000000
namespace Mine
section
variable {w : World} {A : Around} {s : Shared} {g : Heap} {env : Env} {x : Str} {px : Pos} {body orelse : List Stmt} {Q : Flow → Shared → Prop} {E : Value → Shared → Prop} {m₀ : Str → Option Value} {ld₀ : List (Addr × Obj)}
theorem forNT {L : Addr} {I : Addr} {fp wr : List Addr} {n : Nat} {P : Nat → Value → Prop} {St : Nat → Heap → Prop}
    (W : Walks PG w A I fp wr n P St) (J : Nat → Nat → (Str → Option Value) → List (Addr × Obj) → Prop)
    (hLf : L ∉ fp) (hwr : ∀ b ∈ wr, g.get? b = none) (hfp : ∀ q ∈ ld₀, q.1 ∉ fp) (hst : St 0 s.heap)
    (F : Fr g L s.heap m₀) (N : News g L s.heap ld₀) (h0 : J 0 s.toks m₀ ld₀)
    (turn : ∀ (i : Nat) (v : Value) (m : Str → Option Value) (ld : List (Addr × Obj)) (h : Heap) (tk tk0 : Nat) (own : List (Addr × Obj)), i < n → P i v → s.toks ≤ tk0 → tk0 ≤ tk → ld.map (·.1) = ld₀.map (·.1) → OwnOff own (ld₀.map (·.1)) → J i tk0 m ld →
      Fr g L h (fun y => if y = x then some v else m y) → News g L h (ld ++ own) →
      wpAny (model PG w) A (execs body env) (fun f s₃ => Later { s with heap := h, toks := tk } s₃ → TurnEndT g L (J (i + 1)) own (ld₀.map (·.1)) s Q f s₃) NoE { s with heap := h, toks := tk })
    (done : ∀ (m : Str → Option Value) (ld : List (Addr × Obj)) (h : Heap) (tk tk0 : Nat), s.toks ≤ tk0 → tk0 ≤ tk → J n tk0 m ld → Fr g L h m → News g L h ld → wpAny (model PG w) A (execs orelse env) Q NoE { s with heap := h, toks := tk })
    (hx : autoParam (env.kindOf x = some .local) aR._auto_1) (hk : autoParam (env.scope.kind = .function) aR._auto_1) (hL : autoParam (env.locals = L) aR._auto_1) :
    forGoal w A env (.Name x px) body orelse Q (.ref I) s := by
  subst hL
  refine forT W J hLf hwr hfp hst F N h0 (fun i v m ld h tk tk0 own hi hP htk0 htk ha ho hJ _ F₁ N₁ => ?_) done
  show wpAny _ _ (pure ()) _ _ _
  refine wpAny_pure (assign_Name (wpAny_storeName_local hx F₁.ns (fun h' hn hs => ?_) (by rw [hk]; rfl)))
  exact later (wpAny_mono (turn i v m ld h' (tk + 1) tk0 own hi hP htk0 (Nat.le_succ_of_le htk) ha ho hJ (F₁.set hn hs) (N₁.set hs)) (fun f s₃ q l' _ => q l') fun _ _ x => x)

theorem for_rangeT {L : Addr} {r : Addr} {n : Nat} {t u v : Tok} (J : Nat → Nat → (Str → Option Value) → List (Addr × Obj) → Prop)
    (hh : A.handled = none) (hr : IsRange s.heap r 0 n 1 t u v) (hn : n < 2 ^ 60) (hrL : r ≠ L)
    (F : Fr g L s.heap m₀) (N : News g L s.heap ld₀) (h0 : J 0 s.toks m₀ ld₀)
    (turn : ∀ (i : Nat) (ti : Tok) (m : Str → Option Value) (ld : List (Addr × Obj)) (h : Heap) (tk tk0 : Nat) (own : List (Addr × Obj)), i < n → s.toks ≤ tk0 → tk0 ≤ tk → ld.map (·.1) = ld₀.map (·.1) → OwnOff own (ld₀.map (·.1)) → J i tk0 m ld →
      Fr g L h (fun z => if z = x then some (.int i ti) else m z) → News g L h (ld ++ own) →
      wpAny (model PG w) A (execs body env) (fun f s₃ => Later { s with heap := h, toks := tk } s₃ → TurnEndT g L (J (i + 1)) own (ld₀.map (·.1)) s Q f s₃) NoE { s with heap := h, toks := tk })
    (done : ∀ (m : Str → Option Value) (ld : List (Addr × Obj)) (h : Heap) (tk tk0 : Nat), s.toks ≤ tk0 → tk0 ≤ tk → J n tk0 m ld → Fr g L h m → News g L h ld → wpAny (model PG w) A (execs orelse env) Q NoE { s with heap := h, toks := tk })
    (hx : autoParam (env.kindOf x = some .local) aR._auto_1) (hk : autoParam (env.scope.kind = .function) aR._auto_1) (hL : autoParam (env.locals = L) aR._auto_1) :
    wpAny (model PG w) A (pyIter (.ref r)) (forGoal w A env (.Name x px) body orelse Q) E s := by
  subst hL
  have hs : Builtin.Range.rangeSize 0 n 1 = n := by unfold Builtin.Range.rangeSize; simp; exact Mine.om59
  have W := Walks.range (prog := PG) (w := w) hh s.heap.objs.size 0 1 n
  refine wpAny_pyIter_range hr (by unfold Builtin.Range.small; rw [hs]; simp [Builtin.Range.rangeFitsLong]; exact Mine.om289 hn) ?_
  rw [hs]
  refine forNT W J (fun q => ?_) (fun b hb => ?_) (fun q hq hf => ?_) (by have := Heap.get?_push_size s.heap (o := { cls := .type "range_iterator", data := .fields #[rawInt 0, rawInt n, rawInt 1] }) rfl; simpa using this) (F.push _) (fun p hp => ⟨Heap.get?_push_of_some _ (N p hp).1, (N p hp).2⟩) h0 (fun i v m ld h tk tk0 own hi hP htk0 htk => ?_) done hx hk
  · exact absurd F.ns.lt (List.mem_singleton.mp q ▸ Nat.lt_irrefl _)
  · rw [List.mem_singleton.mp hb]; exact gnone F (Nat.le_refl _)
  · exact ne_size (N q hq).1 (List.mem_singleton.mp hf)
  · obtain ⟨ti, rfl⟩ := hP
    have e : (0 : Int) + (i : Int) * 1 = i := by exact Mine.om121
    rw [e]
    exact turn i ti m ld h tk tk0 own hi htk0 htk
end
end Mine
end
section
open PySem PySem.W PyProof.Rows PySem.Calls PySem.Spec
set_option maxHeartbeats 1000000
namespace Mine
inductive NextK (g : Heap) (L : Addr) (ld : List (Addr × Obj)) (J : (Str → Option Value) → Prop) (own : List (Addr × Obj)) (gs : Array GenState) (dr : Drawn) (os : OsState) (s₂ : Shared) : Prop
  | mk (h' : Heap) (tk : Nat) (m' : Str → Option Value) (e : s₂ = ⟨h', gs, dr, tk, os⟩) (F : Fr g L h' m') (N : News g L h' (ld ++ own)) (j : J m')
def TurnEndK (g : Heap) (L : Addr) (ld : List (Addr × Obj)) (J : (Str → Option Value) → Prop) (own : List (Addr × Obj)) (s : Shared) (Q : Flow → Shared → Prop) (f : Flow) (s₂ : Shared) : Prop :=
  match f with
  | .ret v => Q (.ret v) s₂
  | .brk => Q .next s₂
  | _ => NextK g L ld J own s.gens s.drawn s.os s₂
section
variable {w : World} {A : Around} {s : Shared} {g : Heap} {env : Env} {target : Expr} {body orelse : List Stmt} {Q : Flow → Shared → Prop} {E : Value → Shared → Prop} {m₀ : Str → Option Value} {ld₀ : List (Addr × Obj)}
theorem forK {I : Addr} {fp wr : List Addr} {n : Nat} {P : Nat → Value → Prop} {St : Nat → Heap → Prop}
    (W : Walks PG w A I fp wr n P St) (J : Nat → (Str → Option Value) → Prop)
    (hLf : env.locals ∉ fp) (hwr : ∀ b ∈ wr, g.get? b = none) (hfp : ∀ q ∈ ld₀, q.1 ∉ wr) (hst : St 0 s.heap)
    (F : Fr g env.locals s.heap m₀) (N : News g env.locals s.heap ld₀) (h0 : J 0 m₀)
    (turn : ∀ (i : Nat) (v : Value) (m : Str → Option Value) (h : Heap) (tk : Nat) (own : List (Addr × Obj)), i < n → P i v → s.toks ≤ tk → J i m → St (i + 1) h → Fr g env.locals h m → News g env.locals h (ld₀ ++ own) →
      wpAny (model PG w) A (letOwnedTupleGo target (.ref I) v) (fun _ s₁ => wpAny (model PG w) A (assign target env v) (fun _ s₂ =>
        wpAny (model PG w) A (execs body env) (fun f s₃ => TurnEndK g env.locals ld₀ (J (i + 1)) own s Q f s₃) NoE s₂) NoE s₁) NoE { s with heap := h, toks := tk })
    (done : ∀ (m : Str → Option Value) (h : Heap) (tk : Nat), s.toks ≤ tk → J n m → Fr g env.locals h m → News g env.locals h ld₀ → wpAny (model PG w) A (execs orelse env) Q NoE { s with heap := h, toks := tk }) :
    codeAny (model PG w) A (.forLoop target (.ref I) body orelse env) (LoopR Q) s := by
  refine codeAny_forLoop_any (ForI n St g env.locals (fun i _ m ld => ld₀ = ld ∧ J i m) s) ?_ (n - 0) ⟨0, s.heap, s.toks, m₀, ld₀, rfl, Nat.zero_le _, Nat.le_refl _, rfl, hst, F, N, rfl, h0⟩
  intro k s' hJa
  refine byGoal fun P9 k9 => ?_
  obtain ⟨i, h, tk, m, ld, rfl, hin, htk, rfl, hSt, F₁, N₁, rfl, hJ⟩ := hJa
  refine k9 ?_
  clear k9 P9
  refine later ?_
  by_cases hlt : i < n
  · refine W.item i _ _ _ hlt hSt fun v h' tk' hP hSt' hk htk' => ?_
    have htk' : tk ≤ tk' := htk'.1
    have hwl : env.locals ∉ wr := fun q => hLf (W.sub _ q)
    refine byGoal fun P9 k9 => ?_
    obtain ⟨oL, es, ep, hL, r⟩ := id F₁.ns
    refine k9 ?_
    clear k9 P9
    have F₂ : Fr g env.locals h' m := ⟨⟨oL, es, ep, hk _ _ hwl hL, r⟩, fun b o e => hk b o (fun q => by rw [hwr b q] at e; cases e) (F₁.keep b o e), F₁.above⟩
    have N₂ : News g env.locals h' ld₀ := fun p hp => ⟨hk _ _ (hfp p hp) (N₁ p hp).1, (N₁ p hp).2⟩
    have N₃ : News g env.locals h' (ld₀ ++ ownOf g fp h') := N₂.append (news_ownOf hLf)
    refine later (wpAny_mono (turn i v m h' tk' _ hlt hP (Nat.le_trans htk htk') hJ hSt' F₂ N₃) (fun _ s₁ h₁ l1 => later (wpAny_mono h₁ (fun _ s₂ h₂ l2 => later (wpAny_mono h₂ (fun f s₃ h₃ l3 => ?_) fun _ _ x => x.elim)) fun _ _ x => x.elim)) fun _ _ x => x.elim)
    have nx : NextK g env.locals ld₀ (J (i + 1)) (ownOf g fp h') s.gens s.drawn s.os s₃ →
        ∃ m, m < n - i ∧ ForI n St g env.locals (fun i _ m ld => ld₀ = ld ∧ J i m) s m s₃ := by
      intro hJa
      refine byGoal fun P9 k9 => ?_
      obtain ⟨h'', tk'', m', rfl, F', N', hJ'⟩ := hJa
      refine k9 ?_
      clear k9 P9
      refine ⟨n - (i + 1), by exact Mine.om9 hlt, i + 1, h'', tk'', m', _, rfl, hlt, ?_, rfl, ?_, F', fun p hp => N' p (List.mem_append_left _ hp), rfl, hJ'⟩
      · have := ((l1.trans l2).trans l3).1; exact Nat.le_trans (Nat.le_trans htk htk') this
      · refine W.frame _ _ _ hSt' fun b hb o e => ?_
        cases q : g.get? b with
        | none => exact (N' (b, o) (List.mem_append_right _ (mem_ownOf hb q e))).1
        | some x => have e' := F₂.keep _ _ q; rw [e] at e'; cases e'; exact F'.keep _ _ q
    cases f with
    | next => exact nx h₃
    | cont => exact nx h₃
    | brk => exact h₃
    | ret v => exact h₃
  · have hi : i = n := by exact Mine.om10 hin hlt
    subst hi
    refine W.done _ _ _ hSt fun h' tk' hk htk' => ?_
    have hwl : env.locals ∉ wr := fun q => hLf (W.sub _ q)
    refine byGoal fun P9 k9 => ?_
    obtain ⟨oL, es, ep, hL, r⟩ := id F₁.ns
    refine k9 ?_
    clear k9 P9
    have F₂ : Fr g env.locals h' m := ⟨⟨oL, es, ep, hk _ _ hwl hL, r⟩, fun b o e => hk b o (fun q => by rw [hwr b q] at e; cases e) (F₁.keep b o e), F₁.above⟩
    have N₂ : News g env.locals h' ld₀ := fun p hp => ⟨hk _ _ (hfp p hp) (N₁ p hp).1, (N₁ p hp).2⟩
    exact wpAny_mono (done m h' tk' (Nat.le_trans htk htk'.1) hJ F₂ N₂) (fun _ _ x => x) fun _ _ x => x.elim
theorem for_listK {L : Addr} {l : Addr} {vs : List Value} (J : Nat → (Str → Option Value) → Prop)
    (hh : A.handled = none) (hl : s.heap.IsList l vs.toArray) (hlL : l ≠ L)
    (F : Fr g L s.heap m₀) (N : News g L s.heap ld₀) (h0 : J 0 m₀)
    (turn : ∀ (i : Nat) (v : Value) (m : Str → Option Value) (h : Heap) (tk : Nat) (own : List (Addr × Obj)), vs[i]? = some v → s.toks ≤ tk → J i m →
      Fr g L h m → News g L h (ld₀ ++ own) →
      wpAny (model PG w) A (assign target env v) (fun _ s₂ => wpAny (model PG w) A (execs body env) (fun f s₃ => TurnEndK g L ld₀ (J (i + 1)) own s Q f s₃) NoE s₂) NoE { s with heap := h, toks := tk })
    (done : ∀ (m : Str → Option Value) (h : Heap) (tk : Nat), s.toks ≤ tk → J vs.length m → Fr g L h m → News g L h ld₀ → wpAny (model PG w) A (execs orelse env) Q NoE { s with heap := h, toks := tk })
    (hL : autoParam (env.locals = L) aR._auto_1) :
    wpAny (model PG w) A (pyIter (.ref l)) (forGoal w A env target body orelse Q) E s := by
  subst hL
  refine byGoal fun P9 k9 => ?_
  obtain ⟨ol, hol, rl⟩ := id hl
  refine k9 ?_
  clear k9 P9
  refine wpAny_pyIter_list hl ?_
  have hlen : vs.toArray.size = vs.length := by simp
  have W := Walks.list (prog := PG) (w := w) hh s.heap.objs.size l (ne_size hol) vs.toArray
  rw [hlen] at W
  refine forK W J (fun q => ?_) (fun b hb => ?_) (fun q hq hf => ?_) ⟨⟨_, Heap.get?_push_size _ rfl, rfl, rfl⟩, ⟨ol, Heap.get?_push_of_some _ hol, rl⟩⟩ (F.push _) (fun p hp => ⟨Heap.get?_push_of_some _ (N p hp).1, (N p hp).2⟩) h0 (fun i v m h tk own hi hP htk hJ hst F N => by
    refine byGoal fun P9 k9 => ?_
    obtain ⟨⟨oI, hoI, hcI, _⟩, _⟩ := hst
    refine k9 ?_
    clear k9 P9
    exact letGo (prog := PG) (n := _) hoI hcI rfl (turn i v m h tk own (by simpa using hP) htk hJ F N)) done
  · rcases List.mem_cons.mp q with q | q
    · exact absurd F.ns.lt (q ▸ Nat.lt_irrefl _)
    · exact hlL (List.mem_singleton.mp q).symm
  · rw [List.mem_singleton.mp hb]; exact gnone F (Nat.le_refl _)
  · exact ne_size (N q hq).1 (List.mem_singleton.mp hf)
end
end Mine
end
section
open PySem PySem.W PyProof.Rows PySem.Calls PySem.Spec
set_option maxHeartbeats 1000000
namespace Mine
theorem compAtW {use : Use} {L : Addr} {w : World} {A : Around} {s : Shared} {g : Heap} {env : Env} {elt iter : Expr} {x : Str} {px : Pos} {ifs : List Expr} {scope : Scope} {cl : List (Str × Addr)} {pos : Pos} {Q : Value → Shared → Prop}
    {I : Addr} {fp wr : List Addr} {n : Nat} {P : Nat → Value → Prop} {St : Nat → Heap → Prop} {m₀ : Str → Option Value} {ld₀ : List (Addr × Obj)}
    (W : Walks PG w A I fp wr n P St) (J : Nat → Nat → List Value → List (Addr × Obj) → Prop) (hsz : n ≤ sizeLine)
    (hLf : L ∉ fp) (hwr : ∀ b ∈ wr, g.get? b = none) (hfp : ∀ q ∈ ld₀, q.1 ∉ wr) (hfl : ∀ b ∈ fp, b < s.heap.objs.size) (hst : St 0 s.heap)
    (F : Fr g L s.heap m₀) (N : News g L s.heap ld₀) (h0 : J 0 s.toks [] ld₀)
    (turn : ∀ (i : Nat) (v : Value) (ys : List Value) (ld : List (Addr × Obj)) (h : Heap) (tk tk0 : Nat) (own : List (Addr × Obj)) (C : Addr) (m : Str → Option Value), i < n → P i v → s.toks ≤ tk0 → tk0 ≤ tk → ld.map (·.1) = ld₀.map (·.1) → J i tk0 ys ld → ys.length ≤ i → (∀ p ∈ own, ∀ b ∈ ld₀.map (·.1), b ∉ fp → @Ne Nat p.1 b) → Fr g C h (fun y => if y = x then some v else m y) → News g C h (ld ++ own) →
      wpAny (model PG w) A (forIn ifs true fun c r => if r = true then do let ok ← isTrue c (compEnvC scope cl C env) (eval c (compEnvC scope cl C env)); pure (ForInStep.yield ok) else pure (ForInStep.yield r))
        (fun ok s₃ => if ok = true then wpAny (model PG w) A (eval elt (compEnvC scope cl C env)) (fun y s₄ => Later { s with heap := h, toks := tk } s₄ → EltEnd g C (J (i + 1)) own (ld₀.map (·.1)) s (ys ++ [y]) s₄) NoE s₃ else Later { s with heap := h, toks := tk } s₃ → EltEnd g C (J (i + 1)) own (ld₀.map (·.1)) s ys s₃)
        NoE { s with heap := h, toks := tk })
    (done : ∀ (D : Addr) (ys : List Value) (ld : List (Addr × Obj)) (h : Heap) (tk tk0 k : Nat), s.toks ≤ tk0 → tk0 ≤ tk → J n tk0 ys ld → Fr g L h (mUse use m₀ D) → News g L h ((D, { cls := .type "list", data := .seq ys.toArray k }) :: ld) → (∀ p ∈ ld, p.1 < D) → Q (.ref D) { s with heap := h, toks := tk })
    (hcell : autoParam (∀ y ∈ scope.names, y.2 ≠ .cell) aD._auto_1) (hkind : autoParam (scope.kind = .function) aR._auto_1) (hx : autoParam (scope.names.lookup x = some .local) aR._auto_1) (hL : autoParam (env.locals = L) aR._auto_1) :
    CompGoal w A use elt [⟨.Name x px, iter, ifs, 0⟩] scope cl pos env Q (.ref I) s := by
  subst hL
  intro huse
  have disj : ∀ (ld : List (Addr × Obj)), ld.map (·.1) = ld₀.map (·.1) → ∀ p ∈ ld, p.1 ∉ wr := fun ld e p hp => by
    have : p.1 ∈ ld₀.map (·.1) := e ▸ List.mem_map_of_mem hp
    refine byGoal fun P9 k9 => ?_
    obtain ⟨q, hq, e'⟩ := List.mem_map.mp this
    refine k9 ?_
    clear k9 P9
    exact e' ▸ hfp q hq
  have small : ∀ (ld : List (Addr × Obj)), ld.map (·.1) = ld₀.map (·.1) → ∀ p ∈ ld, p.1 < s.heap.objs.size := fun ld e p hp => by
    have : p.1 ∈ ld₀.map (·.1) := e ▸ List.mem_map_of_mem hp
    refine byGoal fun P9 k9 => ?_
    obtain ⟨q, hq, e'⟩ := List.mem_map.mp this
    refine k9 ?_
    clear k9 P9
    rw [← e']; exact Heap.lt_size (N q hq).1
  refine wpAny_newObj_type (wpAny_newFunctionEnv hcell (by intro y hy; simp at hy) (fun h₁ hns₁ hsb₁ => ?_) hkind)
  dsimp only at hns₁ hsb₁ ⊢
  generalize hH2 : s.heap.push { cls := .type "list", dict := none, data := .seq ([] : List Value).toArray } = H2 at hns₁ hsb₁ ⊢
  have hC : H2.objs.size = s.heap.objs.size + 1 := by rw [← hH2, Heap.size_push]
  obtain ⟨D, hD⟩ : ∃ D : Nat, s.heap.objs.size = D := ⟨_, rfl⟩
  obtain ⟨C, hCe⟩ : ∃ C : Nat, H2.objs.size = C := ⟨_, rfl⟩
  rw [hCe] at hns₁ hsb₁ hC ⊢
  rw [hD] at hC ⊢
  have hDC : D ≠ C := by exact Mine.om104 hC
  have old : ∀ b o, s.heap.get? b = some o → h₁.get? b = some o := fun b o e => hsb₁.extBut b o (by have := ltN (Heap.lt_size e); refine neN ?_; exact Mine.om105 hD hC this) (Heap.get?_push_of_some _ (hH2 ▸ Heap.get?_push_of_some _ e))
  have hacc : h₁.get? D = some { cls := .type "list", data := .seq ([] : List Value).toArray } := hsb₁.extBut _ _ hDC (Heap.get?_push_of_some _ (hH2 ▸ hD ▸ Heap.get?_push_size _ rfl))
  have gS : g.objs.size ≤ C := by have := leN F.above; have := ltN F.ns.lt; exact Mine.om106 hD hC (by assumption) this
  have gn : ∀ b, D ≤ b → g.get? b = none := fun b hb => by
    cases q : g.get? b with
    | none => rfl
    | some o => have := ltN (Heap.lt_size (F.keep _ _ q)); exact False.elim (Mine.om107 hD hb this)
  refine byGoal fun P9 k9 => ?_
  obtain ⟨oL, esL, epL, hoL, hrL⟩ := id F.ns
  refine k9 ?_
  clear k9 P9
  have hLlt : env.locals < D := hD ▸ Heap.lt_size hoL
  -- the invariant
  let Inv : Nat → Shared → Prop := CInv n St s g C D (env.locals, oL) (fun ld => ld.map (·.1) = ld₀.map (·.1)) J
  have gL : g.get? env.locals = none := by
    cases q : g.get? env.locals with
    | none => rfl
    | some o => have := ltN (Heap.lt_size q); have := leN F.above; exact False.elim (Mine.om86 (by assumption) this)
  have loop : ∀ s₃ : Shared, s₃ = { s with heap := h₁, toks := s.toks + ([] : List (Str × Value)).length } →
      codeAny (model PG w) A (.compLoop (.ListComp elt [⟨.Name x px, iter, ifs, 0⟩] scope pos) 0 (.ref I) (.ref D) (compEnvC scope cl C env))
        (usePost w A use env Q (.ref D) C) s₃ := by
    rintro s₃ rfl
    refine codeAny_compLoop_tests Inv ?_ (n - 0) ⟨0, h₁, s.toks, (fun x => ([] : List (Str × Value)).reverse.lookup x), [], ld₀, 0, rfl, Nat.zero_le _, Nat.le_refl _, rfl, W.frame _ _ _ hst fun b _ o e => old b o e, ⟨hns₁, fun b o e => old b o (F.keep b o e), gS⟩, ?_, rfl, Nat.le_refl _, h0⟩
    · intro k s' hJa
      refine byGoal fun P9 k9 => ?_
      obtain ⟨i, h, tk, m, ys, ld, ep, rfl, hin, htk, rfl, hSt, F₁, N₁, hadr, hys, hJ⟩ := hJa
      refine k9 ?_
      clear k9 P9
      have hDh := (N₁ _ (.head _)).1
      have hLh := (N₁ _ (.tail _ (.head _))).1
      have hCf : C ∉ fp := fun q => by have := ltN (hfl _ q); exact Mine.om108 hD hC this
      have hDf : D ∉ fp := fun q => by have := ltN (hfl _ q); exact Mine.om109 hD this
      refine later ?_
      by_cases hlt : i < n
      · refine W.item i _ _ _ hlt hSt fun v h' tk' hP hSt' hk htk' => ?_
        have htk' : tk ≤ tk' := htk'.1
        refine byGoal fun P9 k9 => ?_
        obtain ⟨oC, es, ep', hCo, r⟩ := id F₁.ns
        refine k9 ?_
        clear k9 P9
        have F₂ : Fr g C h' m := ⟨⟨oC, es, ep', hk _ _ (fun q => hCf (W.sub _ q)) hCo, r⟩, fun b o e => hk b o (fun q => by rw [hwr b q] at e; cases e) (F₁.keep b o e), F₁.above⟩
        have N₂ : News g C h' ((D, { cls := .type "list", data := .seq ys.toArray ep }) :: (env.locals, oL) :: ld) := fun p hp => ⟨hk _ _ (fun q => by
          rcases List.mem_cons.mp hp with rfl | hp
          · exact hDf (W.sub _ q)
          · rcases List.mem_cons.mp hp with rfl | hp
            · exact hLf (W.sub _ q)
            · exact disj ld hadr p hp q) (N₁ p hp).1, (N₁ p hp).2⟩
        have kx : (compEnvC scope cl C env).kindOf x = some .local := lookup_relabel_local hx
        refine later ?_
        refine assign_Name ?_
        refine (wpAny_storeName_local kx F₂.ns (fun h'' hn'' hs'' l1 => ?_) (by show (scope.kind == .class || (scope.kind == .module && _)) = false; rw [hkind]; rfl))
        have F₃ := F₂.set hn'' hs''
        have N₃ := N₂.set hs''
        have hSt₃ : St (i + 1) h'' := W.frame _ _ _ hSt' fun b hb o e => (hs''.2 b (fun q => hCf (by rw [q] at hb; exact hb))).trans e
        let own := (D, ({ cls := .type "list", data := .seq ys.toArray ep } : Obj)) :: (env.locals, oL) :: ownOf g fp h''
        have hown : News g C h'' (ld ++ own) := fun p hp => by
          rcases List.mem_append.mp hp with hp | hp
          · exact N₃ p (.tail _ (.tail _ hp))
          · rcases List.mem_cons.mp hp with rfl | hp
            · exact N₃ _ (.head _)
            · rcases List.mem_cons.mp hp with rfl | hp
              · exact N₃ _ (.tail _ (.head _))
              · exact news_ownOf hCf p hp
        have hoffW : ∀ p ∈ own, ∀ b ∈ ld₀.map (·.1), b ∉ fp → @Ne Nat p.1 b := fun p hp b hb hbf e => by
          have e : p.1 = b := e
          refine byGoal fun P9 k9 => ?_
          obtain ⟨q, hq, hqb⟩ := List.mem_map.mp hb
          refine k9 ?_
          clear k9 P9
          rcases List.mem_cons.mp hp with rfl | hp
          · have := ltN (small ld₀ rfl q hq); have := eqN (e.trans hqb.symm); exact Mine.om110 hD (by assumption) this
          · rcases List.mem_cons.mp hp with rfl | hp
            · exact (N q hq).2.1 (hqb.trans e.symm)
            · refine byGoal fun P9 k9 => ?_
              obtain ⟨c, hc, hc'⟩ := List.mem_filterMap.mp hp
              refine k9 ?_
              clear k9 P9
              have : p.1 = c := by
                split at hc'
                · cases ho : h''.get? c with
                  | none => rw [ho] at hc'; cases hc'
                  | some o => rw [ho] at hc'; cases hc'; rfl
                · cases hc'
              exact hbf (e ▸ this ▸ hc)
        have fin : ∀ ys' (s₄ : Shared), EltEnd g C (J (i + 1)) own (ld₀.map (·.1)) s ys' s₄ → FinC s g C (D, { cls := .type "list", data := .seq ys.toArray ep }) (env.locals, oL) (fun h' tk ld' => ld'.map (·.1) = ld₀.map (·.1) ∧ J (i + 1) tk ys' ld' ∧ St (i + 1) h' ∧ News g C h' (ownOf g fp h'')) s₄ := by
          intro ys' s₄ hJa
          refine byGoal fun P9 k9 => ?_
          obtain ⟨h', tk, m', ld', rfl, F', N', ha, hj⟩ := hJa
          refine k9 ?_
          clear k9 P9
          refine ⟨h', tk, m', ld', rfl, F', fun p hp => ?_, ha, hj, W.frame _ _ _ hSt₃ fun b hb o e => ?_, fun p hp => N' p (List.mem_append_right _ (.tail _ (.tail _ hp)))⟩
          · rcases List.mem_cons.mp hp with rfl | hp
            · exact N' _ (List.mem_append_right _ (.head _))
            · rcases List.mem_cons.mp hp with rfl | hp
              · exact N' _ (List.mem_append_right _ (.tail _ (.head _)))
              · exact N' _ (List.mem_append_left _ hp)
          · cases q : g.get? b with
            | none => exact (N' (b, o) (List.mem_append_right _ (.tail _ (.tail _ (mem_ownOf hb q e))))).1
            | some x => have e' := F₃.keep _ _ q; rw [e] at e'; cases e'; exact F'.keep _ _ q
        have hl2 : tk' ≤ tk' + 1 := Nat.le_succ _
        refine later (wpAny_mono (turn i v ys ld h'' (tk' + 1) tk own C m hlt hP htk (by exact Mine.om111 htk') hadr hJ hys hoffW F₃ hown) (fun ok s₃ h₃ l2 => ?_) fun _ _ x => x.elim)
        by_cases hok : ok = true
        · rw [if_pos hok] at h₃ ⊢
          refine later (wpAny_mono h₃ (fun y s₄ h₄' l3 => ?_) fun _ _ x => x.elim)
          have h₄ := h₄' (l2.trans l3)
          refine byGoal fun P9 k9 => ?_
          obtain ⟨h4, tk4, m4, ld4, rfl, F4, N4, ha4, hj4, hst4, NO4⟩ := fin _ _ h₄
          refine k9 ?_
          clear k9 P9
          have hO : ∀ p ∈ ownOf g fp h'', p.1 ∈ fp := fun p hp => by
            refine byGoal fun P9 k9 => ?_
            obtain ⟨c, hc, hc'⟩ := List.mem_filterMap.mp hp
            refine k9 ?_
            clear k9 P9
            have : p.1 = c := by
              split at hc'
              · cases ho : h''.get? c with
                | none => simp [ho] at hc'
                | some o => simp [ho] at hc'; rw [← hc']
              · cases hc'
            rw [this]; exact hc
          have N4' : News g C h4 ((D, { cls := .type "list", data := .seq ys.toArray ep }) :: (((env.locals, oL) :: ld4) ++ ownOf g fp h'')) := by
            intro p hp
            rcases List.mem_cons.mp hp with rfl | hp
            · exact N4 _ (.head _)
            · exact (List.mem_append.mp hp).elim (fun h => N4 p (.tail _ h)) (NO4 p)
          have ne4 : ∀ p ∈ ((env.locals, oL) :: ld4) ++ ownOf g fp h'', p.1 ≠ D := fun p hp => by
            rcases List.mem_append.mp hp with hp | hp
            case inr => exact fun q => hDf (by rw [q.symm]; exact hO p hp)
            rcases List.mem_cons.mp hp with rfl | hp
            · show env.locals ≠ D; have := ltN hLlt; refine neN ?_; exact Mine.om112 this
            · have := ltN (small ld4 ha4 p hp); refine neN ?_; exact Mine.om113 hD this
          refine later (append_K (n := ep) (its := ys.toArray) F4 N4' (Upd.head ne4) (fun h5 F5 N5 l4 => ?_) (by rw [List.size_toArray]; exact Nat.le_trans (Nat.le_trans hys (Nat.le_of_lt hlt)) hsz))
          have e5 : ys.toArray.push y = (ys ++ [y]).toArray := by simp
          rw [e5] at N5
          have N5' := news_sub (ld' := (D, { cls := .type "list", data := .seq (ys ++ [y]).toArray (ep + 1) }) :: (env.locals, oL) :: ld4) N5 (fun p hp => by
            rcases List.mem_cons.mp hp with rfl | hp
            · exact .head _
            · exact .tail _ (List.mem_append_left _ hp))
          refine ⟨n - (i + 1), by exact Mine.om9 hlt, i + 1, h5, _, m4, ys ++ [y], ld4, ep + 1, rfl, hlt, ?_, rfl, ?_, F5, N5', ha4, by rw [List.length_append]; show ys.length + 1 ≤ _; exact Mine.om114 hys, hj4⟩
          · have a := l2.1; have b := l3.1; have c := l4.1; simp only at a b c ⊢; exact Mine.om115 htk htk' a b
          · refine W.frame _ _ _ hSt₃ fun b hb o e => ?_
            cases q : g.get? b with
            | none => exact (N5 (b, o) (.tail _ (List.mem_append_right _ (mem_ownOf hb q e)))).1
            | some x => have e' := F₃.keep _ _ q; rw [e] at e'; cases e'; exact F5.keep _ _ q
        · rw [if_neg hok] at h₃ ⊢
          have h₃ := h₃ l2
          refine byGoal fun P9 k9 => ?_
          obtain ⟨h4, tk4, m4, ld4, rfl, F4, N4, ha4, hj4, hst4, NO4⟩ := fin _ _ h₃
          refine k9 ?_
          clear k9 P9
          refine ⟨n - (i + 1), by exact Mine.om9 hlt, i + 1, h4, tk4, m4, ys, ld4, ep, rfl, hlt, ?_, rfl, hst4, F4, N4, ha4, by exact Mine.om111 hys, hj4⟩
          have a := l2.1; simp only at a ⊢; exact Mine.om116 htk htk' a
      · have hi : i = n := by exact Mine.om10 hin hlt
        subst hi
        refine W.done _ _ _ hSt fun h' tk' hk htk' => ?_
        refine byGoal fun P9 k9 => ?_
        obtain ⟨oC, es, ep', hCo, r⟩ := id F₁.ns
        refine k9 ?_
        clear k9 P9
        have hCf' : C ∉ wr := fun q => hCf (W.sub _ q)
        have base : ∀ h'', Heap.SameBut C h' h'' → Fr g env.locals h'' m₀ ∧ News g env.locals h'' ((D, { cls := .type "list", data := .seq ys.toArray ep }) :: ld) := fun h'' hs'' => by
          have up : ∀ b o, b ∉ wr → b ≠ C → h.get? b = some o → h''.get? b = some o := fun b o hb hbC e => (hs''.2 b hbC).trans (hk b o hb e)
          refine ⟨⟨⟨oL, esL, epL, up _ _ (fun q => hLf (W.sub _ q)) (by have := ltN hLlt; refine neN ?_; exact Mine.om117 hC this) hLh, hrL⟩, fun b o e => up b o (fun q => by rw [hwr b q] at e; cases e) (fun q => by rw [q, gn C (by exact Mine.om118 hC)] at e; cases e) (F₁.keep b o e), F.above⟩, fun p hp => ?_⟩
          rcases List.mem_cons.mp hp with rfl | hp
          · exact ⟨up _ _ (fun q => hDf (W.sub _ q)) hDC hDh, by show D ≠ _; have := ltN hLlt; refine neN ?_; exact Mine.om119 this, gn D (Nat.le_refl _)⟩
          · have hp' := N₁ p (.tail _ (.tail _ hp))
            refine ⟨up _ _ (fun q => disj ld hadr p hp q) hp'.2.1 hp'.1, ?_, hp'.2.2⟩
            have : p.1 ∈ ld₀.map (·.1) := hadr ▸ List.mem_map_of_mem hp
            refine byGoal fun P9 k9 => ?_
            obtain ⟨q, hq, e'⟩ := List.mem_map.mp this
            refine k9 ?_
            clear k9 P9
            rw [← e']; exact (N q hq).2.1
        have hnC : h'.Ns C m := ⟨oC, es, ep', hk _ _ hCf' hCo, r⟩
        have hLC : env.locals ≠ C := by have := ltN hLlt; refine neN ?_; exact Mine.om117 hC this
        cases use with
        | none =>
          refine ⟨m, hnC, fun h'' hs'' => ?_⟩
          obtain ⟨F₄, N₄⟩ := base h'' hs''
          exact done D ys ld h'' tk' tk ep htk htk'.1 hJ F₄ N₄ (fun p hp => hD ▸ small ld hadr p hp)
        | some y =>
          show wpAny _ A (assign (.Name y.1 y.2) env (.ref D)) _ _ _
          obtain ⟨hy, hp⟩ := huse y rfl
          obtain ⟨F₄, N₄⟩ := base h' (Heap.SameBut.refl ..)
          refine wpAny_assign_Name (wpAny_storeName_local hy F₄.ns (fun h₂ hn₂ hs₂ => ?_) hp)
          refine ⟨m, hnC.sameBut hs₂ (Ne.symm hLC), fun h₃ hs₃ => ⟨.ref D, ?_⟩⟩
          have F₅ := F₄.set hn₂ hs₂
          have N₅ := N₄.set hs₂
          have gC : g.get? C = none := gn C (by exact Mine.om118 hC)
          refine done D ys ld h₃ (tk' + 1) tk ep htk (Nat.le_succ_of_le htk'.1) hJ ⟨F₅.ns.sameBut hs₃ hLC, fun b o e => (hs₃.2 b (fun q => by rw [q, gC] at e; cases e)).trans (F₅.keep b o e), F₅.above⟩ (fun p hp => ⟨(hs₃.2 p.1 ?_).trans (N₅ p hp).1, (N₅ p hp).2⟩) (fun p hp => hD ▸ small ld hadr p hp)
          rcases List.mem_cons.mp hp with rfl | hp
          · exact hDC
          · have := ltN (small ld hadr p hp); refine neN ?_; exact Mine.om105 hD hC this
    · intro p hp
      rcases List.mem_cons.mp hp with rfl | hp
      · exact ⟨hacc, hDC, gn D (Nat.le_refl _)⟩
      · rcases List.mem_cons.mp hp with rfl | hp
        · exact ⟨old _ _ hoL, by show env.locals ≠ C; have := ltN hLlt; refine neN ?_; exact Mine.om117 hC this, gL⟩
        · exact ⟨old _ _ (N p hp).1, by have := ltN (Heap.lt_size (N p hp).1); show p.1 ≠ C; refine neN ?_; exact Mine.om105 hD hC this, (N p hp).2.2⟩
  have hst1 : St 0 h₁ := W.frame _ _ _ hst fun b _ o e => old b o e
  exact codeAny_compStart_list (loop _ rfl) (W.self 0 _ _ _ hst1 (loop _ rfl))
section
variable {use : Use} {w : World} {A : Around} {s : Shared} {g : Heap} {env : Env} {iter c : Expr} {x : Str} {px pe : Pos} {scope : Scope} {cl : List (Str × Addr)} {pos : Pos} {Q : Value → Shared → Prop} {E : Value → Shared → Prop} {m₀ : Str → Option Value} {ld₀ : List (Addr × Obj)}
theorem comp_filterW {L : Addr} {I : Addr} {fp wr : List Addr} {n : Nat} {P : Nat → Value → Prop} {St : Nat → Heap → Prop} {α : Type}
    (W : Walks PG w A I fp wr n P St) (rel : Value → α → Prop) (p : α → Bool) (xs : List α) (hsz : n ≤ sizeLine)
    (hLf : L ∉ fp) (hwr : ∀ b ∈ wr, g.get? b = none) (hfp : ∀ q ∈ ld₀, q.1 ∉ wr) (hfl : ∀ b ∈ fp, b < s.heap.objs.size) (hst : St 0 s.heap)
    (F : Fr g L s.heap m₀) (N : News g L s.heap ld₀) (hP : ∀ i v, i < n → P i v → ∃ a, xs[i]? = some a ∧ rel v a) (hn : xs.length = n)
    (turn : ∀ (i : Nat) (v : Value) (a : α) (h : Heap) (tk : Nat) (own : List (Addr × Obj)) (C : Addr) (m : Str → Option Value), xs[i]? = some a → rel v a → s.toks ≤ tk → Fr g C h (fun y => if y = x then some v else m y) → News g C h (ld₀ ++ own) →
      wpAny (model PG w) A (isTrue c (compEnvC scope cl C env) (eval c (compEnvC scope cl C env))) (fun ok s₃ => Later { s with heap := h, toks := tk } s₃ → FiltEnd g C (ld₀ ++ own) s x v (p a) ok s₃) NoE { s with heap := h, toks := tk })
    (done : ∀ (D : Addr) (ys : List Value) (h : Heap) (tk k : Nat), s.toks ≤ tk → Fr g L h (mUse use m₀ D) → News g L h ((D, { cls := .type "list", data := .seq ys.toArray k }) :: ld₀) → (∀ p ∈ ld₀, p.1 < D) → All2 rel ys (xs.filter p) → Q (.ref D) { s with heap := h, toks := tk })
    (hcell : autoParam (∀ y ∈ scope.names, y.2 ≠ .cell) aD._auto_1) (hkind : autoParam (scope.kind = .function) aR._auto_1) (hx : autoParam (scope.names.lookup x = some .local) aR._auto_1) (hd : autoParam ((x == ("__debug__" : Str)) = false) aD._auto_1) (hL : autoParam (env.locals = L) aR._auto_1) :
    CompGoal w A use (.Name x pe) [⟨.Name x px, iter, [c], 0⟩] scope cl pos env Q (.ref I) s := by
  subst hL
  refine compAtW (ld₀ := ld₀) W (fun i tk ys ld => ld = ld₀ ∧ All2 rel ys ((xs.take i).filter p)) hsz hLf hwr hfp hfl hst F N ⟨rfl, .nil⟩ ?_ ?_ hcell hkind hx
  · rintro i v ys ld h tk tk0 own C m hi hPi h1 h2 had ⟨rfl, hys⟩ _ _ F₁ N₁
    refine byGoal fun P9 k9 => ?_
    obtain ⟨a, ha, hr⟩ := hP i v hi hPi
    refine k9 ?_
    clear k9 P9
    rw [List.forIn_cons]
    refine wpAny_bind ?_
    rw [if_pos rfl]
    refine wpAny_bind (later (wpAny_mono (turn i v a h tk own C m ha hr (Nat.le_trans h1 h2) F₁ N₁) (fun ok s₃ hend lt => ?_) fun _ _ x => x.elim))
    refine byGoal fun P9 k9 => ?_
    obtain ⟨h', tk', m', rfl, F', N', hv, rfl⟩ := hend lt
    refine k9 ?_
    clear k9 P9
    refine wpAny_pure ?_
    show wpAny _ _ (forIn [] (p a) _) _ _ _
    rw [List.forIn_nil]
    refine wpAny_pure ?_
    cases hq : p a with
    | true =>
      rw [if_pos rfl]
      refine ldC F' hv (fun _ => ?_) hkind (lookup_relabel_local hx) hd
      exact ⟨h', tk', m', ld, rfl, F', N', rfl, rfl, by rw [take_succ_of ha, List.filter_append, List.filter_cons_of_pos (by rw [hq])]; exact hys.snoc hr⟩
    | false =>
      rw [if_neg (by decide)]
      exact fun _ => ⟨h', tk', m', ld, rfl, F', N', rfl, rfl, by rw [take_succ_of ha, List.filter_append, List.filter_cons_of_neg (by rw [hq]; decide), List.filter_nil, List.append_nil]; exact hys⟩
  · rintro D ys ld h tk tk0 k h1 h2 ⟨rfl, hys⟩ F₁ N₁ hlt
    rw [List.take_of_length_le (Nat.le_of_eq hn)] at hys
    exact done D ys h tk k (Nat.le_trans h1 h2) F₁ N₁ hlt hys

theorem filt_listW {L : Addr} {l : Addr} {vs : List Value} (p : Value → Bool) (hh : A.handled = none) (hl : s.heap.IsList l vs.toArray) (hlL : l ≠ L) (hsz : vs.length ≤ sizeLine)
    (F : Fr g L s.heap m₀) (N : News g L s.heap ld₀)
    (turn : ∀ (i : Nat) (v : Value) (h : Heap) (tk : Nat) (own : List (Addr × Obj)) (C : Addr) (m : Str → Option Value), vs[i]? = some v → s.toks ≤ tk → Fr g C h (fun y => if y = x then some v else m y) → News g C h (ld₀ ++ own) →
      wpAny (model PG w) A (isTrue c (compEnvC scope cl C env) (eval c (compEnvC scope cl C env))) (fun ok s₃ => Later { s with heap := h, toks := tk } s₃ → FiltEnd g C (ld₀ ++ own) s x v (p v) ok s₃) NoE { s with heap := h, toks := tk })
    (done : ∀ (D : Addr) (h : Heap) (tk k : Nat), s.toks ≤ tk → Fr g L h (mUse use m₀ D) → News g L h ((D, { cls := .type "list", data := .seq (vs.filter p).toArray k }) :: ld₀) → (∀ p ∈ ld₀, p.1 < D) → Q (.ref D) { s with heap := h, toks := tk })
    (hcell : autoParam (∀ y ∈ scope.names, y.2 ≠ .cell) aD._auto_1) (hkind : autoParam (scope.kind = .function) aR._auto_1) (hx : autoParam (scope.names.lookup x = some .local) aR._auto_1) (hd : autoParam ((x == ("__debug__" : Str)) = false) aD._auto_1) (hL : autoParam (env.locals = L) aR._auto_1) :
    wpAny (model PG w) A (pyIter (.ref l)) (CompGoal w A use (.Name x pe) [⟨.Name x px, iter, [c], 0⟩] scope cl pos env Q) E s := by
  subst hL
  refine byGoal fun P9 k9 => ?_
  obtain ⟨ol, hol, rl⟩ := id hl
  refine k9 ?_
  clear k9 P9
  refine wpAny_pyIter_list hl ?_
  have hlen : vs.toArray.size = vs.length := by simp
  have W := Walks.list (prog := PG) (w := w) hh s.heap.objs.size l (ne_size hol) vs.toArray
  rw [hlen] at W
  refine comp_filterW W (fun v a => v = a) p vs hsz (fun q => ?_) (fun b hb => ?_) (fun q hq hf => ?_) (fun b hb => ?_) ⟨⟨_, Heap.get?_push_size _ rfl, rfl, rfl⟩, ⟨ol, Heap.get?_push_of_some _ hol, rl⟩⟩ (F.push _) (fun p hp => ⟨Heap.get?_push_of_some _ (N p hp).1, (N p hp).2⟩) (fun i v hi hP => ⟨v, by simpa using hP, rfl⟩) rfl (fun i v a h tk own C m ha hr htk => by subst hr; exact turn i v h tk own C m ha htk) (fun D ys h tk k htk F N hlt ha => by rw [ha.eq] at N; exact done D h tk k htk F N hlt) hcell hkind hx hd
  · rcases List.mem_cons.mp q with q | q
    · exact absurd F.ns.lt (q ▸ Nat.lt_irrefl _)
    · exact hlL (List.mem_singleton.mp q).symm
  · rw [List.mem_singleton.mp hb]; exact gnone (env := env) F (Nat.le_refl _)
  · exact ne_size (N q hq).1 (List.mem_singleton.mp hf)
  · show b < (s.heap.push _).objs.size
    rw [Heap.size_push]
    rcases List.mem_cons.mp hb with e | e
    · rw [e]; exact Nat.lt_succ_self _
    · rw [List.mem_singleton.mp e]; exact Nat.lt_succ_of_lt (Heap.lt_size hol)

end
end Mine
end
section
open PySem PySem.W PyProof.Rows PySem.Calls PySem.Spec
set_option maxHeartbeats 1000000
namespace Mine
section
variable {use : Use} {w : World} {A : Around} {s : Shared} {g : Heap} {env : Env} {iter elt : Expr} {x : Str} {px : Pos} {scope : Scope} {cl : List (Str × Addr)} {pos : Pos} {Q : Value → Shared → Prop} {E : Value → Shared → Prop} {m₀ : Str → Option Value} {ld₀ : List (Addr × Obj)}
theorem comp_listJ {L : Addr} {l : Addr} {vs : List Value} (J : Nat → Nat → List Value → List (Addr × Obj) → Prop) (hh : A.handled = none) (hl : s.heap.IsList l vs.toArray) (hlL : l ≠ L) (hsz : vs.length ≤ sizeLine)
    (F : Fr g L s.heap m₀) (N : News g L s.heap ld₀) (h0 : J 0 s.toks [] ld₀)
    (turn : ∀ (i : Nat) (v : Value) (ys : List Value) (ld : List (Addr × Obj)) (h : Heap) (tk tk0 : Nat) (own : List (Addr × Obj)) (C : Addr) (m : Str → Option Value), vs[i]? = some v → s.toks ≤ tk0 → tk0 ≤ tk → J i tk0 ys ld → ld.map (·.1) = ld₀.map (·.1) → (∀ p ∈ own, ∀ b ∈ ld₀.map (·.1), @Ne Nat b l → @Ne Nat p.1 b) → Fr g C h (fun y => if y = x then some v else m y) → News g C h (ld ++ own) →
      wpAny (model PG w) A (eval elt (compEnvC scope cl C env)) (fun y s₄ => Later { s with heap := h, toks := tk } s₄ → EltEnd g C (J (i + 1)) own (ld₀.map (·.1)) s (ys ++ [y]) s₄) NoE { s with heap := h, toks := tk })
    (done : ∀ (D : Addr) (ys : List Value) (ld : List (Addr × Obj)) (h : Heap) (tk tk0 k : Nat), s.toks ≤ tk0 → tk0 ≤ tk → J vs.length tk0 ys ld → Fr g L h (mUse use m₀ D) → News g L h ((D, { cls := .type "list", data := .seq ys.toArray k }) :: ld) → (∀ p ∈ ld, p.1 < D) → Q (.ref D) { s with heap := h, toks := tk })
    (hcell : autoParam (∀ y ∈ scope.names, y.2 ≠ .cell) aD._auto_1) (hkind : autoParam (scope.kind = .function) aR._auto_1) (hx : autoParam (scope.names.lookup x = some .local) aR._auto_1) (hL : autoParam (env.locals = L) aR._auto_1) :
    wpAny (model PG w) A (pyIter (.ref l)) (CompGoal w A use elt [⟨.Name x px, iter, [], 0⟩] scope cl pos env Q) E s := by
  subst hL
  refine byGoal fun P9 k9 => ?_
  obtain ⟨ol, hol, rl⟩ := id hl
  refine k9 ?_
  clear k9 P9
  refine wpAny_pyIter_list hl ?_
  have hlen : vs.toArray.size = vs.length := by simp
  have W := Walks.list (prog := PG) (w := w) hh s.heap.objs.size l (ne_size hol) vs.toArray
  rw [hlen] at W
  refine compAtW (ld₀ := ld₀) W J hsz (fun q => ?_) (fun b hb => ?_) (fun q hq hf => ?_) (fun b hb => ?_) ⟨⟨_, Heap.get?_push_size _ rfl, rfl, rfl⟩, ⟨ol, Heap.get?_push_of_some _ hol, rl⟩⟩ (F.push _) (fun p hp => ⟨Heap.get?_push_of_some _ (N p hp).1, (N p hp).2⟩) h0 ?_ ?_ hcell hkind hx
  · rcases List.mem_cons.mp q with q | q
    · exact absurd F.ns.lt (q ▸ Nat.lt_irrefl _)
    · exact hlL (List.mem_singleton.mp q).symm
  · rw [List.mem_singleton.mp hb]; exact gnone (env := env) F (Nat.le_refl _)
  · exact ne_size (N q hq).1 (List.mem_singleton.mp hf)
  · show b < (s.heap.push _).objs.size
    rw [Heap.size_push]
    rcases List.mem_cons.mp hb with e | e
    · rw [e]; exact Nat.lt_succ_self _
    · rw [List.mem_singleton.mp e]; exact Nat.lt_succ_of_lt (Heap.lt_size hol)
  · intro i v ys ld h tk tk0 own C m hi hP h1 h2 had hJ _ hoff F₁ N₁
    show wpAny _ _ (pure true) _ _ _
    refine wpAny_pure ?_
    rw [if_pos rfl]
    refine turn i v ys ld h tk tk0 own C m (by simpa using hP) h1 h2 hJ had (fun p hp b hb hbl => hoff p hp b hb fun q => ?_) F₁ N₁
    rcases List.mem_cons.mp q with q | q
    · refine byGoal fun P9 k9 => ?_
      obtain ⟨z, hz, hzb⟩ := List.mem_map.mp hb
      refine k9 ?_
      clear k9 P9
      exact ne_size (N z hz).1 (hzb.trans q)
    · exact hbl (List.mem_singleton.mp q)
  · intro D ys ld h tk tk0 k h1 h2 hJ F₁ N₁ hlt
    exact done D ys ld h tk tk0 k h1 h2 hJ F₁ N₁ hlt
end
end Mine
end
section
open PySem PySem.W PyProof.Rows PySem.Calls PySem.Spec
set_option maxHeartbeats 1000000
namespace Mine
inductive NextCV (g : Heap) (C : Addr) (J : Nat → List Value → List (Addr × Obj) → Prop) (own : List (Addr × Obj)) (gs : Array GenState) (dr : Drawn) (os : OsState) (ys : List Value) (s₂ : Shared) : Prop
  | mk (h' : Heap) (tk : Nat) (m' : Str → Option Value) (ld' : List (Addr × Obj)) (e : s₂ = ⟨h', gs, dr, tk, os⟩) (F : Fr g C h' m') (N : News g C h' (ld' ++ own)) (a : OwnOff own (ld'.map (·.1))) (j : J tk ys ld')
def EltEndV (g : Heap) (C : Addr) (J : Nat → List Value → List (Addr × Obj) → Prop) (own : List (Addr × Obj)) (s : Shared) (ys : List Value) (s₂ : Shared) : Prop := NextCV g C J own s.gens s.drawn s.os ys s₂
theorem compAtV {use : Use} {L : Addr} {w : World} {A : Around} {s : Shared} {g : Heap} {env : Env} {elt iter : Expr} {x : Str} {px : Pos} {ifs : List Expr} {scope : Scope} {cl : List (Str × Addr)} {pos : Pos} {Q : Value → Shared → Prop}
    {I : Addr} {fp wr : List Addr} {n : Nat} {P : Nat → Value → Prop} {St : Nat → Heap → Prop} {m₀ : Str → Option Value} {ld₀ : List (Addr × Obj)}
    (W : Walks PG w A I fp wr n P St) (J : Nat → Nat → List Value → List (Addr × Obj) → Prop) (hsz : n ≤ sizeLine)
    (hLf : L ∉ fp) (hwr : ∀ b ∈ wr, g.get? b = none) (hfp : ∀ q ∈ ld₀, q.1 ∉ fp) (hfl : ∀ b ∈ fp, b < s.heap.objs.size) (hst : St 0 s.heap) (hex : ∀ i h, St i h → ∀ b ∈ fp, ∃ o, h.get? b = some o)
    (F : Fr g L s.heap m₀) (N : News g L s.heap ld₀) (h0 : J 0 s.toks [] ld₀)
    (turn : ∀ (i : Nat) (v : Value) (ys : List Value) (ld : List (Addr × Obj)) (h : Heap) (tk tk0 : Nat) (own : List (Addr × Obj)) (C : Addr) (m : Str → Option Value), i < n → P i v → s.toks ≤ tk0 → tk0 ≤ tk → OwnOff own (ld.map (·.1)) → J i tk0 ys ld → ys.length ≤ i → Fr g C h (fun y => if y = x then some v else m y) → News g C h (ld ++ own) →
      wpAny (model PG w) A (forIn ifs true fun c r => if r = true then do let ok ← isTrue c (compEnvC scope cl C env) (eval c (compEnvC scope cl C env)); pure (ForInStep.yield ok) else pure (ForInStep.yield r))
        (fun ok s₃ => if ok = true then wpAny (model PG w) A (eval elt (compEnvC scope cl C env)) (fun y s₄ => Later { s with heap := h, toks := tk } s₄ → EltEndV g C (J (i + 1)) own s (ys ++ [y]) s₄) NoE s₃ else Later { s with heap := h, toks := tk } s₃ → EltEndV g C (J (i + 1)) own s ys s₃)
        NoE { s with heap := h, toks := tk })
    (done : ∀ (D : Addr) (ys : List Value) (ld : List (Addr × Obj)) (h : Heap) (tk tk0 k : Nat), s.toks ≤ tk0 → tk0 ≤ tk → J n tk0 ys ld → Fr g L h (mUse use m₀ D) → News g L h ((D, { cls := .type "list", data := .seq ys.toArray k }) :: ld) → (∀ p ∈ ld, @Ne Nat p.1 D) → Q (.ref D) { s with heap := h, toks := tk })
    (hcell : autoParam (∀ y ∈ scope.names, y.2 ≠ .cell) aD._auto_1) (hkind : autoParam (scope.kind = .function) aR._auto_1) (hx : autoParam (scope.names.lookup x = some .local) aR._auto_1) (hL : autoParam (env.locals = L) aR._auto_1) :
    CompGoal w A use elt [⟨.Name x px, iter, ifs, 0⟩] scope cl pos env Q (.ref I) s := by
  subst hL
  intro huse
  refine wpAny_newObj_type (wpAny_newFunctionEnv hcell (by intro y hy; simp at hy) (fun h₁ hns₁ hsb₁ => ?_) hkind)
  dsimp only at hns₁ hsb₁ ⊢
  generalize hH2 : s.heap.push { cls := .type "list", dict := none, data := .seq ([] : List Value).toArray } = H2 at hns₁ hsb₁ ⊢
  have hC : H2.objs.size = s.heap.objs.size + 1 := by rw [← hH2, Heap.size_push]
  obtain ⟨D, hD⟩ : ∃ D : Nat, s.heap.objs.size = D := ⟨_, rfl⟩
  obtain ⟨C, hCe⟩ : ∃ C : Nat, H2.objs.size = C := ⟨_, rfl⟩
  rw [hCe] at hns₁ hsb₁ hC ⊢
  rw [hD] at hC ⊢
  have hDC : D ≠ C := by exact Mine.om104 hC
  have old : ∀ b o, s.heap.get? b = some o → h₁.get? b = some o := fun b o e => hsb₁.extBut b o (by have := ltN (Heap.lt_size e); refine neN ?_; exact Mine.om105 hD hC this) (Heap.get?_push_of_some _ (hH2 ▸ Heap.get?_push_of_some _ e))
  have hacc : h₁.get? D = some { cls := .type "list", data := .seq ([] : List Value).toArray } := hsb₁.extBut _ _ hDC (Heap.get?_push_of_some _ (hH2 ▸ hD ▸ Heap.get?_push_size _ rfl))
  have gS : g.objs.size ≤ C := by have := leN F.above; have := ltN F.ns.lt; exact Mine.om106 hD hC (by assumption) this
  have gn : ∀ b, D ≤ b → g.get? b = none := fun b hb => by
    cases q : g.get? b with
    | none => rfl
    | some o => have := ltN (Heap.lt_size (F.keep _ _ q)); exact False.elim (Mine.om107 hD hb this)
  refine byGoal fun P9 k9 => ?_
  obtain ⟨oL, esL, epL, hoL, hrL⟩ := id F.ns
  refine k9 ?_
  clear k9 P9
  have hLlt : env.locals < D := hD ▸ Heap.lt_size hoL
  -- the invariant
  let Inv : Nat → Shared → Prop := CInv n St s g C D (env.locals, oL) (fun ld => (∀ p ∈ ld, p.1 ∉ fp ∧ @Ne Nat p.1 D ∧ @Ne Nat p.1 env.locals)) J
  have gL : g.get? env.locals = none := by
    cases q : g.get? env.locals with
    | none => rfl
    | some o => have := ltN (Heap.lt_size q); have := leN F.above; exact False.elim (Mine.om86 (by assumption) this)
  have loop : ∀ s₃ : Shared, s₃ = { s with heap := h₁, toks := s.toks + ([] : List (Str × Value)).length } →
      codeAny (model PG w) A (.compLoop (.ListComp elt [⟨.Name x px, iter, ifs, 0⟩] scope pos) 0 (.ref I) (.ref D) (compEnvC scope cl C env))
        (usePost w A use env Q (.ref D) C) s₃ := by
    rintro s₃ rfl
    refine codeAny_compLoop_tests Inv ?_ (n - 0) ⟨0, h₁, s.toks, (fun x => ([] : List (Str × Value)).reverse.lookup x), [], ld₀, 0, rfl, Nat.zero_le _, Nat.le_refl _, rfl, W.frame _ _ _ hst fun b _ o e => old b o e, ⟨hns₁, fun b o e => old b o (F.keep b o e), gS⟩, ?_, (fun p hp => ⟨hfp p hp, by have := ltN (Heap.lt_size (N p hp).1); refine neN ?_; exact Mine.om113 hD this, (N p hp).2.1⟩), Nat.le_refl _, h0⟩
    · intro k s' hJa
      refine byGoal fun P9 k9 => ?_
      obtain ⟨i, h, tk, m, ys, ld, ep, rfl, hin, htk, rfl, hSt, F₁, N₁, hadr, hys, hJ⟩ := hJa
      refine k9 ?_
      clear k9 P9
      have hDh := (N₁ _ (.head _)).1
      have hLh := (N₁ _ (.tail _ (.head _))).1
      have hCf : C ∉ fp := fun q => by have := ltN (hfl _ q); exact Mine.om108 hD hC this
      have hDf : D ∉ fp := fun q => by have := ltN (hfl _ q); exact Mine.om109 hD this
      refine later ?_
      by_cases hlt : i < n
      · refine W.item i _ _ _ hlt hSt fun v h' tk' hP hSt' hk htk' => ?_
        have htk' : tk ≤ tk' := htk'.1
        refine byGoal fun P9 k9 => ?_
        obtain ⟨oC, es, ep', hCo, r⟩ := id F₁.ns
        refine k9 ?_
        clear k9 P9
        have F₂ : Fr g C h' m := ⟨⟨oC, es, ep', hk _ _ (fun q => hCf (W.sub _ q)) hCo, r⟩, fun b o e => hk b o (fun q => by rw [hwr b q] at e; cases e) (F₁.keep b o e), F₁.above⟩
        have N₂ : News g C h' ((D, { cls := .type "list", data := .seq ys.toArray ep }) :: (env.locals, oL) :: ld) := fun p hp => ⟨hk _ _ (fun q => by
          rcases List.mem_cons.mp hp with rfl | hp
          · exact hDf (W.sub _ q)
          · rcases List.mem_cons.mp hp with rfl | hp
            · exact hLf (W.sub _ q)
            · exact (hadr p hp).1 (W.sub _ q)) (N₁ p hp).1, (N₁ p hp).2⟩
        have kx : (compEnvC scope cl C env).kindOf x = some .local := lookup_relabel_local hx
        refine later ?_
        refine assign_Name ?_
        refine (wpAny_storeName_local kx F₂.ns (fun h'' hn'' hs'' l1 => ?_) (by show (scope.kind == .class || (scope.kind == .module && _)) = false; rw [hkind]; rfl))
        have F₃ := F₂.set hn'' hs''
        have N₃ := N₂.set hs''
        have hSt₃ : St (i + 1) h'' := W.frame _ _ _ hSt' fun b hb o e => (hs''.2 b (fun q => hCf (by rw [q] at hb; exact hb))).trans e
        let own := (D, ({ cls := .type "list", data := .seq ys.toArray ep } : Obj)) :: (env.locals, oL) :: ownOf g fp h''
        have hown : News g C h'' (ld ++ own) := fun p hp => by
          rcases List.mem_append.mp hp with hp | hp
          · exact N₃ p (.tail _ (.tail _ hp))
          · rcases List.mem_cons.mp hp with rfl | hp
            · exact N₃ _ (.head _)
            · rcases List.mem_cons.mp hp with rfl | hp
              · exact N₃ _ (.tail _ (.head _))
              · exact news_ownOf hCf p hp
        have hoff : OwnOff own (ld.map (·.1)) := fun p hp b hb e => by
          refine byGoal fun P9 k9 => ?_
          obtain ⟨q, hq, rfl⟩ := List.mem_map.mp hb
          refine k9 ?_
          clear k9 P9
          rcases List.mem_cons.mp hp with rfl | hp
          · exact (hadr q hq).2.1 e.symm
          · rcases List.mem_cons.mp hp with rfl | hp
            · exact (hadr q hq).2.2 e.symm
            · refine byGoal fun P9 k9 => ?_
              obtain ⟨c, hc, hc'⟩ := List.mem_filterMap.mp hp
              refine k9 ?_
              clear k9 P9
              have : p.1 = c := by
                split at hc'
                · cases ho : h''.get? c with
                  | none => simp [ho] at hc'
                  | some o => simp [ho] at hc'; rw [← hc']
                · cases hc'
              exact (hadr q hq).1 (by rw [← e, this]; exact hc)
        have fin : ∀ ys' (s₄ : Shared), EltEndV g C (J (i + 1)) own s ys' s₄ → FinC s g C (D, { cls := .type "list", data := .seq ys.toArray ep }) (env.locals, oL) (fun h' tk ld' => (∀ p ∈ ld', p.1 ∉ fp ∧ @Ne Nat p.1 D ∧ @Ne Nat p.1 env.locals) ∧ J (i + 1) tk ys' ld' ∧ St (i + 1) h' ∧ News g C h' (ownOf g fp h'')) s₄ := by
          intro ys' s₄ hJa
          refine byGoal fun P9 k9 => ?_
          obtain ⟨h', tk, m', ld', rfl, F', N', ha, hj⟩ := hJa
          refine k9 ?_
          clear k9 P9
          refine ⟨h', tk, m', ld', rfl, F', fun p hp => ?_, fun p hp => ⟨fun hf => ?_, fun q => ha _ (.head _) _ (List.mem_map_of_mem hp) q.symm, fun q => ha _ (.tail _ (.head _)) _ (List.mem_map_of_mem hp) q.symm⟩, hj, W.frame _ _ _ hSt₃ fun b hb o e => ?_, fun p hp => N' p (List.mem_append_right _ (.tail _ (.tail _ hp)))⟩
          · rcases List.mem_cons.mp hp with rfl | hp
            · exact N' _ (List.mem_append_right _ (.head _))
            · rcases List.mem_cons.mp hp with rfl | hp
              · exact N' _ (List.mem_append_right _ (.tail _ (.head _)))
              · exact N' _ (List.mem_append_left _ hp)
          · obtain ⟨o, e⟩ := hex _ _ hSt₃ p.1 hf
            have q := (N' p (List.mem_append_left _ hp)).2.2
            exact ha (p.1, o) (.tail _ (.tail _ (mem_ownOf hf q e))) _ (List.mem_map_of_mem hp) rfl
          · cases q : g.get? b with
            | none => exact (N' (b, o) (List.mem_append_right _ (.tail _ (.tail _ (mem_ownOf hb q e))))).1
            | some x => have e' := F₃.keep _ _ q; rw [e] at e'; cases e'; exact F'.keep _ _ q
        have hl2 : tk' ≤ tk' + 1 := Nat.le_succ _
        refine later (wpAny_mono (turn i v ys ld h'' (tk' + 1) tk own C m hlt hP htk (by exact Mine.om111 htk') hoff hJ hys F₃ hown) (fun ok s₃ h₃ l2 => ?_) fun _ _ x => x.elim)
        by_cases hok : ok = true
        · rw [if_pos hok] at h₃ ⊢
          refine later (wpAny_mono h₃ (fun y s₄ h₄' l3 => ?_) fun _ _ x => x.elim)
          have h₄ := h₄' (l2.trans l3)
          refine byGoal fun P9 k9 => ?_
          obtain ⟨h4, tk4, m4, ld4, rfl, F4, N4, ha4, hj4, hst4, NO4⟩ := fin _ _ h₄
          refine k9 ?_
          clear k9 P9
          have hO : ∀ p ∈ ownOf g fp h'', p.1 ∈ fp := fun p hp => by
            refine byGoal fun P9 k9 => ?_
            obtain ⟨c, hc, hc'⟩ := List.mem_filterMap.mp hp
            refine k9 ?_
            clear k9 P9
            have : p.1 = c := by
              split at hc'
              · cases ho : h''.get? c with
                | none => simp [ho] at hc'
                | some o => simp [ho] at hc'; rw [← hc']
              · cases hc'
            rw [this]; exact hc
          have N4' : News g C h4 ((D, { cls := .type "list", data := .seq ys.toArray ep }) :: (((env.locals, oL) :: ld4) ++ ownOf g fp h'')) := by
            intro p hp
            rcases List.mem_cons.mp hp with rfl | hp
            · exact N4 _ (.head _)
            · exact (List.mem_append.mp hp).elim (fun h => N4 p (.tail _ h)) (NO4 p)
          have ne4 : ∀ p ∈ ((env.locals, oL) :: ld4) ++ ownOf g fp h'', p.1 ≠ D := fun p hp => by
            rcases List.mem_append.mp hp with hp | hp
            case inr => exact fun q => hDf (by rw [q.symm]; exact hO p hp)
            rcases List.mem_cons.mp hp with rfl | hp
            · show env.locals ≠ D; have := ltN hLlt; refine neN ?_; exact Mine.om112 this
            · exact (ha4 p hp).2.1
          refine later (append_K (n := ep) (its := ys.toArray) F4 N4' (Upd.head ne4) (fun h5 F5 N5 l4 => ?_) (by rw [List.size_toArray]; exact Nat.le_trans (Nat.le_trans hys (Nat.le_of_lt hlt)) hsz))
          have e5 : ys.toArray.push y = (ys ++ [y]).toArray := by simp
          rw [e5] at N5
          have N5' := news_sub (ld' := (D, { cls := .type "list", data := .seq (ys ++ [y]).toArray (ep + 1) }) :: (env.locals, oL) :: ld4) N5 (fun p hp => by
            rcases List.mem_cons.mp hp with rfl | hp
            · exact .head _
            · exact .tail _ (List.mem_append_left _ hp))
          refine ⟨n - (i + 1), by exact Mine.om9 hlt, i + 1, h5, _, m4, ys ++ [y], ld4, ep + 1, rfl, hlt, ?_, rfl, ?_, F5, N5', ha4, by rw [List.length_append]; show ys.length + 1 ≤ _; exact Mine.om114 hys, hj4⟩
          · have a := l2.1; have b := l3.1; have c := l4.1; simp only at a b c ⊢; exact Mine.om115 htk htk' a b
          · refine W.frame _ _ _ hSt₃ fun b hb o e => ?_
            cases q : g.get? b with
            | none => exact (N5 (b, o) (.tail _ (List.mem_append_right _ (mem_ownOf hb q e)))).1
            | some x => have e' := F₃.keep _ _ q; rw [e] at e'; cases e'; exact F5.keep _ _ q
        · rw [if_neg hok] at h₃ ⊢
          have h₃ := h₃ l2
          refine byGoal fun P9 k9 => ?_
          obtain ⟨h4, tk4, m4, ld4, rfl, F4, N4, ha4, hj4, hst4, NO4⟩ := fin _ _ h₃
          refine k9 ?_
          clear k9 P9
          refine ⟨n - (i + 1), by exact Mine.om9 hlt, i + 1, h4, tk4, m4, ys, ld4, ep, rfl, hlt, ?_, rfl, hst4, F4, N4, ha4, by exact Mine.om111 hys, hj4⟩
          have a := l2.1; simp only at a ⊢; exact Mine.om116 htk htk' a
      · have hi : i = n := by exact Mine.om10 hin hlt
        subst hi
        refine W.done _ _ _ hSt fun h' tk' hk htk' => ?_
        refine byGoal fun P9 k9 => ?_
        obtain ⟨oC, es, ep', hCo, r⟩ := id F₁.ns
        refine k9 ?_
        clear k9 P9
        have hCf' : C ∉ wr := fun q => hCf (W.sub _ q)
        have base : ∀ h'', Heap.SameBut C h' h'' → Fr g env.locals h'' m₀ ∧ News g env.locals h'' ((D, { cls := .type "list", data := .seq ys.toArray ep }) :: ld) := fun h'' hs'' => by
          have up : ∀ b o, b ∉ wr → b ≠ C → h.get? b = some o → h''.get? b = some o := fun b o hb hbC e => (hs''.2 b hbC).trans (hk b o hb e)
          refine ⟨⟨⟨oL, esL, epL, up _ _ (fun q => hLf (W.sub _ q)) (by have := ltN hLlt; refine neN ?_; exact Mine.om117 hC this) hLh, hrL⟩, fun b o e => up b o (fun q => by rw [hwr b q] at e; cases e) (fun q => by rw [q, gn C (by exact Mine.om118 hC)] at e; cases e) (F₁.keep b o e), F.above⟩, fun p hp => ?_⟩
          rcases List.mem_cons.mp hp with rfl | hp
          · exact ⟨up _ _ (fun q => hDf (W.sub _ q)) hDC hDh, by show D ≠ _; have := ltN hLlt; refine neN ?_; exact Mine.om119 this, gn D (Nat.le_refl _)⟩
          · have hp' := N₁ p (.tail _ (.tail _ hp))
            exact ⟨up _ _ (fun q => (hadr p hp).1 (W.sub _ q)) hp'.2.1 hp'.1, (hadr p hp).2.2, hp'.2.2⟩
        have hnC : h'.Ns C m := ⟨oC, es, ep', hk _ _ hCf' hCo, r⟩
        have hLC : env.locals ≠ C := by have := ltN hLlt; refine neN ?_; exact Mine.om117 hC this
        cases use with
        | none =>
          refine ⟨m, hnC, fun h'' hs'' => ?_⟩
          obtain ⟨F₄, N₄⟩ := base h'' hs''
          exact done D ys ld h'' tk' tk ep htk htk'.1 hJ F₄ N₄ (fun p hp => (hadr p hp).2.1)
        | some y =>
          show wpAny _ A (assign (.Name y.1 y.2) env (.ref D)) _ _ _
          obtain ⟨hy, hp⟩ := huse y rfl
          obtain ⟨F₄, N₄⟩ := base h' (Heap.SameBut.refl ..)
          refine wpAny_assign_Name (wpAny_storeName_local hy F₄.ns (fun h₂ hn₂ hs₂ => ?_) hp)
          refine ⟨m, hnC.sameBut hs₂ (Ne.symm hLC), fun h₃ hs₃ => ⟨.ref D, ?_⟩⟩
          have F₅ := F₄.set hn₂ hs₂
          have N₅ := N₄.set hs₂
          have gC : g.get? C = none := gn C (by exact Mine.om118 hC)
          refine done D ys ld h₃ (tk' + 1) tk ep htk (Nat.le_succ_of_le htk'.1) hJ ⟨F₅.ns.sameBut hs₃ hLC, fun b o e => (hs₃.2 b (fun q => by rw [q, gC] at e; cases e)).trans (F₅.keep b o e), F₅.above⟩ (fun p hp => ⟨(hs₃.2 p.1 ?_).trans (N₅ p hp).1, (N₅ p hp).2⟩) (fun p hp => (hadr p hp).2.1)
          rcases List.mem_cons.mp hp with rfl | hp
          · exact hDC
          · exact (N₁ p (.tail _ (.tail _ hp))).2.1
    · intro p hp
      rcases List.mem_cons.mp hp with rfl | hp
      · exact ⟨hacc, hDC, gn D (Nat.le_refl _)⟩
      · rcases List.mem_cons.mp hp with rfl | hp
        · exact ⟨old _ _ hoL, by show env.locals ≠ C; have := ltN hLlt; refine neN ?_; exact Mine.om117 hC this, gL⟩
        · exact ⟨old _ _ (N p hp).1, by have := ltN (Heap.lt_size (N p hp).1); show p.1 ≠ C; refine neN ?_; exact Mine.om105 hD hC this, (N p hp).2.2⟩
  have hst1 : St 0 h₁ := W.frame _ _ _ hst fun b _ o e => old b o e
  exact codeAny_compStart_list (loop _ rfl) (W.self 0 _ _ _ hst1 (loop _ rfl))

section
variable {use : Use} {w : World} {A : Around} {s : Shared} {g : Heap} {env : Env} {iter elt : Expr} {x : Str} {px : Pos} {scope : Scope} {cl : List (Str × Addr)} {pos : Pos} {Q : Value → Shared → Prop} {E : Value → Shared → Prop} {m₀ : Str → Option Value} {ld₀ : List (Addr × Obj)}
theorem comp_listV {L : Addr} {l : Addr} {vs : List Value} (J : Nat → Nat → List Value → List (Addr × Obj) → Prop) (hh : A.handled = none) (hl : s.heap.IsList l vs.toArray) (hlL : l ≠ L) (hld : ∀ q ∈ ld₀, q.1 ≠ l) (hsz : vs.length ≤ sizeLine)
    (F : Fr g L s.heap m₀) (N : News g L s.heap ld₀) (h0 : J 0 s.toks [] ld₀)
    (turn : ∀ (i : Nat) (v : Value) (ys : List Value) (ld : List (Addr × Obj)) (h : Heap) (tk tk0 : Nat) (own : List (Addr × Obj)) (C : Addr) (m : Str → Option Value), vs[i]? = some v → s.toks ≤ tk0 → tk0 ≤ tk → OwnOff own (ld.map (·.1)) → J i tk0 ys ld → Fr g C h (fun y => if y = x then some v else m y) → News g C h (ld ++ own) →
      wpAny (model PG w) A (eval elt (compEnvC scope cl C env)) (fun y s₄ => Later { s with heap := h, toks := tk } s₄ → EltEndV g C (J (i + 1)) own s (ys ++ [y]) s₄) NoE { s with heap := h, toks := tk })
    (done : ∀ (D : Addr) (ys : List Value) (ld : List (Addr × Obj)) (h : Heap) (tk tk0 k : Nat), s.toks ≤ tk0 → tk0 ≤ tk → J vs.length tk0 ys ld → Fr g L h (mUse use m₀ D) → News g L h ((D, { cls := .type "list", data := .seq ys.toArray k }) :: ld) → (∀ p ∈ ld, @Ne Nat p.1 D) → Q (.ref D) { s with heap := h, toks := tk })
    (hcell : autoParam (∀ y ∈ scope.names, y.2 ≠ .cell) aD._auto_1) (hkind : autoParam (scope.kind = .function) aR._auto_1) (hx : autoParam (scope.names.lookup x = some .local) aR._auto_1) (hL : autoParam (env.locals = L) aR._auto_1) :
    wpAny (model PG w) A (pyIter (.ref l)) (CompGoal w A use elt [⟨.Name x px, iter, [], 0⟩] scope cl pos env Q) E s := by
  subst hL
  refine byGoal fun P9 k9 => ?_
  obtain ⟨ol, hol, rl⟩ := id hl
  refine k9 ?_
  clear k9 P9
  refine wpAny_pyIter_list hl ?_
  have hlen : vs.toArray.size = vs.length := by simp
  have W := Walks.list (prog := PG) (w := w) hh s.heap.objs.size l (ne_size hol) vs.toArray
  rw [hlen] at W
  refine compAtV (ld₀ := ld₀) W J hsz (fun q => ?_) (fun b hb => ?_) (fun q hq hf => ?_) (fun b hb => ?_) ⟨⟨_, Heap.get?_push_size _ rfl, rfl, rfl⟩, ⟨ol, Heap.get?_push_of_some _ hol, rl⟩⟩ (fun i h st b hb => ?_) (F.push _) (fun p hp => ⟨Heap.get?_push_of_some _ (N p hp).1, (N p hp).2⟩) h0 ?_ ?_ hcell hkind hx
  · rcases List.mem_cons.mp q with q | q
    · exact absurd F.ns.lt (q ▸ Nat.lt_irrefl _)
    · exact hlL (List.mem_singleton.mp q).symm
  · rw [List.mem_singleton.mp hb]; exact gnone (env := env) F (Nat.le_refl _)
  · rcases List.mem_cons.mp hf with e | e
    · exact ne_size (N q hq).1 e
    · exact hld q hq (List.mem_singleton.mp e)
  · show b < (s.heap.push _).objs.size
    rw [Heap.size_push]
    rcases List.mem_cons.mp hb with e | e
    · rw [e]; exact Nat.lt_succ_self _
    · rw [List.mem_singleton.mp e]; exact Nat.lt_succ_of_lt (Heap.lt_size hol)
  · refine byGoal fun P9 k9 => ?_
    obtain ⟨⟨oI, hoI, _⟩, ⟨oL, hoL, _⟩⟩ := st
    refine k9 ?_
    clear k9 P9
    rcases List.mem_cons.mp hb with e | e
    · exact ⟨oI, e ▸ hoI⟩
    · exact ⟨oL, (List.mem_singleton.mp e) ▸ hoL⟩
  · intro i v ys ld h tk tk0 own C m hi hP h1 h2 hoff hJ _ F₁ N₁
    show wpAny _ _ (pure true) _ _ _
    refine wpAny_pure ?_
    rw [if_pos rfl]
    exact turn i v ys ld h tk tk0 own C m (by simpa using hP) h1 h2 hoff hJ F₁ N₁
  · intro D ys ld h tk tk0 k h1 h2 hJ F₁ N₁ hlt
    exact done D ys ld h tk tk0 k h1 h2 hJ F₁ N₁ hlt
theorem comp_range2V {L : Addr} {r : Addr} {n e : Nat} {t u v : Tok} (J : Nat → Nat → List Value → List (Addr × Obj) → Prop) (hh : A.handled = none) (hr : IsRange s.heap r 0 e 2 t u v) (he : e = 2 * n) (hn : n ≤ 1000)
    (F : Fr g L s.heap m₀) (N : News g L s.heap ld₀) (h0 : J 0 s.toks [] ld₀)
    (turn : ∀ (i : Nat) (ti : Tok) (ys : List Value) (ld : List (Addr × Obj)) (h : Heap) (tk tk0 : Nat) (own : List (Addr × Obj)) (C : Addr) (m : Str → Option Value), i < n → s.toks ≤ tk0 → tk0 ≤ tk → OwnOff own (ld.map (·.1)) → J i tk0 ys ld → Fr g C h (fun y => if y = x then some (.int ((2 * i : Nat) : Int) ti) else m y) → News g C h (ld ++ own) →
      wpAny (model PG w) A (eval elt (compEnvC scope cl C env)) (fun y s₄ => Later { s with heap := h, toks := tk } s₄ → EltEndV g C (J (i + 1)) own s (ys ++ [y]) s₄) NoE { s with heap := h, toks := tk })
    (done : ∀ (D : Addr) (ys : List Value) (ld : List (Addr × Obj)) (h : Heap) (tk tk0 k : Nat), s.toks ≤ tk0 → tk0 ≤ tk → J n tk0 ys ld → Fr g L h (mUse use m₀ D) → News g L h ((D, { cls := .type "list", data := .seq ys.toArray k }) :: ld) → (∀ p ∈ ld, @Ne Nat p.1 D) → Q (.ref D) { s with heap := h, toks := tk })
    (hcell : autoParam (∀ y ∈ scope.names, y.2 ≠ .cell) aD._auto_1) (hkind : autoParam (scope.kind = .function) aR._auto_1) (hx : autoParam (scope.names.lookup x = some .local) aR._auto_1) (hL : autoParam (env.locals = L) aR._auto_1) :
    wpAny (model PG w) A (pyIter (.ref r)) (CompGoal w A use elt [⟨.Name x px, iter, [], 0⟩] scope cl pos env Q) E s := by
  subst hL
  subst he
  have hs : Builtin.Range.rangeSize 0 ((2 * n : Nat) : Int) 2 = n := by unfold Builtin.Range.rangeSize; simp; omega
  have W := Walks.range (prog := PG) (w := w) hh s.heap.objs.size 0 2 n
  refine wpAny_pyIter_range hr (by unfold Builtin.Range.small; rw [hs]; simp [Builtin.Range.rangeFitsLong]; exact Mine.om123 hn) ?_
  rw [hs]
  refine compAtV (ld₀ := ld₀) W J (by have : sizeLine = 16777216 := rfl; exact Mine.om124 hn this) (fun q => ?_) (fun b hb => ?_) (fun q hq hf => ?_) (fun b hb => ?_) (by have := Heap.get?_push_size s.heap (o := { cls := .type "range_iterator", data := .fields #[rawInt 0, rawInt n, rawInt 2] }) rfl; simpa using this) (fun i h st b hb => ⟨_, (List.mem_singleton.mp hb) ▸ st⟩) (F.push _) (fun p hp => ⟨Heap.get?_push_of_some _ (N p hp).1, (N p hp).2⟩) h0 ?_ done hcell hkind hx
  · exact absurd F.ns.lt (List.mem_singleton.mp q ▸ Nat.lt_irrefl _)
  · rw [List.mem_singleton.mp hb]; exact gnone (env := env) F (Nat.le_refl _)
  · exact ne_size (N q hq).1 (List.mem_singleton.mp hf)
  · rw [List.mem_singleton.mp hb]; show s.heap.objs.size < (s.heap.push _).objs.size; rw [Heap.size_push]; exact Nat.lt_succ_self _
  · intro i v ys ld h tk tk0 own C m hi hP h1 h2 hoff hJ _ F₁ N₁
    obtain ⟨ti, rfl⟩ := hP
    have e : (0 : Int) + (i : Int) * 2 = ((2 * i : Nat) : Int) := by exact Mine.om125
    rw [e] at F₁
    show wpAny _ _ (pure true) _ _ _
    refine wpAny_pure ?_
    rw [if_pos rfl]
    exact turn i ti ys ld h tk tk0 own C m hi h1 h2 hoff hJ F₁ N₁
end
end Mine
end
section
open PySem PySem.W PyProof.Rows PySem.Calls PySem.Spec
set_option maxHeartbeats 1000000
namespace Mine
section
variable {prog : Program} {w : World} {A : Around} {R : Result → Shared → Prop} {s : Shared}
/-- the loop of the first of two clauses (without a test) -/
theorem nest_loop0 {elt t0 i0 t1 i1 : Expr} {ifs : List Expr} {scope : Scope} {pos : Pos} {it acc : Value} {env : Env} (I : Nat → Shared → Prop)
    (turn : ∀ n s, I n s → wpAny (model prog w) A (pyNext it) (fun r s₁ => match r with
      | none => R (.ok .next) s₁
      | some v => wpAny (model prog w) A (assign t0 env v) (fun _ s₂ => wpAny (model prog w) A (eval i1 env) (fun x s₃ => wpAny (model prog w) A (pyIter x) (fun it1 s₄ =>
          codeAny (model prog w) A (.compStart (.ListComp elt [⟨t0, i0, [], 0⟩, ⟨t1, i1, ifs, 0⟩] scope pos) 1 it1 acc env) (fun r s₅ => match r with | .ok _ => ∃ m, m < n ∧ I m s₅ | .error _ => False) s₄) NoE s₃) NoE s₂) NoE s₁) NoE s)
    (n : Nat) (h : I n s) (ht : ∀ v, letOwnedTupleGo t0 it v = pure () := by intro _; rfl) (hs : ∀ x, foldedSetIterable i1 env x = pure x := by intro _; rfl) :
    codeAny (model prog w) A (.compLoop (.ListComp elt [⟨t0, i0, [], 0⟩, ⟨t1, i1, ifs, 0⟩] scope pos) 0 it acc env) R s := by
  refine codeAny_loop rfl I (fun n s hI => ?_) n h
  show wpAny _ A ((compTurn (.ListComp elt [⟨t0, i0, [], 0⟩, ⟨t1, i1, ifs, 0⟩] scope pos) 0 it acc env).onRaise (fun x => do noteFrame x env; theTreesLotGoes x)) _ _ s
  refine wpAny_noted ?_
  have e : compTurn (.ListComp elt [⟨t0, i0, [], 0⟩, ⟨t1, i1, ifs, 0⟩] scope pos) 0 it acc env = (standAt i0.pos >>= fun _ => pyNext it >>= fun r => match r with
      | none => pure (.done .next)
      | some v => letOwnedTupleGo t0 it v >>= fun _ => assign t0 env v >>= fun _ => eval i1 env >>= fun x => standAt i1.pos >>= fun _ => foldedSetIterable i1 env x >>= fun x =>
          (holding [x] (pyIter x)) >>= fun it1 => runOwn (.compStart (.ListComp elt [⟨t0, i0, [], 0⟩, ⟨t1, i1, ifs, 0⟩] scope pos) 1 it1 acc env) env >>= fun _ =>
          again (.compLoop (.ListComp elt [⟨t0, i0, [], 0⟩, ⟨t1, i1, ifs, 0⟩] scope pos) 0 it acc env)) := by rfl
  rw [e]
  refine wpAny_bind (wpAny_standAt (wpAny_bind (wpAny_mono (turn n s hI) (fun r s₁ h₁ => ?_) fun _ _ x => x.elim)))
  cases r with
  | none => exact wpAny_pure h₁
  | some v =>
    refine wpAny_bind (wpAny_of_eq (ht v) ?_)
    refine wpAny_bind (wpAny_mono h₁ (fun _ s₂ h₂ => ?_) fun _ _ x => x.elim)
    refine wpAny_bind (wpAny_mono h₂ (fun x s₃ h₃ => ?_) fun _ _ x => x.elim)
    refine wpAny_bind (wpAny_standAt ?_)
    refine wpAny_bind (wpAny_of_eq (hs x) ?_)
    refine wpAny_bind (wpAny_holding (wpAny_mono h₃ (fun it1 s₄ h₄ => ?_) fun _ _ x => x.elim))
    refine wpAny_bind (wpAny_runOwn (codeAny_mono h₄ fun r s₅ h₅ => ?_))
    cases r with
    | ok f => exact wpAny_pure ⟨rfl, h₅⟩
    | error e => exact h₅.elim
theorem nest_start1 {elt t0 i0 t1 i1 : Expr} {ifs : List Expr} {scope : Scope} {pos : Pos} {it acc : Value} {env : Env}
    (h0 : codeAny (model prog w) A (.compLoop (.ListComp elt [⟨t0, i0, [], 0⟩, ⟨t1, i1, ifs, 0⟩] scope pos) 1 it acc env) R s)
    (h : wpAny (model prog w) A (pyIter it) (fun it' s' => codeAny (model prog w) A (.compLoop (.ListComp elt [⟨t0, i0, [], 0⟩, ⟨t1, i1, ifs, 0⟩] scope pos) 1 it' acc env) R s') NoE s) :
    codeAny (model prog w) A (.compStart (.ListComp elt [⟨t0, i0, [], 0⟩, ⟨t1, i1, ifs, 0⟩] scope pos) 1 it acc env) R s := by
  refine codeAny_of_tree ?_
  show wpAny _ _ ((compStart (.ListComp elt [⟨t0, i0, [], 0⟩, ⟨t1, i1, ifs, 0⟩] scope pos) 1 it acc env).onRaise (fun x => do noteFrame x env; standAt theWindowsPlace)) _ _ s
  refine wpAny_notedAt ?_
  unfold compStart
  show wpAny _ _ (ask >>= _) _ _ s
  refine wpAny_bind (wpAny_askSetting (wpAny_ite ?_))
  have h' := wpAny_mono (E' := fun _ _ => False) h (fun _ _ x => x) fun _ _ x => x.elim
  split
  · first
      | exact wpAny_bind (wpAny_pure (wpAny_pure (And.intro rfl h0)))
      | exact wpAny_pure (And.intro rfl h0)
  · refine wpAny_bind (wpAny_rule ?_)
    show wpAny _ _ (standAt i1.pos >>= _) _ _ s
    exact wpAny_bind (wpAny_standAt (wpAny_bind (wpAny_mono h (fun it' s' h' => wpAny_pure (And.intro rfl h')) fun _ _ x => x.elim)))
theorem nest_loop1 {elt t0 i0 t1 i1 : Expr} {ifs : List Expr} {scope : Scope} {pos : Pos} {it acc : Value} {env : Env} (I : Nat → Shared → Prop)
    (turn : ∀ n s, I n s → wpAny (model prog w) A (pyNext it) (fun r s₁ => match r with
      | none => R (.ok .next) s₁
      | some v => wpAny (model prog w) A (assign t1 env v) (fun _ s₂ =>
          wpAny (model prog w) A (forIn ifs true fun c r => if r = true then do let ok ← isTrue c env (eval c env); pure (ForInStep.yield ok) else pure (ForInStep.yield r)) (fun ok s₃ =>
            if ok = true then wpAny (model prog w) A (eval elt env) (fun x s₄ =>
              wpAny (model prog w) A (call (.builtin "list.append") [acc, x]) (fun _ s₅ => ∃ m, m < n ∧ I m s₅) NoE s₄) NoE s₃
            else ∃ m, m < n ∧ I m s₃) NoE s₂) NoE s₁) NoE s)
    (n : Nat) (h : I n s) (ht : ∀ v, letOwnedTupleGo t1 it v = pure () := by intro _; rfl) :
    codeAny (model prog w) A (.compLoop (.ListComp elt [⟨t0, i0, [], 0⟩, ⟨t1, i1, ifs, 0⟩] scope pos) 1 it acc env) R s := by
  refine codeAny_loop rfl I (fun n s hI => ?_) n h
  show wpAny _ A ((compTurn (.ListComp elt [⟨t0, i0, [], 0⟩, ⟨t1, i1, ifs, 0⟩] scope pos) 1 it acc env).onRaise (fun x => do noteFrame x env; theTreesLotGoes x)) _ _ s
  refine wpAny_noted ?_
  have e : compTurn (.ListComp elt [⟨t0, i0, [], 0⟩, ⟨t1, i1, ifs, 0⟩] scope pos) 1 it acc env = (standAt i1.pos >>= fun _ => pyNext it >>= fun r => match r with
      | none => pure (.done .next)
      | some v => letOwnedTupleGo t1 it v >>= fun _ => assign t1 env v >>= fun _ =>
          (forIn ifs true fun c r => if r = true then do let ok ← isTrue c env (eval c env); pure (ForInStep.yield ok) else pure (ForInStep.yield r)) >>= fun ok =>
          if ok = true then ((eval elt env >>= fun x => call (.builtin "list.append") [acc, x] >>= fun _ => pure ()) >>= fun _ => again (.compLoop (.ListComp elt [⟨t0, i0, [], 0⟩, ⟨t1, i1, ifs, 0⟩] scope pos) 1 it acc env))
          else again (.compLoop (.ListComp elt [⟨t0, i0, [], 0⟩, ⟨t1, i1, ifs, 0⟩] scope pos) 1 it acc env)) := by rfl
  rw [e]
  refine wpAny_bind (wpAny_standAt (wpAny_bind (wpAny_mono (turn n s hI) (fun r s₁ h₁ => ?_) fun _ _ x => x.elim)))
  cases r with
  | none => exact wpAny_pure h₁
  | some v =>
    refine wpAny_bind (wpAny_of_eq (ht v) ?_)
    refine wpAny_bind (wpAny_mono h₁ (fun _ s₂ h₂ => wpAny_bind (wpAny_mono h₂ (fun ok s₃ h₃ => ?_) fun _ _ x => x.elim)) fun _ _ x => x.elim)
    cases ok with
    | false => exact wpAny_pure ⟨rfl, h₃⟩
    | true =>
      exact wpAny_bind (wpAny_bind (wpAny_mono h₃ (fun x s₄ h₄ => wpAny_bind (wpAny_mono h₄ (fun _ s₅ h₅ => wpAny_pure (wpAny_pure ⟨rfl, h₅⟩)) fun _ _ x => x.elim)) fun _ _ x => x.elim))
end
noncomputable abbrev intsN' (l : List Nat) : List Int := l.map Int.ofNat
section
variable {w : World} {A : Around} {s : Shared} {g : Heap} {env : Env} {i0 i1 c : Expr} {x0 x1 : Str} {p0 p1 pe : Pos} {scope : Scope} {cl : List (Str × Addr)} {pos : Pos}
theorem nest_app {vs ws : List Value} {l l' : List Int} (h : IntsAre vs l) (h' : IntsAre ws l') : IntsAre (vs ++ ws) (l ++ l') := by
  induction h with
  | nil => exact h'
  | cons x u _ ih => exact .cons x u ih
theorem nest_len {vs : List Value} {l : List Int} (h : IntsAre vs l) : vs.length = l.length := by
  induction h with
  | nil => rfl
  | cons _ _ _ ih => rw [List.length_cons, List.length_cons, ih]
inductive NestI (n : Nat) (St : Nat → Heap → Prop) (g : Heap) (C : Addr) (T : (Str → Option Value) → Prop) (D : Addr) (rest : List (Addr × Obj)) (Y : Nat → List Nat) (s : Shared) (k : Nat) (s' : Shared) : Prop
  | mk (j : Nat) (h : Heap) (tk : Nat) (m : Str → Option Value) (ys : List Value) (ep : Nat) (e : k = n - j) (hj : j ≤ n) (es : s' = { s with heap := h, toks := tk }) (hS : St j h) (F : Fr g C h m) (hx : T m) (N : News g C h ((D, listOf (List.toArray ys) ep) :: rest)) (hys : IntsAre ys (intsN' (Y j)))
theorem nest_inner {C I1 D : Addr} {n : Nat} {m : Str → Option Value} {va : Value} {rest : List (Addr × Obj)} {ys : List Value} {ep : Nat} {pre : List Nat} {p : Nat → Bool} {R : Result → Shared → Prop}
    (hh : A.handled = none) (hkind : scope.kind = .function) (hx : scope.names.lookup x1 = some .local) (hd : (x1 == ("__debug__" : Str)) = false)
    (F : Fr g C s.heap m) (hx0 : m x0 = some va) (hne : x0 ≠ x1) (N : News g C s.heap ((D, listOf ys.toArray ep) :: rest)) (hD : ∀ q ∈ rest, q.1 ≠ D)
    (hI : IsRangeIter s.heap I1 0 n 1) (hIC : I1 ≠ C) (hIg : g.get? I1 = none) (hID : I1 ≠ D) (hIr : ∀ q ∈ rest, q.1 ≠ I1)
    (hys : IntsAre ys (intsN' pre)) (hlen : pre.length + n ≤ 1000)
    (test : ∀ (i : Nat) (ti : Tok) (h : Heap) (tk : Nat) (m : Str → Option Value) (own : List (Addr × Obj)), i < n → Fr g C h m → m x0 = some va → m x1 = some (.int ((i : Nat) : Int) ti) → News g C h (rest ++ own) →
      wpAny (model PG w) A (isTrue c (compEnvC scope cl C env) (eval c (compEnvC scope cl C env))) (fun ok s₃ => ∃ h' tk' m', s₃ = { s with heap := h', toks := tk' } ∧ Fr g C h' m' ∧ m' x0 = some va ∧ m' x1 = some (.int ((i : Nat) : Int) ti) ∧ News g C h' (rest ++ own) ∧ ok = p i) NoE { s with heap := h, toks := tk })
    (done : ∀ h tk m ys' ep', Fr g C h m → News g C h ((D, listOf (List.toArray ys') ep') :: rest) → IntsAre ys' (intsN' (pre ++ (List.range n).filter p)) → R (.ok .next) { s with heap := h, toks := tk }) :
    codeAny (model PG w) A (.compLoop (.ListComp (.Name x1 pe) [⟨.Name x0 p0, i0, [], 0⟩, ⟨.Name x1 p1, i1, [c], 0⟩] scope pos) 1 (.ref I1) (.ref D) (compEnvC scope cl C env)) R s := by
  have W := Walks.range (prog := PG) (w := w) hh I1 0 1 n
  have kx : (compEnvC scope cl C env).kindOf x1 = some .local := lookup_relabel_local hx
  refine nest_loop1 (NestI n (fun j h => IsRangeIter h I1 (0 + (j : Nat) * 1) ((n : Int) - (j : Nat)) 1) g C (fun m => m x0 = some va) D rest (fun j => pre ++ (List.range j).filter p) s) ?_ (n - 0) ⟨0, s.heap, s.toks, m, ys, ep, rfl, Nat.zero_le _, rfl, by simpa using hI, F, hx0, N, by simpa using hys⟩
  intro k s' hJa
  refine byGoal fun P9 k9 => ?_
  obtain ⟨j, h, tk, m, ys, ep, rfl, hjn, rfl, hSt, F₁, hx0₁, N₁, hys₁⟩ := hJa
  refine k9 ?_
  clear k9 P9
  by_cases hlt : j < n
  · refine W.item j _ _ _ hlt hSt fun v h' tk' hP hSt' hk => ?_
    obtain ⟨tv, rfl⟩ := hP
    refine byGoal fun P9 k9 => ?_
    obtain ⟨oC, es, ep', hCo, r⟩ := id F₁.ns
    refine k9 ?_
    clear k9 P9
    have nw : ∀ {b : Addr}, b ≠ I1 → b ∉ [I1] := fun h q => h (List.mem_singleton.mp q)
    have F₂ : Fr g C h' m := ⟨⟨oC, es, ep', hk _ _ (nw (Ne.symm hIC)) hCo, r⟩, fun b o e => hk b o (nw (fun q => by rw [q, hIg] at e; cases e)) (F₁.keep b o e), F₁.above⟩
    have N₂ : News g C h' ((D, listOf (List.toArray ys) ep) :: rest) := fun q hq => ⟨hk _ _ (nw (by
      rcases List.mem_cons.mp hq with rfl | hq
      · exact Ne.symm hID
      · exact hIr q hq)) (N₁ q hq).1, (N₁ q hq).2⟩
    refine assign_Name ?_
    refine (wpAny_storeName_local kx F₂.ns (fun h'' hn'' hs'' => ?_) (by show (scope.kind == .class || (scope.kind == .module && _)) = false; rw [hkind]; rfl))
    have F₃ := F₂.set hn'' hs''
    have N₃ := N₂.set hs''
    have hSt₃ : IsRangeIter h'' I1 (0 + ((j + 1 : Nat) : Int) * 1) ((n : Int) - ((j + 1 : Nat) : Int)) 1 := W.frame (j + 1) h' h'' hSt' fun b hb o e => (hs''.2 b (fun q => hIC ((List.mem_singleton.mp hb).symm.trans q))).trans e
    obtain ⟨oI, hoI⟩ : ∃ oI, h''.get? I1 = some oI := ⟨_, hSt₃⟩
    have N₄ : News g C h'' (rest ++ [(D, listOf (List.toArray ys) ep), (I1, oI)]) := fun q hq => by
      rcases List.mem_append.mp hq with hq | hq
      · exact N₃ q (.tail _ hq)
      · rcases List.mem_cons.mp hq with rfl | hq
        · exact N₃ _ (.head _)
        · rw [List.mem_singleton.mp hq]; exact ⟨hoI, hIC, hIg⟩
    have e01 : (0 + (j : Int) * 1) = ((j : Nat) : Int) := by exact Mine.om121
    rw [e01] at F₃
    rw [List.forIn_cons]
    refine wpAny_bind ?_
    rw [if_pos rfl]
    refine wpAny_bind (wpAny_mono (test j tv h'' _ _ _ hlt F₃ ((if_neg hne).trans hx0₁) (if_pos rfl) N₄) (fun ok s₃ hend => ?_) fun _ _ x => x.elim)
    refine byGoal fun P9 k9 => ?_
    obtain ⟨h4, tk4, m4, rfl, F4, hx04, hx14, N4, rfl⟩ := hend
    refine k9 ?_
    clear k9 P9
    have stI : ∀ h', h'.get? I1 = some oI → IsRangeIter h' I1 (0 + ((j + 1 : Nat) : Int) * 1) ((n : Int) - ((j + 1 : Nat) : Int)) 1 := fun h' this => by
      have h3 := hSt₃
      unfold IsRangeIter at h3 ⊢
      rw [this, ← hoI]; exact h3
    have hSt4 : IsRangeIter h4 I1 (0 + ((j + 1 : Nat) : Int) * 1) ((n : Int) - ((j + 1 : Nat) : Int)) 1 := stI h4 (N4 (I1, oI) (List.mem_append_right _ (.tail _ (.head _)))).1
    have N5 : News g C h4 ((D, listOf (List.toArray ys) ep) :: rest) := fun q hq => by
      rcases List.mem_cons.mp hq with rfl | hq
      · exact N4 _ (List.mem_append_right _ (.head _))
      · exact N4 _ (List.mem_append_left _ hq)
    have N6 : News g C h4 ((D, listOf (List.toArray ys) ep) :: (rest ++ [(I1, oI)])) := fun q hq => by
      rcases List.mem_cons.mp hq with rfl | hq
      · exact N4 _ (List.mem_append_right _ (.head _))
      · rcases List.mem_append.mp hq with hq | hq
        · exact N4 _ (List.mem_append_left _ hq)
        · exact N4 _ (List.mem_append_right _ (.tail _ hq))
    have hD6 : ∀ q ∈ rest ++ [(I1, oI)], q.1 ≠ D := fun q hq => by
      rcases List.mem_append.mp hq with hq | hq
      · exact hD q hq
      · rw [List.mem_singleton.mp hq]; exact hID
    refine wpAny_pure ?_
    show wpAny _ _ (forIn [] (p j) _) _ _ _
    rw [List.forIn_nil]
    refine wpAny_pure ?_
    have ezl : ys.length ≤ 1000 := by
      have h1 := nest_len hys₁
      have h2 := List.length_filter_le p (List.range j)
      rw [List.length_range] at h2
      rw [h1, List.length_map, List.length_append]; exact Mine.om224 hlen hlt h2
    cases hq : p j with
    | true =>
      rw [if_pos rfl]
      refine ldC F4 hx14 ?_ hkind kx hd
      refine append_K (n := ep) (its := List.toArray ys) F4 N6 (Upd.head hD6) (fun h5 F5 N7 => ?_) (by rw [List.size_toArray]; exact Nat.le_trans ezl (by decide))
      rw [List.push_toArray] at N7
      refine ⟨n - (j + 1), by exact Mine.om9 hlt, j + 1, h5, tk4, m4, ys ++ [.int ((j : Nat) : Int) tv], ep + 1, rfl, hlt, rfl, stI h5 (N7 (I1, oI) (.tail _ (List.mem_append_right _ (.head _)))).1, F5, hx04, fun q hq => ?_, ?_⟩
      · rcases List.mem_cons.mp hq with rfl | hq
        · exact N7 _ (.head _)
        · exact N7 _ (.tail _ (List.mem_append_left _ hq))
      · rw [List.range_succ, List.filter_append, List.filter_cons_of_pos hq, List.filter_nil, ← List.append_assoc, intsN', List.map_append]
        exact nest_app hys₁ (.cons _ _ .nil)
    | false =>
      rw [if_neg (by decide)]
      exact ⟨n - (j + 1), by exact Mine.om9 hlt, j + 1, h4, tk4, m4, ys, ep, rfl, hlt, rfl, hSt4, F4, hx04, N5, by rw [List.range_succ, List.filter_append, List.filter_cons_of_neg (by rw [hq]; decide), List.filter_nil, List.append_nil]; exact hys₁⟩
  · have hj : j = n := by exact Mine.om10 hjn hlt
    subst hj
    refine W.done _ _ _ hSt fun h' tk' hk => ?_
    refine byGoal fun P9 k9 => ?_
    obtain ⟨oC, es, ep', hCo, r⟩ := id F₁.ns
    refine k9 ?_
    clear k9 P9
    have nw : ∀ {b : Addr}, b ≠ I1 → b ∉ [I1] := fun h q => h (List.mem_singleton.mp q)
    refine done h' tk' m ys ep ⟨⟨oC, es, ep', hk _ _ (nw (Ne.symm hIC)) hCo, r⟩, fun b o e => hk b o (nw (fun q => by rw [q, hIg] at e; cases e)) (F₁.keep b o e), F₁.above⟩ (fun q hq => ⟨hk _ _ (nw (by
      rcases List.mem_cons.mp hq with rfl | hq
      · exact Ne.symm hID
      · exact hIr q hq)) (N₁ q hq).1, (N₁ q hq).2⟩) hys₁
theorem flat_len (p : Nat → Nat → Bool) (n : Nat) : ∀ l : List Nat, (l.flatMap fun a => (List.range n).filter (p a)).length ≤ l.length * n
  | [] => Nat.zero_le _
  | a :: l => by
    rw [List.flatMap_cons, List.length_append, List.length_cons, Nat.succ_mul]
    have h1 := flat_len p n l
    have h2 := List.length_filter_le (p a) (List.range n)
    rw [List.length_range] at h2
    exact Mine.om225 h1 h2
theorem nest_rsz (n : Nat) : Builtin.Range.rangeSize 0 n 1 = n := by unfold Builtin.Range.rangeSize; simp; exact Mine.om59
theorem comp_nest {L : Addr} {xs : List Nat} {t : Tok} {n : Nat} {Q : Value → Shared → Prop} {E : Value → Shared → Prop} {m₀ : Str → Option Value} {ld₀ : List (Addr × Obj)} (p : Nat → Nat → Bool) (hasc : (S xs).cps.all (· < 128) = true) (hh : A.handled = none) (hsz : xs.length * n + n ≤ 1000)
    (F : Fr g L s.heap m₀) (N : News g L s.heap ld₀)
    (inner : ∀ (a : Nat) (ua : Tok) (h : Heap) (tk : Nat) (m : Str → Option Value) (C : Addr) (own : List (Addr × Obj)), a ∈ xs → Fr g C h m → m x0 = some (.str (S [a]) ua) → News g C h (ld₀ ++ own) → ∀ (Q' : Value → Shared → Prop),
      (∀ r h' tk' t1 t2 t3, Fr g C h' m → News g C h' (ld₀ ++ own) → IsRange h' r 0 n 1 t1 t2 t3 → Q' (.ref r) { s with heap := h', toks := tk' }) → wpAny (model PG w) A (eval i1 (compEnvC scope cl C env)) Q' NoE { s with heap := h, toks := tk })
    (test : ∀ (a : Nat) (ua : Tok) (i : Nat) (ti : Tok) (h : Heap) (tk : Nat) (m : Str → Option Value) (C : Addr) (own : List (Addr × Obj)), a ∈ xs → i < n → Fr g C h m → m x0 = some (.str (S [a]) ua) → m x1 = some (.int ((i : Nat) : Int) ti) → News g C h (ld₀ ++ own) →
      wpAny (model PG w) A (isTrue c (compEnvC scope cl C env) (eval c (compEnvC scope cl C env))) (fun ok s₃ => ∃ h' tk' m', s₃ = { s with heap := h', toks := tk' } ∧ Fr g C h' m' ∧ m' x0 = some (.str (S [a]) ua) ∧ m' x1 = some (.int ((i : Nat) : Int) ti) ∧ News g C h' (ld₀ ++ own) ∧ ok = p a i) NoE { s with heap := h, toks := tk })
    (done : ∀ (D : Addr) (ys : List Value) (h : Heap) (tk k : Nat), Fr g L h m₀ → News g L h ((D, listOf (List.toArray ys) k) :: ld₀) → (∀ p ∈ ld₀, p.1 < D) → IntsAre ys (intsN' (xs.flatMap fun a => (List.range n).filter (p a))) → Q (.ref D) { s with heap := h, toks := tk })
    (hne : autoParam (x0 ≠ x1) aD._auto_1) (hcell : autoParam (∀ y ∈ scope.names, y.2 ≠ .cell) aD._auto_1) (hkind : autoParam (scope.kind = .function) aR._auto_1) (hx0 : autoParam (scope.names.lookup x0 = some .local) aR._auto_1) (hx1 : autoParam (scope.names.lookup x1 = some .local) aR._auto_1) (hd : autoParam ((x1 == ("__debug__" : Str)) = false) aD._auto_1) (hs : ∀ C x, foldedSetIterable i1 (compEnvC scope cl C env) x = pure x := by intro _ _; rfl) (hL : autoParam (env.locals = L) aR._auto_1) :
    wpAny (model PG w) A (pyIter (.str (S xs) t)) (CompGoal w A none (.Name x1 pe) [⟨.Name x0 p0, i0, [], 0⟩, ⟨.Name x1 p1, i1, [c], 0⟩] scope cl pos env Q) E s := by
  subst hL
  refine wpAny_pyIter_ascii hasc ?_
  intro _
  obtain ⟨I0, hI0⟩ : ∃ I0 : Nat, s.heap.objs.size = I0 := ⟨_, rfl⟩
  have W := Walks.strAscii (prog := PG) (w := w) hh s.heap.objs.size (S xs) t
  have F0 := F.push { cls := .type "str_ascii_iterator", data := .fields #[.str (S xs) t, .int 0 0] }
  generalize hs0 : s.heap.push { cls := .type "str_ascii_iterator", data := .fields #[.str (S xs) t, .int 0 0] } = H1 at F0
  have hH1 : H1.objs.size = I0 + 1 := by rw [← hs0, Heap.size_push, hI0]
  have N0 : News g env.locals H1 ld₀ := fun q hq => ⟨by rw [← hs0]; exact Heap.get?_push_of_some _ (N q hq).1, (N q hq).2⟩
  have hst : H1.IsStrIter s.heap.objs.size "str_ascii_iterator" (S xs) t 0 := by rw [← hs0]; exact ⟨_, Heap.get?_push_size _ rfl, rfl, rfl⟩
  have smallI : ∀ q ∈ ld₀, q.1 < I0 := fun q hq => hI0 ▸ Heap.lt_size (N q hq).1
  rw [hI0] at W hst ⊢
  have gI0 : g.get? I0 = none := gnone (env := env) F (Nat.le_of_eq hI0)
  refine wpAny_newObj_type (wpAny_newFunctionEnv hcell (by intro y hy; simp at hy) (fun h₁ hns₁ hsb₁ => ?_) hkind)
  dsimp only at hns₁ hsb₁ ⊢
  generalize hH2 : H1.push { cls := .type "list", dict := none, data := .seq ([] : List Value).toArray } = H2 at hns₁ hsb₁ ⊢
  have hC : H2.objs.size = I0 + 2 := by rw [← hH2, Heap.size_push, hH1]
  obtain ⟨D, hD⟩ : ∃ D : Nat, H1.objs.size = D := ⟨_, rfl⟩
  obtain ⟨C, hCe⟩ : ∃ C : Nat, H2.objs.size = C := ⟨_, rfl⟩
  rw [hCe] at hns₁ hsb₁ hC ⊢
  rw [hD] at hH1 ⊢
  have hDC : D ≠ C := by exact Mine.om226 hH1 hC
  have old : ∀ b o, H1.get? b = some o → h₁.get? b = some o := fun b o e => hsb₁.extBut b o (by have := ltN (Heap.lt_size e); refine neN ?_; exact Mine.om227 hH1 hD hC this) (Heap.get?_push_of_some _ (hH2 ▸ Heap.get?_push_of_some _ e))
  have hacc : h₁.get? D = some { cls := .type "list", data := .seq ([] : List Value).toArray } := hsb₁.extBut _ _ hDC (Heap.get?_push_of_some _ (hH2 ▸ hD ▸ Heap.get?_push_size _ rfl))
  refine byGoal fun P9 k9 => ?_
  obtain ⟨oL, esL, epL, hoL, hrL⟩ := id F0.ns
  refine k9 ?_
  clear k9 P9
  refine byGoal fun P9 k9 => ?_
  obtain ⟨oL', esL', epL', hoL', _⟩ := id F.ns
  refine k9 ?_
  clear k9 P9
  have hLlt : env.locals < I0 := hI0 ▸ Heap.lt_size hoL'
  have gn : ∀ b, I0 ≤ b → g.get? b = none := fun b hb => gnone (env := env) F (by rw [hI0]; exact hb)
  have gL : g.get? env.locals = none := by
    cases q : g.get? env.locals with
    | none => rfl
    | some o => have := ltN (Heap.lt_size q); have := leN F.above; exact False.elim (Mine.om86 (by assumption) this)
  have gS : g.objs.size ≤ C := by have := leN F.above; have := ltN hLlt; exact Mine.om228 hC (by assumption) this
  have hLN := ltN hLlt
  have loop : ∀ s₃ : Shared, s₃ = { s with heap := h₁, toks := s.toks + ([] : List (Str × Value)).length } →
      codeAny (model PG w) A (.compLoop (.ListComp (.Name x1 pe) [⟨.Name x0 p0, i0, [], 0⟩, ⟨.Name x1 p1, i1, [c], 0⟩] scope pos) 0 (.ref I0) (.ref D) (compEnvC scope cl C env))
        (usePost w A none env Q (.ref D) C) s₃ := by
    rintro s₃ rfl
    refine nest_loop0 (NestI xs.length (fun i h => h.IsStrIter I0 "str_ascii_iterator" (S xs) t i) g C (fun _ => True) D ((env.locals, oL) :: ld₀) (fun i => (xs.take i).flatMap fun a => (List.range n).filter (p a)) s) ?_ (xs.length - 0)
      ⟨0, h₁, _, (fun x => ([] : List (Str × Value)).reverse.lookup x), [], 0, rfl, Nat.zero_le _, rfl, W.frame _ _ _ hst fun b _ o e => old b o e, ⟨hns₁, fun b o e => old b o (F0.keep b o e), gS⟩, trivial, ?_, .nil⟩ (hs := hs C)
    · intro k s' hJa
      refine byGoal fun P9 k9 => ?_
      obtain ⟨i, h, tk, m, ys, ep, rfl, hin, rfl, hSt, F₁, -, N₁, hys₁⟩ := hJa
      refine k9 ?_
      clear k9 P9
      have hsize : (S xs).cps.size = xs.length := S_len xs
      have ndI : ∀ {b : Addr}, b ≠ I0 → b ∉ [I0] := fun h q => h (List.mem_singleton.mp q)
      have hCI : C ≠ I0 := by refine neN ?_; exact Mine.om229 hC
      have hDI : D ≠ I0 := by refine neN ?_; exact Mine.om230 hH1
      have hLI : env.locals ≠ I0 := by refine neN ?_; exact Mine.om112 hLN
      have hlI : ∀ q ∈ ld₀, q.1 ≠ I0 := fun q hq => by have := ltN (smallI q hq); refine neN ?_; exact Mine.om112 this
      by_cases hlt : i < xs.length
      · refine W.item i _ _ _ (by rw [hsize]; exact hlt) hSt fun v h' tk' hP hSt' hk => ?_
        refine byGoal fun P9 k9 => ?_
        obtain ⟨a, ua, ha, rfl⟩ := hP
        refine k9 ?_
        clear k9 P9
        have hxa : xs[i]? = some a := by simpa using ha
        have hmem : a ∈ xs := List.mem_of_getElem? hxa
        refine byGoal fun P9 k9 => ?_
        obtain ⟨oC, es, ep', hCo, r⟩ := id F₁.ns
        refine k9 ?_
        clear k9 P9
        have F₂ : Fr g C h' m := ⟨⟨oC, es, ep', hk _ _ (ndI hCI) hCo, r⟩, fun b o e => hk b o (ndI (fun q => by rw [q, gI0] at e; cases e)) (F₁.keep b o e), F₁.above⟩
        have N₂ : News g C h' ((D, listOf (List.toArray ys) ep) :: (env.locals, oL) :: ld₀) := fun q hq => ⟨hk _ _ (ndI (by
          rcases List.mem_cons.mp hq with rfl | hq
          · exact hDI
          · rcases List.mem_cons.mp hq with rfl | hq
            · exact hLI
            · exact hlI q hq)) (N₁ q hq).1, (N₁ q hq).2⟩
        have kx : (compEnvC scope cl C env).kindOf x0 = some .local := lookup_relabel_local hx0
        refine assign_Name ?_
        refine (wpAny_storeName_local kx F₂.ns (fun h'' hn'' hs'' => ?_) (by show (scope.kind == .class || (scope.kind == .module && _)) = false; rw [hkind]; rfl))
        have F₃ := F₂.set hn'' hs''
        have N₃ := N₂.set hs''
        have hSt₃ : h''.IsStrIter I0 "str_ascii_iterator" (S xs) t (i + 1) := W.frame (i + 1) h' h'' hSt' fun b hb o e => (hs''.2 b (fun q => hCI (q.symm.trans (List.mem_singleton.mp hb)))).trans e
        refine byGoal fun P9 k9 => ?_
        obtain ⟨oI, hoI, hrI⟩ := hSt₃
        refine k9 ?_
        clear k9 P9
        have N₄ : News g C h'' (ld₀ ++ [(D, listOf (List.toArray ys) ep), (env.locals, oL), (I0, oI)]) := fun q hq => by
          rcases List.mem_append.mp hq with hq | hq
          · exact N₃ q (.tail _ (.tail _ hq))
          · rcases List.mem_cons.mp hq with rfl | hq
            · exact N₃ _ (.head _)
            · rcases List.mem_cons.mp hq with rfl | hq
              · exact N₃ _ (.tail _ (.head _))
              · rw [List.mem_singleton.mp hq]; exact ⟨hoI, Ne.symm hCI, gI0⟩
        refine inner a ua h'' _ _ C _ hmem F₃ (if_pos rfl) N₄ _ ?_
        intro r4 h4 tk4 t1 t2 t3 F4 N4 hr4
        refine wpAny_pyIter_range hr4 (by unfold Builtin.Range.small; rw [nest_rsz]; simp [Builtin.Range.rangeFitsLong]; exact Mine.om231 hsz) ?_
        rw [nest_rsz]
        obtain ⟨I1, hI1⟩ : ∃ I1 : Nat, h4.objs.size = I1 := ⟨_, rfl⟩
        have below : ∀ q ∈ ld₀ ++ [(D, listOf (List.toArray ys) ep), (env.locals, oL), (I0, oI)], q.1 < I1 := fun q hq => hI1 ▸ Heap.lt_size (N4 q hq).1
        have hCN := ltN F4.ns.lt
        rw [hI1] at hCN
        let rest : List (Addr × Obj) := (env.locals, oL) :: (I0, oI) :: ld₀
        have two : ∀ own q, q ∈ rest ++ own → q ∈ ld₀ ++ ((env.locals, oL) :: (I0, oI) :: own) := fun own q hq => by
          rcases List.mem_append.mp hq with hq | hq
          · rcases List.mem_cons.mp hq with rfl | hq
            · exact List.mem_append_right _ (.head _)
            · rcases List.mem_cons.mp hq with rfl | hq
              · exact List.mem_append_right _ (.tail _ (.head _))
              · exact List.mem_append_left _ hq
          · exact List.mem_append_right _ (.tail _ (.tail _ hq))
        have owt : ∀ own q, q ∈ ld₀ ++ ((env.locals, oL) :: (I0, oI) :: own) → q ∈ rest ++ own := fun own q hq => by
          rcases List.mem_append.mp hq with hq | hq
          · exact List.mem_append_left _ (.tail _ (.tail _ hq))
          · rcases List.mem_cons.mp hq with rfl | hq
            · exact List.mem_append_left _ (.head _)
            · rcases List.mem_cons.mp hq with rfl | hq
              · exact List.mem_append_left _ (.tail _ (.head _))
              · exact List.mem_append_right _ hq
        have inn : ∀ s₆ : Shared, s₆ = { s with heap := h4.push { cls := .type "range_iterator", data := .fields #[rawInt 0, rawInt n, rawInt 1] }, toks := tk4 } →
            codeAny (model PG w) A (.compLoop (.ListComp (.Name x1 pe) [⟨.Name x0 p0, i0, [], 0⟩, ⟨.Name x1 p1, i1, [c], 0⟩] scope pos) 1 (.ref I1) (.ref D) (compEnvC scope cl C env))
              (fun r s₅ => match r with | .ok _ => ∃ m, m < xs.length - i ∧ NestI xs.length (fun i h => h.IsStrIter I0 "str_ascii_iterator" (S xs) t i) g C (fun _ => True) D ((env.locals, oL) :: ld₀) (fun i => (xs.take i).flatMap fun a => (List.range n).filter (p a)) s m s₅ | .error _ => False) s₆ := by
          rintro s₆ rfl
          refine nest_inner (n := n) (rest := rest) (va := .str (S [a]) ua) (pre := (xs.take i).flatMap fun a => (List.range n).filter (p a)) (p := p a) (m := fun y => if y = x0 then some (.str ⟨#[a]⟩ ua) else m y) hh hkind hx1 hd (F4.push _) (if_pos rfl) hne (fun q hq => ⟨Heap.get?_push_of_some _ (N4 q (by
              rcases List.mem_cons.mp hq with rfl | hq
              · exact List.mem_append_right _ (.head _)
              · rcases List.mem_cons.mp hq with rfl | hq
                · exact List.mem_append_right _ (.tail _ (.head _))
                · rcases List.mem_cons.mp hq with rfl | hq
                  · exact List.mem_append_right _ (.tail _ (.tail _ (.head _)))
                  · exact List.mem_append_left _ hq)).1, (N4 q (by
              rcases List.mem_cons.mp hq with rfl | hq
              · exact List.mem_append_right _ (.head _)
              · rcases List.mem_cons.mp hq with rfl | hq
                · exact List.mem_append_right _ (.tail _ (.head _))
                · rcases List.mem_cons.mp hq with rfl | hq
                  · exact List.mem_append_right _ (.tail _ (.tail _ (.head _)))
                  · exact List.mem_append_left _ hq)).2⟩) ?_ ?_ ?_ ?_ ?_ ?_ hys₁ ?_ ?_ ?_
          · intro q hq
            rcases List.mem_cons.mp hq with rfl | hq
            · show env.locals ≠ D; refine neN ?_; exact Mine.om117 hH1 hLN
            · rcases List.mem_cons.mp hq with rfl | hq
              · show I0 ≠ D; exact Mine.om104 hH1
              · have := ltN (smallI q hq); refine neN ?_; exact Mine.om117 hH1 this
          · rw [← hI1]; exact by have := Heap.get?_push_size h4 (o := { cls := .type "range_iterator", data := .fields #[rawInt 0, rawInt n, rawInt 1] }) rfl; simpa using this
          · refine neN ?_; exact Mine.om119 hCN
          · exact gn I1 (by exact Mine.om232 hC hCN)
          · have := ltN (below (D, listOf (List.toArray ys) ep) (List.mem_append_right _ (.head _))); dsimp only at this; refine neN ?_; exact Mine.om233 hH1 hC hCN
          · intro q hq
            have := ltN (below q (by
              rcases List.mem_cons.mp hq with rfl | hq
              · exact List.mem_append_right _ (.tail _ (.head _))
              · rcases List.mem_cons.mp hq with rfl | hq
                · exact List.mem_append_right _ (.tail _ (.tail _ (.head _)))
                · exact List.mem_append_left _ hq)); refine neN ?_; exact Mine.om112 this
          · have h1 := flat_len p n (xs.take i)
            have h2 : (xs.take i).length ≤ xs.length := List.length_take_le' _ _
            have h3 := Nat.mul_le_mul_right n h2
            exact Mine.om234 hsz h1 h3
          · intro i2 ti h5 tk5 m5 own5 hi2 F5 hx05 hx15 N5
            refine wpAny_mono (test a ua i2 ti h5 tk5 m5 C ((env.locals, oL) :: (I0, oI) :: own5) hmem hi2 F5 hx05 hx15 (news_sub N5 (owt own5))) (fun ok s₃ hq => ?_) fun _ _ x => x.elim
            refine byGoal fun P9 k9 => ?_
            obtain ⟨h6, tk6, m6, rfl, F6, e6, e7, N6, rfl⟩ := hq
            refine k9 ?_
            clear k9 P9
            exact ⟨h6, tk6, m6, rfl, F6, e6, e7, news_sub N6 (two own5), rfl⟩
          · intro h5 tk5 m5 ys5 ep5 F5 N5 hys5
            refine ⟨xs.length - (i + 1), by exact Mine.om9 hlt, i + 1, h5, tk5, m5, ys5, ep5, rfl, hlt, rfl, ⟨oI, (N5 (I0, oI) (.tail _ (.tail _ (.head _)))).1, hrI⟩, F5, trivial, news_sub N5 (fun q hq => ?_), ?_⟩
            · rcases List.mem_cons.mp hq with rfl | hq
              · exact .head _
              · rcases List.mem_cons.mp hq with rfl | hq
                · exact .tail _ (.head _)
                · exact .tail _ (.tail _ (.tail _ hq))
            · rw [take_succ_of hxa, List.flatMap_append, List.flatMap_cons, List.flatMap_nil, List.append_nil]; exact hys5
        rw [hI1]
        refine nest_start1 (inn _ rfl) ((Walks.range (prog := PG) (w := w) hh I1 0 1 n).self 0 _ _ _ ?_ (inn _ rfl))
        rw [← hI1]; exact by have := Heap.get?_push_size h4 (o := { cls := .type "range_iterator", data := .fields #[rawInt 0, rawInt n, rawInt 1] }) rfl; simpa using this
      · have hi : i = xs.length := by exact Mine.om10 hin hlt
        subst hi
        have hd9 : (S xs).cps.size = xs.length := S_len xs
        rw [← hd9] at hSt
        refine W.done _ _ _ hSt fun h' tk' hk => ?_
        refine byGoal fun P9 k9 => ?_
        obtain ⟨oC, es, ep', hCo, r⟩ := id F₁.ns
        refine k9 ?_
        clear k9 P9
        have hDh := (N₁ _ (.head _)).1
        have hLh := (N₁ _ (.tail _ (.head _))).1
        have hnC : h'.Ns C m := ⟨oC, es, ep', hk _ _ (ndI hCI) hCo, r⟩
        refine ⟨m, hnC, fun h'' hs'' => ?_⟩
        have up : ∀ b o, b ≠ I0 → b ≠ C → h.get? b = some o → h''.get? b = some o := fun b o hb hbC e => (hs''.2 b hbC).trans (hk b o (ndI hb) e)
        rw [List.take_length] at hys₁
        refine done D ys h'' tk' ep ⟨⟨oL, esL, epL, up _ _ hLI (by refine neN ?_; exact Mine.om235 hC hLN) hLh, hrL⟩, fun b o e => up b o (fun q => by rw [q, gI0] at e; cases e) (fun q => by rw [q, gn C (by exact Mine.om236 hC)] at e; cases e) (F₁.keep b o e), F.above⟩ (fun q hq => ?_) (fun q hq => by have := ltN (smallI q hq); show @LT.lt Nat _ q.1 D; exact Mine.om237 hH1 this) hys₁
        rcases List.mem_cons.mp hq with rfl | hq
        · exact ⟨up _ _ hDI hDC hDh, by show D ≠ _; refine neN ?_; exact Mine.om238 hH1 hLN, gn D (by exact Mine.om118 hH1)⟩
        · have hq' := N₁ q (.tail _ (.tail _ hq))
          exact ⟨up _ _ (hlI q hq) hq'.2.1 hq'.1, (N q hq).2.1, hq'.2.2⟩
    · intro q hq
      rcases List.mem_cons.mp hq with rfl | hq
      · exact ⟨hacc, hDC, gn D (by exact Mine.om118 hH1)⟩
      · rcases List.mem_cons.mp hq with rfl | hq
        · exact ⟨old _ _ hoL, by show env.locals ≠ C; refine neN ?_; exact Mine.om235 hC hLN, gL⟩
        · exact ⟨old _ _ (N0 q hq).1, by have := ltN (smallI q hq); show q.1 ≠ C; refine neN ?_; exact Mine.om235 hC this, (N0 q hq).2.2⟩
  have hst1 : h₁.IsStrIter I0 "str_ascii_iterator" (S xs) t 0 := W.frame _ _ _ hst fun b _ o e => old b o e
  exact codeAny_compStart_list (loop _ rfl) (W.self 0 _ _ _ hst1 (loop _ rfl))
end
end Mine
end
section
open PySem PySem.W PyProof.Rows PySem.Calls PySem.Spec
set_option maxHeartbeats 1000000
namespace Mine
-- names whose map is known by a fact
local macro_rules | `(tactic| walk_at $s:str) => `(tactic| k_extra $s)
example : True := by
  k_with_none
  (k_with "eval Name" => (first | ((k_dflt (((with_reducible refine' ldEp (by k_dflt (with_reducible assumption)) (by k_dflt (rfl)) (by k_dflt (rfl)) (by k_dflt (rfl)) (by k_dflt (decide)) (by k_dflt (first | rfl | assumption)) ?_)); k_whole))) | fail "row"))
  (k_with "loadName" => (first | ((k_dflt (((with_reducible refine' ldnEp (by k_dflt (with_reducible assumption)) (by k_dflt (rfl)) (by k_dflt (rfl)) (by k_dflt (rfl)) (by k_dflt (first | rfl | assumption)) ?_)); k_whole))) | fail "row"))
  trivial
local macro_rules | `(tactic| walk_at "call builtin:hasattr") => `(tactic| (refine hasattr_str ?_; intro h9 k9; (have F9 := fr_stays (by assumption) k9); (have N9 := news_stays (by assumption) k9); k_sweep))
section
variable {w : World} {base : Heap} {A : Around} {E : Value → Shared → Prop} {s : Shared} {Q : Value → Shared → Prop} {k : Nat} {x y : Str} {t u : Tok}

theorem c_lt (G : G0 w base) (st : base.StaysIn s.heap) (R : Rm A (k + 2))
   (h : ∀ h' tk, s.heap.StaysIn h' → Q (.bool (decide (x.cps.toList < y.cps.toList))) { s with heap := h', toks := tk }) :
   wpAny (model PG w) A (call (.ref 21) [.str x t, .str y u]) Q E s := by
  refine wpAny_call ?_
  refine enterH (ld := []) G st (fun _ h => nomatch h) R.room (by k_is) (by k_is) (BindsTo.of_eq rfl) (locs rfl) ?_ (by decide)
  intro g L h₁ up dn F N X G'
  obtain ⟨pp, loo, mg, mb, T⟩ := G'.T
  have R' := R.deeper
  dsimp only [List.reverse_cons, List.reverse_nil, List.nil_append, List.cons_append, List.length_cons, List.length_nil] at F ⊢
  k_steps
  exact h _ _ (fun b o e => F.keep b o (up b o e (fun q => nomatch q)))

theorem c_le (G : G0 w base) (st : base.StaysIn s.heap) (R : Rm A (k + 2))
   (h : ∀ h' tk, s.heap.StaysIn h' → Q (.bool (!decide (y.cps.toList < x.cps.toList))) { s with heap := h', toks := tk }) :
   wpAny (model PG w) A (call (.ref 28) [.str x t, .str y u]) Q E s := by
  refine wpAny_call ?_
  refine enterH (ld := []) G st (fun _ h => nomatch h) R.room (by k_is) (by k_is) (BindsTo.of_eq rfl) (locs rfl) ?_ (by decide)
  intro g L h₁ up dn F N X G'
  obtain ⟨pp, loo, mg, mb, T⟩ := G'.T
  have R' := R.deeper
  dsimp only [List.reverse_cons, List.reverse_nil, List.nil_append, List.cons_append, List.length_cons, List.length_nil] at F ⊢
  k_steps
  exact h _ _ (fun b o e => F.keep b o (up b o e (fun q => nomatch q)))

theorem c_ge (G : G0 w base) (st : base.StaysIn s.heap) (R : Rm A (k + 2))
   (h : ∀ h' tk, s.heap.StaysIn h' → Q (.bool (!decide (x.cps.toList < y.cps.toList))) { s with heap := h', toks := tk }) :
   wpAny (model PG w) A (call (.ref 35) [.str x t, .str y u]) Q E s := by
  refine wpAny_call ?_
  refine enterH (ld := []) G st (fun _ h => nomatch h) R.room (by k_is) (by k_is) (BindsTo.of_eq rfl) (locs rfl) ?_ (by decide)
  intro g L h₁ up dn F N X G'
  obtain ⟨pp, loo, mg, mb, T⟩ := G'.T
  have R' := R.deeper
  dsimp only [List.reverse_cons, List.reverse_nil, List.nil_append, List.cons_append, List.length_cons, List.length_nil] at F ⊢
  k_steps
  exact h _ _ (fun b o e => F.keep b o (up b o e (fun q => nomatch q)))

theorem c_gt (G : G0 w base) (st : base.StaysIn s.heap) (R : Rm A (k + 2))
   (h : ∀ h' tk, s.heap.StaysIn h' → Q (.bool (decide (y.cps.toList < x.cps.toList))) { s with heap := h', toks := tk }) :
   wpAny (model PG w) A (call (.ref 42) [.str x t, .str y u]) Q E s := by
  refine wpAny_call ?_
  refine enterH (ld := []) G st (fun _ h => nomatch h) R.room (by k_is) (by k_is) (BindsTo.of_eq rfl) (locs rfl) ?_ (by decide)
  intro g L h₁ up dn F N X G'
  obtain ⟨pp, loo, mg, mb, T⟩ := G'.T
  have R' := R.deeper
  dsimp only [List.reverse_cons, List.reverse_nil, List.nil_append, List.cons_append, List.length_cons, List.length_nil] at F ⊢
  k_steps
  exact h _ _ (fun b o e => F.keep b o (up b o e (fun q => nomatch q)))

theorem c_isnt {i : Int} (G : G0 w base) (st : base.StaysIn s.heap) (R : Rm A (k + 2))
   (h : ∀ h' tk, s.heap.StaysIn h' → Q (.bool (decide (i ≥ 256))) { s with heap := h', toks := tk }) :
   wpAny (model PG w) A (call (.ref 122) [.int i t]) Q E s := by
  refine wpAny_call ?_
  refine enterH (ld := []) G st (fun _ h => nomatch h) R.room (by k_is) (by k_is) (BindsTo.of_eq rfl) (locs rfl) ?_ (by decide)
  intro g L h₁ up dn F N X G'
  obtain ⟨pp, loo, mg, mb, T⟩ := G'.T
  have R' := R.deeper
  dsimp only [List.reverse_cons, List.reverse_nil, List.nil_append, List.cons_append, List.length_cons, List.length_nil] at F ⊢
  k_steps
  exact h _ _ (fun b o e => F.keep b o (up b o e (fun q => nomatch q)))

theorem c_contains {l : Addr} {vs : List Value} {ys : List Str} (G : G0 w base) (st : base.StaysIn s.heap) (R : Rm A (k + 2)) (hl : s.heap.IsList l vs.toArray) (hi : StrsAre vs ys)
   (h : ∀ h' tk, s.heap.StaysIn h' → Q (.bool (ys.any fun y => y == x)) { s with heap := h', toks := tk }) :
   wpAny (model PG w) A (call (.ref 56) [.ref l, .str x t]) Q E s := by
  refine wpAny_call ?_
  refine enterH (ld := []) G st (fun _ h => nomatch h) R.room (by k_is) (by k_is) (BindsTo.of_eq rfl) (locs rfl) ?_ (by decide)
  intro g L h₁ up dn F N X G'
  obtain ⟨pp, loo, mg, mb, T⟩ := G'.T
  have R' := R.deeper
  dsimp only [List.reverse_cons, List.reverse_nil, List.nil_append, List.cons_append, List.length_cons, List.length_nil] at F ⊢
  have hg : g.IsList l vs.toArray := let ⟨o, ho, r⟩ := hl; ⟨o, up _ _ ho (fun q => nomatch q), r⟩
  k_steps
  exact h _ _ (fun b o e => F.keep b o (up b o e (fun q => nomatch q)))

example : True := by
  (k_with "binaryOp Add str str" => (first | ((refine addS (by first | (simp only [sizeLine]; omega)) ?_; intro t9 tk9 l9 m9; revert t9 tk9 l9 m9; intro _ _ _ _)) | fail "row"))
  trivial
theorem c_concat (G : G0 w base) (st : base.StaysIn s.heap) (R : Rm A (k + 2)) (hz : x.length ≤ 100) (hz' : y.length ≤ 100)
   (h : ∀ h' tk t', s.heap.StaysIn h' → (x.length ≠ 0 → y.length ≠ 0 → s.toks ≤ t' ∧ t' < tk) → Q (.str (x ++ y) t') { s with heap := h', toks := tk }) :
   wpAny (model PG w) A (call (.ref 49) [.str x t, .str y u]) Q E s := by
  refine wpAny_call ?_
  refine enterH (ld := []) (binds := [("a", .str x t), ("b", .str y u)]) G st (fun _ h => nomatch h) R.room (by k_is) (by k_is) (BindsTo.of_eq rfl) (locs rfl) ?_ (by decide)
  intro g L h₁ up dn F N X G'
  obtain ⟨pp, loo, mg, mb, T⟩ := G'.T
  have R' := R.deeper
  dsimp only [List.reverse_cons, List.reverse_nil, List.nil_append, List.cons_append, List.length_cons, List.length_nil] at F ⊢
  walk1
  refine later ?_
  k_steps
  rename_i lt1 _ lt2 l0 l1
  refine h _ _ _ (fun b o e => Fr.keep (by assumption) b o (up b o e (fun q => nomatch q))) (fun a b => ?_)
  have := l1 a b
  have := lt1.1
  simp only at *
  omega

theorem c_countOf {l : Addr} {vs : List Value} {ys : List Str} (G : G0 w base) (st : base.StaysIn s.heap) (R : Rm A (k + 2)) (hl : s.heap.IsList l vs.toArray) (hi : StrsAre vs ys) (ht : t ≠ 0)
   (hv : ∀ y u, .str y u ∈ vs → u ≠ 0 ∧ (u = t → y = x))
   (h : ∀ h' tk tr, s.heap.StaysIn h' → Q (.int (ys.count x) tr) { s with heap := h', toks := tk }) :
   wpAny (model PG w) A (call (.ref 63) [.ref l, .str x t]) Q E s := by
  refine wpAny_call ?_
  refine enterH (ld := []) (binds := [("a", .ref l), ("b", .str x t)]) G st (fun _ h => nomatch h) R.room (by k_is) (by k_is) (BindsTo.of_eq rfl) (locs rfl) ?_ (by decide)
  intro g L h₁ up dn F N X G'
  obtain ⟨pp, loo, mg, mb, T⟩ := G'.T
  have R' := R.deeper
  dsimp only [List.reverse_cons, List.reverse_nil, List.nil_append, List.cons_append, List.length_cons, List.length_nil] at F ⊢
  have hg := isList_up hl up
  (try k_fold)
  refine byGoal fun P9 k9 => ?_
  obtain ⟨ol, hol, _⟩ := id hg
  refine k9 ?_
  clear k9 P9
  have hb := noneBooked X
  walk1
  walk1
  walk1
  walk1
  walk1
  refine for_rule ?_
  walk1
  refine for_list (vs := vs) (ld₀ := []) (fun i m ld => m "b" = some (.str x t) ∧ ∃ tc, m "count" = some (.int ((ys.take i).count x) tc)) R.h (isList_keep hg (Fr.keep (by assumption))) (fr_ne (by assumption) hol) (fun q hq => nomatch hq) (by assumption) (News.nil) ⟨rfl, _, rfl⟩ ?_ ?_
  · intro i v m ld h tk own hiv htk had hoff hJa F₂ N₂
    (try k_fold)
    refine byGoal fun P9 k9 => ?_
    obtain ⟨hmb, tc, hmc⟩ := hJa
    refine k9 ?_
    clear k9 P9
    (try k_fold)
    refine byGoal fun P9 k9 => ?_
    obtain ⟨y, u, hy, rfl⟩ := strsAre_get hi hiv
    refine k9 ?_
    clear k9 P9
    have hvu := hv y u (List.mem_of_getElem? hiv)
    have ec := count_take_succ (x := x) hy
    k_steps
    refine is_str hvu.1 ht (noneBooked_keep hb (Fr.keep (by assumption))) hvu.2 fun b hbq => ?_
    k_steps
    · refine ⟨_, _, _, ld, rfl, by assumption, by assumption, had, ?_⟩; refine ⟨hmb, ?tk1, ?_⟩; rotate_left
      · rw [ec, if_pos (hbq (by assumption)), Int.natCast_add]; rfl
    · refine ⟨_, _, _, ld, rfl, by assumption, by assumption, had, ?_⟩; refine ⟨hmb, ?tk2, ?_⟩; rotate_left
      · rw [ec, if_pos (by simp_all), Int.natCast_add]; rfl
    · refine ⟨_, _, _, ld, rfl, by assumption, by assumption, had, ?_⟩; refine ⟨hmb, tc, ?_⟩
      rw [ec, if_neg (by simp_all)]; exact hmc
  · intro m ld h' tk htk hJa F₂ N₂
    (try k_fold)
    refine byGoal fun P9 k9 => ?_
    obtain ⟨hmb, tc, hmc⟩ := hJa
    refine k9 ?_
    clear k9 P9
    k_steps
    rw [strsAre_length hi, List.take_length]
    exact h _ _ _ (fun b o e => F₂.keep b o (up b o e (fun q => nomatch q)))

theorem c_indexOf_str {l : Addr} {vs : List Value} {ys : List Str} {x : Str} (G : G0 w base) (st : base.StaysIn s.heap) (R : Rm A (k + 2)) (hl : s.heap.IsList l vs.toArray) (hi : StrsAre vs ys) (ht : t ≠ 0)
   (hv : ∀ y u, .str y u ∈ vs → u ≠ 0 ∧ (u = t → y = x)) (hx : x ∈ ys)
   (h : ∀ h' tk tr, s.heap.StaysIn h' → Q (.int (ys.idxOf x : Nat) tr) { s with heap := h', toks := tk }) :
   wpAny (model PG w) A (call (.ref 70) [.ref l, .str x t]) Q E s := by
  refine wpAny_call ?_
  refine enterH (ld := []) (binds := [("a", .ref l), ("b", .str x t)]) G st (fun _ h => nomatch h) R.room (by k_is) (by k_is) (BindsTo.of_eq rfl) (locs rfl) ?_ (by decide)
  intro g L h₁ up dn F N X G'
  obtain ⟨pp, loo, mg, mb, T⟩ := G'.T
  have R' := R.deeper
  dsimp only [List.reverse_cons, List.reverse_nil, List.nil_append, List.cons_append, List.length_cons, List.length_nil] at F ⊢
  have hg := isList_up hl up
  have hb := noneBooked X
  walk1
  refine for_rule ?_
  iterate 6 walk1
  refine for_enum (vs := vs) (fun i m => m "b" = some (.str x t) ∧ x ∉ ys.take i) R.h hg (by assumption) ⟨rfl, by simp⟩ ?_ ?_
  · rintro i v ti m h' tk own hiv htk ⟨hmb, hni⟩ F₂ N₂
    (try k_fold)
    refine byGoal fun P9 k9 => ?_
    obtain ⟨y, u, hy, rfl⟩ := strsAre_get hi hiv
    refine k9 ?_
    clear k9 P9
    have hvu := hv y u (List.mem_of_getElem? hiv)
    k_steps
    refine is_str hvu.1 ht (noneBooked_keep hb (Fr.keep (by assumption))) hvu.2 fun b hbq => ?_
    k_steps
    · have e : y = x := hbq (by assumption)
      subst e
      rw [idxOf_at hy hni] at h
      exact h _ _ _ (fun b o e => Fr.keep (by assumption) b o (up b o e (fun q => nomatch q)))
    · have e : y = x := by simp_all
      subst e
      rw [idxOf_at hy hni] at h
      exact h _ _ _ (fun b o e => Fr.keep (by assumption) b o (up b o e (fun q => nomatch q)))
    · refine ⟨_, _, _, rfl, by assumption, by assumption, ?_⟩; exact ⟨hmb, not_take_succ hy hni (by simp_all)⟩
  · rintro m h' tk htk ⟨hmb, hni⟩ F₂
    exfalso
    rw [strsAre_length hi, List.take_length] at hni
    exact hni hx

theorem c_indexOf_int {l : Addr} {vs : List Value} {ys : List Int} {x : Int} (G : G0 w base) (st : base.StaysIn s.heap) (R : Rm A (k + 2)) (hl : s.heap.IsList l vs.toArray) (hi : IntsAre vs ys) (ht : t ≠ 0)
   (hv : ∀ y u, .int y u ∈ vs → u ≠ 0 ∧ (u = t → y = x)) (hx : x ∈ ys)
   (h : ∀ h' tk tr, s.heap.StaysIn h' → Q (.int (ys.idxOf x : Nat) tr) { s with heap := h', toks := tk }) :
   wpAny (model PG w) A (call (.ref 70) [.ref l, .int x t]) Q E s := by
  refine wpAny_call ?_
  refine enterH (ld := []) (binds := [("a", .ref l), ("b", .int x t)]) G st (fun _ h => nomatch h) R.room (by k_is) (by k_is) (BindsTo.of_eq rfl) (locs rfl) ?_ (by decide)
  intro g L h₁ up dn F N X G'
  obtain ⟨pp, loo, mg, mb, T⟩ := G'.T
  have R' := R.deeper
  dsimp only [List.reverse_cons, List.reverse_nil, List.nil_append, List.cons_append, List.length_cons, List.length_nil] at F ⊢
  have hg := isList_up hl up
  have hb := noneBooked X
  walk1
  refine for_rule ?_
  iterate 6 walk1
  refine for_enum (vs := vs) (fun i m => m "b" = some (.int x t) ∧ x ∉ ys.take i) R.h hg (by assumption) ⟨rfl, by simp⟩ ?_ ?_
  · rintro i v ti m h' tk own hiv htk ⟨hmb, hni⟩ F₂ N₂
    (try k_fold)
    refine byGoal fun P9 k9 => ?_
    obtain ⟨y, u, hy, rfl⟩ := intsAre_get hi hiv
    refine k9 ?_
    clear k9 P9
    have hvu := hv y u (List.mem_of_getElem? hiv)
    k_steps
    refine is_int hvu.1 ht (noneBooked_keep hb (Fr.keep (by assumption))) hvu.2 fun b hbq => ?_
    k_steps
    · have e : y = x := hbq (by assumption)
      subst e
      rw [idxOf_at hy hni] at h
      exact h _ _ _ (fun b o e => Fr.keep (by assumption) b o (up b o e (fun q => nomatch q)))
    · have e : y = x := by simp_all
      subst e
      rw [idxOf_at hy hni] at h
      exact h _ _ _ (fun b o e => Fr.keep (by assumption) b o (up b o e (fun q => nomatch q)))
    · refine ⟨_, _, _, rfl, by assumption, by assumption, ?_⟩; exact ⟨hmb, not_take_succ hy hni (by simp_all)⟩
  · rintro m h' tk htk ⟨hmb, hni⟩ F₂
    exfalso
    rw [IntsAre.length hi, List.take_length] at hni
    exact hni hx
end
end Mine
end
section
open PySem PySem.W PyProof.Rows PySem.Calls PySem.Spec
set_option maxHeartbeats 1000000
namespace Mine
local macro_rules | `(tactic| walk_at $s:str) => `(tactic| k_extra $s)
example : True := by
  (k_with "SM" => (first | (repeat' (first | exact Nat.le_of_eq (by with_reducible assumption) | with_reducible refine' sm_add ?_ ?_ | exact Nat.le_refl _)) | fail "row"))
  (k_with "eval Name" => (first | ((refine' ld (by k_dflt (with_reducible assumption)) (by k_dflt (first | rfl | assumption)) ?_ (by k_dflt (rfl)) (by k_dflt (rfl)); k_whole)) | fail "row"))
  (k_with "loadName" => (first | ((refine' ldn (by k_dflt (with_reducible assumption)) (by k_dflt (first | rfl | assumption)) ?_ (by k_dflt (rfl)) (by k_dflt (rfl)); k_whole)) | fail "row"))
  trivial
local macro_rules | `(tactic| walk_at "assign") => `(tactic| (refine' unpackL ?F ?N ?h ?l ?a ?b ?_; (case F => assumption); (case N => assumption); (case h => exact Rm.h (Rm.deeper (by assumption) _)); (case l => is_list); (case a => rfl); (case b => rfl); k_whole; intro h9 F9 N9 k9; clear k9; k_sweep))
example : True := by
  (k_with "ZZ" => (first | ((refine addS0 (by k_dflt (k_dflt (refine Nat.le_trans (Nat.add_le_add ((by k_dflt (walk_at "SM")) : _ ≤ _) ((by k_dflt (walk_at "SM")) : _ ≤ _)) (by k_dflt (decide))))) ?_; intro t9 tk9; revert t9 tk9; intro _ _)) | fail "row"))
  trivial
section
variable {w : World} {base : Heap} {A : Around} {E : Value → Shared → Prop} {s : Shared} {Q : Value → Shared → Prop} {k : Nat} {x y z : Str} {t u v : Tok}

theorem c_words {l : Addr} {c : Int} {tc : Tok} (G : G0 w base) (st : base.StaysIn s.heap) (R : Rm A (k + 2)) (hl : s.heap.IsList l #[.str x t, .str y u, .str z v]) (hx : x.length = 1) (hy : y.length = 1) (hz : z.length = 1)
   (h : ∀ l' h' tk vs n, s.heap.StaysIn h' → Fresh s.heap h' l' (listOf vs n) → StrsAre vs.toList (wordsP ((c.fdiv 3).fmod 2) (c.fmod 3) x y z) → Q (.ref l') { s with heap := h', toks := tk }) :
   wpAny (model PG w) A (call (.ref 143) [.int c tc, .ref l]) Q E s := by
  refine wpAny_call ?_
  refine enterH (ld := []) (binds := [("cell", .int c tc), ("names", .ref l)]) G st (fun _ h => nomatch h) R.room (by k_is) (by k_is) (BindsTo.of_eq rfl) (locs rfl) ?_ (by decide)
  intro g L h₁ up dn F N X G'
  obtain ⟨pp, loo, mg, mb, T⟩ := G'.T
  have R' := R.deeper
  dsimp only [List.reverse_cons, List.reverse_nil, List.nil_append, List.cons_append, List.length_cons, List.length_nil] at F ⊢
  have hg : g.IsList l #[.str x t, .str y u, .str z v] := isList_up hl up
  repeat' (first | (k_unfold; (try dsimp only)) | ((with_reducible show wpAny _ _ (binaryOp Operator.Add (Value.str _ _) (Value.str _ _)) _ _ _); walk_at "ZZ") | (k_end; wrow_close) | walk1 | (dsimp only; walk1) | dsimp only)
  all_goals (refine h _ _ _ _ _ (fun b o e => Fr.keep (by assumption) b o (up b o e (fun q => nomatch q))) (fresh_of_news (by assumption) (by k_mem) up) ?_)
  all_goals (unfold wordsP; simp only [*]; simp only [if_true, if_false, Int.reduceEq, reduceIte, Int.zero_ne_one, Int.one_ne_zero]; repeat constructor)
end
end Mine
end
section
open PySem PySem.W PyProof.Rows PySem.Calls PySem.Spec
set_option maxHeartbeats 1000000
namespace Mine
open Sem (wp)
theorem owner_ci : Manifest.owners.lookup (String.ofList ['r', 'o', 't', 'a', 'r', 'e', 't', 'i', '_', 'e', 'l', 'b', 'a', 'l', 'l', 'a', 'c'].reverse) = some Manifest.sig_callable_iterator := by kernel_rfl
theorem slot_ci_next : Slot "callable_iterator" "__next__" "callable_iterator.__next__" :=
  .of (owner := "callable_iterator") (n := "__next__") (by rw [typeLookup_type, builtinLookup_eq_fast]; kernel_rfl) (by decide +kernel) (by decide +kernel) (by decide +kernel)
    (by first | exact .inl (by decide +kernel) | exact .inr (by decide +kernel)) (by rw [isSubtype_type]; kernel_rfl)
theorem entry_ci_next : entryFor table "callable_iterator.__next__" = some Builtin.«callable_iterator.__next__» := entryFor_of_tree (by kernel_rfl)
theorem args_ci_next (a : Value) : argsOk "callable_iterator.__next__" ⟨[a], []⟩ := by
  unfold argsOk; rw [signature?_of (id := "callable_iterator.__next__") (n := ['_', '_', 't', 'x', 'e', 'n', '_', '_']) (o := ['r', 'o', 't', 'a', 'r', 'e', 't', 'i', '_', 'e', 'l', 'b', 'a', 'l', 'l', 'a', 'c']) (by kernel_rfl) owner_ci]; kernel_rfl
noncomputable def ciObj (M sen : Value) : Obj := { cls := .type "callable_iterator", data := .fields #[M, sen, .bool false] }
noncomputable def ciEnd : Obj := { cls := .type "callable_iterator", data := .fields #[.none, .none, .bool true] }
section
variable {prog : Program} {w : World} {A : Around} {E : Value → Shared → Prop} {s : Shared} {Q : Option Value → Shared → Prop}
theorem wpAny_callBorrowed {M : Model} {f : Value} {pos : List Value} {Q : Value → Shared → Prop}
    (hc : codeAny M A (.call f ⟨pos, []⟩) (fun r s' => match r with | .ok (.ret v) => Q v s' | .ok _ => False | .error e => E e s') s) :
    wpAny M A (callBorrowed f pos) Q E s := fun Γ p hΓ => by
  unfold callBorrowed
  rw [Sem.wp_call]
  refine wpCode_mono (fun r s' h => ?_) (hc _ p rfl (hΓ.enter _ none p (by intro x; cases x)))
  cases r with
  | error e => exact h
  | ok f => cases f <;> first | exact h | exact h.elim
theorem borrows_meth {M : Model} {m : Addr} {f x : Addr} {o : Obj} {fd : FuncData} {Q : Bool → Shared → Prop} (hm : s.heap.get? m = some (methodObj (.ref f) (.ref x))) (hf : s.heap.get? f = some o) (hd : o.data = .func fd) (h : Q true s) : wpAny M A (borrowsExactly (.ref m)) Q E s := by
  unfold borrowsExactly
  refine wpAny_bind (wpAny_load hm ?_)
  show wpAny _ _ (load f >>= _) _ _ _
  refine wpAny_bind (wpAny_load hf ?_)
  rw [hd]
  exact wpAny_pure h
theorem ci_next_some {I m f x : Addr} {tk₀ : Tok} {o : Obj} {fd : FuncData}
    (hI : s.heap.get? I = some (ciObj (.ref m) (.str ⟨#[]⟩ tk₀))) (hm : s.heap.get? m = some (methodObj (.ref f) (.ref x))) (hf : s.heap.get? f = some o) (hd : o.data = .func fd)
    (hh : A.handled = none)
    (hc : codeAny (model prog w) A.in1 (.call (.ref f) ⟨[.ref x], []⟩) (fun r s' => ∃ l t', r = .ok (.ret (.str ⟨l⟩ t')) ∧ s'.heap.get? I = some (ciObj (.ref m) (.str ⟨#[]⟩ tk₀)) ∧ s'.heap.get? m = some (methodObj (.ref f) (.ref x)) ∧ s'.heap.get? f = some o ∧
      (l ≠ #[] → Q (some (.str ⟨l⟩ t')) s') ∧ (l = #[] → ∀ h', (∀ b o, s'.heap.get? b = some o → b ≠ I → h'.get? b = some o) → h'.get? I = some ciEnd → Q none { s' with heap := h' })) s) :
    wpAny (model prog w) A (pyNext (.ref I)) Q E s := by
  unfold pyNext
  refine wpAny_bind (wpAny_attempt (wpAny_callSpecial?_slot (name := Str.ofString "__next__") ⟨_, hI, rfl⟩ slot_ci_next
    (wpAny_call_entry slot_ci_next ⟨_, hI, rfl⟩ entry_ci_next ?_ (args_ci_next _))))
  show wpAny _ _ (field (.ref I) 2 >>= _) _ _ s
  refine wpAny_bind (wpAny_field hI rfl (x := .bool false) rfl ?_)
  show wpAny _ _ (field (.ref I) 0 >>= _) _ _ s
  refine wpAny_bind (wpAny_field hI rfl (x := .ref m) rfl ?_)
  refine wpAny_bind (wpAny_attempt ?_)
  unfold callOutOfASlot
  refine wpAny_bind (borrows_meth hm hf hd ?_)
  rw [if_pos rfl]
  refine wpAny_callBorrowed (method_call hm (codeAny_mono hc ?_))
  intro r s' hJa
  refine byGoal fun P9 k9 => ?_
  obtain ⟨l, t', rfl, hI', hm', hf', hs, hn⟩ := hJa
  refine k9 ?_
  clear k9 P9
  show wpAny _ _ (field (.ref I) 2 >>= _) _ _ s'
  refine wpAny_bind (wpAny_field hI' rfl (x := .bool false) rfl ?_)
  show wpAny _ _ (field (.ref I) 1 >>= _) _ _ s'
  refine wpAny_bind (wpAny_field hI' rfl (x := .str ⟨#[]⟩ tk₀) rfl ?_)
  refine wpAny_bind (wpAny_holding (wpAny_eqBool_str ?_))
  by_cases hl : l = #[]
  · subst hl
    rw [decide_eq_true rfl]
    show wpAny _ _ (rule _ >>= _) _ _ s'
    refine wpAny_bind (wpAny_rule ?_)
    refine wpAny_bind ?_
    show wpAny _ _ (field (.ref I) 0 >>= _) _ _ s'
    refine wpAny_bind (wpAny_field hI' rfl (x := .ref m) rfl ?_)
    refine wpAny_bind ?_
    unfold slotLetsGo
    dsimp only
    refine wpAny_bind (borrows_meth hm' hf' hd ?_)
    rw [if_pos rfl]
    refine wpAny_pure ?_
    refine wpAny_bind (wpAny_setField hI' rfl (by simp) ?_)
    have g1 : (s'.heap.update I (Obj.mapFields (·.setIfInBounds 0 .none))).get? I = some { cls := .type "callable_iterator", data := .fields #[.none, .str ⟨#[]⟩ tk₀, .bool false] } := Heap.get?_update_self _ hI' rfl
    refine wpAny_bind (wpAny_setField g1 rfl (by simp) ?_)
    have g2 := Heap.get?_update_self (Obj.mapFields (·.setIfInBounds 1 .none)) g1 rfl
    refine wpAny_setField g2 rfl (by simp [Obj.mapFields]) ?_
    have g3 := Heap.get?_update_self (Obj.mapFields (·.setIfInBounds 2 (.bool true))) g2 rfl
    show wpAny _ _ (newExc (.type "StopIteration") [] >>= _) _ _ _
    refine wpAny_bind ?_
    simp only [newExc, newTuple]
    refine wpAny_bind (wpAny_newObj_type ?_ (by size_fits))
    refine wpAny_bind (m := firstArgMember _ _) (wpAny_of_eq (a := Value.none) (by first | rfl | (simp only [firstArgMember]; rfl)) ?_)
    refine wpAny_newObj_type ?_ (by size_fits)
    unfold raiseNew
    dsimp only
    refine wpAny_bind (wpAny_handled ?_)
    rw [show A.in1.handled = none from hh]
    refine wpAny_bind (wpAny_pure (wpAny_throw ?_))
    refine wpAny_bind (wpAny_isInstance (T := "StopIteration") (b := true) ⟨_, Heap.get?_push_size _ rfl, rfl⟩ isSubtype_stop ?_)
    refine wpAny_pure (hn rfl _ (fun b o e hb => ?_) ?_)
    · exact Heap.get?_push_of_some _ (Heap.get?_push_of_some _ (((Heap.SameBut.update ..).2 b hb).trans (((Heap.SameBut.update ..).2 b hb).trans (((Heap.SameBut.update ..).2 b hb).trans e))))
    · exact Heap.get?_push_of_some _ (Heap.get?_push_of_some _ g3)
  · rw [decide_eq_false (fun q => hl (by cases q; rfl))]
    refine wpAny_bind (wpAny_pure ?_)
    exact wpAny_pure ⟨_, rfl, wpAny_pure (hs hl)⟩
end
theorem slot_ci_iter : Slot "callable_iterator" "__iter__" "callable_iterator.__iter__" :=
  .of (owner := "callable_iterator") (n := "__iter__") (by rw [typeLookup_type, builtinLookup_eq_fast]; kernel_rfl) (by decide +kernel) (by decide +kernel) (by decide +kernel)
    (by first | exact .inl (by decide +kernel) | exact .inr (by decide +kernel)) (by rw [isSubtype_type]; kernel_rfl)
theorem entry_ci_iter : entryFor table "callable_iterator.__iter__" = some Builtin.«dict_keyiterator.__iter__» :=
  entryFor_alias (id' := "dict_keyiterator.__iter__") (by kernel_rfl) (by first | rfl | decide +kernel | (unfold String.splitOn; simp +decide [String.splitOnAux])) (by decide +kernel) (by kernel_rfl)
theorem args_ci_iter (a : Value) : argsOk "callable_iterator.__iter__" ⟨[a], []⟩ := by
  unfold argsOk; rw [signature?_of (id := "callable_iterator.__iter__") (n := ['_', '_', 'r', 'e', 't', 'i', '_', '_']) (o := ['r', 'o', 't', 'a', 'r', 'e', 't', 'i', '_', 'e', 'l', 'b', 'a', 'l', 'l', 'a', 'c']) (by kernel_rfl) owner_ci]; kernel_rfl
theorem slot_meth_call : Slot "method" "__call__" "method.__call__" :=
  .of (owner := "method") (n := "__call__") (by rw [typeLookup_type, builtinLookup_eq_fast]; kernel_rfl) (by decide +kernel) (by decide +kernel) (by decide +kernel)
    (by first | exact .inl (by decide +kernel) | exact .inr (by decide +kernel)) (by rw [isSubtype_type]; kernel_rfl)
theorem kind_iter : builtinKind "iter" = none := by decide +kernel
theorem plain_iter : plainId "iter" = true := by decide +kernel
theorem entry_iter : entryFor table "iter" = some Builtin.«iter» := entryFor_of_tree (by kernel_rfl)
section
variable {prog : Program} {w : World} {A : Around} {E : Value → Shared → Prop} {s : Shared} {Q : Value → Shared → Prop}
theorem iter_two {m : Addr} {f x sen : Value} (hm : s.heap.get? m = some (methodObj f x)) (h : Q (.ref s.heap.objs.size) { s with heap := s.heap.push (ciObj (.ref m) sen) }) : wpAny (model prog w) A (call (.builtin "iter") [.ref m, sen]) Q E s := by
  refine Calls.call_function_entry kind_iter plain_iter entry_iter (by unfold argsOk; kernel_rfl) ?_
  unfold Builtin.«iter»
  refine wpAny_bind (wpAny_pure ?_)
  dsimp only
  refine wpAny_bind (wpAny_specialOf ⟨_, hm, rfl⟩ slot_meth_call.lookup ?_)
  refine wpAny_bind (wpAny_rule ?_)
  refine wpAny_bind (wpAny_newObj_type (wpAny_pure ⟨_, rfl, h⟩))
theorem iter_self {I : Addr} (hT : s.TypeIs (.ref I) "callable_iterator") (h : Q (.ref I) s) : wpAny (model prog w) A (pyIter (.ref I)) Q E s := by
  refine wpAny_pyIter_slot hT slot_ci_iter (wpAny_call_entry slot_ci_iter hT entry_ci_iter ?_ (args_ci_iter _))
  show wpAny _ _ (ret (.ref I)) _ _ s
  exact wpAny_pure ⟨_, rfl, "callable_iterator", _, hT, slot_ci_next.lookup, h⟩
theorem ci_next_end {I : Addr} {Q : Option Value → Shared → Prop} (hI : s.heap.get? I = some ciEnd) (hh : A.handled = none) (hn : ∀ h', s.heap.StaysIn h' → Q none { s with heap := h' }) : wpAny (model prog w) A (pyNext (.ref I)) Q E s := by
  unfold pyNext
  refine wpAny_bind (wpAny_attempt (wpAny_callSpecial?_slot (name := Str.ofString "__next__") ⟨_, hI, rfl⟩ slot_ci_next
    (wpAny_call_entry slot_ci_next ⟨_, hI, rfl⟩ entry_ci_next ?_ (args_ci_next _))))
  show wpAny _ _ (field (.ref I) 2 >>= _) _ _ s
  refine wpAny_bind (wpAny_field hI rfl (x := .bool true) rfl ?_)
  show wpAny _ _ (rule _ >>= _) _ _ s
  refine wpAny_bind (wpAny_rule ?_)
  refine wpAny_bind ?_
  show wpAny _ _ (newExc (.type "StopIteration") [] >>= _) _ _ _
  refine wpAny_bind ?_
  simp only [newExc, newTuple]
  refine wpAny_bind (wpAny_newObj_type ?_ (by size_fits))
  refine wpAny_bind (m := firstArgMember _ _) (wpAny_of_eq (a := Value.none) (by first | rfl | (simp only [firstArgMember]; rfl)) ?_)
  refine wpAny_newObj_type ?_ (by size_fits)
  unfold raiseNew
  dsimp only
  refine wpAny_bind (wpAny_handled ?_)
  rw [show A.in1.handled = none from hh]
  refine wpAny_bind (wpAny_pure (wpAny_throw ?_))
  refine wpAny_bind (wpAny_isInstance (T := "StopIteration") (b := true) ⟨_, Heap.get?_push_size _ rfl, rfl⟩ isSubtype_stop ?_)
  exact wpAny_pure (hn _ fun b o e => Heap.get?_push_of_some _ (Heap.get?_push_of_some _ e))
end
end Mine
end
section
open PySem PySem.W PyProof.Rows PySem.Calls PySem.Spec
set_option maxHeartbeats 1000000
namespace Mine
open StrLaws Builtin Builtin.Str in
theorem occ_count (l : List Nat) (c : Nat) : ∀ (n a : Nat) (st : Array Nat × Nat), st.2 ≤ a → st.1.size ≤ a → a + n ≤ l.length + 1 →
    (forIn (List.range' a n) st (occBody (S l) ⟨#[c]⟩ l.length (l.length + 1))).run.fst.size = st.1.size + ((l.drop a).take n).count c
  | 0, a, st, _, _, _ => by simp
  | n + 1, a, st, h1, h2, h3 => by
    rw [List.range'_succ, List.forIn_cons]
    have e := subAt_one (S l) c a
    have hl : (S l).length = l.length := S_len l
    rw [hl] at e
    have e2 : (S l).cps.toList = l := by simp
    rw [e2] at e
    unfold occBody
    by_cases hc : l[a]? = some c
    · have q := e.mpr hc
      have hlt : a < l.length := by
        obtain ⟨z, _⟩ := List.getElem?_eq_some_iff.mp hc; exact z
      rw [if_pos ⟨⟨⟨by exact Mine.om126 h2 hlt, h1⟩, q.1⟩, q.2⟩]
      have ih := occ_count l c n (a + 1) (st.1.push a, a + (⟨#[c]⟩ : Str).length) (Nat.le_refl _) (by simp; exact Mine.om43 h2) (by exact Mine.om127 h3)
      refine ih.trans ?_
      rw [List.drop_eq_getElem_cons hlt, List.take_succ_cons, List.count_cons]
      have : l[a] = c := by rw [List.getElem?_eq_getElem hlt] at hc; exact Option.some.inj hc
      simp [this]; exact Mine.om128
    · rw [if_neg (fun q => hc (e.mp ⟨q.1.2, q.2⟩))]
      have ih := occ_count l c n (a + 1) (st.1, st.2) (by simp only; exact Mine.om111 h1) (by simp only; exact Mine.om111 h2) (by exact Mine.om127 h3)
      refine ih.trans ?_
      by_cases hlt : a < l.length
      · rw [List.drop_eq_getElem_cons hlt, List.take_succ_cons, List.count_cons]
        have : l[a] ≠ c := fun q => hc (by rw [List.getElem?_eq_getElem hlt, q])
        simp [this]
      · rw [List.drop_eq_nil_of_le (by exact Mine.om129 hlt), List.drop_eq_nil_of_le (by exact Mine.om13 hlt)]; simp
theorem count_nl (l : List Nat) : Txt.count (S l) (Str.ofString "\n") = ((l.count 10 : Nat) : Int) := by
  have e : Str.ofString "\n" = ⟨#[10]⟩ := by decide
  unfold Txt.count
  rw [e, StrLaws.occ_eq, S_len, Array.length_toList]
  have := occ_count l 10 (l.length + 1 - 0) 0 (#[], 0) (Nat.le_refl _) (Nat.le_refl _) (by exact Mine.om130)
  rw [this]
  simp [List.take_of_length_le (show l.length ≤ l.length + 1 by exact Mine.om131)]
end Mine
namespace Mine
theorem all128 {l : List Nat} (h : ∀ c ∈ l, c < 128) : (S l).cps.all (· < 128) = true := by
  simp only [List.all_toArray, List.all_eq_true]
  intro c hc
  simpa using h c hc
end Mine
end
open PySem PySem.W PyProof.Rows PySem.Calls PySem.Spec Mine
local macro_rules | `(tactic| walk_at $s:str) => `(tactic| k_extra $s)
local macro_rules | `(tactic| k_ne) => `(tactic| k_extra "NE")
section
set_option maxHeartbeats 1000000
namespace Mine
example : True := by
  k_with_none
  (k_with "STOPS" => (first | (with_reducible first | show wpAny _ _ (pyIter _) _ _ _ | show wpAny _ _ (exec (Stmt.While _ _ _ _) _) _ _ _ | show wpAny _ _ (exec (Stmt.For _ _ _ _ _) _) _ _ _ | show wpAny _ _ (call (Value.builtin "str.join") _ _) _ _ _ | show EachEnd _ _ _ _ _ _ _ | show TurnEnd _ _ _ _ _ _ _ _ _ | show TurnEndT _ _ _ _ _ _ _ _ _ | show WhileEnd _ _ _ _ _ _ _ _ | show EltEnd _ _ _ _ _ _ _ _ | show EnumEnd _ _ _ _ _ _ _ _) | fail "row"))
  (k_with "SZ" => (first | (first | decide | exact Nat.le_trans (by assumption) (by decide) | exact Nat.le_trans (Nat.le_of_eq (by assumption)) (by decide) | (show 1 ≤ _; decide) | (simp only [str_len_add, *]; first | done | decide | omega)) | fail "row"))
  (k_with "eval Name" => (first | ((k_dflt (((with_reducible refine' ldEp (by k_dflt (with_reducible assumption)) (by k_dflt (rfl)) (by k_dflt (rfl)) (by k_dflt (rfl)) (by k_dflt (decide)) (by k_dflt (first | rfl | assumption)) ?_)); k_whole))) | fail "row"))
  (k_with "loadName" => (first | ((k_dflt (((with_reducible refine' ldnEp (by k_dflt (with_reducible assumption)) (by k_dflt (rfl)) (by k_dflt (rfl)) (by k_dflt (rfl)) (by k_dflt (first | rfl | assumption)) ?_)); k_whole))) | fail "row"))
  (k_with "eval Name" => (first | ((k_dflt (((with_reducible refine' ldKp (by k_dflt (with_reducible assumption)) (by k_dflt (rfl)) (by k_dflt (rfl)) (by k_dflt (rfl)) (by k_dflt (decide)) (by k_dflt (k_mem)) (by k_dflt (assumption)) ?_)); k_whole))) | fail "row"))
  (k_with "eval ListComp" => (first | ((k_dflt ((with_reducible refine' comp_rule (by k_dflt (exact rfl)) ?_ (by k_dflt (rfl)) (by k_dflt (decide)) (by k_dflt (intro _; rfl)))))) | fail "row"))
  (k_with "binaryOp Add str str" => (first | ((k_dflt ((with_reducible refine addSN (by k_dflt (k_extra "SZ")) (by k_dflt (k_extra "SZ")) ?_); intro t9 tk9; revert t9 tk9; intro _ _))) | fail "row"))
  (k_with "compareOp In str str" => (first | (((with_reducible refine inC ?_))) | fail "row"))
  (k_with "KS" => (first | (repeat' (first | ((with_reducible show wpAny _ _ (execs _ _) _ _ _); k_fold) | (k_unfold; (try dsimp only)) | ((fail_if_success (k_extra "STOPS")); walk1) | dsimp only)) | fail "row"))
  (k_with "ite" => (first | ((k_dflt first | (k_closed; first | ((with_reducible refine ite_pos (by k_dflt (decide)) ?_)) | ((with_reducible refine ite_neg (by k_dflt (decide)) ?_))) | ((with_reducible refine split_decN ?_ ?_) <;> intro _))) | fail "row"))
  (k_with "LATS" => (first | (repeat (rename (Later _ _) => la9; have lb9 := leN la9.1; clear la9; (try simp only at lb9))) | fail "row"))
  (k_with "eval Dict" => (first | ((k_dflt ((refine' kdn_int (by k_dflt (rfl)) (by k_dflt (k_asm)) (by k_dflt (first | k_asm | exact News.nil)) (by k_dflt (exact TopRead.nolimit (by k_asm))) (by k_dflt (rfl)) (by k_dflt (rfl)) (by k_dflt (exact List.cons_ne_nil _ _)) (by k_dflt (exact Nat.le_of_ble_eq_true rfl)) ?_); intro d' h' o' F' N' l1 lo' hd'; (try k_lt l1); revert d' h' o' F' N' l1 lo' hd'; intro _ _ _ _ _ _ _ _))) | fail "row"))
  (k_with "binaryOp Add ref ref" => (first | ((k_dflt ((with_reducible refine' addL (by k_dflt (assumption)) (by k_dflt (assumption)) (by k_dflt (is_list)) (by k_dflt (is_list)) (by k_dflt ((simp only [List.length_append, List.length_cons, List.length_nil, sizeLine]; omega))) ?_); intro D9 h9 F9 N9 l9; (try k_lt l9); revert D9 h9 F9 N9 l9; intro _ _ _ _ _))) | fail "row"))
  (k_with "storeName" => (first | ((k_dflt (((with_reducible refine' stKp (by k_dflt (with_reducible assumption)) (by k_dflt (with_reducible assumption)) (by k_dflt (rfl)) (by k_dflt (rfl)) (by k_dflt (rfl)) (by k_dflt (k_updF)) (by k_dflt (assumption)) ?_)); k_whole; intro h9 o9 F9 N9 d9; (try dsimp only at N9); revert h9 o9 F9 N9 d9; intro _ _ _ _ _))) | fail "row"))
  (k_with "JUNK" => (first | (repeat (first | (with_reducible show Str; exact Str.ofString "") | (with_reducible show Value; exact Value.none) | (with_reducible show List (Str × Addr); exact []) | (with_reducible show Addr; exact 0))) | fail "row"))
  (k_with "exec Assign cons ListComp" => (first | ((k_dflt ((with_reducible refine' comp_assign (by k_dflt (exact rfl)) (by k_dflt (rfl)) (by k_dflt (rfl)) (by k_dflt (rfl)) ?_ (by k_dflt (rfl)) (by k_dflt (decide)) (by k_dflt (intro _; rfl)))))) | fail "row"))
  (k_with "SUBL" => (first | (((with_reducible show wpAny _ _ (subscriptTail _ _ (Value.ref _) (Value.int _ _)) _ _ _); k_dflt ((with_reducible refine' subL (by k_dflt (is_list)) (by k_dflt (first | exact rfl | exact (rfl : (0:Int) = ((0:Nat):Int)) | exact (rfl : (1:Int) = ((1:Nat):Int)) | exact (rfl : (2:Int) = ((2:Nat):Int)) | exact (rfl : (3:Int) = ((3:Nat):Int)))) (by k_dflt (first | assumption | rfl)) (by k_dflt (first | decide | omega)) ?_ (by k_dflt (with_unfolding_all rfl)))))) | fail "row"))
  (k_with "subscriptTail" => (first | ((k_extra "SUBL")) | fail "row"))
  (k_with "subscriptTail Name Name ref int" => (first | ((k_extra "SUBL")) | fail "row"))
  (k_with "subscriptTail Name Constant ref int" => (first | ((k_extra "SUBL")) | fail "row"))
  (k_with "subscriptTail" => (first | (((with_reducible show wpAny _ _ (subscriptTail _ _ (Value.ref _) (Value.int _ _)) _ _ _); k_dflt ((with_reducible refine' getI (by k_dflt (with_reducible assumption)) (by k_dflt (k_mem)) (by k_dflt (assumption)) (by k_dflt (assumption)) ?_ (by k_dflt (with_unfolding_all rfl)))))) | fail "row"))
  trivial
example : True := by
  (k_with "PJ" => (first | ((first | exact hC.1 | exact hC.2.1 | exact hC.2.2.1 | exact hC.2.2.2.1 | exact hC.2.2.2.2.1 | exact hC.2.2.2.2.2.1 | exact hC.2.2.2.2.2.2.1 | exact hC.2.2.2.2.2.2.2.1 | exact hC.2.2.2.2.2.2.2.2.1 | exact hC.2.2.2.2.2.2.2.2.2.1 | exact hC.2.2.2.2.2.2.2.2.2.2.1 | exact hC.2.2.2.2.2.2.2.2.2.2.2.1 | exact hC.2.2.2.2.2.2.2.2.2.2.2.2.1 | exact hC.2.2.2.2.2.2.2.2.2.2.2.2.2.1 | exact hC.2 | exact hC.2.2 | exact hC.2.2.2 | exact hC.2.2.2.2 | exact hC.2.2.2.2.2 | exact hC.2.2.2.2.2.2 | exact hC.2.2.2.2.2.2.2 | exact hC.2.2.2.2.2.2.2.2 | exact hC.2.2.2.2.2.2.2.2.2 | exact hC.2.2.2.2.2.2.2.2.2.2 | exact hC.2.2.2.2.2.2.2.2.2.2.2 | exact hC.2.2.2.2.2.2.2.2.2.2.2.2 | exact hC.2.2.2.2.2.2.2.2.2.2.2.2.2)) | fail "row"))
  (k_with "LT" => (first | (((repeat (first | exact Nat.lt_succ_self _ | (with_reducible assumption) | refine Nat.lt_succ_of_lt ?_)); done)) | fail "row"))
  (k_with "NE" => (first | ((refine neN ?_; (try dsimp only); first | exact Hold.out (by assumption) | exact Nat.ne_of_lt (by assumption) | exact Nat.ne_of_gt (by assumption) | (refine Nat.ne_of_lt ?_; k_extra "LT"; done) | (refine Nat.ne_of_gt ?_; k_extra "LT"; done) | exact Nat.ne_of_gt (lt2 (by assumption) (fun hC => by k_extra "PJ")) | exact Nat.ne_of_lt (lt2 (by assumption) (fun hC => by k_extra "PJ")) | exact ne2 (by assumption) (fun hC => by k_extra "PJ") | exact Ne.symm (ne2 (by assumption) (fun hC => by k_extra "PJ")) | exact Nat.ne_of_gt (ltM (by assumption) (by k_mem)) | exact Nat.ne_of_gt (ltM (Hold.out (by assumption)) (by k_mem)))) | fail "row"))
  trivial

section
variable {w : World} {base : Heap} {A : Around} {E : Value → Shared → Prop} {s : Shared} {Q : Value → Shared → Prop} {k : Nat} {x y z : Str} {t u v : Tok}


noncomputable def esc (v : Int) (l : List Nat) : List Nat :=
  if v = 0 then l.flatMap (fun c => [92, c]) ++ [10, 32, 13]
  else if v = 1 then 34 :: l.flatMap (fun c => if c = 34 ∨ c = 92 then [92, c] else [c]) ++ [34]
  else (if l.head? = some 34 then [92] else []) ++ l.flatMap (fun c => if c = 92 ∨ c = 32 then [92, c] else [c]) ++ [9]

theorem flatMap_idx (l : List Nat) (f : Nat → List Nat) : ((List.range l.length).map fun i => S (f (l[i]?.getD 0))).flatMap (fun y => y.cps.toList) = l.flatMap f := by
  have : (List.range l.length).map (fun i => S (f (l[i]?.getD 0))) = l.map fun c => S (f c) := by
    refine List.ext_getElem (by simp) fun i h1 h2 => ?_
    simp only [List.getElem_map, List.getElem_range]
    have : i < l.length := by simpa using h2
    rw [List.getElem?_eq_getElem this]; rfl
  rw [this, List.flatMap_map]
theorem sum_idx (l : List Nat) (f : Nat → List Nat) (hf : ∀ c, (f c).length ≤ 2) (hl : l.length ≤ 100) : (((List.range l.length).map fun i => S (f (l[i]?.getD 0))).map (·.length)).sum ≤ 16777216 := by
  have : ∀ (z : List Nat), ((z.map fun i => S (f (l[i]?.getD 0))).map (·.length)).sum ≤ 2 * z.length := by
    intro z
    induction z with
    | nil => simp
    | cons a r ih =>
      simp only [List.map_cons, List.sum_cons, List.length_cons]
      have := hf (l[a]?.getD 0)
      rw [S_len]; exact Mine.om76 ih this
  have := this (List.range l.length)
  rw [List.length_range] at this
  exact Mine.om77 hl this

theorem flatMap_len2 (l : List Nat) : (l.flatMap (fun c => [92, c])).length = 2 * l.length := by
  induction l with
  | nil => rfl
  | cons a r ih => simp only [List.flatMap_cons, List.length_append, ih, List.length_cons, List.length_nil]; exact Mine.om78
theorem flatMap_le (l : List Nat) (f : Nat → List Nat) (hf : ∀ c, (f c).length ≤ 2) : (l.flatMap f).length ≤ 2 * l.length := by
  induction l with
  | nil => simp
  | cons a r ih => simp only [List.flatMap_cons, List.length_append, List.length_cons]; have := hf a; exact Mine.om76 ih this
theorem c_written {l : List Nat} {c : Int} {tc : Tok} (G : G0 w base) (st : base.StaysIn s.heap) (R : Rm A (k + 2)) (hl : l.length ≤ 100) (hne : l ≠ []) (hc : c = 0 ∨ c = 1 ∨ c = 2)
   (h : ∀ h' tk tr, s.heap.StaysIn h' → Q (.str (S (esc c l)) tr) { s with heap := h', toks := tk }) :
   wpAny (model PG w) A (call (.ref 148) [.str (S l) t, .int c tc]) Q E s := by
  have hx : (S l).length ≤ 100 := by rw [S_len]; exact hl
  have hsz : (S l).length ≤ sizeLine := Nat.le_trans hx (by decide)
  have hi : ∀ (i c : Nat), (S l).cps[i]? = some c → l[i]?.getD 0 = c := fun i c h => by
    have : l[i]? = some c := by simpa using h
    rw [this]; rfl
  rcases hc with rfl | rfl | rfl
  · skip
    refine wpAny_call ?_
    refine enterH (ld := []) (binds := [("word", .str (S l) t), ("way", .int 0 tc)]) G st (fun _ h => nomatch h) R.room (by k_is) (by k_is) (BindsTo.of_eq rfl) (locs rfl) ?_ (by decide)
    intro g L h₁ up dn F N X G'
    obtain ⟨pp, loo, mg, mb, T⟩ := G'.T
    have R' := R.deeper
    dsimp only [List.reverse_cons, List.reverse_nil, List.nil_append, List.cons_append, List.length_cons, List.length_nil] at F ⊢
    k_extra "KS"
    refine comp_str (ld₀ := []) (fun i tk y => ∃ t, y = .str (S [92, l[i]?.getD 0]) t) (fun _ _ _ _ _ h => h) (Rm.h (Rm.deeper (by assumption) _)) hsz (by assumption) (by assumption) ?_ ?_
    · intro i c u h tk own C m hc htk F₁ N₁
      k_extra "KS"
      exact ⟨_, _, _, rfl, F₁, N₁, _, by rw [hi i c hc]; rfl⟩
    · intro D ys h' tk k htk F₁ N₁ hlt hlen hR
      have hS := strsAre_of (f := fun i => S [92, l[i]?.getD 0]) hlen hR
      rw [show (S l).cps.size = l.length by simp] at hS
      k_extra "KS"
      refine joinS (News.isList N₁ (.head _)) hS (sum_idx l (fun c => [92, c]) (fun _ => Nat.le_refl _) hl) fun t' k' hk' _ => ?_
      rw [flatMap_idx l fun c => [92, c]]
      have hb : (S (l.flatMap fun c => [92, c])).length ≤ 200 := by rw [S_len, flatMap_len2 l]; exact Mine.om79 hl
      k_extra "KS"
      have e : S (l.flatMap (fun c => [92, c])) ++ Str.ofString "\n \r" = S (esc 0 l) := by
        rw [show Str.ofString "\n \r" = S [10, 32, 13] by decide, S_append]; rfl
      rw [e]
      exact h _ _ _ (fun b o e => Fr.keep (by assumption) b o (up b o e (fun q => nomatch q)))
  · skip
    refine wpAny_call ?_
    refine enterH (ld := []) (binds := [("word", .str (S l) t), ("way", .int 1 tc)]) G st (fun _ h => nomatch h) R.room (by k_is) (by k_is) (BindsTo.of_eq rfl) (locs rfl) ?_ (by decide)
    intro g L h₁ up dn F N X G'
    obtain ⟨pp, loo, mg, mb, T⟩ := G'.T
    have R' := R.deeper
    dsimp only [List.reverse_cons, List.reverse_nil, List.nil_append, List.cons_append, List.length_cons, List.length_nil] at F ⊢
    k_extra "KS"
    refine comp_str (ld₀ := []) (fun i tk y => ∃ t, y = .str (S (if l[i]?.getD 0 = 34 ∨ l[i]?.getD 0 = 92 then [92, l[i]?.getD 0] else [l[i]?.getD 0])) t) (fun _ _ _ _ _ h => h) (Rm.h (Rm.deeper (by assumption) _)) hsz (by assumption) (by assumption) ?_ ?_
    · intro i c u h tk own C m hc htk F₁ N₁
      have e := hi i c hc
      k_extra "KS"
      · refine ⟨_, _, _, rfl, by assumption, by assumption, ?_⟩
        exact ⟨_, by rw [e, if_pos (by simp_all [show ("\"\\" : Str).cps.toList = [34, 92] from by decide])]; rfl⟩
      · refine ⟨_, _, _, rfl, by assumption, by assumption, ?_⟩
        exact ⟨_, by rw [e, if_neg (by simp_all [show ("\"\\" : Str).cps.toList = [34, 92] from by decide])]⟩
    · intro D ys h' tk k htk F₁ N₁ hlt hlen hR
      have hS := strsAre_of (f := fun i => S (if l[i]?.getD 0 = 34 ∨ l[i]?.getD 0 = 92 then [92, l[i]?.getD 0] else [l[i]?.getD 0])) hlen hR
      rw [show (S l).cps.size = l.length by simp] at hS
      k_extra "KS"
      refine joinS (News.isList N₁ (.head _)) hS (sum_idx l (fun c => if c = 34 ∨ c = 92 then [92, c] else [c]) (fun c => by split <;> simp) hl) fun t' k' hk' _ => ?_
      rw [flatMap_idx l fun c => if c = 34 ∨ c = 92 then [92, c] else [c]]
      have hb : (S (l.flatMap fun c => if c = 34 ∨ c = 92 then [92, c] else [c])).length ≤ 200 := by rw [S_len]; have := flatMap_le l (fun c => if c = 34 ∨ c = 92 then [92, c] else [c]) (fun c => by split <;> simp); exact Mine.om80 hl this
      k_extra "KS"
      have e : ("\"" : Str) ++ S (l.flatMap fun c => if c = 34 ∨ c = 92 then [92, c] else [c]) ++ ("\"" : Str) = S (esc 1 l) := by
        rw [show ("\"" : Str) = S [34] from by decide, S_append, S_append]; rfl
      rw [e]
      exact h _ _ _ (fun b o e => Fr.keep (by assumption) b o (up b o e (fun q => nomatch q)))
  · skip
    refine wpAny_call ?_
    refine enterH (ld := []) (binds := [("word", .str (S l) t), ("way", .int 2 tc)]) G st (fun _ h => nomatch h) R.room (by k_is) (by k_is) (BindsTo.of_eq rfl) (locs rfl) ?_ (by decide)
    intro g L h₁ up dn F N X G'
    obtain ⟨pp, loo, mg, mb, T⟩ := G'.T
    have R' := R.deeper
    dsimp only [List.reverse_cons, List.reverse_nil, List.nil_append, List.cons_append, List.length_cons, List.length_nil] at F ⊢
    k_extra "KS"
    refine comp_str (ld₀ := []) (fun i tk y => ∃ t, y = .str (S (if l[i]?.getD 0 = 92 ∨ l[i]?.getD 0 = 32 then [92, l[i]?.getD 0] else [l[i]?.getD 0])) t) (fun _ _ _ _ _ h => h) (Rm.h (Rm.deeper (by assumption) _)) hsz (by assumption) (by assumption) ?_ ?_
    · intro i c u h tk own C m hc htk F₁ N₁
      have e := hi i c hc
      k_extra "KS"
      · refine ⟨_, _, _, rfl, by assumption, by assumption, ?_⟩
        exact ⟨_, by rw [e, if_pos (by simp_all [show ("\\ " : Str).cps.toList = [92, 32] from by decide])]; rfl⟩
      · refine ⟨_, _, _, rfl, by assumption, by assumption, ?_⟩
        exact ⟨_, by rw [e, if_neg (by simp_all [show ("\\ " : Str).cps.toList = [92, 32] from by decide])]⟩
    · intro D ys h' tk k htk F₁ N₁ hlt hlen hR
      have hS := strsAre_of (f := fun i => S (if l[i]?.getD 0 = 92 ∨ l[i]?.getD 0 = 32 then [92, l[i]?.getD 0] else [l[i]?.getD 0])) hlen hR
      rw [show (S l).cps.size = l.length by simp] at hS
      k_extra "KS"
      refine joinS (News.isList N₁ (.head _)) hS (sum_idx l (fun c => if c = 92 ∨ c = 32 then [92, c] else [c]) (fun c => by split <;> simp) hl) fun t' k' hk' _ => ?_
      rw [flatMap_idx l fun c => if c = 92 ∨ c = 32 then [92, c] else [c]]
      have hb : (S (l.flatMap fun c => if c = 92 ∨ c = 32 then [92, c] else [c])).length ≤ 200 := by rw [S_len]; have := flatMap_le l (fun c => if c = 92 ∨ c = 32 then [92, c] else [c]) (fun c => by split <;> simp); exact Mine.om80 hl this
      (try k_fold)
      refine byGoal fun P9 k9 => ?_
      obtain ⟨a, r, rfl⟩ : ∃ a r, l = a :: r := List.exists_cons_of_ne_nil hne
      refine k9 ?_
      clear k9 P9
      k_extra "KS"
      · have hq : a = 34 := by
          rename (Txt.item _ _ == _) = true => hq
          rw [show Txt.item (S (a :: r)) 0 = S [a] from itemS (l := a :: r) (j := 0) (by simp), show ("\"" : Str) = S [34] from by decide] at hq
          simpa using hq
        subst hq
        have e : ("\\" : Str) ++ S ((34 :: r).flatMap fun c => if c = 92 ∨ c = 32 then [92, c] else [c]) ++ ("\t" : Str) = S (esc 2 (34 :: r)) := by
          rw [show ("\\" : Str) = S [92] from by decide, show ("\t" : Str) = S [9] from by decide, S_append, S_append]; rfl
        rw [e]
        exact h _ _ _ (fun b o e => Fr.keep (by assumption) b o (up b o e (fun q => nomatch q)))
      · have hq : a ≠ 34 := by
          rename ¬ ((Txt.item _ _ == _) = true) => hq
          rw [show Txt.item (S (a :: r)) 0 = S [a] from itemS (l := a :: r) (j := 0) (by simp), show ("\"" : Str) = S [34] from by decide] at hq
          intro e; subst e; simp at hq
        have e : ("" : Str) ++ S ((a :: r).flatMap fun c => if c = 92 ∨ c = 32 then [92, c] else [c]) ++ ("\t" : Str) = S (esc 2 (a :: r)) := by
          rw [show ("" : Str) = S [] from by decide, show ("\t" : Str) = S [9] from by decide, S_append, S_append]
          unfold esc
          rw [if_neg (by decide), if_neg (by decide), if_neg (by simpa using hq)]
        rw [e]
        exact h _ _ _ (fun b o e => Fr.keep (by assumption) b o (up b o e (fun q => nomatch q)))
end
end Mine
end
section
set_option maxHeartbeats 1000000
namespace Mine

example : True := by
  (k_with "execs nil" => (first | (refine wpAny_execs_nil ?_) | fail "row"))
  (k_with "execs cons" => (first | ((with_reducible refine execs_consL ?_)) | fail "row"))
  (k_with "compareOp In str ref" => (first | (((with_reducible refine inTab (by k_dflt (k_in)) ?_))) | fail "row"))
  trivial
theorem idxS (x : List Nat) : ∀ nm : List (List Nat), (nm.map S).idxOf (S x) = nm.idxOf x
  | [] => rfl
  | y :: nm => by
    rw [List.map_cons, List.idxOf_cons, List.idxOf_cons, idxS x nm]
    by_cases e : y = x
    · subst e; simp
    · have : S y ≠ S x := fun q => e (S_inj q)
      rw [beq_false_of_ne e, beq_false_of_ne this]
noncomputable def pcI (l : List Nat) (p : Nat) : Nat → List Nat
  | 0 => [l.getD p 0]
  | i + 1 => if (tabFind ((l.take (p + (i + 2))).drop p)).isSome then (l.take (p + (i + 2))).drop p else pcI l p i
noncomputable def pieceP (l : List Nat) (p : Nat) : List Nat := pcI l p 2
theorem pcI_len (l : List Nat) (p : Nat) (hp : p < l.length) : ∀ i, 1 ≤ (pcI l p i).length
  | 0 => Nat.le_refl _
  | i + 1 => by
    unfold pcI
    split
    · rw [List.length_drop, List.length_take]; exact Mine.om81 hp
    · exact pcI_len l p hp i
theorem pcI_le (l : List Nat) (p : Nat) : ∀ i, (pcI l p i).length ≤ i + 1
  | 0 => Nat.le_refl _
  | i + 1 => by
    unfold pcI
    split
    · rw [List.length_drop, List.length_take]; exact Mine.om82
    · exact Nat.le_succ_of_le (pcI_le l p i)
theorem sliceSSa (l : List Nat) (p k : Nat) : Txt.slice (S l) (some (p : Int)) (some ((p : Int) + (k : Int))) = S ((l.take (p + k)).drop p) := by
  have := sliceSS l p (p + k)
  rw [Int.natCast_add] at this
  exact this
noncomputable def cutStep (nm : List (List Nat)) (pc : List Nat) : Int := match tabFind pc with | some v => v.1 | none => 256 + (nm.idxOf pc : Int)
noncomputable def cutP (nm : List (List Nat)) (l : List Nat) : Nat → Nat → List Int
  | 0, _ => []
  | f + 1, p => if p < l.length then cutStep nm (pieceP l p) :: cutP nm l f (p + (pieceP l p).length) else []
noncomputable def cutOk (nm : List (List Nat)) (l : List Nat) : Nat → Nat → Bool
  | 0, p => decide (l.length ≤ p)
  | f + 1, p => if p < l.length then ((tabFind (pieceP l p)).isSome || nm.contains (pieceP l p)) && cutOk nm l f (p + (pieceP l p).length) else true
theorem cutP_s (nm : List (List Nat)) (l : List Nat) (f p : Nat) : cutP nm l (f + 1) p = if p < l.length then cutStep nm (pieceP l p) :: cutP nm l f (p + (pieceP l p).length) else [] := rfl
theorem cutOk_s (nm : List (List Nat)) (l : List Nat) (f p : Nat) : cutOk nm l (f + 1) p = if p < l.length then ((tabFind (pieceP l p)).isSome || nm.contains (pieceP l p)) && cutOk nm l f (p + (pieceP l p).length) else true := rfl
section
variable {w : World} {base : Heap} {A : Around} {E : Value → Shared → Prop} {s : Shared} {Q : Value → Shared → Prop} {k : Nat} {t : Tok}

inductive CutW (l : List Nat) (t : Tok) (a : Addr) (nm : List (List Nat)) (tk0 k tk : Nat) (m : Str → Option Value) (ld : List (Addr × Obj)) : Prop
  | mk (p : Nat) (vs : Array Value) (tp : Tok) (n : Nat) (xs : List Int) (hw : m "word" = some (.str (S l) t)) (hnm : m "names" = some (.ref a)) (hp : m "place" = some (.int (p : Nat) tp)) (hr : ∃ r, m "row" = some (.ref r) ∧ ld = [(r, listOf vs n)]) (hp4 : p ≤ 200) (hvs : vs.size ≤ p)
    (ok : cutOk nm l k p = true) (hc : xs ++ cutP nm l k p = cutP nm l l.length 0) (hI : IntsAre vs.toList xs) (hT : ∀ y u, .int y u ∈ vs.toList → u ≠ 0 ∧ (256 ≤ y → tk0 ≤ u ∧ u < tk))
theorem c_cut {l : List Nat} {a : Addr} {nv : List Value} {nm : List (List Nat)} (G : G0 w base) (st : base.StaysIn s.heap) (R : Rm A (k + 4)) (hl : l.length ≤ 100) (ha : s.heap.IsList a nv.toArray) (hn : StrsAre nv (nm.map S))
   (hnt : ∀ y u, .str y u ∈ nv → u ≠ 0 ∧ u < s.toks) (h0 : 0 < s.toks) (ok : cutOk nm l l.length 0 = true)
   (h : ∀ r h' tk vs n, s.heap.StaysIn h' → Fresh s.heap h' r (listOf vs n) → IntsAre vs.toList (cutP nm l l.length 0) → (∀ y u, .int y u ∈ vs.toList → u ≠ 0 ∧ (256 ≤ y → s.toks ≤ u ∧ u < tk)) → Q (.ref r) { s with heap := h', toks := tk }) :
   wpAny (model PG w) A (call (.ref 155) [.str (S l) t, .ref a]) Q E s := by
  refine wpAny_call ?_
  refine enterH (ld := []) (binds := [("word", .str (S l) t), ("names", .ref a)]) G st (fun _ h => nomatch h) R.room (by k_is) (by k_is) (BindsTo.of_eq rfl) (locs rfl) ?_ (by decide)
  intro g L h₁ up dn F N X G'
  obtain ⟨pp, loo, mg, mb, T⟩ := G'.T
  have R' := R.deeper
  dsimp only [List.reverse_cons, List.reverse_nil, List.nil_append, List.cons_append, List.length_cons, List.length_nil] at F ⊢
  have hg := isList_up ha up
  have hsz : (S l).length ≤ 100 := by rw [S_len]; exact hl
  have X' := X
  k_extra "KS"
  refine while_rule (CutW l t a nm s.toks) l.length (by assumption) (by assumption) ⟨0, #[], _, 0, [], rfl, rfl, rfl, ⟨_, rfl, rfl⟩, by exact Mine.om84, Nat.le_refl _, ok, rfl, .nil, fun _ _ h => by simp at h⟩ ?_
  intro kk m ld h1 tk htk hJa F₁ N₁
  (try k_fold)
  refine byGoal fun P9 k9 => ?_
  obtain ⟨p, vs, tp, n, xs, hw, hnm, hp, ⟨r, hr, rfl⟩, hp4, hvs, hok, hcut, hI, hT⟩ := hJa
  refine k9 ?_
  clear k9 P9
  refine later ?_
  k_extra "KS"
  · -- a piece is read
    rename (decide _ = true) => hlt
    rename (Later _ _) => lat
    have hlt : p < l.length := by
      have := of_decide_eq_true hlt
      rw [S_len] at this; exact Mine.om85 this
    obtain ⟨kk, rfl⟩ : ∃ k', kk = k' + 1 := by
      cases kk with
      | zero => exact False.elim (Mine.om86 hlt (of_decide_eq_true hok))
      | succ k => exact ⟨k, rfl⟩
    rw [cutOk_s, if_pos hlt] at hok
    rw [cutP_s, if_pos hlt] at hcut
    have hitem : Txt.item (S l) (p : Int) = S [l.getD p 0] := by
      rw [itemS hlt]; simp [hlt]
    refine for_rule ?_
    k_extra "KS"
    rename (News _ _ _ _) => N₂
    rename (Fr _ _ _ _) => F₂
    rename (_ < _) => hrD
    refine for_tuple (ld₀ := [(r, listOf vs n)]) (vs := [.int 2 _, .int 3 _]) (fun i m ld => m "word" = some (.str (S l) t) ∧ m "names" = some (.ref a) ∧ m "place" = some (.int (p : Nat) tp) ∧ m "row" = some (.ref r) ∧ ld = [(r, listOf vs n)] ∧ ∃ tc, m "piece" = some (.str (S (pcI l p i)) tc) ∧ (tabFind (pcI l p i) = none → s.toks ≤ tc ∧ tc ≠ 0))
      (Rm.h (Rm.deeper (by assumption) _)) ⟨_, (N₂ _ (.head _)).1, rfl, _, rfl⟩ (N₂ _ (.head _)).2.1 (by intro q hq; rw [List.mem_singleton.mp hq]; exact Nat.ne_of_lt hrD) F₂ (news_sub N₂ fun p hp => .tail _ hp) ?_ ?_ ?_
    · refine ⟨hw, hnm, hp, hr, rfl, ?tc0, ?_, fun _ => ?_⟩
      rotate_left
      · show some (Value.str (Txt.item (S l) (p : Int)) _) = _
        rw [hitem]; rfl
      · have a2 := leN htk
        k_extra "LATS"
        have h0' := ltN h0
        refine ⟨leN ?_, neN ?_⟩ <;> (simp only at *; omega)
    · intro i v m ld h' tk' own hiv htk' had hoff hJa F₃ N₃
      (try k_fold)
      refine byGoal fun P9 k9 => ?_
      obtain ⟨hw', hnm', hp', hr', rfl, tc, hpc, htc⟩ := hJa
      refine k9 ?_
      clear k9 P9
      obtain ⟨tv, rfl⟩ := get2 (P := fun i v => ∃ tv, v = Value.int ((i + 2 : Nat) : Int) tv) ⟨_, rfl⟩ ⟨_, rfl⟩ hiv
      have es := sliceSSa l p (i + 2)
      k_extra "KS"
      · rename ((tabFind _).isSome = true) => hq
        rw [es] at hq
        refine ⟨_, _, _, _, rfl, by assumption, by assumption, had, ?_⟩
        refine ⟨hw', hnm', hp', hr', rfl, ?tok1, ?_, ?_⟩
        rotate_left
        · show some (Value.str (Txt.slice (S l) _ _) _) = _
          rw [es, pcI, if_pos hq]
        · intro hn
          rw [pcI, if_pos hq] at hn
          rw [hn] at hq; cases hq
      · rename (¬ (tabFind _).isSome = true) => hq
        rw [es] at hq
        refine ⟨_, _, _, _, rfl, by assumption, by assumption, had, ?_⟩
        refine ⟨hw', hnm', hp', hr', rfl, tc, ?_, ?_⟩
        · rw [pcI, if_neg hq]; exact hpc
        · rw [pcI, if_neg hq]; exact htc
    · intro m ld h' tk' htk' hJa F₃ N₃
      (try k_fold)
      refine byGoal fun P9 k9 => ?_
      obtain ⟨hw', hnm', hp', hr', rfl, tc, hpc, htc⟩ := hJa
      refine k9 ?_
      clear k9 P9
      change m "piece" = some (.str (S (pieceP l p)) tc) at hpc
      change tabFind (pieceP l p) = none → s.toks ≤ tc ∧ tc ≠ 0 at htc
      have hlen : 1 ≤ (pieceP l p).length := pcI_len l p hlt 2
      have hlen3 : (pieceP l p).length ≤ 3 := pcI_le l p 2
      have hpl : (S (pieceP l p)).length ≤ 100 := by rw [S_len]; exact Mine.om87 hlen3
      have hsl := S_len (pieceP l p)
      k_extra "KS"
      · rename ((tabFind _).isSome = true) => hq
        (try k_fold)
        refine byGoal fun P9 k9 => ?_
        obtain ⟨⟨v, u⟩, hv⟩ := Option.isSome_iff_exists.mp hq
        refine k9 ?_
        clear k9 P9
        refine getTab (by k_in) hv ?_
        k_extra "KS"
        rename (Later _ _) => latE
        have hsm := tabFind_small hv
        refine ⟨kk, _, _, _, _, Nat.lt_succ_self _, rfl, by assumption, by assumption, ?_⟩
        refine ⟨p + (pieceP l p).length, vs.push (.int v u), ?tk3, n + 1, xs ++ [v], hw', hnm', ?_, ⟨r, hr', rfl⟩, by exact Mine.om88 hl hlt hlen3, by simp; exact Mine.om89 hvs hlen, (Bool.and_eq_true_iff.mp hok).2, ?_, ?_, ?_⟩
        rotate_left
        · show some (Value.int ((p : Int) + ((S (pieceP l p)).length : Nat)) _) = _
          rw [hsl, ← Int.natCast_add]
        · rw [← hcut, List.append_assoc]; unfold cutStep; rw [hv]; rfl
        · rw [Array.toList_push]; exact hI.append (.cons _ _ .nil)
        · intro y q hq
          rw [Array.toList_push] at hq
          rcases List.mem_append.mp hq with hq | hq
          · have := hT y q hq
            refine ⟨this.1, fun h => ⟨(this.2 h).1, ?_⟩⟩
            have a1 := (this.2 h).2
            have a2 := leN latE.1
            exact Nat.lt_of_lt_of_le a1 a2
          · have := List.mem_singleton.mp hq
            cases this
            exact ⟨hsm.1, fun h => by have := hsm.2; exact False.elim (Mine.om90 hsm.2 h)⟩
      · rename (¬ (tabFind _).isSome = true) => hq
        have hv : tabFind (pieceP l p) = none := by simpa using hq
        have hin : pieceP l p ∈ nm := by
          rw [hv] at hok; simpa using (Bool.and_eq_true_iff.mp hok).1
        have hts := htc hv
        refine later (c_indexOf_str G' (Fr.keep (by assumption)) (k := 0) ((R.deeper _).le (by exact Mine.om91)) (isList_keep hg (Fr.keep (by assumption))) hn hts.2 (fun y u hy => ⟨(hnt y u hy).1, fun e => absurd (hnt y u hy).2 (by rw [e]; exact Nat.not_lt.mpr hts.1)⟩) (List.mem_map_of_mem hin) ?_)
        intro h9 tk9 tr9 k9 l9
        have F9 := fr_stays (by assumption) k9
        have N9 := news_stays (by assumption) k9
        k_extra "KS"
        rename (Later _ _) => latE
        refine ⟨kk, _, _, _, _, Nat.lt_succ_self _, rfl, by assumption, by assumption, ?_⟩
        refine ⟨p + (pieceP l p).length, vs.push (.int (256 + ((nm.map S).idxOf (S (pieceP l p)) : Nat)) _), ?tk4, n + 1, xs ++ [256 + ((nm.idxOf (pieceP l p) : Nat) : Int)], hw', hnm', ?_, ⟨r, hr', rfl⟩, by exact Mine.om88 hl hlt hlen3, by simp; exact Mine.om89 hvs hlen, (Bool.and_eq_true_iff.mp hok).2, ?_, ?_, ?_⟩
        rotate_left
        · show some (Value.int ((p : Int) + ((S (pieceP l p)).length : Nat)) _) = _
          rw [hsl, ← Int.natCast_add]
        · rw [← hcut, List.append_assoc]; unfold cutStep; rw [hv]; rfl
        · rw [Array.toList_push, idxS]; exact hI.append (.cons _ _ .nil)
        · intro y q hq
          rw [Array.toList_push] at hq
          rcases List.mem_append.mp hq with hq | hq
          · have := hT y q hq
            refine ⟨this.1, fun h => ⟨(this.2 h).1, ?_⟩⟩
            have a1 := (this.2 h).2
            have a2 := leN latE.1
            exact Nat.lt_of_lt_of_le a1 a2
          · have := List.mem_singleton.mp hq
            have b0 := leN htk
            have b1 := leN htk'
            have b2 := ltN h0
            simp only at b0 b1
            k_extra "LATS"
            cases this
            exact ⟨neN (by exact Mine.om92 (by assumption)), fun _ => ⟨leN (by exact Mine.om93 b0 (by assumption)), ltN (by exact Mine.om94)⟩⟩
  · -- the word is read to its end
    rename (¬ decide _ = true) => hge
    have hge : ¬ p < l.length := fun q => hge (by rw [S_len]; exact decide_eq_true (Int.ofNat_lt.mpr q))
    have hnil : cutP nm l kk p = [] := by
      cases kk with
      | zero => rfl
      | succ k => rw [cutP_s, if_neg hge]
    rw [hnil, List.append_nil] at hcut
    subst hcut
    k_extra "LATS"
    refine h r h1 _ vs n (fun b o e => Fr.keep F₁ b o (up b o e (fun q => nomatch q))) (fresh_of_news N₁ (.head _) up) hI fun y u hy => ?_
    have := hT y u hy
    exact ⟨this.1, fun e => ⟨(this.2 e).1, Nat.lt_of_lt_of_le (this.2 e).2 (by assumption)⟩⟩
end
end Mine
end
section
set_option maxHeartbeats 1000000
namespace Mine
example : True := by
  k_with_none
  (k_with "STOPS" => (first | (with_reducible first | show wpAny _ _ (pyIter _) _ _ _ | show wpAny _ _ (exec (Stmt.While _ _ _ _) _) _ _ _ | show wpAny _ _ (exec (Stmt.For _ _ _ _ _) _) _ _ _ | show wpAny _ _ (call (Value.builtin "str.join") _ _) _ _ _ | show EachEnd _ _ _ _ _ _ _ | show TurnEnd _ _ _ _ _ _ _ _ _ | show TurnEndT _ _ _ _ _ _ _ _ _ | show WhileEnd _ _ _ _ _ _ _ _ | show EltEnd _ _ _ _ _ _ _ _ | show EnumEnd _ _ _ _ _ _ _ _) | fail "row"))
  (k_with "SZ" => (first | (first | decide | exact Nat.le_trans (by assumption) (by decide) | exact Nat.le_trans (Nat.le_of_eq (by assumption)) (by decide) | (show 1 ≤ _; decide) | (simp only [str_len_add, *]; first | done | decide | omega)) | fail "row"))
  (k_with "eval Name" => (first | ((k_dflt (((with_reducible refine' ldEp (by k_dflt (with_reducible assumption)) (by k_dflt (rfl)) (by k_dflt (rfl)) (by k_dflt (rfl)) (by k_dflt (decide)) (by k_dflt (first | rfl | assumption)) ?_)); k_whole))) | fail "row"))
  (k_with "loadName" => (first | ((k_dflt (((with_reducible refine' ldnEp (by k_dflt (with_reducible assumption)) (by k_dflt (rfl)) (by k_dflt (rfl)) (by k_dflt (rfl)) (by k_dflt (first | rfl | assumption)) ?_)); k_whole))) | fail "row"))
  (k_with "eval Name" => (first | ((k_dflt (((with_reducible refine' ldKp (by k_dflt (with_reducible assumption)) (by k_dflt (rfl)) (by k_dflt (rfl)) (by k_dflt (rfl)) (by k_dflt (decide)) (by k_dflt (k_mem)) (by k_dflt (assumption)) ?_)); k_whole))) | fail "row"))
  (k_with "eval ListComp" => (first | ((k_dflt ((with_reducible refine' comp_rule (by k_dflt (exact rfl)) ?_ (by k_dflt (rfl)) (by k_dflt (decide)) (by k_dflt (intro _; rfl)))))) | fail "row"))
  (k_with "binaryOp Add str str" => (first | ((k_dflt ((with_reducible refine addSN (by k_dflt (k_extra "SZ")) (by k_dflt (k_extra "SZ")) ?_); intro t9 tk9; revert t9 tk9; intro _ _))) | fail "row"))
  (k_with "compareOp In str str" => (first | (((with_reducible refine inC ?_))) | fail "row"))
  (k_with "KS" => (first | (repeat' (first | ((with_reducible show wpAny _ _ (execs _ _) _ _ _); k_fold) | (k_unfold; (try dsimp only)) | ((fail_if_success (k_extra "STOPS")); walk1) | dsimp only)) | fail "row"))
  (k_with "ite" => (first | ((k_dflt first | (k_closed; first | ((with_reducible refine ite_pos (by k_dflt (decide)) ?_)) | ((with_reducible refine ite_neg (by k_dflt (decide)) ?_))) | ((with_reducible refine split_decN ?_ ?_) <;> intro _))) | fail "row"))
  (k_with "LATS" => (first | (repeat (rename (Later _ _) => la9; have lb9 := leN la9.1; clear la9; (try simp only at lb9))) | fail "row"))
  (k_with "eval Dict" => (first | ((k_dflt ((refine' kdn_int (by k_dflt (rfl)) (by k_dflt (k_asm)) (by k_dflt (first | k_asm | exact News.nil)) (by k_dflt (exact TopRead.nolimit (by k_asm))) (by k_dflt (rfl)) (by k_dflt (rfl)) (by k_dflt (exact List.cons_ne_nil _ _)) (by k_dflt (exact Nat.le_of_ble_eq_true rfl)) ?_); intro d' h' o' F' N' l1 lo' hd'; (try k_lt l1); revert d' h' o' F' N' l1 lo' hd'; intro _ _ _ _ _ _ _ _))) | fail "row"))
  (k_with "binaryOp Add ref ref" => (first | ((k_dflt ((with_reducible refine' addL (by k_dflt (assumption)) (by k_dflt (assumption)) (by k_dflt (is_list)) (by k_dflt (is_list)) (by k_dflt ((simp only [List.length_append, List.length_cons, List.length_nil, sizeLine]; omega))) ?_); intro D9 h9 F9 N9 l9; (try k_lt l9); revert D9 h9 F9 N9 l9; intro _ _ _ _ _))) | fail "row"))
  (k_with "storeName" => (first | ((k_dflt (((with_reducible refine' stKp (by k_dflt (with_reducible assumption)) (by k_dflt (with_reducible assumption)) (by k_dflt (rfl)) (by k_dflt (rfl)) (by k_dflt (rfl)) (by k_dflt (k_updF)) (by k_dflt (assumption)) ?_)); k_whole; intro h9 o9 F9 N9 d9; (try dsimp only at N9); revert h9 o9 F9 N9 d9; intro _ _ _ _ _))) | fail "row"))
  (k_with "JUNK" => (first | (repeat (first | (with_reducible show Str; exact Str.ofString "") | (with_reducible show Value; exact Value.none) | (with_reducible show List (Str × Addr); exact []) | (with_reducible show Addr; exact 0))) | fail "row"))
  (k_with "exec Assign cons ListComp" => (first | ((k_dflt ((with_reducible refine' comp_assign (by k_dflt (exact rfl)) (by k_dflt (rfl)) (by k_dflt (rfl)) (by k_dflt (rfl)) ?_ (by k_dflt (rfl)) (by k_dflt (decide)) (by k_dflt (intro _; rfl)))))) | fail "row"))
  (k_with "SUBL" => (first | (((with_reducible show wpAny _ _ (subscriptTail _ _ (Value.ref _) (Value.int _ _)) _ _ _); k_dflt ((with_reducible refine' subL (by k_dflt (is_list)) (by k_dflt (first | exact rfl | exact (rfl : (0:Int) = ((0:Nat):Int)) | exact (rfl : (1:Int) = ((1:Nat):Int)) | exact (rfl : (2:Int) = ((2:Nat):Int)) | exact (rfl : (3:Int) = ((3:Nat):Int)))) (by k_dflt (first | assumption | rfl)) (by k_dflt (first | decide | omega)) ?_ (by k_dflt (with_unfolding_all rfl)))))) | fail "row"))
  (k_with "subscriptTail" => (first | ((k_extra "SUBL")) | fail "row"))
  (k_with "subscriptTail Name Name ref int" => (first | ((k_extra "SUBL")) | fail "row"))
  (k_with "subscriptTail Name Constant ref int" => (first | ((k_extra "SUBL")) | fail "row"))
  (k_with "subscriptTail" => (first | (((with_reducible show wpAny _ _ (subscriptTail _ _ (Value.ref _) (Value.int _ _)) _ _ _); k_dflt ((with_reducible refine' getI (by k_dflt (with_reducible assumption)) (by k_dflt (k_mem)) (by k_dflt (assumption)) (by k_dflt (assumption)) ?_ (by k_dflt (with_unfolding_all rfl)))))) | fail "row"))
  trivial
example : True := by
  (k_with "PJ" => (first | ((first | exact hC.1 | exact hC.2.1 | exact hC.2.2.1 | exact hC.2.2.2.1 | exact hC.2.2.2.2.1 | exact hC.2.2.2.2.2.1 | exact hC.2.2.2.2.2.2.1 | exact hC.2.2.2.2.2.2.2.1 | exact hC.2.2.2.2.2.2.2.2.1 | exact hC.2.2.2.2.2.2.2.2.2.1 | exact hC.2.2.2.2.2.2.2.2.2.2.1 | exact hC.2.2.2.2.2.2.2.2.2.2.2.1 | exact hC.2.2.2.2.2.2.2.2.2.2.2.2.1 | exact hC.2.2.2.2.2.2.2.2.2.2.2.2.2.1 | exact hC.2 | exact hC.2.2 | exact hC.2.2.2 | exact hC.2.2.2.2 | exact hC.2.2.2.2.2 | exact hC.2.2.2.2.2.2 | exact hC.2.2.2.2.2.2.2 | exact hC.2.2.2.2.2.2.2.2 | exact hC.2.2.2.2.2.2.2.2.2 | exact hC.2.2.2.2.2.2.2.2.2.2 | exact hC.2.2.2.2.2.2.2.2.2.2.2 | exact hC.2.2.2.2.2.2.2.2.2.2.2.2 | exact hC.2.2.2.2.2.2.2.2.2.2.2.2.2)) | fail "row"))
  (k_with "LT" => (first | (((repeat (first | exact Nat.lt_succ_self _ | (with_reducible assumption) | refine Nat.lt_succ_of_lt ?_)); done)) | fail "row"))
  (k_with "NE" => (first | ((refine neN ?_; (try dsimp only); first | exact Hold.out (by assumption) | exact Nat.ne_of_lt (by assumption) | exact Nat.ne_of_gt (by assumption) | (refine Nat.ne_of_lt ?_; k_extra "LT"; done) | (refine Nat.ne_of_gt ?_; k_extra "LT"; done) | exact Nat.ne_of_gt (lt2 (by assumption) (fun hC => by k_extra "PJ")) | exact Nat.ne_of_lt (lt2 (by assumption) (fun hC => by k_extra "PJ")) | exact ne2 (by assumption) (fun hC => by k_extra "PJ") | exact Ne.symm (ne2 (by assumption) (fun hC => by k_extra "PJ")) | exact Nat.ne_of_gt (ltM (by assumption) (by k_mem)) | exact Nat.ne_of_gt (ltM (Hold.out (by assumption)) (by k_mem)))) | fail "row"))
  trivial

example : True := by
  (k_with "execs nil" => (first | (refine wpAny_execs_nil ?_) | fail "row"))
  (k_with "execs cons" => (first | ((with_reducible refine execs_consL ?_)) | fail "row"))
  trivial
section
variable {w : World} {base : Heap} {A : Around} {E : Value → Shared → Prop} {s : Shared} {Q : Value → Shared → Prop} {k : Nat} {t : Tok}
noncomputable def pick (x0 x2 x4 : Int) (i : Nat) : Int := match i with | 0 => x0 | 1 => x2 | _ => x4
noncomputable def deeds : List (Int × Value) := [(20, .ref 21), (21, .ref 42), (29, .ref 28), (30, .ref 35)]
noncomputable def big (v : Value) : Bool := match v with | .int y _ => decide (256 ≤ y) | _ => false

theorem c_ruleA {a b : Addr} {t0 t1 t2 t3 u0 u1 u2 u3 u4 : Tok} {x0 x1 x2 x3 x4 : Int} (G : G0 w base) (st : base.StaysIn s.heap) (R : Rm A (k + 4))
   (ha : s.heap.IsList a #[.int 256 t0, .int 258 t1, .int 52 t2, .int 257 t3]) (hb : s.heap.IsList b #[.int x0 u0, .int x1 u1, .int x2 u2, .int x3 u3, .int x4 u4])
   (mid : Nat) (hmid : mid ≤ s.toks) (ht : (t0 ≠ 0 ∧ t1 ≠ 0 ∧ t2 ≠ 0 ∧ t3 ≠ 0) ∧ t0 < mid ∧ t1 < mid ∧ t3 < mid)
   (hu : mid ≤ u0 ∧ mid ≤ u2 ∧ mid ≤ u4) (hu' : u0 ≠ 0 ∧ u2 ≠ 0 ∧ u4 ≠ 0)
   (hx : ∀ i, i < 3 → pick x0 x2 x4 i ∈ ([257, 256, 258, 257, 256, 258] : List Int))
   {v1 v3 : Value} (hv1 : valueAt deeds x1 = some v1) (hv3 : valueAt deeds x3 = some v3)
   (h : ∀ r o h' tk ys n tg, s.heap.StaysIn h' → Fresh s.heap h' r { cls := .type "tuple", data := .seq #[.int 2 tg, .ref o, v1, v3] } → Fresh s.heap h' o (listOf ys n) →
      IntsAre ys.toList ([x0, x2, x4].map fun x => (([257, 256, 258, 257, 256, 258] : List Int).idxOf x : Int)) → Q (.ref r) { s with heap := h', toks := tk }) :
   wpAny (model PG w) A (call (.ref 160) [.ref a, .ref b]) Q E s := by
  refine wpAny_call ?_
  refine enterC (ld := []) (binds := [("pattern", .ref a), ("claim", .ref b)]) G st (fun _ h => nomatch h) R.room (by k_is) (by k_is) (BindsTo.of_eq rfl) rfl ?_ (by decide)
  intro g L h₁ tk₁ cells up dn htk₁ F N Y lL X G'
  obtain ⟨pp, loo, mg, mb, T⟩ := G'.T
  have R' := R.deeper
  first | (obtain ⟨o1, hE, d1⟩ := CellsAre.one Y; subst hE) | (obtain ⟨o1, o2, hE, d1, d2⟩ := CellsAre.two Y; subst hE) | (obtain ⟨o1, o2, o3, hE, d1, d2, d3⟩ := CellsAre.three Y; subst hE) | (obtain ⟨o1, o2, o3, o4, hE, d1, d2, d3, d4⟩ := CellsAre.four Y; subst hE)
  (try simp only [List.cons_append, List.nil_append] at N)
  have hga := isList_up ha up
  have hgb := isList_up hb up
  have X' := X
  change o1.data = .cell none at d1; change o2.data = .cell (some (.ref b)) at d2
  k_extra "KS"
  rename (News _ _ _ _) => N₂
  rename (Fr _ _ _ _) => F₂
  refine filt_list (vs := [.int 255 _, .int 256 t0, .int 258 t1, .int 52 t2, .int 257 t3]) big (Rm.h (Rm.deeper (by assumption) _)) ⟨_, (N₂ _ (.head _)).1, rfl, _, rfl⟩ (N₂ _ (.head _)).2.1 ?_ ?_ F₂ (news_sub N₂ fun p hp => .tail _ hp) ?_ ?_
  · k_all
  · show 5 ≤ sizeLine; decide
  · rintro i v h3 tk3 own C m hv htk F₃ N₃
    (try k_fold)
    refine byGoal fun P9 k9 => ?_
    obtain ⟨y, u, rfl⟩ := get5 (P := fun _ v => ∃ y u, v = Value.int y u) ⟨_, _, rfl⟩ ⟨_, _, rfl⟩ ⟨_, _, rfl⟩ ⟨_, _, rfl⟩ ⟨_, _, rfl⟩ hv
    refine k9 ?_
    clear k9 P9
    k_extra "KS"
    k_extra "JUNK"
    refine c_isnt G' (Fr.keep (by assumption)) (k := 0) ((R.deeper _).le (by exact Mine.om91)) ?_
    intro h9 tk9 k9
    have F9 := fr_stays (by assumption) k9
    have N9 := news_stays (by assumption) k9
    k_extra "KS"
    refine ⟨_, _, _, rfl, by assumption, by assumption, rfl, ?_⟩
    simp [big, eq_comm]
  · intro D h3 tk3 k3 htk3 F₃ N₃ hlt
    have e9 : ∀ z, List.filter big [.int 255 z, .int 256 t0, .int 258 t1, .int 52 t2, .int 257 t3] = [.int 256 t0, .int 258 t1, .int 257 t3] := fun _ => rfl
    rw [e9] at N₃
    k_lt hlt
    k_extra "KS"
    refine later (c_indexOf_int (ys := [256, 258, 52, 257]) G' (Fr.keep (by assumption)) (k := 0) ((R.deeper _).le (by exact Mine.om91)) (isList_keep hga (Fr.keep (by assumption))) (by repeat constructor) ?_ ?_ (by decide) ?_)
    rotate_left 2
    · intro h9 tk9 tr9 k9 l9
      have F9 := fr_stays (by assumption) k9
      have N9 := news_stays (by assumption) k9
      rw [show ([256, 258, 52, 257] : List Int).idxOf 52 = 2 from by decide]
      k_extra "KS"
      rename (News _ _ _ _) => N₅
      rename (Fr _ _ _ _) => F₅
      refine comp_tuple (vs := [.int 0 _, .int 2 _, .int 4 _]) (fun i tk y => ∃ t, y = .int (([257, 256, 258, 257, 256, 258] : List Int).idxOf (pick x0 x2 x4 i) : Nat) t) (fun _ _ _ _ _ h => h) (Rm.h (Rm.deeper (by assumption) _)) ⟨_, (N₅ _ (.head _)).1, rfl, _, rfl⟩ (N₅ _ (.head _)).2.1 ?_ (by show 3 ≤ sizeLine; decide) F₅ (news_sub N₅ fun p hp => .tail _ hp) ?_ ?_
      · k_all
      · rintro i v h3 tk3 own C m hiv htk F₃ N₃
        (try k_fold)
        refine byGoal fun P9 k9 => ?_
        obtain ⟨tv, u, rfl, hcl, hum, hu0⟩ := get3 (P := fun i v => ∃ tv u, v = .int ((2 * i : Nat) : Int) tv ∧ (#[.int x0 u0, .int x1 u1, .int x2 u2, .int x3 u3, .int x4 u4] : Array Value)[2 * i]? = some (.int (pick x0 x2 x4 i) u) ∧ mid ≤ u ∧ u ≠ 0) ⟨_, u0, rfl, rfl, hu.1, hu'.1⟩ ⟨_, u2, rfl, rfl, hu.2.1, hu'.2.1⟩ ⟨_, u4, rfl, rfl, hu.2.2, hu'.2.2⟩ hiv
        refine k9 ?_
        clear k9 P9
        have hi3 : i < 3 := (List.getElem?_eq_some_iff.mp hiv).1
        k_extra "KS"
        k_extra "JUNK"
        k_extra "LATS"
        refine later (c_indexOf_int (ys := [257, 256, 258, 257, 256, 258]) G' (Fr.keep (by assumption)) (k := 0) ((R.deeper _).le (by exact Mine.om91)) (by is_list) (by repeat constructor) hu0 ?_ (hx i hi3) ?_)
        · intro y u hy
          simp only [List.mem_append, List.mem_cons, List.not_mem_nil, or_false, List.cons_append, List.nil_append, Value.int.injEq] at hy
          (try k_fold)
          refine byGoal fun P9 k9 => ?_
          obtain ⟨⟨a0, a1, a2, a3⟩, b0, b1, b3⟩ := ht
          refine k9 ?_
          clear k9 P9
          rcases hy with ⟨-, rfl⟩ | ⟨-, rfl⟩ | ⟨-, rfl⟩ | ⟨-, rfl⟩ | ⟨-, rfl⟩ | ⟨-, rfl⟩
          all_goals exact ⟨by assumption, fun e => absurd hum (by rw [← e]; exact Nat.not_le.mpr (by assumption))⟩
        · intro h9 tk9 tr9 k9 l9
          have F9 := fr_stays (by assumption) k9
          have N9 := news_stays (by assumption) k9
          k_extra "KS"
          exact ⟨_, _, _, rfl, by assumption, news_sub (by assumption) fun p hp => .tail _ hp, _, rfl⟩
      · intro D9 ys h3 tk3 k3 htk3 F₃ N₃ hlt hlen hR
        k_lt hlt
        have q1 : (#[.int x0 u0, .int x1 u1, .int x2 u2, .int x3 u3, .int x4 u4] : Array Value)[1]? = some (.int x1 u1) := rfl
        have q3 : (#[.int x0 u0, .int x1 u1, .int x2 u2, .int x3 u3, .int x4 u4] : Array Value)[3]? = some (.int x3 u3) := rfl
        k_extra "KS"
        refine h _ _ _ _ _ _ _ (fun b o e => Fr.keep (by assumption) b o (up b o e (fun q => nomatch q))) (fresh_of_news (by assumption) (.head _) up) (fresh_of_news (by assumption) (.tail _ (.head _)) up) ?_
        refine list3 hlen fun y0 y1 y2 hy3 => ?_
        subst hy3
        obtain ⟨_, rfl⟩ := hR 0 y0 rfl
        obtain ⟨_, rfl⟩ := hR 1 y1 rfl
        obtain ⟨_, rfl⟩ := hR 2 y2 rfl
        exact .cons _ _ (.cons _ _ (.cons _ _ .nil))
    · have b0 := leN htk3
      have b1 := leN htk₁
      have b2 := leN hmid
      simp only at b0
      k_extra "LATS"
      (try k_fold)
      refine byGoal fun P9 k9 => ?_
      obtain ⟨⟨a0, a1, a2, a3⟩, c0, c1, c3⟩ := ht
      refine k9 ?_
      clear k9 P9
      have c5 := ltN c0
      refine neN (by exact Mine.om95 b0)
    · have b0 := leN htk3
      have b1 := leN htk₁
      have b2 := leN hmid
      simp only at b0
      k_extra "LATS"
      (try k_fold)
      refine byGoal fun P9 k9 => ?_
      obtain ⟨⟨a0, a1, a2, a3⟩, c0, c1, c3⟩ := ht
      refine k9 ?_
      clear k9 P9
      have c0 := ltN c0
      have c1 := ltN c1
      have c3 := ltN c3
      intro y u hy
      simp only [List.mem_cons, List.not_mem_nil, or_false, Value.int.injEq] at hy
      rcases hy with ⟨rfl, rfl⟩ | ⟨rfl, rfl⟩ | ⟨rfl, rfl⟩ | ⟨rfl, rfl⟩
      · exact ⟨a0, fun e => absurd (eqN e) (by exact Mine.om96 hmid htk₁ b0 c0)⟩
      · exact ⟨a1, fun e => absurd (eqN e) (by exact Mine.om96 hmid htk₁ b0 c1)⟩
      · exact ⟨a2, fun _ => rfl⟩
      · exact ⟨a3, fun e => absurd (eqN e) (by exact Mine.om96 hmid htk₁ b0 c3)⟩
end
end Mine
end
section
set_option maxHeartbeats 1000000
namespace Mine
example : True := by
  k_with_none
  (k_with "STOPS" => (first | (with_reducible first | show wpAny _ _ (pyIter _) _ _ _ | show wpAny _ _ (exec (Stmt.While _ _ _ _) _) _ _ _ | show wpAny _ _ (exec (Stmt.For _ _ _ _ _) _) _ _ _ | show wpAny _ _ (call (Value.builtin "str.join") _ _) _ _ _ | show EachEnd _ _ _ _ _ _ _ | show TurnEnd _ _ _ _ _ _ _ _ _ | show TurnEndT _ _ _ _ _ _ _ _ _ | show WhileEnd _ _ _ _ _ _ _ _ | show EltEnd _ _ _ _ _ _ _ _ | show EnumEnd _ _ _ _ _ _ _ _) | fail "row"))
  (k_with "SZ" => (first | (first | decide | exact Nat.le_trans (by assumption) (by decide) | exact Nat.le_trans (Nat.le_of_eq (by assumption)) (by decide) | (show 1 ≤ _; decide) | (simp only [str_len_add, *]; first | done | decide | omega)) | fail "row"))
  (k_with "eval Name" => (first | ((k_dflt (((with_reducible refine' ldEp (by k_dflt (with_reducible assumption)) (by k_dflt (rfl)) (by k_dflt (rfl)) (by k_dflt (rfl)) (by k_dflt (decide)) (by k_dflt (first | rfl | assumption)) ?_)); k_whole))) | fail "row"))
  (k_with "loadName" => (first | ((k_dflt (((with_reducible refine' ldnEp (by k_dflt (with_reducible assumption)) (by k_dflt (rfl)) (by k_dflt (rfl)) (by k_dflt (rfl)) (by k_dflt (first | rfl | assumption)) ?_)); k_whole))) | fail "row"))
  (k_with "eval Name" => (first | ((k_dflt (((with_reducible refine' ldKp (by k_dflt (with_reducible assumption)) (by k_dflt (rfl)) (by k_dflt (rfl)) (by k_dflt (rfl)) (by k_dflt (decide)) (by k_dflt (k_mem)) (by k_dflt (assumption)) ?_)); k_whole))) | fail "row"))
  (k_with "eval ListComp" => (first | ((k_dflt ((with_reducible refine' comp_rule (by k_dflt (exact rfl)) ?_ (by k_dflt (rfl)) (by k_dflt (decide)) (by k_dflt (intro _; rfl)))))) | fail "row"))
  (k_with "binaryOp Add str str" => (first | ((k_dflt ((with_reducible refine addSN (by k_dflt (k_extra "SZ")) (by k_dflt (k_extra "SZ")) ?_); intro t9 tk9; revert t9 tk9; intro _ _))) | fail "row"))
  (k_with "compareOp In str str" => (first | (((with_reducible refine inC ?_))) | fail "row"))
  (k_with "KS" => (first | (repeat' (first | ((with_reducible show wpAny _ _ (execs _ _) _ _ _); k_fold) | (k_unfold; (try dsimp only)) | ((fail_if_success (k_extra "STOPS")); walk1) | dsimp only)) | fail "row"))
  (k_with "ite" => (first | ((k_dflt first | (k_closed; first | ((with_reducible refine ite_pos (by k_dflt (decide)) ?_)) | ((with_reducible refine ite_neg (by k_dflt (decide)) ?_))) | ((with_reducible refine split_decN ?_ ?_) <;> intro _))) | fail "row"))
  (k_with "LATS" => (first | (repeat (rename (Later _ _) => la9; have lb9 := leN la9.1; clear la9; (try simp only at lb9))) | fail "row"))
  (k_with "eval Dict" => (first | ((k_dflt ((refine' kdn_int (by k_dflt (rfl)) (by k_dflt (k_asm)) (by k_dflt (first | k_asm | exact News.nil)) (by k_dflt (exact TopRead.nolimit (by k_asm))) (by k_dflt (rfl)) (by k_dflt (rfl)) (by k_dflt (exact List.cons_ne_nil _ _)) (by k_dflt (exact Nat.le_of_ble_eq_true rfl)) ?_); intro d' h' o' F' N' l1 lo' hd'; (try k_lt l1); revert d' h' o' F' N' l1 lo' hd'; intro _ _ _ _ _ _ _ _))) | fail "row"))
  (k_with "binaryOp Add ref ref" => (first | ((k_dflt ((with_reducible refine' addL (by k_dflt (assumption)) (by k_dflt (assumption)) (by k_dflt (is_list)) (by k_dflt (is_list)) (by k_dflt ((simp only [List.length_append, List.length_cons, List.length_nil, sizeLine]; omega))) ?_); intro D9 h9 F9 N9 l9; (try k_lt l9); revert D9 h9 F9 N9 l9; intro _ _ _ _ _))) | fail "row"))
  (k_with "storeName" => (first | ((k_dflt (((with_reducible refine' stKp (by k_dflt (with_reducible assumption)) (by k_dflt (with_reducible assumption)) (by k_dflt (rfl)) (by k_dflt (rfl)) (by k_dflt (rfl)) (by k_dflt (k_updF)) (by k_dflt (assumption)) ?_)); k_whole; intro h9 o9 F9 N9 d9; (try dsimp only at N9); revert h9 o9 F9 N9 d9; intro _ _ _ _ _))) | fail "row"))
  (k_with "JUNK" => (first | (repeat (first | (with_reducible show Str; exact Str.ofString "") | (with_reducible show Value; exact Value.none) | (with_reducible show List (Str × Addr); exact []) | (with_reducible show Addr; exact 0))) | fail "row"))
  (k_with "exec Assign cons ListComp" => (first | ((k_dflt ((with_reducible refine' comp_assign (by k_dflt (exact rfl)) (by k_dflt (rfl)) (by k_dflt (rfl)) (by k_dflt (rfl)) ?_ (by k_dflt (rfl)) (by k_dflt (decide)) (by k_dflt (intro _; rfl)))))) | fail "row"))
  (k_with "SUBL" => (first | (((with_reducible show wpAny _ _ (subscriptTail _ _ (Value.ref _) (Value.int _ _)) _ _ _); k_dflt ((with_reducible refine' subL (by k_dflt (is_list)) (by k_dflt (first | exact rfl | exact (rfl : (0:Int) = ((0:Nat):Int)) | exact (rfl : (1:Int) = ((1:Nat):Int)) | exact (rfl : (2:Int) = ((2:Nat):Int)) | exact (rfl : (3:Int) = ((3:Nat):Int)))) (by k_dflt (first | assumption | rfl)) (by k_dflt (first | decide | omega)) ?_ (by k_dflt (with_unfolding_all rfl)))))) | fail "row"))
  (k_with "subscriptTail" => (first | ((k_extra "SUBL")) | fail "row"))
  (k_with "subscriptTail Name Name ref int" => (first | ((k_extra "SUBL")) | fail "row"))
  (k_with "subscriptTail Name Constant ref int" => (first | ((k_extra "SUBL")) | fail "row"))
  (k_with "subscriptTail" => (first | (((with_reducible show wpAny _ _ (subscriptTail _ _ (Value.ref _) (Value.int _ _)) _ _ _); k_dflt ((with_reducible refine' getI (by k_dflt (with_reducible assumption)) (by k_dflt (k_mem)) (by k_dflt (assumption)) (by k_dflt (assumption)) ?_ (by k_dflt (with_unfolding_all rfl)))))) | fail "row"))
  trivial
example : True := by
  (k_with "PJ" => (first | ((first | exact hC.1 | exact hC.2.1 | exact hC.2.2.1 | exact hC.2.2.2.1 | exact hC.2.2.2.2.1 | exact hC.2.2.2.2.2.1 | exact hC.2.2.2.2.2.2.1 | exact hC.2.2.2.2.2.2.2.1 | exact hC.2.2.2.2.2.2.2.2.1 | exact hC.2.2.2.2.2.2.2.2.2.1 | exact hC.2.2.2.2.2.2.2.2.2.2.1 | exact hC.2.2.2.2.2.2.2.2.2.2.2.1 | exact hC.2.2.2.2.2.2.2.2.2.2.2.2.1 | exact hC.2.2.2.2.2.2.2.2.2.2.2.2.2.1 | exact hC.2 | exact hC.2.2 | exact hC.2.2.2 | exact hC.2.2.2.2 | exact hC.2.2.2.2.2 | exact hC.2.2.2.2.2.2 | exact hC.2.2.2.2.2.2.2 | exact hC.2.2.2.2.2.2.2.2 | exact hC.2.2.2.2.2.2.2.2.2 | exact hC.2.2.2.2.2.2.2.2.2.2 | exact hC.2.2.2.2.2.2.2.2.2.2.2 | exact hC.2.2.2.2.2.2.2.2.2.2.2.2 | exact hC.2.2.2.2.2.2.2.2.2.2.2.2.2)) | fail "row"))
  (k_with "LT" => (first | (((repeat (first | exact Nat.lt_succ_self _ | (with_reducible assumption) | refine Nat.lt_succ_of_lt ?_)); done)) | fail "row"))
  (k_with "NE" => (first | ((refine neN ?_; (try dsimp only); first | exact Hold.out (by assumption) | exact Nat.ne_of_lt (by assumption) | exact Nat.ne_of_gt (by assumption) | (refine Nat.ne_of_lt ?_; k_extra "LT"; done) | (refine Nat.ne_of_gt ?_; k_extra "LT"; done) | exact Nat.ne_of_gt (lt2 (by assumption) (fun hC => by k_extra "PJ")) | exact Nat.ne_of_lt (lt2 (by assumption) (fun hC => by k_extra "PJ")) | exact ne2 (by assumption) (fun hC => by k_extra "PJ") | exact Ne.symm (ne2 (by assumption) (fun hC => by k_extra "PJ")) | exact Nat.ne_of_gt (ltM (by assumption) (by k_mem)) | exact Nat.ne_of_gt (ltM (Hold.out (by assumption)) (by k_mem)))) | fail "row"))
  trivial

example : True := by
  (k_with "execs nil" => (first | (refine wpAny_execs_nil ?_) | fail "row"))
  (k_with "execs cons" => (first | ((with_reducible refine execs_consL ?_)) | fail "row"))
  trivial
section
variable {w : World} {base : Heap} {A : Around} {E : Value → Shared → Prop} {s : Shared} {Q : Value → Shared → Prop} {k : Nat} {t : Tok}
theorem c_ruleB {a b : Addr} {t0 t1 t2 t3 u0 u1 u2 u3 u4 : Tok} {x0 x1 x2 x3 x4 : Int} (G : G0 w base) (st : base.StaysIn s.heap) (R : Rm A (k + 4))
   (ha : s.heap.IsList a #[.int 257 t0, .int 52 t1, .int 256 t2, .int 258 t3]) (hb : s.heap.IsList b #[.int x0 u0, .int x1 u1, .int x2 u2, .int x3 u3, .int x4 u4])
   (mid : Nat) (hmid : mid ≤ s.toks) (ht : (t0 ≠ 0 ∧ t1 ≠ 0 ∧ t2 ≠ 0 ∧ t3 ≠ 0) ∧ t0 < mid ∧ t2 < mid ∧ t3 < mid)
   (hu : mid ≤ u0 ∧ mid ≤ u2 ∧ mid ≤ u4) (hu' : u0 ≠ 0 ∧ u2 ≠ 0 ∧ u4 ≠ 0)
   (hx : ∀ i, i < 3 → pick x0 x2 x4 i ∈ ([257, 256, 258, 257, 256, 258] : List Int))
   {v1 v3 : Value} (hv1 : valueAt deeds x1 = some v1) (hv3 : valueAt deeds x3 = some v3)
   (h : ∀ r o h' tk ys n tg, s.heap.StaysIn h' → Fresh s.heap h' r { cls := .type "tuple", data := .seq #[.int 1 tg, .ref o, v1, v3] } → Fresh s.heap h' o (listOf ys n) →
      IntsAre ys.toList ([x0, x2, x4].map fun x => (([257, 256, 258, 257, 256, 258] : List Int).idxOf x : Int)) → Q (.ref r) { s with heap := h', toks := tk }) :
   wpAny (model PG w) A (call (.ref 160) [.ref a, .ref b]) Q E s := by
  refine wpAny_call ?_
  refine enterC (ld := []) (binds := [("pattern", .ref a), ("claim", .ref b)]) G st (fun _ h => nomatch h) R.room (by k_is) (by k_is) (BindsTo.of_eq rfl) rfl ?_ (by decide)
  intro g L h₁ tk₁ cells up dn htk₁ F N Y lL X G'
  obtain ⟨pp, loo, mg, mb, T⟩ := G'.T
  have R' := R.deeper
  first | (obtain ⟨o1, hE, d1⟩ := CellsAre.one Y; subst hE) | (obtain ⟨o1, o2, hE, d1, d2⟩ := CellsAre.two Y; subst hE) | (obtain ⟨o1, o2, o3, hE, d1, d2, d3⟩ := CellsAre.three Y; subst hE) | (obtain ⟨o1, o2, o3, o4, hE, d1, d2, d3, d4⟩ := CellsAre.four Y; subst hE)
  (try simp only [List.cons_append, List.nil_append] at N)
  have hga := isList_up ha up
  have hgb := isList_up hb up
  have X' := X
  change o1.data = .cell none at d1; change o2.data = .cell (some (.ref b)) at d2
  k_extra "KS"
  rename (News _ _ _ _) => N₂
  rename (Fr _ _ _ _) => F₂
  refine filt_list (vs := [.int 255 _, .int 257 t0, .int 52 t1, .int 256 t2, .int 258 t3]) big (Rm.h (Rm.deeper (by assumption) _)) ⟨_, (N₂ _ (.head _)).1, rfl, _, rfl⟩ (N₂ _ (.head _)).2.1 ?_ ?_ F₂ (news_sub N₂ fun p hp => .tail _ hp) ?_ ?_
  · k_all
  · show 5 ≤ sizeLine; decide
  · rintro i v h3 tk3 own C m hv htk F₃ N₃
    (try k_fold)
    refine byGoal fun P9 k9 => ?_
    obtain ⟨y, u, rfl⟩ := get5 (P := fun _ v => ∃ y u, v = Value.int y u) ⟨_, _, rfl⟩ ⟨_, _, rfl⟩ ⟨_, _, rfl⟩ ⟨_, _, rfl⟩ ⟨_, _, rfl⟩ hv
    refine k9 ?_
    clear k9 P9
    k_extra "KS"
    k_extra "JUNK"
    refine c_isnt G' (Fr.keep (by assumption)) (k := 0) ((R.deeper _).le (by exact Mine.om91)) ?_
    intro h9 tk9 k9
    have F9 := fr_stays (by assumption) k9
    have N9 := news_stays (by assumption) k9
    k_extra "KS"
    refine ⟨_, _, _, rfl, by assumption, by assumption, rfl, ?_⟩
    simp [big, eq_comm]
  · intro D h3 tk3 k3 htk3 F₃ N₃ hlt
    have e9 : ∀ z, List.filter big [.int 255 z, .int 257 t0, .int 52 t1, .int 256 t2, .int 258 t3] = [.int 257 t0, .int 256 t2, .int 258 t3] := fun _ => rfl
    rw [e9] at N₃
    k_lt hlt
    k_extra "KS"
    refine later (c_indexOf_int (ys := [257, 52, 256, 258]) G' (Fr.keep (by assumption)) (k := 0) ((R.deeper _).le (by exact Mine.om91)) (isList_keep hga (Fr.keep (by assumption))) (by repeat constructor) ?_ ?_ (by decide) ?_)
    rotate_left 2
    · intro h9 tk9 tr9 k9 l9
      have F9 := fr_stays (by assumption) k9
      have N9 := news_stays (by assumption) k9
      rw [show ([257, 52, 256, 258] : List Int).idxOf 52 = 1 from by decide]
      k_extra "KS"
      rename (News _ _ _ _) => N₅
      rename (Fr _ _ _ _) => F₅
      refine comp_tuple (vs := [.int 0 _, .int 2 _, .int 4 _]) (fun i tk y => ∃ t, y = .int (([257, 256, 258, 257, 256, 258] : List Int).idxOf (pick x0 x2 x4 i) : Nat) t) (fun _ _ _ _ _ h => h) (Rm.h (Rm.deeper (by assumption) _)) ⟨_, (N₅ _ (.head _)).1, rfl, _, rfl⟩ (N₅ _ (.head _)).2.1 ?_ (by show 3 ≤ sizeLine; decide) F₅ (news_sub N₅ fun p hp => .tail _ hp) ?_ ?_
      · k_all
      · rintro i v h3 tk3 own C m hiv htk F₃ N₃
        (try k_fold)
        refine byGoal fun P9 k9 => ?_
        obtain ⟨tv, u, rfl, hcl, hum, hu0⟩ := get3 (P := fun i v => ∃ tv u, v = .int ((2 * i : Nat) : Int) tv ∧ (#[.int x0 u0, .int x1 u1, .int x2 u2, .int x3 u3, .int x4 u4] : Array Value)[2 * i]? = some (.int (pick x0 x2 x4 i) u) ∧ mid ≤ u ∧ u ≠ 0) ⟨_, u0, rfl, rfl, hu.1, hu'.1⟩ ⟨_, u2, rfl, rfl, hu.2.1, hu'.2.1⟩ ⟨_, u4, rfl, rfl, hu.2.2, hu'.2.2⟩ hiv
        refine k9 ?_
        clear k9 P9
        have hi3 : i < 3 := (List.getElem?_eq_some_iff.mp hiv).1
        k_extra "KS"
        k_extra "JUNK"
        k_extra "LATS"
        refine later (c_indexOf_int (ys := [257, 256, 258, 257, 256, 258]) G' (Fr.keep (by assumption)) (k := 0) ((R.deeper _).le (by exact Mine.om91)) (by is_list) (by repeat constructor) hu0 ?_ (hx i hi3) ?_)
        · intro y u hy
          simp only [List.mem_append, List.mem_cons, List.not_mem_nil, or_false, List.cons_append, List.nil_append, Value.int.injEq] at hy
          (try k_fold)
          refine byGoal fun P9 k9 => ?_
          obtain ⟨⟨a0, a1, a2, a3⟩, b0, b1, b3⟩ := ht
          refine k9 ?_
          clear k9 P9
          rcases hy with ⟨-, rfl⟩ | ⟨-, rfl⟩ | ⟨-, rfl⟩ | ⟨-, rfl⟩ | ⟨-, rfl⟩ | ⟨-, rfl⟩
          all_goals exact ⟨by assumption, fun e => absurd hum (by rw [← e]; exact Nat.not_le.mpr (by assumption))⟩
        · intro h9 tk9 tr9 k9 l9
          have F9 := fr_stays (by assumption) k9
          have N9 := news_stays (by assumption) k9
          k_extra "KS"
          exact ⟨_, _, _, rfl, by assumption, news_sub (by assumption) fun p hp => .tail _ hp, _, rfl⟩
      · intro D9 ys h3 tk3 k3 htk3 F₃ N₃ hlt hlen hR
        k_lt hlt
        have q1 : (#[.int x0 u0, .int x1 u1, .int x2 u2, .int x3 u3, .int x4 u4] : Array Value)[1]? = some (.int x1 u1) := rfl
        have q3 : (#[.int x0 u0, .int x1 u1, .int x2 u2, .int x3 u3, .int x4 u4] : Array Value)[3]? = some (.int x3 u3) := rfl
        k_extra "KS"
        refine h _ _ _ _ _ _ _ (fun b o e => Fr.keep (by assumption) b o (up b o e (fun q => nomatch q))) (fresh_of_news (by assumption) (.head _) up) (fresh_of_news (by assumption) (.tail _ (.head _)) up) ?_
        refine list3 hlen fun y0 y1 y2 hy3 => ?_
        subst hy3
        obtain ⟨_, rfl⟩ := hR 0 y0 rfl
        obtain ⟨_, rfl⟩ := hR 1 y1 rfl
        obtain ⟨_, rfl⟩ := hR 2 y2 rfl
        exact .cons _ _ (.cons _ _ (.cons _ _ .nil))
    · have b0 := leN htk3
      have b1 := leN htk₁
      have b2 := leN hmid
      simp only at b0
      k_extra "LATS"
      (try k_fold)
      refine byGoal fun P9 k9 => ?_
      obtain ⟨⟨a0, a1, a2, a3⟩, c0, c1, c3⟩ := ht
      refine k9 ?_
      clear k9 P9
      have c5 := ltN c0
      refine neN (by exact Mine.om95 b0)
    · have b0 := leN htk3
      have b1 := leN htk₁
      have b2 := leN hmid
      simp only at b0
      k_extra "LATS"
      (try k_fold)
      refine byGoal fun P9 k9 => ?_
      obtain ⟨⟨a0, a1, a2, a3⟩, c0, c1, c3⟩ := ht
      refine k9 ?_
      clear k9 P9
      have c0 := ltN c0
      have c1 := ltN c1
      have c3 := ltN c3
      intro y u hy
      simp only [List.mem_cons, List.not_mem_nil, or_false, Value.int.injEq] at hy
      rcases hy with ⟨rfl, rfl⟩ | ⟨rfl, rfl⟩ | ⟨rfl, rfl⟩ | ⟨rfl, rfl⟩
      · exact ⟨a0, fun e => absurd (eqN e) (by exact Mine.om96 hmid htk₁ b0 c0)⟩
      · exact ⟨a1, fun _ => rfl⟩
      · exact ⟨a2, fun e => absurd (eqN e) (by exact Mine.om96 hmid htk₁ b0 c1)⟩
      · exact ⟨a3, fun e => absurd (eqN e) (by exact Mine.om96 hmid htk₁ b0 c3)⟩
end
end Mine
end
section
set_option maxHeartbeats 1000000
namespace Mine
example : True := by
  k_with_none
  (k_with "STOPS" => (first | (with_reducible first | show wpAny _ _ (pyIter _) _ _ _ | show wpAny _ _ (exec (Stmt.While _ _ _ _) _) _ _ _ | show wpAny _ _ (exec (Stmt.For _ _ _ _ _) _) _ _ _ | show wpAny _ _ (call (Value.builtin "str.join") _ _) _ _ _ | show EachEnd _ _ _ _ _ _ _ | show TurnEnd _ _ _ _ _ _ _ _ _ | show TurnEndT _ _ _ _ _ _ _ _ _ | show WhileEnd _ _ _ _ _ _ _ _ | show EltEnd _ _ _ _ _ _ _ _ | show EnumEnd _ _ _ _ _ _ _ _) | fail "row"))
  (k_with "SZ" => (first | (first | decide | exact Nat.le_trans (by assumption) (by decide) | exact Nat.le_trans (Nat.le_of_eq (by assumption)) (by decide) | (show 1 ≤ _; decide) | (simp only [str_len_add, *]; first | done | decide | omega)) | fail "row"))
  (k_with "eval Name" => (first | ((k_dflt (((with_reducible refine' ldEp (by k_dflt (with_reducible assumption)) (by k_dflt (rfl)) (by k_dflt (rfl)) (by k_dflt (rfl)) (by k_dflt (decide)) (by k_dflt (first | rfl | assumption)) ?_)); k_whole))) | fail "row"))
  (k_with "loadName" => (first | ((k_dflt (((with_reducible refine' ldnEp (by k_dflt (with_reducible assumption)) (by k_dflt (rfl)) (by k_dflt (rfl)) (by k_dflt (rfl)) (by k_dflt (first | rfl | assumption)) ?_)); k_whole))) | fail "row"))
  (k_with "eval Name" => (first | ((k_dflt (((with_reducible refine' ldKp (by k_dflt (with_reducible assumption)) (by k_dflt (rfl)) (by k_dflt (rfl)) (by k_dflt (rfl)) (by k_dflt (decide)) (by k_dflt (k_mem)) (by k_dflt (assumption)) ?_)); k_whole))) | fail "row"))
  (k_with "eval ListComp" => (first | ((k_dflt ((with_reducible refine' comp_rule (by k_dflt (exact rfl)) ?_ (by k_dflt (rfl)) (by k_dflt (decide)) (by k_dflt (intro _; rfl)))))) | fail "row"))
  (k_with "binaryOp Add str str" => (first | ((k_dflt ((with_reducible refine addSN (by k_dflt (k_extra "SZ")) (by k_dflt (k_extra "SZ")) ?_); intro t9 tk9; revert t9 tk9; intro _ _))) | fail "row"))
  (k_with "compareOp In str str" => (first | (((with_reducible refine inC ?_))) | fail "row"))
  (k_with "KS" => (first | (repeat' (first | ((with_reducible show wpAny _ _ (execs _ _) _ _ _); k_fold) | (k_unfold; (try dsimp only)) | ((fail_if_success (k_extra "STOPS")); walk1) | dsimp only)) | fail "row"))
  (k_with "ite" => (first | ((k_dflt first | (k_closed; first | ((with_reducible refine ite_pos (by k_dflt (decide)) ?_)) | ((with_reducible refine ite_neg (by k_dflt (decide)) ?_))) | ((with_reducible refine split_decN ?_ ?_) <;> intro _))) | fail "row"))
  (k_with "LATS" => (first | (repeat (rename (Later _ _) => la9; have lb9 := leN la9.1; clear la9; (try simp only at lb9))) | fail "row"))
  (k_with "eval Dict" => (first | ((k_dflt ((refine' kdn_int (by k_dflt (rfl)) (by k_dflt (k_asm)) (by k_dflt (first | k_asm | exact News.nil)) (by k_dflt (exact TopRead.nolimit (by k_asm))) (by k_dflt (rfl)) (by k_dflt (rfl)) (by k_dflt (exact List.cons_ne_nil _ _)) (by k_dflt (exact Nat.le_of_ble_eq_true rfl)) ?_); intro d' h' o' F' N' l1 lo' hd'; (try k_lt l1); revert d' h' o' F' N' l1 lo' hd'; intro _ _ _ _ _ _ _ _))) | fail "row"))
  (k_with "binaryOp Add ref ref" => (first | ((k_dflt ((with_reducible refine' addL (by k_dflt (assumption)) (by k_dflt (assumption)) (by k_dflt (is_list)) (by k_dflt (is_list)) (by k_dflt ((simp only [List.length_append, List.length_cons, List.length_nil, sizeLine]; omega))) ?_); intro D9 h9 F9 N9 l9; (try k_lt l9); revert D9 h9 F9 N9 l9; intro _ _ _ _ _))) | fail "row"))
  (k_with "storeName" => (first | ((k_dflt (((with_reducible refine' stKp (by k_dflt (with_reducible assumption)) (by k_dflt (with_reducible assumption)) (by k_dflt (rfl)) (by k_dflt (rfl)) (by k_dflt (rfl)) (by k_dflt (k_updF)) (by k_dflt (assumption)) ?_)); k_whole; intro h9 o9 F9 N9 d9; (try dsimp only at N9); revert h9 o9 F9 N9 d9; intro _ _ _ _ _))) | fail "row"))
  (k_with "JUNK" => (first | (repeat (first | (with_reducible show Str; exact Str.ofString "") | (with_reducible show Value; exact Value.none) | (with_reducible show List (Str × Addr); exact []) | (with_reducible show Addr; exact 0))) | fail "row"))
  (k_with "exec Assign cons ListComp" => (first | ((k_dflt ((with_reducible refine' comp_assign (by k_dflt (exact rfl)) (by k_dflt (rfl)) (by k_dflt (rfl)) (by k_dflt (rfl)) ?_ (by k_dflt (rfl)) (by k_dflt (decide)) (by k_dflt (intro _; rfl)))))) | fail "row"))
  (k_with "SUBL" => (first | (((with_reducible show wpAny _ _ (subscriptTail _ _ (Value.ref _) (Value.int _ _)) _ _ _); k_dflt ((with_reducible refine' subL (by k_dflt (is_list)) (by k_dflt (first | exact rfl | exact (rfl : (0:Int) = ((0:Nat):Int)) | exact (rfl : (1:Int) = ((1:Nat):Int)) | exact (rfl : (2:Int) = ((2:Nat):Int)) | exact (rfl : (3:Int) = ((3:Nat):Int)))) (by k_dflt (first | assumption | rfl)) (by k_dflt (first | decide | omega)) ?_ (by k_dflt (with_unfolding_all rfl)))))) | fail "row"))
  (k_with "subscriptTail" => (first | ((k_extra "SUBL")) | fail "row"))
  (k_with "subscriptTail Name Name ref int" => (first | ((k_extra "SUBL")) | fail "row"))
  (k_with "subscriptTail Name Constant ref int" => (first | ((k_extra "SUBL")) | fail "row"))
  (k_with "subscriptTail" => (first | (((with_reducible show wpAny _ _ (subscriptTail _ _ (Value.ref _) (Value.int _ _)) _ _ _); k_dflt ((with_reducible refine' getI (by k_dflt (with_reducible assumption)) (by k_dflt (k_mem)) (by k_dflt (assumption)) (by k_dflt (assumption)) ?_ (by k_dflt (with_unfolding_all rfl)))))) | fail "row"))
  trivial
example : True := by
  (k_with "PJ" => (first | ((first | exact hC.1 | exact hC.2.1 | exact hC.2.2.1 | exact hC.2.2.2.1 | exact hC.2.2.2.2.1 | exact hC.2.2.2.2.2.1 | exact hC.2.2.2.2.2.2.1 | exact hC.2.2.2.2.2.2.2.1 | exact hC.2.2.2.2.2.2.2.2.1 | exact hC.2.2.2.2.2.2.2.2.2.1 | exact hC.2.2.2.2.2.2.2.2.2.2.1 | exact hC.2.2.2.2.2.2.2.2.2.2.2.1 | exact hC.2.2.2.2.2.2.2.2.2.2.2.2.1 | exact hC.2.2.2.2.2.2.2.2.2.2.2.2.2.1 | exact hC.2 | exact hC.2.2 | exact hC.2.2.2 | exact hC.2.2.2.2 | exact hC.2.2.2.2.2 | exact hC.2.2.2.2.2.2 | exact hC.2.2.2.2.2.2.2 | exact hC.2.2.2.2.2.2.2.2 | exact hC.2.2.2.2.2.2.2.2.2 | exact hC.2.2.2.2.2.2.2.2.2.2 | exact hC.2.2.2.2.2.2.2.2.2.2.2 | exact hC.2.2.2.2.2.2.2.2.2.2.2.2 | exact hC.2.2.2.2.2.2.2.2.2.2.2.2.2)) | fail "row"))
  (k_with "LT" => (first | (((repeat (first | exact Nat.lt_succ_self _ | (with_reducible assumption) | refine Nat.lt_succ_of_lt ?_)); done)) | fail "row"))
  (k_with "NE" => (first | ((refine neN ?_; (try dsimp only); first | exact Hold.out (by assumption) | exact Nat.ne_of_lt (by assumption) | exact Nat.ne_of_gt (by assumption) | (refine Nat.ne_of_lt ?_; k_extra "LT"; done) | (refine Nat.ne_of_gt ?_; k_extra "LT"; done) | exact Nat.ne_of_gt (lt2 (by assumption) (fun hC => by k_extra "PJ")) | exact Nat.ne_of_lt (lt2 (by assumption) (fun hC => by k_extra "PJ")) | exact ne2 (by assumption) (fun hC => by k_extra "PJ") | exact Ne.symm (ne2 (by assumption) (fun hC => by k_extra "PJ")) | exact Nat.ne_of_gt (ltM (by assumption) (by k_mem)) | exact Nat.ne_of_gt (ltM (Hold.out (by assumption)) (by k_mem)))) | fail "row"))
  trivial

example : True := by
  (k_with "assign" => (first | ((k_dflt ((with_reducible refine' unpackT (by k_dflt (assumption)) (by k_dflt (assumption)) (by k_dflt (exact Rm.h (Rm.deeper (by assumption) _))) (by k_dflt (assumption)) (by k_dflt (rfl)) (by k_dflt (rfl)) ?_); k_whole; intro h9 F9 N9 k9; revert h9 F9 N9 k9; intro _ _ _ _))) | fail "row"))
  (k_with "assign" => (first | ((k_dflt ((with_reducible refine' unpackL (by k_dflt (assumption)) (by k_dflt (assumption)) (by k_dflt (exact Rm.h (Rm.deeper (by assumption) _))) (by k_dflt (is_list)) (by k_dflt (rfl)) (by k_dflt (rfl)) ?_); k_whole; intro h9 F9 N9 k9; revert h9 F9 N9 k9; intro _ _ _ _))) | fail "row"))
  (k_with "UPD" => (first | (first | k_updF | (refine' UpdF.app (by k_dflt (k_extra "UPD")) (by k_dflt ((intro p hp; refine ((by k_dflt (assumption)) : OwnOff _ _) p hp _ (by k_dflt (simp))))))) | fail "row"))
  (k_with "storeName" => (first | ((k_dflt (((with_reducible refine' stKp (by k_dflt (with_reducible assumption)) (by k_dflt (with_reducible assumption)) (by k_dflt (rfl)) (by k_dflt (rfl)) (by k_dflt (rfl)) (by k_dflt (k_extra "UPD")) (by k_dflt (assumption)) ?_)); k_whole; intro h9 o9 F9 N9 d9; (try dsimp only at N9); revert h9 o9 F9 N9 d9; intro _ _ _ _ _))) | fail "row"))
  trivial
theorem natSucc (p : Nat) : ((p : Int) + 1) = ((p + 1 : Nat) : Int) := rfl
theorem addSS {prog : Program} {w : World} {A : Around} {E : Value → Shared → Prop} {s : Shared} {Q : Value → Shared → Prop} {a b : List Nat} {t u : Tok} (hx : (S a).length ≤ 4000000) (hy : (S b).length ≤ 4000000) (h : ∀ t' tk, s.toks ≤ tk → Q (.str (S (a ++ b)) t') { s with toks := tk }) :
    wpAny (model prog w) A (binaryOp .Add (.str (S a) t) (.str (S b) u)) Q E s :=
  addS' hx hy fun t' tk l1 _ => by rw [S_append]; exact h t' tk l1
example : True := by
  (k_with "binaryOp Add str str" => (first | ((k_dflt ((with_reducible refine addSS (by k_dflt ((rw [S_len]; first | decide | omega | (simp only [List.length_cons, List.length_nil]; omega)))) (by k_dflt ((rw [S_len]; first | decide | omega | (simp only [List.length_cons, List.length_nil]; omega)))) ?_); intro t9 tk9 l9; clear l9; revert t9 tk9; intro _ _))) | fail "row"))
  (k_with "subscriptTail" => (first | (((with_reducible show wpAny _ _ (subscriptTail _ _ (Value.str _ _) (Value.int _ _)) _ _ _); k_dflt ((with_reducible refine' subS (by k_dflt (first | exact natSucc _ | rfl)) (by k_dflt (assumption)) (by k_dflt (omega)) ?_ (by k_dflt (with_unfolding_all rfl)))))) | fail "row"))
  (k_with "callWith ref" => (first | ((k_dflt ((refine' callWith_K (by k_dflt (k_asm)) (by k_dflt (assumption)) ?_); k_whole))) | fail "row"))
  (k_with "STOPS" => (first | (with_reducible show wpAny _ _ (eval (Expr.IfExp _ _ _ _) _) _ _ _) | fail "row"))
  trivial
theorem eqArg {α : Type} {a b : α} {P : α → Prop} (e : a = b) (h : P a) : P b := e ▸ h
inductive IfP (g : Heap) (L : Addr) (m : Str → Option Value) (ld : List (Addr × Obj)) (val : Tok → Value) (gs : Array GenState) (dr : Drawn) (os : OsState) (v : Value) (s' : Shared) : Prop
  | mk (tw : Tok) (h' : Heap) (tk : Nat) (e : v = val tw) (es : s' = ⟨h', gs, dr, tk, os⟩) (F : Fr g L h' m) (N : News g L h' ld)
theorem ifE {M : Model} {A : Around} {t : Sem Value} {Q : Value → Shared → Prop} {E : Value → Shared → Prop} {s : Shared} {g : Heap} {L : Addr} {m : Str → Option Value} {ld : List (Addr × Obj)} {val : Tok → Value} (_ : Fr g L s.heap m) (_ : News g L s.heap ld) (h : wpAny M A t (IfP g L m ld val s.gens s.drawn s.os) NoE s)
    (k : ∀ tw h' tk, s.toks ≤ tk → Fr g L h' m → News g L h' ld → Q (val tw) ⟨h', s.gens, s.drawn, tk, s.os⟩) : wpAny M A t Q E s :=
  later (wpAny_mono h (fun _ _ ⟨tw, h', tk, e1, e2, F, N⟩ l => by subst e1; subst e2; exact k tw h' tk l.1 F N) fun _ _ x => x.elim)
example : True := by
  (k_with "STOPS" => (first | (with_reducible show IfP _ _ _ _ _ _ _ _ _ _) | fail "row"))
  trivial
structure RuleP where
  gap : Nat
  a : Nat
  b : Nat
  c : Nat
  f1 : Addr
  f2 : Addr
noncomputable def cmpF (f : Addr) (x y : List Nat) : Bool := if f = 21 then decide (x < y) else if f = 28 then !decide (y < x) else if f = 35 then !decide (x < y) else decide (y < x)
def isCmp (f : Addr) : Prop := f = 21 ∨ f = 28 ∨ f = 35 ∨ f = 42
noncomputable def wits (r : RuleP) (l : List Nat) (p : Nat) : List Nat := if r.gap = 2 then l.drop (p + 2) else l.take p
noncomputable def pairsP (l : List Nat) (p : Nat) : List (List Nat) := [[l.getD p 0, l.getD (p + 1) 0], [l.getD (p + 1) 0, l.getD p 0]]
noncomputable def oneP (r : RuleP) (z : List Nat) : Bool := cmpF r.f1 [z.getD r.a 0] [z.getD r.b 0] && cmpF r.f2 [z.getD r.b 0] [z.getD r.c 0]
noncomputable def letsP (rs : List RuleP) (l : List Nat) (p : Nat) : Bool := rs.any fun r => (wits r l p).any fun c => (pairsP l p).any fun q => oneP r (c :: q)
noncomputable def RuleP.sel (r : RuleP) (i : Nat) : Nat := match i with | 0 => r.a | 1 => r.b | _ => r.c
structure RuleP.Ok (r : RuleP) : Prop where
  a : r.a < 3
  b : r.b < 3
  c : r.c < 3
  f1 : isCmp r.f1
  f2 : isCmp r.f2
noncomputable def tupObj (vs : Array Value) : Obj := { cls := .type "tuple", data := .seq vs }
inductive RuleAt (h : Heap) (v : Value) (r : RuleP) : Prop
  | mk (a o : Addr) (tg ta tb tc : Tok) (n : Nat) (e : v = .ref a) (h1 : h.get? a = some (tupObj #[.int (r.gap : Nat) tg, .ref o, .ref r.f1, .ref r.f2])) (h2 : h.get? o = some (listOf #[.int (r.a : Nat) ta, .int (r.b : Nat) tb, .int (r.c : Nat) tc] n)) (ok : r.Ok)
theorem RuleAt.up {h g : Heap} {v : Value} {r : RuleP} (q : RuleAt h v r) (k : h.StaysIn g) : RuleAt g v r := by
  cases q with | mk a o tg ta tb tc n e h1 h2 h3 => exact ⟨a, o, tg, ta, tb, tc, n, e, k _ _ h1, k _ _ h2, h3⟩
theorem All2.mono {α : Type} {r1 r2 : Value → α → Prop} (k : ∀ v a, r1 v a → r2 v a) {vs : List Value} {as : List α} (h : All2 r1 vs as) : All2 r2 vs as := by
  induction h with
  | nil => exact .nil
  | cons h _ ih => exact .cons (k _ _ h) ih
theorem All2.get {α : Type} {r1 : Value → α → Prop} {vs : List Value} {as : List α} (h : All2 r1 vs as) : ∀ {i : Nat} {v : Value}, vs[i]? = some v → ∃ a, as[i]? = some a ∧ r1 v a := by
  induction h with
  | nil => intro i v e; rw [List.getElem?_nil] at e; cases e
  | cons h _ ih =>
    intro i v e
    cases i with
    | zero => exact ⟨_, rfl, Option.some.inj e ▸ h⟩
    | succ i => exact ih (i := i) e
theorem All2.len {α : Type} {r1 : Value → α → Prop} {vs : List Value} {as : List α} (h : All2 r1 vs as) : vs.length = as.length := by
  induction h with
  | nil => rfl
  | cons _ _ ih => rw [List.length_cons, List.length_cons, ih]
theorem letsP_succ {rs : List RuleP} {r : RuleP} {l : List Nat} {p i : Nat} (h : rs[i]? = some r) : letsP (rs.take (i + 1)) l p = (letsP (rs.take i) l p || (wits r l p).any fun c => (pairsP l p).any fun q => oneP r (c :: q)) := by
  unfold letsP
  rw [take_succ_of h, List.any_append]; simp
theorem letsP_true {rs : List RuleP} {r : RuleP} {l : List Nat} {p i : Nat} (h : rs[i]? = some r) (hx : ((wits r l p).any fun c => (pairsP l p).any fun q => oneP r (c :: q)) = true) : letsP rs l p = true :=
  List.any_eq_true.mpr ⟨r, List.mem_of_getElem? h, hx⟩
section
variable {w : World} {base : Heap} {A : Around} {E : Value → Shared → Prop} {s : Shared} {Q : Value → Shared → Prop} {k : Nat} {t : Tok}
theorem c_cmp {f : Addr} {x y : List Nat} {t u : Tok} (G : G0 w base) (st : base.StaysIn s.heap) (R : Rm A (k + 2)) (hf : isCmp f)
   (h : ∀ h' tk, s.heap.StaysIn h' → Q (.bool (cmpF f x y)) { s with heap := h', toks := tk }) :
   wpAny (model PG w) A (call (.ref f) [.str (S x) t, .str (S y) u]) Q E s := by
  rcases hf with rfl | rfl | rfl | rfl
  · exact c_lt G st R h
  · exact c_le G st R h
  · exact c_ge G st R h
  · exact c_gt G st R h
theorem isCmp.fn {f : Addr} (hf : isCmp f) : keepIn (hd.heap_39 w.params) (.ref f) = true := by
  rcases hf with rfl | rfl | rfl | rfl <;> k_is

inductive LetsC (la lb : Addr) (own : List (Addr × Obj)) (ld : List (Addr × Obj)) : Prop
  | mk (oa ob : Obj) (va vb : Option Value) (e : ld = [(la, oa), (lb, ob)] ++ own) (da : oa.data = .cell va) (db : ob.data = .cell vb)
inductive LetsJ (la lb : Addr) (own : List (Addr × Obj)) (l : List Nat) (t : Tok) (p : Nat) (tp : Tok) (o f1 f2 : Addr) (B : Nat → Prop) (i : Nat) (m : Str → Option Value) (ld : List (Addr × Obj)) : Prop
  | mk (hw : m "word" = some (.str (S l) t)) (hpl : m "place" = some (.int (p : Nat) tp)) (hor : m "order" = some (.ref o)) (hfi : m "first" = some (.ref f1)) (hse : m "second" = some (.ref f2)) (hc : LetsC la lb own ld) (hno : B i)
theorem c_lets {rl : Addr} {rv : List Value} {rs : List RuleP} {l : List Nat} {p : Nat} {tp : Tok} (G : G0 w base) (st : base.StaysIn s.heap) (R : Rm A (k + 4))
   (hr : s.heap.IsList rl rv.toArray) (ha : All2 (RuleAt s.heap) rv rs) (hl : l.length = 5) (hp : p < 4)
   (h : ∀ h' tk, s.heap.StaysIn h' → Q (.bool (letsP rs l p)) { s with heap := h', toks := tk }) :
   wpAny (model PG w) A (call (.ref 165) [.ref rl, .str (S l) t, .int (p : Nat) tp]) Q E s := by
  refine wpAny_call ?_
  refine enterC (ld := []) (binds := [("rules", .ref rl), ("word", .str (S l) t), ("place", .int (p : Nat) tp)]) G st (fun _ h => nomatch h) R.room (by k_is) (by k_is) (BindsTo.of_eq rfl) rfl ?_ (by decide)
  intro g L h₁ tk₁ cells up dn htk₁ F N Y lL X G'
  obtain ⟨pp, loo, mg, mb, T⟩ := G'.T
  have R' := R.deeper
  first | (obtain ⟨o1, hE, d1⟩ := CellsAre.one Y; subst hE) | (obtain ⟨o1, o2, hE, d1, d2⟩ := CellsAre.two Y; subst hE) | (obtain ⟨o1, o2, o3, hE, d1, d2, d3⟩ := CellsAre.three Y; subst hE) | (obtain ⟨o1, o2, o3, o4, hE, d1, d2, d3, d4⟩ := CellsAre.four Y; subst hE)
  (try simp only [List.cons_append, List.nil_append] at N)
  have hg := isList_up hr up
  (try k_fold)
  refine byGoal fun P9 k9 => ?_
  obtain ⟨og, hog, _⟩ := id hg
  refine k9 ?_
  clear k9 P9
  have hag : All2 (RuleAt g) rv rs := ha.mono fun v r q => q.up fun b o e => up b o e (fun q => nomatch q)
  have X' := X
  change o1.data = .cell none at d1; change o2.data = .cell none at d2
  have hsz : (S l).length ≤ 100 := by rw [S_len, hl]; decide
  k_extra "KS"
  refine for_rule ?_
  k_extra "KS"
  refine for_listG (vs := rv) (fun i m ld => m "word" = some (.str (S l) t) ∧ m "place" = some (.int (p : Nat) tp) ∧ (∃ oa ob va vb, ld = [(L + 1 + 1, oa), (L + 1, ob)] ∧ oa.data = .cell va ∧ ob.data = .cell vb) ∧ letsP (rs.take i) l p = false) (Rm.h (Rm.deeper (by assumption) _)) (isList_keep hg (Fr.keep (by assumption))) (fr_ne (by assumption) hog) ?_ (by assumption) (by assumption) ⟨rfl, rfl, ⟨_, _, _, _, rfl, d1, d2⟩, rfl⟩ ?_ ?_
  · intro q hq
    have F := F
    simp only [List.mem_cons, List.not_mem_nil, or_false] at hq
    have hlt := leN (by assumption : Fr g L _ _).above
    have := ltN (Heap.lt_size hog)
    rcases hq with rfl | rfl <;> (refine neN ?_; simp only; omega)
  · intro i v m ld h1 tk1 own1 hiv htk1 had1 hoff1 hJa F₁ N₁
    (try k_fold)
    refine byGoal fun P9 k9 => ?_
    obtain ⟨hw, hpl, ⟨oa, ob, va, vb, rfl, da, db⟩, hno⟩ := hJa
    refine k9 ?_
    clear k9 P9
    (try k_fold)
    refine byGoal fun P9 k9 => ?_
    obtain ⟨r, hri, a, o, tg, ta, tb, tc, n, rfl, hra, hro, hok⟩ := hag.get hiv
    refine k9 ?_
    clear k9 P9
    have hc0 : l[p]? = some (l.getD p 0) := by rw [List.getD_eq_getElem?_getD, List.getElem?_eq_getElem (by exact Mine.om20 hl hp)]; rfl
    have hc1 : l[p + 1]? = some (l.getD (p + 1) 0) := by rw [List.getD_eq_getElem?_getD, List.getElem?_eq_getElem (by exact Mine.om21 hl hp)]; rfl
    have hf1 := hok.f1.fn (w := w)
    have hf2 := hok.f2.fn (w := w)
    have hcp : ((p : Int) + 2) = ((p + 2 : Nat) : Int) := rfl
    have hT : h1.IsTuple a #[.int (r.gap : Nat) tg, .ref o, .ref r.f1, .ref r.f2] := ⟨_, F₁.keep _ _ hra, rfl, 0, rfl⟩
    k_extra "KS"
    refine ifE (val := fun tw => .str (S (wits r l p)) tw) (by assumption) (by assumption) ?_ ?_
    · walk1
      k_extra "KS"
      · rename ((_ : Int) == 2) = true => hgap
        have ew : Txt.slice (S l) (some ((p : Int) + 2)) none = S (wits r l p) := by
          rw [hcp, sliceSN, wits, if_pos (by have := beq_iff_eq.mp hgap; exact Mine.om97 this)]
        exact ⟨_, _, _, by rw [ew], rfl, by assumption, by assumption⟩
      · rename (¬ ((_ : Int) == 2) = true) => hgap
        have ew : Txt.slice (S l) none (some (p : Int)) = S (wits r l p) := by
          rw [sliceNS, wits, if_neg (fun q => hgap (by rw [q]; rfl))]
        exact ⟨_, _, _, by rw [ew], rfl, by assumption, by assumption⟩
    intro tw hw9 tkw htw Fw Nw
    k_extra "KS"
    refine for_rule ?_
    k_extra "KS"
    rename (Fr _ _ _ _) => F₂
    rename (News _ _ _ _) => N₂
    refine for_strG (ld₀ := [(L + 1 + 1, oa), (L + 1, ob)] ++ own1) (LetsJ (L + 1 + 1) (L + 1) own1 l t p tp o r.f1 r.f2 (fun i => (((wits r l p).take i).any fun c => (pairsP l p).any fun q => oneP r (c :: q)) = false)) (Rm.h (Rm.deeper (by assumption) _)) F₂ N₂ ⟨hw, hpl, rfl, rfl, rfl, ⟨_, _, _, _, rfl, da, db⟩, by simp⟩ ?_ ?_
    · intro i2 c u2 m2 ld2 h2 tk2 own2 hc htk2 had2 hoff2 hJa F₃ N₃
      (try k_fold)
      refine byGoal fun P9 k9 => ?_
      obtain ⟨hw2, hpl2, hor2, hfi2, hse2, ⟨oa2, ob2, va2, vb2, rfl, da2, db2⟩, hno2⟩ := hJa
      refine k9 ?_
      clear k9 P9
      k_extra "KS"
      refine for_rule ?_
      k_extra "KS"
      rename (Fr _ _ _ _) => F₄
      rename (News _ _ _ _) => N₄
      rename Obj => o3
      rename (o3.data = _) => do3
      change News g L _ (_ :: ([(L + 1 + 1, oa2), (L + 1, o3)] ++ own1 ++ own2)) at N₄
      refine for_tupleG (vs := [.str (S [l.getD p 0, l.getD (p + 1) 0]) _, .str (S [l.getD (p + 1) 0, l.getD p 0]) _]) (ld₀ := [(L + 1 + 1, oa2), (L + 1, o3)] ++ own1 ++ own2)
        (fun i m ld => m "order" = some (.ref o) ∧ m "first" = some (.ref r.f1) ∧ m "second" = some (.ref r.f2) ∧ m "word" = some (.str (S l) t) ∧ m "place" = some (.int (p : Nat) tp) ∧ (∃ oa va, ld = [(L + 1 + 1, oa), (L + 1, o3)] ++ own1 ++ own2 ∧ oa.data = .cell va) ∧ (((pairsP l p).take i).any fun q => oneP r (c :: q)) = false)
        (Rm.h (Rm.deeper (by assumption) _)) ⟨_, (N₄ _ (.head _)).1, rfl, _, rfl⟩ (N₄ _ (.head _)).2.1 ?_ F₄ (news_sub N₄ fun p hp => .tail _ hp) ⟨hor2, hfi2, hse2, hw2, hpl2, ⟨_, _, rfl, da2⟩, rfl⟩ ?_ ?_
      · exact fun q hq => Nat.ne_of_lt ((by assumption : ∀ p ∈ _, p.1 < _) q hq)
      · intro i3 v3 m3 ld3 h3 tk3 own3 hv3 htk3 had3 hoff3 hJa F₅ N₅
        (try k_fold)
        refine byGoal fun P9 k9 => ?_
        obtain ⟨hor3, hfi3, hse3, hw3, hpl3, ⟨oa3, va3, rfl, da3⟩, hno3⟩ := hJa
        refine k9 ?_
        clear k9 P9
        (try k_fold)
        refine byGoal fun P9 k9 => ?_
        obtain ⟨q, t3, rfl, hq, hql⟩ := get2 (P := fun i3 v3 => ∃ q t3, v3 = Value.str (S q) t3 ∧ (pairsP l p)[i3]? = some q ∧ q.length = 2) ⟨_, _, rfl, rfl, rfl⟩ ⟨_, _, rfl, rfl, rfl⟩ hv3
        refine k9 ?_
        clear k9 P9
        k_extra "KS"
        rename Obj => o5
        rename (o5.data = _) => do5
        rename (Fr _ _ _ _) => F₆
        rename (News _ _ _ _) => N₆
        refine comp_list (vs := [.int (r.a : Nat) ta, .int (r.b : Nat) tb, .int (r.c : Nat) tc]) (fun i tk y => ∃ t, y = .str (S [(c :: q).getD (r.sel i) 0]) t) (fun _ _ _ _ _ h => h) (Rm.h (Rm.deeper (by assumption) _)) ⟨_, F₆.keep _ _ hro, rfl, n, rfl⟩ (fr_ne F₆ hro) (fun q hq e => by have := (N₆ q hq).2.2; rw [e, hro] at this; cases this) (by show 3 ≤ sizeLine; decide) F₆ N₆ ?_ ?_
        · rintro i4 v4 h4 tk4 own4 C m4 hv4 htk4 F₇ N₇
          (try k_fold)
          refine byGoal fun P9 k9 => ?_
          obtain ⟨j, tj, rfl, hj, hjs⟩ := get3 (P := fun i4 v4 => ∃ (j : Nat) (tj : Tok), v4 = Value.int (j : Nat) tj ∧ j < 3 ∧ r.sel i4 = j) ⟨_, _, rfl, hok.a, rfl⟩ ⟨_, _, rfl, hok.b, rfl⟩ ⟨_, _, rfl, hok.c, rfl⟩ hv4
          refine k9 ?_
          clear k9 P9
          have hz : ([c] ++ q)[j]? = some ((c :: q).getD j 0) := by
            rw [List.getD_eq_getElem?_getD, List.singleton_append, List.getElem?_eq_getElem (by rw [List.length_cons, hql]; exact hj)]; rfl
          k_extra "KS"
          subst hjs
          exact ⟨_, _, _, rfl, by assumption, by assumption, _, rfl⟩
        · intro D ys h5 tk5 k5 htk5 F₇ N₇ hlt hlen hR
          refine list3 hlen fun y0 y1 y2 hy3 => ?_
          subst hy3
          obtain ⟨t0, rfl⟩ := hR 0 y0 rfl
          obtain ⟨t1, rfl⟩ := hR 1 y1 rfl
          obtain ⟨t2, rfl⟩ := hR 2 y2 rfl
          clear hR hlen
          k_extra "KS"
          refine c_cmp G' (Fr.keep (by assumption)) (k := 0) ((R.deeper _).le (by exact Mine.om91)) hok.f1 ?_
          intro h9 tk9 k9
          have F9 := fr_stays (by assumption) k9
          have N9 := news_stays (by assumption) k9
          k_extra "KS"
          · rename ((cmpF _ _ _ != false) = true) => hc1'
            refine c_cmp G' (Fr.keep (by assumption)) (k := 0) ((R.deeper _).le (by exact Mine.om91)) hok.f2 ?_
            intro h9 tk9 k9
            have F9 := fr_stays (by assumption) k9
            have N9 := news_stays (by assumption) k9
            k_extra "KS"
            · rename ((cmpF r.f2 _ _ == true) = true) => hc2'
              have hone : oneP r (c :: q) = true := by
                unfold oneP
                rw [Bool.and_eq_true]
                exact ⟨by simpa [RuleP.sel] using hc1', by simpa [RuleP.sel] using hc2'⟩
              have ht := letsP_true (p := p) (l := l) hri (List.any_eq_true.mpr ⟨c, List.mem_of_getElem? (by simpa using hc), List.any_eq_true.mpr ⟨q, List.mem_of_getElem? hq, hone⟩⟩)
              exact fun _ _ => eqArg (P := fun z => Q (.bool z) _) ht (h _ _ (fun b o e => Fr.keep (by assumption) b o (up b o e (fun q => nomatch q))))
            · rename (¬ (cmpF r.f2 _ _ == true) = true) => hc2'
              refine ⟨_, _, _, (L + 1 + 1, o5) :: (L + 1, o3) :: (own1 ++ own2), rfl, by assumption, news_sub (by assumption) (fun p hp => .tail _ hp), rfl, ?_⟩; refine ⟨hor3, hfi3, hse3, hw3, hpl3, ⟨_, _, rfl, do5⟩, ?_⟩
              rw [take_succ_of hq, List.any_append, hno3, List.any_cons, List.any_nil, Bool.or_false, Bool.false_or]
              unfold oneP
              rw [Bool.and_eq_false_iff]
              exact .inr (by simpa [RuleP.sel] using hc2')
          · rename (¬ (cmpF _ _ _ != false) = true) => hc1'
            refine ⟨_, _, _, (L + 1 + 1, o5) :: (L + 1, o3) :: (own1 ++ own2), rfl, by assumption, news_sub (by assumption) (fun p hp => .tail _ hp), rfl, ?_⟩; refine ⟨hor3, hfi3, hse3, hw3, hpl3, ⟨_, _, rfl, do5⟩, ?_⟩
            rw [take_succ_of hq, List.any_append, hno3, List.any_cons, List.any_nil, Bool.or_false, Bool.false_or]
            unfold oneP
            rw [Bool.and_eq_false_iff]
            exact .inl (by simpa [RuleP.sel] using hc1')
      · intro m3 ld3 h3 tk3 htk3 hJa F₅ N₅
        (try k_fold)
        refine byGoal fun P9 k9 => ?_
        obtain ⟨hor3, hfi3, hse3, hw3, hpl3, ⟨oa3, va3, rfl, da3⟩, hno3⟩ := hJa
        refine k9 ?_
        clear k9 P9
        k_extra "KS"
        refine ⟨_, _, _, (L + 1 + 1, oa3) :: (L + 1, o3) :: own1, rfl, by assumption, by assumption, rfl, hw3, hpl3, hor3, hfi3, hse3, ⟨_, _, _, _, rfl, da3, do3⟩, ?_⟩
        have hc' : (wits r l p)[i2]? = some c := by simpa using hc
        have hno3 : ((pairsP l p).any fun q => oneP r (c :: q)) = false := hno3
        rw [take_succ_of hc', List.any_append, hno2, List.any_cons, hno3]; rfl
    · intro m2 ld2 h2 tk2 htk2 hJa F₃ N₃
      (try k_fold)
      refine byGoal fun P9 k9 => ?_
      obtain ⟨hw2, hpl2, hor2, hfi2, hse2, ⟨oa2, ob2, va2, vb2, rfl, da2, db2⟩, hno2⟩ := hJa
      refine k9 ?_
      clear k9 P9
      k_extra "KS"
      refine ⟨_, _, _, [(L + 1 + 1, oa2), (L + 1, ob2)], rfl, by assumption, by assumption, rfl, hw2, hpl2, ⟨_, _, _, _, rfl, da2, db2⟩, ?_⟩
      rw [letsP_succ hri, hno]
      have : (S (wits r l p)).cps.size = (wits r l p).length := S_len _
      rw [this, List.take_length] at hno2
      rw [hno2]; rfl
  · intro m ld h1 tk1 htk1 hJa F₁ N₁
    (try k_fold)
    refine byGoal fun P9 k9 => ?_
    obtain ⟨hw, hpl, ⟨oa, ob, va, vb, rfl, da, db⟩, hno⟩ := hJa
    refine k9 ?_
    clear k9 P9
    k_extra "KS"
    rw [hag.len, List.take_length] at hno
    rw [hno] at h
    exact h _ _ (fun b o e => F₁.keep b o (up b o e (fun q => nomatch q)))
end
end Mine
end
section
set_option maxHeartbeats 1000000
namespace Mine
example : True := by
  k_with_none
  (k_with "STOPS" => (first | (with_reducible first | show wpAny _ _ (pyIter _) _ _ _ | show wpAny _ _ (exec (Stmt.While _ _ _ _) _) _ _ _ | show wpAny _ _ (exec (Stmt.For _ _ _ _ _) _) _ _ _ | show wpAny _ _ (call (Value.builtin "str.join") _ _) _ _ _ | show EachEnd _ _ _ _ _ _ _ | show TurnEnd _ _ _ _ _ _ _ _ _ | show TurnEndT _ _ _ _ _ _ _ _ _ | show WhileEnd _ _ _ _ _ _ _ _ | show EltEnd _ _ _ _ _ _ _ _ | show EnumEnd _ _ _ _ _ _ _ _) | fail "row"))
  (k_with "SZ" => (first | (first | decide | exact Nat.le_trans (by assumption) (by decide) | exact Nat.le_trans (Nat.le_of_eq (by assumption)) (by decide) | (show 1 ≤ _; decide) | (simp only [str_len_add, *]; first | done | decide | omega)) | fail "row"))
  (k_with "eval Name" => (first | ((k_dflt (((with_reducible refine' ldEp (by k_dflt (with_reducible assumption)) (by k_dflt (rfl)) (by k_dflt (rfl)) (by k_dflt (rfl)) (by k_dflt (decide)) (by k_dflt (first | rfl | assumption)) ?_)); k_whole))) | fail "row"))
  (k_with "loadName" => (first | ((k_dflt (((with_reducible refine' ldnEp (by k_dflt (with_reducible assumption)) (by k_dflt (rfl)) (by k_dflt (rfl)) (by k_dflt (rfl)) (by k_dflt (first | rfl | assumption)) ?_)); k_whole))) | fail "row"))
  (k_with "eval Name" => (first | ((k_dflt (((with_reducible refine' ldKp (by k_dflt (with_reducible assumption)) (by k_dflt (rfl)) (by k_dflt (rfl)) (by k_dflt (rfl)) (by k_dflt (decide)) (by k_dflt (k_mem)) (by k_dflt (assumption)) ?_)); k_whole))) | fail "row"))
  (k_with "eval ListComp" => (first | ((k_dflt ((with_reducible refine' comp_rule (by k_dflt (exact rfl)) ?_ (by k_dflt (rfl)) (by k_dflt (decide)) (by k_dflt (intro _; rfl)))))) | fail "row"))
  (k_with "binaryOp Add str str" => (first | ((k_dflt ((with_reducible refine addSN (by k_dflt (k_extra "SZ")) (by k_dflt (k_extra "SZ")) ?_); intro t9 tk9; revert t9 tk9; intro _ _))) | fail "row"))
  (k_with "compareOp In str str" => (first | (((with_reducible refine inC ?_))) | fail "row"))
  (k_with "KS" => (first | (repeat' (first | ((with_reducible show wpAny _ _ (execs _ _) _ _ _); k_fold) | (k_unfold; (try dsimp only)) | ((fail_if_success (k_extra "STOPS")); walk1) | dsimp only)) | fail "row"))
  (k_with "ite" => (first | ((k_dflt first | (k_closed; first | ((with_reducible refine ite_pos (by k_dflt (decide)) ?_)) | ((with_reducible refine ite_neg (by k_dflt (decide)) ?_))) | ((with_reducible refine split_decN ?_ ?_) <;> intro _))) | fail "row"))
  (k_with "LATS" => (first | (repeat (rename (Later _ _) => la9; have lb9 := leN la9.1; clear la9; (try simp only at lb9))) | fail "row"))
  (k_with "eval Dict" => (first | ((k_dflt ((refine' kdn_int (by k_dflt (rfl)) (by k_dflt (k_asm)) (by k_dflt (first | k_asm | exact News.nil)) (by k_dflt (exact TopRead.nolimit (by k_asm))) (by k_dflt (rfl)) (by k_dflt (rfl)) (by k_dflt (exact List.cons_ne_nil _ _)) (by k_dflt (exact Nat.le_of_ble_eq_true rfl)) ?_); intro d' h' o' F' N' l1 lo' hd'; (try k_lt l1); revert d' h' o' F' N' l1 lo' hd'; intro _ _ _ _ _ _ _ _))) | fail "row"))
  (k_with "binaryOp Add ref ref" => (first | ((k_dflt ((with_reducible refine' addL (by k_dflt (assumption)) (by k_dflt (assumption)) (by k_dflt (is_list)) (by k_dflt (is_list)) (by k_dflt ((simp only [List.length_append, List.length_cons, List.length_nil, sizeLine]; omega))) ?_); intro D9 h9 F9 N9 l9; (try k_lt l9); revert D9 h9 F9 N9 l9; intro _ _ _ _ _))) | fail "row"))
  (k_with "storeName" => (first | ((k_dflt (((with_reducible refine' stKp (by k_dflt (with_reducible assumption)) (by k_dflt (with_reducible assumption)) (by k_dflt (rfl)) (by k_dflt (rfl)) (by k_dflt (rfl)) (by k_dflt (k_updF)) (by k_dflt (assumption)) ?_)); k_whole; intro h9 o9 F9 N9 d9; (try dsimp only at N9); revert h9 o9 F9 N9 d9; intro _ _ _ _ _))) | fail "row"))
  (k_with "JUNK" => (first | (repeat (first | (with_reducible show Str; exact Str.ofString "") | (with_reducible show Value; exact Value.none) | (with_reducible show List (Str × Addr); exact []) | (with_reducible show Addr; exact 0))) | fail "row"))
  (k_with "exec Assign cons ListComp" => (first | ((k_dflt ((with_reducible refine' comp_assign (by k_dflt (exact rfl)) (by k_dflt (rfl)) (by k_dflt (rfl)) (by k_dflt (rfl)) ?_ (by k_dflt (rfl)) (by k_dflt (decide)) (by k_dflt (intro _; rfl)))))) | fail "row"))
  (k_with "SUBL" => (first | (((with_reducible show wpAny _ _ (subscriptTail _ _ (Value.ref _) (Value.int _ _)) _ _ _); k_dflt ((with_reducible refine' subL (by k_dflt (is_list)) (by k_dflt (first | exact rfl | exact (rfl : (0:Int) = ((0:Nat):Int)) | exact (rfl : (1:Int) = ((1:Nat):Int)) | exact (rfl : (2:Int) = ((2:Nat):Int)) | exact (rfl : (3:Int) = ((3:Nat):Int)))) (by k_dflt (first | assumption | rfl)) (by k_dflt (first | decide | omega)) ?_ (by k_dflt (with_unfolding_all rfl)))))) | fail "row"))
  (k_with "subscriptTail" => (first | ((k_extra "SUBL")) | fail "row"))
  (k_with "subscriptTail Name Name ref int" => (first | ((k_extra "SUBL")) | fail "row"))
  (k_with "subscriptTail Name Constant ref int" => (first | ((k_extra "SUBL")) | fail "row"))
  (k_with "subscriptTail" => (first | (((with_reducible show wpAny _ _ (subscriptTail _ _ (Value.ref _) (Value.int _ _)) _ _ _); k_dflt ((with_reducible refine' getI (by k_dflt (with_reducible assumption)) (by k_dflt (k_mem)) (by k_dflt (assumption)) (by k_dflt (assumption)) ?_ (by k_dflt (with_unfolding_all rfl)))))) | fail "row"))
  trivial
example : True := by
  (k_with "PJ" => (first | ((first | exact hC.1 | exact hC.2.1 | exact hC.2.2.1 | exact hC.2.2.2.1 | exact hC.2.2.2.2.1 | exact hC.2.2.2.2.2.1 | exact hC.2.2.2.2.2.2.1 | exact hC.2.2.2.2.2.2.2.1 | exact hC.2.2.2.2.2.2.2.2.1 | exact hC.2.2.2.2.2.2.2.2.2.1 | exact hC.2.2.2.2.2.2.2.2.2.2.1 | exact hC.2.2.2.2.2.2.2.2.2.2.2.1 | exact hC.2.2.2.2.2.2.2.2.2.2.2.2.1 | exact hC.2.2.2.2.2.2.2.2.2.2.2.2.2.1 | exact hC.2 | exact hC.2.2 | exact hC.2.2.2 | exact hC.2.2.2.2 | exact hC.2.2.2.2.2 | exact hC.2.2.2.2.2.2 | exact hC.2.2.2.2.2.2.2 | exact hC.2.2.2.2.2.2.2.2 | exact hC.2.2.2.2.2.2.2.2.2 | exact hC.2.2.2.2.2.2.2.2.2.2 | exact hC.2.2.2.2.2.2.2.2.2.2.2 | exact hC.2.2.2.2.2.2.2.2.2.2.2.2 | exact hC.2.2.2.2.2.2.2.2.2.2.2.2.2)) | fail "row"))
  (k_with "LT" => (first | (((repeat (first | exact Nat.lt_succ_self _ | (with_reducible assumption) | refine Nat.lt_succ_of_lt ?_)); done)) | fail "row"))
  (k_with "NE" => (first | ((refine neN ?_; (try dsimp only); first | exact Hold.out (by assumption) | exact Nat.ne_of_lt (by assumption) | exact Nat.ne_of_gt (by assumption) | (refine Nat.ne_of_lt ?_; k_extra "LT"; done) | (refine Nat.ne_of_gt ?_; k_extra "LT"; done) | exact Nat.ne_of_gt (lt2 (by assumption) (fun hC => by k_extra "PJ")) | exact Nat.ne_of_lt (lt2 (by assumption) (fun hC => by k_extra "PJ")) | exact ne2 (by assumption) (fun hC => by k_extra "PJ") | exact Ne.symm (ne2 (by assumption) (fun hC => by k_extra "PJ")) | exact Nat.ne_of_gt (ltM (by assumption) (by k_mem)) | exact Nat.ne_of_gt (ltM (Hold.out (by assumption)) (by k_mem)))) | fail "row"))
  trivial

theorem fresh_ld {h g : Heap} {ad : List Addr} {l : Addr} (up : ∀ b o, h.get? b = some o → b ∉ ad → g.get? b = some o) (hn : g.get? l = none) (hl : l ∉ ad) : h.get? l = none := by
  cases q : h.get? l with
  | none => rfl
  | some o => rw [up _ _ q hl] at hn; cases hn
theorem obj_ne {h : Heap} {a b : Addr} {o o' : Obj} (ha : h.get? a = some o) (hb : h.get? b = some o') (hne : o.data ≠ o'.data) : @Ne Nat a b := fun e => by
  have e : a = b := e
  rw [e, hb] at ha; cases ha; exact hne rfl
structure LexK where
  k1 : Tok
  k2 : Tok
  k3 : Tok
  k4 : Tok
  t3 : Tok
noncomputable def lexD (P : Params) (z : LexK) (ln inst : Value) (pb : Addr) : List DictEntry :=
  [⟨PyData.keyHash P "lineno", .str "lineno" z.k1, ln⟩, ⟨PyData.keyHash P "instream", .str "instream" z.k2, inst⟩, ⟨PyData.keyHash P "whitespace", .str "whitespace" z.k3, .str "\n\t\r " z.t3⟩, ⟨PyData.keyHash P "pushback", .str "pushback" z.k4, .ref pb⟩]
section
variable {w : World} {base : Heap} {A : Around} {E : Value → Shared → Prop} {s : Shared} {Q : Value → Shared → Prop} {k : Nat} {t : Tok}
theorem c_init {fp : Value} {x dx : Addr} {R₀ : Result → Shared → Prop} (G : G0 w base) (st : base.StaysIn s.heap) (R : Rm A (k + 2)) (hx : s.heap.get? x = some (instObj 108 dx)) (hdx : s.heap.get? dx = some (dictOf [] 0)) (nx : base.get? x = none) (ndx : base.get? dx = none) (hne : dx < x)
   (h : ∀ h' tk pb z t1, (∀ b o, s.heap.get? b = some o → b ≠ dx → h'.get? b = some o) → h'.get? dx = some (dictOf (lexD w.params z (.int 1 t1) fp pb) 4) → Fresh s.heap h' pb (listOf #[] 0) → R₀ (.ok (.ret .none)) { s with heap := h', toks := tk }) :
   codeAny (model PG w) A (.call (.ref 84) ⟨[.ref x, fp], []⟩) R₀ s := by
  refine enterH (ld := [(x, instObj 108 dx), (dx, dictOf [] 0)]) (binds := [("self", .ref x), ("fp", fp)]) G st (fun p hp => by rcases List.mem_cons.mp hp with rfl | hp; exact ⟨hx, nx⟩; rw [List.mem_singleton.mp hp]; exact ⟨hdx, ndx⟩) R.room (by k_is) (by k_is) (BindsTo.of_eq rfl) (locs rfl) ?_ (by decide)
  intro g L h₁ up dn F N X G'
  obtain ⟨pp, loo, mg, mb, T⟩ := G'.T
  have R' := R.deeper
  dsimp only [List.reverse_cons, List.reverse_nil, List.nil_append, List.cons_append, List.length_cons, List.length_nil] at F ⊢
  have X' := X
  have hU := R.units
  have hne' := ltN hne
  k_extra "KS"
  rename (News _ _ _ _) => N₉
  rename (Fr _ _ _ _) => F₉
  refine h _ _ _ ⟨_, _, _, _, _⟩ _ (fun b o e hb => ?_) (N₉ _ (.tail _ (.tail _ (.head _)))).1 ⟨?_, (N₉ _ (.head _)).1⟩
  · by_cases q : b = x
    · subst q; rw [hx] at e; cases e; exact (N₉ _ (.tail _ (.head _))).1
    · exact F₉.keep b o (up b o e (by simp [q, hb]))
  · have n1 := N₉ _ (.head _)
    have n2 := N₉ _ (.tail _ (.head _))
    have n3 := N₉ _ (.tail _ (.tail _ (.head _)))
    refine fresh_ld up n1.2.2 fun q => ?_
    simp only [List.map_cons, List.map_nil, List.mem_cons, List.not_mem_nil, or_false] at q
    rcases q with q | q
    · have e := n1.1; rw [q] at e; rw [e] at n2; exact absurd (congrArg Obj.data (Option.some.inj n2.1)) (by simp [W.listOf, instObj])
    · have e := n1.1; rw [q] at e; rw [e] at n3; exact absurd (congrArg Obj.data (Option.some.inj n3.1)) (by simp [W.listOf, dictOf])
theorem c_push {x dx pb : Addr} {vs : Array Value} {n nd : Nat} {z : LexK} {ln inst v : Value} (G : G0 w base) (st : base.StaysIn s.heap) (R : Rm A (k + 2)) (hx : s.heap.get? x = some (instObj 108 dx)) (hdx : s.heap.get? dx = some (dictOf (lexD w.params z ln inst pb) nd)) (hpb : s.heap.get? pb = some (listOf vs n)) (nx : base.get? x = none) (ndx : base.get? dx = none) (npb : base.get? pb = none) (hvs : vs.size ≤ 1000)
   (h : ∀ h' tk, (∀ b o, s.heap.get? b = some o → b ≠ pb → h'.get? b = some o) → h'.get? pb = some (listOf (vs.push v) (n + 1)) → Q .none { s with heap := h', toks := tk }) :
   wpAny (model PG w) A (call (.ref 105) [.ref x, v]) Q E s := by
  refine wpAny_call ?_
  refine enterH (ld := [(pb, listOf vs n), (x, instObj 108 dx), (dx, dictOf (lexD w.params z ln inst pb) nd)]) (binds := [("self", .ref x), ("token", v)]) G st (fun p hp => by rcases List.mem_cons.mp hp with rfl | hp; exact ⟨hpb, npb⟩; rcases List.mem_cons.mp hp with rfl | hp; exact ⟨hx, nx⟩; rw [List.mem_singleton.mp hp]; exact ⟨hdx, ndx⟩) R.room (by k_is) (by k_is) (BindsTo.of_eq rfl) (locs rfl) ?_ (by decide)
  intro g L h₁ up dn F N X G'
  obtain ⟨pp, loo, mg, mb, T⟩ := G'.T
  have R' := R.deeper
  dsimp only [List.reverse_cons, List.reverse_nil, List.nil_append, List.cons_append, List.length_cons, List.length_nil] at F ⊢
  have X' := X
  have hU := R.units
  unfold lexD at N
  have q1 := obj_ne hx hpb (by simp [W.listOf, instObj])
  have q2 := obj_ne hdx hpb (by simp [W.listOf, dictOf])
  k_extra "KS"
  rename (News _ _ _ _) => N₉
  rename (Fr _ _ _ _) => F₉
  refine h _ _ (fun b o e hb => ?_) (N₉ _ (.head _)).1
  by_cases q : b = x
  · subst q; rw [hx] at e; cases e; exact (N₉ _ (.tail _ (.head _))).1
  · by_cases q3 : b = dx
    · subst q3; rw [hdx] at e; cases e; exact (N₉ _ (.tail _ (.tail _ (.head _)))).1
    · exact F₉.keep b o (up b o e (by simp [q, q3, hb]))
end
end Mine
end
section
set_option maxHeartbeats 1000000
namespace Mine

theorem enterF {w : World} {A : Around} {R : Result → Shared → Prop} {s : Shared} {base : Heap} {ld : List (Addr × Obj)}
    {name qual : Str} {params : Arguments} {body : List Stmt} {scope : Scope} {cl : List (Str × Addr)} {doc pm ct : Value} {c f : Addr} {args : List Value} {binds : List (Str × Value)}
    (G : G0 w base) (st : base.StaysIn s.heap) (hn : ∀ p ∈ ld, s.heap.get? p.1 = some p.2 ∧ base.get? p.1 = none)
    (hroom : A.depth < recursionLimit)
    (ho : s.heap.get? f = some (fnMade name qual params body scope cl doc pm c ct)) (hcd : s.heap.CodeRec (.ref c) qual)
    (hbind : BindsTo s (fnX name qual params body scope cl .none .none doc pm none (.ref c) ct) ⟨args, []⟩ binds) (hloc : ∀ y ∈ binds, scope.names.lookup y.1 = some .local)
    (h : ∀ g L h₁, (∀ b o, s.heap.get? b = some o → b ∉ ld.map (·.1) → g.get? b = some o) → (∀ b o, g.get? b = some o → s.heap.get? b = some o) → Fr g L h₁ (fun y => binds.reverse.lookup y) → News g L h₁ ld → (hd.heap_39 w.params).In g → G0 w g →
      wpAny (model PG w) (A.deeper (envX qual scope L f (.ref c) cl)) (execs body (envX qual scope L f (.ref c) cl))
        (fun fl s' => R (.ok (.ret (match fl with | .ret v => v | _ => .none))) s') (fun _ _ => False)
        { s with heap := h₁, toks := s.toks + binds.length })
    (hcell : ∀ x ∈ scope.names, x.2 ≠ .cell) (hco : autoParam (scope.isCoroutine = false) aR._auto_1) (hgen : autoParam (scope.isGenerator = false) aR._auto_1) (hk : autoParam (scope.kind = .function) aR._auto_1) :
    codeAny (model PG w) A (.call (.ref f) ⟨args, []⟩) R s := by
  have X := G.X.keeps st
  have hlim : s.heap.NoLimit := by obtain ⟨p, l, mg, mb, T⟩ := G.T; exact T.nolimit.keeps st
  refine codeAny_call_def (fd := fnX name qual params body scope cl .none .none doc pm none (.ref c) ct) (body := body) (binds := binds) hroom ho rfl hlim hcd rfl hbind hcell hloc (fun h₁ hns hk₁ => ?_) hco hgen hk
  have up : ∀ b o, s.heap.get? b = some o → b ∉ ld.map (·.1) → (hideAll s.heap (ld.map (·.1))).get? b = some o := fun b o e n => hideAll_get _ e n
  have nb : ∀ b o, base.get? b = some o → (hideAll s.heap (ld.map (·.1))).get? b = some o := fun b o e => up b o (st b o e) fun q => by
    (try k_fold)
    refine byGoal fun P9 k9 => ?_
    obtain ⟨p, hp, rfl⟩ := List.mem_map.mp q
    refine k9 ?_
    clear k9 P9
    rw [(hn p hp).2] at e; cases e
  refine wpAny_mono (h (hideAll s.heap (ld.map (·.1))) s.heap.objs.size h₁ up (fun b o e => of_hideAll _ e)
    ⟨hns, fun b o e => hk₁ b o (of_hideAll _ e), Nat.le_of_eq (hideAll_size _ _)⟩
    (fun p hp => ⟨hk₁ _ _ (hn p hp).1, Nat.ne_of_lt (Heap.lt_size (hn p hp).1), hideAll_none _ (List.mem_map_of_mem hp)⟩) (G.X.keeps nb) (G.keeps nb)) (fun _ _ x => x) (fun _ _ x => x.elim)

theorem ldX {M : Model} {A : Around} {E : Value → Shared → Prop} {s : Shared} {g : Heap} {L : Addr} {env : Env} {z : Str} {p : Pos} {v : Value} {Q : Value → Shared → Prop} {ld : List (Addr × Obj)} {c : Addr} {o : Obj} (N : News g L s.heap ld) (hc : env.cells.lookup z = some c) (hm : (c, o) ∈ ld) (hd' : o.data = .cell (some v)) (h : Q v s) (hk : env.scope.kind = .function) (hl : env.kindOf z = some .free) (hd : (z == ("__debug__" : Str)) = false) (hn : (z == ("__classdict__" : Str)) = false) :
    wpAny M A (eval (.Name z p) env) Q E s := wpAny_Name (wpAny_loadName_free hk hl hc ⟨o, N.get hm, hd'⟩ h hn) hd
theorem ldXp {M : Model} {A : Around} {E : Value → Shared → Prop} {s : Shared} {g : Heap} {L : Addr} {env : Env} {z : Str} {p : Pos} {v : Value} {Q : Value → Shared → Prop} {ld : List (Addr × Obj)} {c : Addr} {o : Obj} (N : News g L s.heap ld) (hk : env.scope.kind = .function) (hl : env.kindOf z = some .free) (hc : env.cells.lookup z = some c) (hd : (z == ("__debug__" : Str)) = false) (hn : (z == ("__classdict__" : Str)) = false) (hm : (c, o) ∈ ld) (hd' : o.data = .cell (some v)) (h : Q v s) :
    wpAny M A (eval (.Name z p) env) Q E s := ldX N hc hm hd' h hk hl hd hn
example : True := by
  (k_with "eval Name" => (first | ((k_dflt (((with_reducible refine' ldXp (by k_dflt (with_reducible assumption)) (by k_dflt (rfl)) (by k_dflt (rfl)) (by k_dflt (rfl)) (by k_dflt (decide)) (by k_dflt (decide)) (by k_dflt (k_mem)) (by k_dflt (assumption)) ?_)); k_whole))) | fail "row"))
  (k_with "STOPS" => (first | (with_reducible first | show wpAny _ _ (compareOp CmpOp.Eq (Value.ref _) (Value.ref _)) _ _ _ | show wpAny _ _ (call (Value.builtin "list.pop") _ _) _ _ _) | fail "row"))
  trivial
theorem news_mut {g h h' : Heap} {L a : Addr} {o : Obj} {m : Str → Option Value} {ld : List (Addr × Obj)} {gf : Obj → List (Addr × Obj)} (F : Fr g L h m) (N : News g L h ld) (U : UpdF a o ld gf) {o' : Obj}
    (k : ∀ b o, h.get? b = some o → b ≠ a → h'.get? b = some o) (ha : h'.get? a = some o') : Fr g L h' m ∧ News g L h' (gf o') := by
  (try k_fold)
  refine byGoal fun P9 k9 => ?_
  obtain ⟨own, rest, rfl, hg, h1, h2⟩ := U.split
  refine k9 ?_
  clear k9 P9
  have n := N (a, o) (List.mem_append_right _ (.head _))
  (try k_fold)
  refine byGoal fun P9 k9 => ?_
  obtain ⟨oL, es, ep, hoL, r⟩ := id F.ns
  refine k9 ?_
  clear k9 P9
  refine ⟨⟨⟨oL, es, ep, k _ _ hoL (Ne.symm n.2.1), r⟩, fun b o e => k _ _ (F.keep b o e) (fun q => by rw [q, n.2.2] at e; cases e), F.above⟩, fun p hp => ?_⟩
  rw [hg] at hp
  rcases List.mem_append.mp hp with hp | hp
  · exact ⟨k _ _ (N p (List.mem_append_left _ hp)).1 (h1 p hp), (N p (List.mem_append_left _ hp)).2⟩
  · rcases List.mem_cons.mp hp with rfl | hp
    · exact ⟨ha, n.2⟩
    · exact ⟨k _ _ (N p (List.mem_append_right _ (.tail _ hp))).1 (h2 p hp), (N p (List.mem_append_right _ (.tail _ hp))).2⟩
theorem news_init {g h h' : Heap} {L x dx pb : Addr} {ox od od' op : Obj} {m : Str → Option Value} {ld : List (Addr × Obj)} (F : Fr g L h m) (N : News g L h ((x, ox) :: (dx, od) :: ld)) (hlt : ∀ p ∈ ld, p.1 < dx) (hxd : dx < x)
    (k : ∀ b o, h.get? b = some o → b ≠ dx → h'.get? b = some o) (hd : h'.get? dx = some od') (hp : Fresh h h' pb op) : Fr g L h' m ∧ News g L h' ((pb, op) :: (x, ox) :: (dx, od') :: ld) ∧ ∀ p ∈ (x, ox) :: (dx, od') :: ld, @Ne Nat p.1 pb := by
  have gd := (N _ (.tail _ (.head _))).2
  (try k_fold)
  refine byGoal fun P9 k9 => ?_
  obtain ⟨oL, es, ep, hoL, r⟩ := id F.ns
  refine k9 ?_
  clear k9 P9
  refine ⟨⟨⟨oL, es, ep, k _ _ hoL (Ne.symm gd.1), r⟩, fun b o e => k _ _ (F.keep b o e) (fun q => by rw [q, gd.2] at e; cases e), F.above⟩, fun p hp' => ?_, fun p hp' => ?_⟩
  rcases List.mem_cons.mp hp' with rfl | hp'
  · refine ⟨hp.at_, fr_nL F hp.new, ?_⟩
    cases q : g.get? pb with
    | none => rfl
    | some o => have := F.keep _ _ q; rw [hp.new] at this; cases this
  · rcases List.mem_cons.mp hp' with rfl | hp'
    · exact ⟨k _ _ (N _ (.head _)).1 (Nat.ne_of_gt hxd), (N _ (.head _)).2⟩
    · rcases List.mem_cons.mp hp' with rfl | hp'
      · exact ⟨hd, gd⟩
      · exact ⟨k _ _ (N p (.tail _ (.tail _ hp'))).1 (Nat.ne_of_lt (hlt p hp')), (N p (.tail _ (.tail _ hp'))).2⟩
  have key : ∀ a o, h.get? a = some o → @Ne Nat a pb := fun a o e q => by have q : a = pb := q; rw [q, hp.new] at e; cases e
  rcases List.mem_cons.mp hp' with rfl | hp'
  · exact key _ _ (N _ (.head _)).1
  · rcases List.mem_cons.mp hp' with rfl | hp'
    · exact key _ _ (N _ (.tail _ (.head _))).1
    · exact key _ _ (N p (.tail _ (.tail _ hp'))).1
theorem fmc {α : Type} {P : α → Prop} {a : α} {l : List α} (h : P a) (k : ∀ x ∈ l, P x) : ∀ x ∈ a :: l, P x := List.forall_mem_cons.mpr ⟨h, k⟩
theorem fmn {α : Type} {P : α → Prop} : ∀ x ∈ ([] : List α), P x := fun _ h => nomatch h
theorem frame_of {h₀ g h' : Heap} {L : Addr} {m : Str → Option Value} {ld : List (Addr × Obj)} {skip : List Addr} (up : ∀ b o, h₀.get? b = some o → b ∉ ld.map (·.1) → g.get? b = some o) (F : Fr g L h' m) (hs : ∀ p ∈ ld, h₀.get? p.1 = some p.2)
    (N : ∀ p ∈ ld, p.1 ∈ skip ∨ h'.get? p.1 = some p.2) : ∀ b o, h₀.get? b = some o → b ∉ skip → h'.get? b = some o := fun b o e hb => by
  by_cases q : b ∈ ld.map (·.1)
  · refine byGoal fun P9 k9 => ?_
    obtain ⟨p, hp, rfl⟩ := List.mem_map.mp q
    refine k9 ?_
    clear k9 P9
    rw [hs p hp] at e; cases e
    rcases N p hp with h | h
    · exact absurd h hb
    · exact h
  · exact F.keep b o (up b o e q)
noncomputable abbrev giveQ : Str := Str.ofString "_law_lexer.<locals>._law_give"
noncomputable abbrev giveS : Scope := { kind := ScopeKind.function, names := [(Str.ofString "count", NameKind.local), (Str.ofString "signs", NameKind.free)], isGenerator := false, isCoroutine := false }
noncomputable abbrev giveP : Arguments := { posonlyargs := [], args := [{ arg := Str.ofString "count", annotation := none, pos := { line := 131, col := 18, endLine := 131, endCol := 23 } }], vararg := none, kwonlyargs := [], kw_defaults := [], kwarg := none, defaults := [] }
noncomputable abbrev giveB : List Stmt := [Stmt.If (Expr.BoolOp BoolOp.Or [(Expr.Name (Str.ofString "count") { line := 132, col := 11, endLine := 132, endCol := 16 }).Compare [CmpOp.NotEq] [Expr.Constant (Const.int 1) 0 { line := 132, col := 20, endLine := 132, endCol := 21 }] { line := 132, col := 11, endLine := 132, endCol := 21 }, (Expr.Name (Str.ofString "signs") { line := 132, col := 25, endLine := 132, endCol := 30 }).Compare [CmpOp.Eq] [Expr.List [] { line := 132, col := 34, endLine := 132, endCol := 36 }] { line := 132, col := 25, endLine := 132, endCol := 36 }] { line := 132, col := 11, endLine := 132, endCol := 36 }) [Stmt.Return (some (Expr.Constant (Const.str (Str.ofString "")) 0 { line := 133, col := 19, endLine := 133, endCol := 21 })) { line := 133, col := 12, endLine := 133, endCol := 21 }] [] { line := 132, col := 8, endLine := 133, endCol := 21 }, Stmt.Return (some (((Expr.Name (Str.ofString "signs") { line := 134, col := 15, endLine := 134, endCol := 20 }).Attribute (Str.ofString "pop") { line := 134, col := 15, endLine := 134, endCol := 24 }).Call [] [] { line := 134, col := 15, endLine := 134, endCol := 26 })) { line := 134, col := 8, endLine := 134, endCol := 26 }]
noncomputable abbrev giveObj (cl : Addr) (dc pm : Value) (c : Addr) (ct : Value) : Obj := fnMade (Str.ofString "_law_give") giveQ giveP giveB giveS [(Str.ofString "signs", cl)] dc pm c ct

section
variable {w : World} {base : Heap} {A : Around} {E : Value → Shared → Prop} {s : Shared} {Q : Value → Shared → Prop} {k : Nat} {t : Tok}
theorem c_give {f cl c D : Addr} {dc pm ct : Value} {o9 oc : Obj} {vs : Array Value} {tq : Tok} {ys : List Value} {n : Nat} (G : G0 w base) (st : base.StaysIn s.heap) (R : Rm A (k + 2))
   (hf : s.heap.get? f = some (giveObj cl dc pm c ct)) (hc : s.heap.get? c = some oc) (hoc : oc.data = .fields vs) (hvs : vs[1]? = some (.str giveQ tq)) (hcl : s.heap.get? cl = some o9) (ho9 : o9.data = .cell (some (.ref D)))
   (hD : s.heap.get? D = some (listOf ys.reverse.toArray n)) (nf : base.get? f = none) (nc : base.get? c = none) (ncl : base.get? cl = none) (nD : base.get? D = none) (hlen : ys.length ≤ 1000)
   (h0 : ys = [] → ∀ h' tk t', s.heap.StaysIn h' → Q (.str (S []) t') { s with heap := h', toks := tk })
   (h1 : ∀ y ys', ys = y :: ys' → ∀ h' tk, (∀ b o, s.heap.get? b = some o → b ≠ D → h'.get? b = some o) → h'.get? D = some (listOf ys'.reverse.toArray (n + 1)) → Q y { s with heap := h', toks := tk }) :
   wpAny (model PG w) A (call (.ref f) [.int 1 t]) Q E s := by
  refine wpAny_call ?_
  refine enterF (ld := [(D, listOf ys.reverse.toArray n), (cl, o9), (f, giveObj cl dc pm c ct), (c, oc)]) (binds := [("count", .int 1 t)]) G st ?_ R.room hf ⟨c, oc, vs, tq, rfl, hc, hoc, hvs⟩ (BindsTo.of_eq rfl) (locs rfl) ?_ (by decide)
  · exact fmc ⟨hD, nD⟩ (fmc ⟨hcl, ncl⟩ (fmc ⟨hf, nf⟩ (fmc ⟨hc, nc⟩ fmn)))
  intro g L h₁ up dn F N X G'
  (try k_fold)
  refine byGoal fun P9 k9 => ?_
  obtain ⟨pp, loo, mg, mb, T⟩ := G'.T
  refine k9 ?_
  clear k9 P9
  have R' := R.deeper
  dsimp only [List.reverse_cons, List.reverse_nil, List.nil_append, List.cons_append, List.length_cons, List.length_nil] at F ⊢
  have hU := R.units
  have q1 := obj_ne hcl hD (by simp [W.listOf, ho9])
  have q2 := obj_ne hf hD (by simp [W.listOf])
  have q3 := obj_ne hc hD (by simp [W.listOf, hoc])
  k_extra "KS"
  rename (News _ _ _ _) => N1
  rename (Fr _ _ _ _) => F1
  cases ys with
  | nil =>
    refine PySem.SeqAt.eq_listAt (e := fun _ => true) (N1.isList (.tail _ (.head _))) (N1.isList (.head _)) rfl (R' _).units (fun j h1 _ => absurd h1 (Nat.not_lt_zero j)) ?_
    have e9 : (List.range ([] : List Value).reverse.toArray.size).all (fun _ => true) = true := rfl
    rw [e9]
    k_extra "KS"
    rename (News _ _ _ _) => N9
    rename (Fr _ _ _ _) => F9
    refine h0 rfl _ _ _ fun b o e => frame_of (skip := []) up F9 (fmc hD (fmc hcl (fmc hf (fmc hc fmn)))) ?_ b o e (fun q => nomatch q)
    exact fmc (.inr (N9.get (.tail _ (.head _)))) (fmc (.inr (N9.get (.tail _ (.tail _ (.head _))))) (fmc (.inr (N9.get (.tail _ (.tail _ (.tail _ (.head _)))))) (fmc (.inr (N9.get (.tail _ (.tail _ (.tail _ (.tail _ (.head _))))))) fmn)))
  | cons y ys' =>
    refine PySem.SeqAt.eq_list_lengthsAt (N1.isList (.tail _ (.head _))) (N1.isList (.head _)) (by simp) (R' _).units ?_
    k_extra "KS"
    rename (News _ _ _ _) => N9
    rename (Fr _ _ _ _) => F9
    refine' kl_pop (its := (y :: ys').reverse.toArray) (p := ys'.reverse) (y := y) F9 N9 ?e ?U ?z ?_
    case e => show kl_last (y :: ys').reverse = _; rw [List.reverse_cons]; exact kpa_last _ _
    case U => k_upd
    case z => show (y :: ys').reverse.length ≤ _; rw [List.length_reverse]; exact Nat.le_trans hlen (by decide)
    intro h' F8 N8
    refine h1 y ys' rfl _ _ (fun b o e hb => frame_of (skip := [D]) up F8 (fmc hD (fmc hcl (fmc hf (fmc hc fmn)))) ?_ b o e (fun q => hb (List.mem_singleton.mp q))) (N8.get (.tail _ (.head _)))
    exact fmc (.inl (.head _)) (fmc (.inr (N8.get (.tail _ (.tail _ (.head _))))) (fmc (.inr (N8.get (.tail _ (.tail _ (.tail _ (.head _)))))) (fmc (.inr (N8.get (.tail _ (.tail _ (.tail _ (.tail _ (.head _))))))) fmn)))
end
end Mine
end
section
set_option maxHeartbeats 1000000
set_option linter.unusedSimpArgs false
namespace Mine
example : True := by
  k_with_none
  (k_with "STOPS" => (first | (with_reducible first | show wpAny _ _ (pyIter _) _ _ _ | show wpAny _ _ (exec (Stmt.While _ _ _ _) _) _ _ _ | show wpAny _ _ (exec (Stmt.For _ _ _ _ _) _) _ _ _ | show wpAny _ _ (call (Value.builtin "str.join") _ _) _ _ _ | show EachEnd _ _ _ _ _ _ _ | show TurnEnd _ _ _ _ _ _ _ _ _ | show TurnEndT _ _ _ _ _ _ _ _ _ | show WhileEnd _ _ _ _ _ _ _ _ | show EltEnd _ _ _ _ _ _ _ _ | show EnumEnd _ _ _ _ _ _ _ _) | fail "row"))
  (k_with "SZ" => (first | (first | decide | exact Nat.le_trans (by assumption) (by decide) | exact Nat.le_trans (Nat.le_of_eq (by assumption)) (by decide) | (show 1 ≤ _; decide) | (simp only [str_len_add, *]; first | done | decide | omega)) | fail "row"))
  (k_with "eval Name" => (first | ((k_dflt (((with_reducible refine' ldEp (by k_dflt (with_reducible assumption)) (by k_dflt (rfl)) (by k_dflt (rfl)) (by k_dflt (rfl)) (by k_dflt (decide)) (by k_dflt (first | rfl | assumption)) ?_)); k_whole))) | fail "row"))
  (k_with "loadName" => (first | ((k_dflt (((with_reducible refine' ldnEp (by k_dflt (with_reducible assumption)) (by k_dflt (rfl)) (by k_dflt (rfl)) (by k_dflt (rfl)) (by k_dflt (first | rfl | assumption)) ?_)); k_whole))) | fail "row"))
  (k_with "eval Name" => (first | ((k_dflt (((with_reducible refine' ldKp (by k_dflt (with_reducible assumption)) (by k_dflt (rfl)) (by k_dflt (rfl)) (by k_dflt (rfl)) (by k_dflt (decide)) (by k_dflt (k_mem)) (by k_dflt (assumption)) ?_)); k_whole))) | fail "row"))
  (k_with "eval ListComp" => (first | ((k_dflt ((with_reducible refine' comp_rule (by k_dflt (exact rfl)) ?_ (by k_dflt (rfl)) (by k_dflt (decide)) (by k_dflt (intro _; rfl)))))) | fail "row"))
  (k_with "binaryOp Add str str" => (first | ((k_dflt ((with_reducible refine addSN (by k_dflt (k_extra "SZ")) (by k_dflt (k_extra "SZ")) ?_); intro t9 tk9; revert t9 tk9; intro _ _))) | fail "row"))
  (k_with "compareOp In str str" => (first | (((with_reducible refine inC ?_))) | fail "row"))
  (k_with "KS" => (first | (repeat' (first | ((with_reducible show wpAny _ _ (execs _ _) _ _ _); k_fold) | (k_unfold; (try dsimp only)) | ((fail_if_success (k_extra "STOPS")); walk1) | dsimp only)) | fail "row"))
  (k_with "ite" => (first | ((k_dflt first | (k_closed; first | ((with_reducible refine ite_pos (by k_dflt (decide)) ?_)) | ((with_reducible refine ite_neg (by k_dflt (decide)) ?_))) | ((with_reducible refine split_decN ?_ ?_) <;> intro _))) | fail "row"))
  (k_with "LATS" => (first | (repeat (rename (Later _ _) => la9; have lb9 := leN la9.1; clear la9; (try simp only at lb9))) | fail "row"))
  (k_with "eval Dict" => (first | ((k_dflt ((refine' kdn_int (by k_dflt (rfl)) (by k_dflt (k_asm)) (by k_dflt (first | k_asm | exact News.nil)) (by k_dflt (exact TopRead.nolimit (by k_asm))) (by k_dflt (rfl)) (by k_dflt (rfl)) (by k_dflt (exact List.cons_ne_nil _ _)) (by k_dflt (exact Nat.le_of_ble_eq_true rfl)) ?_); intro d' h' o' F' N' l1 lo' hd'; (try k_lt l1); revert d' h' o' F' N' l1 lo' hd'; intro _ _ _ _ _ _ _ _))) | fail "row"))
  (k_with "binaryOp Add ref ref" => (first | ((k_dflt ((with_reducible refine' addL (by k_dflt (assumption)) (by k_dflt (assumption)) (by k_dflt (is_list)) (by k_dflt (is_list)) (by k_dflt ((simp only [List.length_append, List.length_cons, List.length_nil, sizeLine]; omega))) ?_); intro D9 h9 F9 N9 l9; (try k_lt l9); revert D9 h9 F9 N9 l9; intro _ _ _ _ _))) | fail "row"))
  (k_with "storeName" => (first | ((k_dflt (((with_reducible refine' stKp (by k_dflt (with_reducible assumption)) (by k_dflt (with_reducible assumption)) (by k_dflt (rfl)) (by k_dflt (rfl)) (by k_dflt (rfl)) (by k_dflt (k_updF)) (by k_dflt (assumption)) ?_)); k_whole; intro h9 o9 F9 N9 d9; (try dsimp only at N9); revert h9 o9 F9 N9 d9; intro _ _ _ _ _))) | fail "row"))
  (k_with "JUNK" => (first | (repeat (first | (with_reducible show Str; exact Str.ofString "") | (with_reducible show Value; exact Value.none) | (with_reducible show List (Str × Addr); exact []) | (with_reducible show Addr; exact 0))) | fail "row"))
  (k_with "exec Assign cons ListComp" => (first | ((k_dflt ((with_reducible refine' comp_assign (by k_dflt (exact rfl)) (by k_dflt (rfl)) (by k_dflt (rfl)) (by k_dflt (rfl)) ?_ (by k_dflt (rfl)) (by k_dflt (decide)) (by k_dflt (intro _; rfl)))))) | fail "row"))
  (k_with "SUBL" => (first | (((with_reducible show wpAny _ _ (subscriptTail _ _ (Value.ref _) (Value.int _ _)) _ _ _); k_dflt ((with_reducible refine' subL (by k_dflt (is_list)) (by k_dflt (first | exact rfl | exact (rfl : (0:Int) = ((0:Nat):Int)) | exact (rfl : (1:Int) = ((1:Nat):Int)) | exact (rfl : (2:Int) = ((2:Nat):Int)) | exact (rfl : (3:Int) = ((3:Nat):Int)))) (by k_dflt (first | assumption | rfl)) (by k_dflt (first | decide | omega)) ?_ (by k_dflt (with_unfolding_all rfl)))))) | fail "row"))
  (k_with "subscriptTail" => (first | ((k_extra "SUBL")) | fail "row"))
  (k_with "subscriptTail Name Name ref int" => (first | ((k_extra "SUBL")) | fail "row"))
  (k_with "subscriptTail Name Constant ref int" => (first | ((k_extra "SUBL")) | fail "row"))
  (k_with "subscriptTail" => (first | (((with_reducible show wpAny _ _ (subscriptTail _ _ (Value.ref _) (Value.int _ _)) _ _ _); k_dflt ((with_reducible refine' getI (by k_dflt (with_reducible assumption)) (by k_dflt (k_mem)) (by k_dflt (assumption)) (by k_dflt (assumption)) ?_ (by k_dflt (with_unfolding_all rfl)))))) | fail "row"))
  trivial
example : True := by
  (k_with "PJ" => (first | ((first | exact hC.1 | exact hC.2.1 | exact hC.2.2.1 | exact hC.2.2.2.1 | exact hC.2.2.2.2.1 | exact hC.2.2.2.2.2.1 | exact hC.2.2.2.2.2.2.1 | exact hC.2.2.2.2.2.2.2.1 | exact hC.2.2.2.2.2.2.2.2.1 | exact hC.2.2.2.2.2.2.2.2.2.1 | exact hC.2.2.2.2.2.2.2.2.2.2.1 | exact hC.2.2.2.2.2.2.2.2.2.2.2.1 | exact hC.2.2.2.2.2.2.2.2.2.2.2.2.1 | exact hC.2.2.2.2.2.2.2.2.2.2.2.2.2.1 | exact hC.2 | exact hC.2.2 | exact hC.2.2.2 | exact hC.2.2.2.2 | exact hC.2.2.2.2.2 | exact hC.2.2.2.2.2.2 | exact hC.2.2.2.2.2.2.2 | exact hC.2.2.2.2.2.2.2.2 | exact hC.2.2.2.2.2.2.2.2.2 | exact hC.2.2.2.2.2.2.2.2.2.2 | exact hC.2.2.2.2.2.2.2.2.2.2.2 | exact hC.2.2.2.2.2.2.2.2.2.2.2.2 | exact hC.2.2.2.2.2.2.2.2.2.2.2.2.2)) | fail "row"))
  (k_with "LT" => (first | (((repeat (first | exact Nat.lt_succ_self _ | (with_reducible assumption) | refine Nat.lt_succ_of_lt ?_)); done)) | fail "row"))
  (k_with "NE" => (first | ((refine neN ?_; (try dsimp only); first | exact Hold.out (by assumption) | exact Nat.ne_of_lt (by assumption) | exact Nat.ne_of_gt (by assumption) | (refine Nat.ne_of_lt ?_; k_extra "LT"; done) | (refine Nat.ne_of_gt ?_; k_extra "LT"; done) | exact Nat.ne_of_gt (lt2 (by assumption) (fun hC => by k_extra "PJ")) | exact Nat.ne_of_lt (lt2 (by assumption) (fun hC => by k_extra "PJ")) | exact ne2 (by assumption) (fun hC => by k_extra "PJ") | exact Ne.symm (ne2 (by assumption) (fun hC => by k_extra "PJ")) | exact Nat.ne_of_gt (ltM (by assumption) (by k_mem)) | exact Nat.ne_of_gt (ltM (Hold.out (by assumption)) (by k_mem)))) | fail "row"))
  trivial

example : True := by
  (k_with "callWith ref" => (first | ((k_dflt (first
  | (refine' callWith_F (by k_dflt (exact FnAt.of (by k_asm) (by k_mem))) ?_; k_whole)
  | (refine' callWith_F0 (by k_dflt (exact FnAt.of (by k_asm) (by k_mem))) ?_; k_whole; try dsimp only [List.nil_append, List.cons_append])))) | fail "row"))
  trivial
structure Lx where
  x2 : Addr
  dx2 : Addr
  x1 : Addr
  dx1 : Addr
  f : Addr
  cl : Addr
  c : Addr
  D : Addr
  pb2 : Addr
  pb1 : Addr
  dc : Value
  pm : Value
  ct : Value
  o9 : Obj
  oc : Obj
  vs : Array Value
  tq : Tok
  tr : Tok
  t1 : Tok
  z1 : LexK
  z2 : LexK
noncomputable def Lx.fix (P : Params) (a : Lx) : List (Addr × Obj) := [(a.cl, a.o9), (a.f, giveObj a.cl a.dc a.pm a.c a.ct), (a.c, a.oc), (a.x2, instObj 108 a.dx2), (a.x1, instObj 108 a.dx1), (a.dx1, dictOf (lexD P a.z1 (.int 1 a.t1) .none a.pb1 ++ [⟨PyData.keyHash P "read", .str "read" a.tr, .ref a.f⟩]) 5)]
theorem fixP {h h₀ : Heap} {ld : List (Addr × Obj)} {b : Addr} {o : Obj} (H : ∀ p ∈ ld, h.get? p.1 = some p.2 ∧ h₀.get? p.1 = none) (m : (b, o) ∈ ld) : h.get? b = some o ∧ h₀.get? b = none := H _ m
structure Lx.Ok (a : Lx) : Prop where
  oc : a.oc.data = .fields a.vs
  vs : a.vs[1]? = some (.str giveQ a.tq)
  o9 : a.o9.data = .cell (some (.ref a.D))
  ne : @Ne Nat a.D a.pb2
theorem S_beq (a b : List Nat) : (S a == S b) = decide (a = b) := by
  by_cases h : a = b
  · subst h; rw [decide_eq_true rfl]; exact beq_self_eq_true _
  · rw [decide_eq_false h]
    exact beq_eq_false_iff_ne.mpr fun q => h (S_inj q)
noncomputable def rd1 : List Nat → List Nat × List Nat
  | [] => ([], [])
  | c :: l => ([c], l)
section
variable {w : World} {base : Heap} {A : Around} {E : Value → Shared → Prop} {s : Shared} {Q : Value → Shared → Prop} {k : Nat} {t : Tok}
theorem c_readX {R₀ : Result → Shared → Prop} {a : Lx} {ln : Int} {tl : Tok} {ys : List Value} {txt : List Nat} {n : Nat} (G : G0 w base) (st : base.StaysIn s.heap) (R : Rm A (k + 3)) (ok : a.Ok)
   (Hf : ∀ p ∈ a.fix w.params, s.heap.get? p.1 = some p.2 ∧ base.get? p.1 = none)
   (hD : s.heap.get? a.D = some (listOf ys.reverse.toArray n)) (hd : s.heap.get? a.dx2 = some (dictOf (lexD w.params a.z2 (.int ln tl) (.ref a.x1) a.pb2) 4)) (nD : base.get? a.D = none) (nd : base.get? a.dx2 = none)
   (hys : StrsAre ys (txt.map fun c => S [c])) (hlen : ys.length ≤ 1000)
   (h : ∀ h' tk t' tl' ys' n', (∀ b o, s.heap.get? b = some o → b ∉ [a.D, a.dx2] → h'.get? b = some o) → h'.get? a.D = some (listOf ys'.reverse.toArray n') → h'.get? a.dx2 = some (dictOf (lexD w.params a.z2 (.int (if (rd1 txt).1 = [10] then ln + 1 else ln) tl') (.ref a.x1) a.pb2) 4) →
     StrsAre ys' ((rd1 txt).2.map fun c => S [c]) → ys'.length ≤ 1000 → R₀ (.ok (.ret (.str (S (rd1 txt).1) t'))) { s with heap := h', toks := tk }) :
   codeAny (model PG w) A (.call (.ref 91) ⟨[.ref a.x2], []⟩) R₀ s := by
  (try k_fold)
  refine byGoal fun P9 k9 => ?_
  obtain ⟨x2, dx2, x1, dx1, f, cl, c, D, pb2, pb1, dc, pm, ct, o9, oc, vs, tq, tr, t1, ⟨zk1, zk2, zk3, zk4, zt3⟩, ⟨yk1, yk2, yk3, yk4, yt3⟩⟩ := a
  refine k9 ?_
  clear k9 P9
  (try k_fold)
  refine byGoal fun P9 k9 => ?_
  obtain ⟨hoc, hvs, ho9, hDp⟩ := ok
  refine k9 ?_
  clear k9 P9
  simp only [Lx.fix, List.forall_mem_cons] at Hf
  (try k_fold)
  refine byGoal fun P9 k9 => ?_
  obtain ⟨⟨h1, n1⟩, ⟨h2, n2⟩, ⟨h3, n3⟩, ⟨h4, n4⟩, ⟨h5, n5⟩, ⟨h6, n6⟩, -⟩ := Hf
  refine k9 ?_
  clear k9 P9
  simp only [lexD, List.cons_append, List.nil_append] at h1 h2 h3 h4 h5 h6 hoc ho9 hvs hDp hD hd nD nd h
  refine enterH (ld := [(D, listOf ys.reverse.toArray n), (dx2, dictOf [⟨PyData.keyHash w.params "lineno", .str "lineno" yk1, .int ln tl⟩, ⟨PyData.keyHash w.params "instream", .str "instream" yk2, .ref x1⟩, ⟨PyData.keyHash w.params "whitespace", .str "whitespace" yk3, .str "\n\t\r " yt3⟩, ⟨PyData.keyHash w.params "pushback", .str "pushback" yk4, .ref pb2⟩] 4), (cl, o9), (f, giveObj cl dc pm c ct), (c, oc), (x2, instObj 108 dx2), (x1, instObj 108 dx1), (dx1, dictOf [⟨PyData.keyHash w.params "lineno", .str "lineno" zk1, .int 1 t1⟩, ⟨PyData.keyHash w.params "instream", .str "instream" zk2, .none⟩, ⟨PyData.keyHash w.params "whitespace", .str "whitespace" zk3, .str "\n\t\r " zt3⟩, ⟨PyData.keyHash w.params "pushback", .str "pushback" zk4, .ref pb1⟩, ⟨PyData.keyHash w.params "read", .str "read" tr, .ref f⟩] 5)]) (binds := [("self", .ref x2)]) G st (fmc ⟨hD, nD⟩ (fmc ⟨hd, nd⟩ (fmc ⟨h1, n1⟩ (fmc ⟨h2, n2⟩ (fmc ⟨h3, n3⟩ (fmc ⟨h4, n4⟩ (fmc ⟨h5, n5⟩ (fmc ⟨h6, n6⟩ fmn)))))))) R.room (by k_is) (by k_is) (BindsTo.of_eq rfl) (locs rfl) ?_ (by decide)
  intro g L h₁ up dn F N X G'
  obtain ⟨pp, loo, mg, mb, T⟩ := G'.T
  have R' := R.deeper
  dsimp only [List.reverse_cons, List.reverse_nil, List.nil_append, List.cons_append, List.length_cons, List.length_nil] at F ⊢
  have X' := X
  have hU := R.units
  k_extra "KS"
  rename (News _ _ _ _) => N1
  rename (Fr _ _ _ _) => F1
  have q1 := obj_ne h4 hD (by simp [W.listOf, instObj])
  have q2 := obj_ne h5 hD (by simp [W.listOf, instObj])
  have q3 := obj_ne h6 hD (by simp [W.listOf, dictOf])
  have q4 := obj_ne h4 hd (by simp [dictOf, instObj])
  have q5 := obj_ne h5 hd (by simp [dictOf, instObj])
  have q6 := obj_ne h6 hd (by simp [dictOf])
  have q7 := obj_ne h1 hd (by simp [dictOf, ho9])
  have q8 := obj_ne h2 hd (by simp [dictOf])
  have q9 := obj_ne h3 hd (by simp [dictOf, hoc])
  have q10 := obj_ne hd hD (by simp [W.listOf, dictOf])
  have q11 := obj_ne h1 hD (by simp [W.listOf, ho9])
  have q12 := obj_ne h2 hD (by simp [W.listOf])
  have q13 := obj_ne h3 hD (by simp [W.listOf, hoc])
  refine c_give G' (Fr.keep F1) (k := 0) ((R.deeper _).le (by exact Mine.om98)) (N1.get (.tail _ (.tail _ (.tail _ (.head _))))) (N1.get (.tail _ (.tail _ (.tail _ (.tail _ (.head _)))))) hoc hvs (N1.get (.tail _ (.tail _ (.head _)))) ho9 (N1.get (.head _))
    (N1 _ (.tail _ (.tail _ (.tail _ (.head _))))).2.2 (N1 _ (.tail _ (.tail _ (.tail _ (.tail _ (.head _)))))).2.2 (N1 _ (.tail _ (.tail _ (.head _)))).2.2 (N1 _ (.head _)).2.2 hlen ?_ ?_
  · rintro rfl h9 tk9 t9 k9
    cases txt with
    | cons => cases hys
    | nil =>
      have F9 := fr_stays F1 k9
      have N9 := news_stays N1 k9
      k_extra "KS"
      rename (News _ _ _ _) => N8
      rename (Fr _ _ _ _) => F8
      refine h _ _ t9 tl [] n (fun b o e hb => frame_of (skip := [D, dx2]) up F8 (fmc hD (fmc hd (fmc h1 (fmc h2 (fmc h3 (fmc h4 (fmc h5 (fmc h6 fmn)))))))) ?_ b o e hb) (N8.get (.head _)) (N8.get (.tail _ (.head _))) .nil hlen
      exact fmc (.inl (.head _)) (fmc (.inl (.tail _ (.head _))) fun p hp => .inr (N8.get (.tail _ (.tail _ hp))))
  · rintro y ys' rfl h9 tk9 k9 d9
    cases txt with
    | nil => cases hys
    | cons ch txt =>
      cases hys
      rename StrsAre _ _ => hys'
      obtain ⟨F9, N9⟩ := news_mut F1 N1 (.head (by k_all)) k9 d9
      dsimp only
      k_extra "KS"
      · k_extra "KS"
        rename (_ == _) = true => hn
        have hn : ch = 10 := by
          have e := S_beq [ch] [10]
          rw [show S [10] = Str.ofString "\n" from rfl, hn] at e
          simpa using e.symm
        subst hn
        rename (News _ _ _ _) => N8
        rename (Fr _ _ _ _) => F8
        refine h _ _ _ _ ys' (n + 1) (fun b o e hb => frame_of (skip := [D, dx2]) up F8 (fmc hD (fmc hd (fmc h1 (fmc h2 (fmc h3 (fmc h4 (fmc h5 (fmc h6 fmn)))))))) ?_ b o e hb) (N8.get (.head _)) (N8.get (.tail _ (.head _))) hys' (Nat.le_of_succ_le hlen)
        exact fmc (.inl (.head _)) (fmc (.inl (.tail _ (.head _))) fun p hp => .inr (N8.get (.tail _ (.tail _ hp))))
      · rename ¬ (_ == _) = true => hn
        have hn : [ch] ≠ [10] := fun q => hn (by rw [show Str.ofString "\n" = S [10] from rfl, S_beq, q]; rfl)
        rename (News _ _ _ _) => N8
        rename (Fr _ _ _ _) => F8
        refine h _ _ _ tl ys' (n + 1) (fun b o e hb => frame_of (skip := [D, dx2]) up F8 (fmc hD (fmc hd (fmc h1 (fmc h2 (fmc h3 (fmc h4 (fmc h5 (fmc h6 fmn)))))))) ?_ b o e hb) (N8.get (.head _)) (by rw [show (if (rd1 (ch :: txt)).1 = [10] then ln + 1 else ln) = ln from if_neg hn]; exact N8.get (.tail _ (.head _))) hys' (Nat.le_of_succ_le hlen)
        exact fmc (.inl (.head _)) (fmc (.inl (.tail _ (.head _))) fun p hp => .inr (N8.get (.tail _ (.tail _ hp))))
theorem c_read {a : Lx} {ln : Int} {tl : Tok} {ys : List Value} {txt : List Nat} {n : Nat} (G : G0 w base) (st : base.StaysIn s.heap) (R : Rm A (k + 3)) (ok : a.Ok)
   (Hf : ∀ p ∈ a.fix w.params, s.heap.get? p.1 = some p.2 ∧ base.get? p.1 = none)
   (hD : s.heap.get? a.D = some (listOf ys.reverse.toArray n)) (hd : s.heap.get? a.dx2 = some (dictOf (lexD w.params a.z2 (.int ln tl) (.ref a.x1) a.pb2) 4)) (nD : base.get? a.D = none) (nd : base.get? a.dx2 = none)
   (hys : StrsAre ys (txt.map fun c => S [c])) (hlen : ys.length ≤ 1000)
   (h : ∀ h' tk t' tl' ys' n', (∀ b o, s.heap.get? b = some o → b ∉ [a.D, a.dx2] → h'.get? b = some o) → h'.get? a.D = some (listOf ys'.reverse.toArray n') → h'.get? a.dx2 = some (dictOf (lexD w.params a.z2 (.int (if (rd1 txt).1 = [10] then ln + 1 else ln) tl') (.ref a.x1) a.pb2) 4) →
     StrsAre ys' ((rd1 txt).2.map fun c => S [c]) → ys'.length ≤ 1000 → Q (.str (S (rd1 txt).1) t') { s with heap := h', toks := tk }) :
   wpAny (model PG w) A (call (.ref 91) [.ref a.x2]) Q E s :=
  wpAny_call (c_readX G st R ok Hf hD hd nD nd hys hlen h)
end
end Mine
end
section
set_option maxHeartbeats 1000000
namespace Mine
example : True := by
  k_with_none
  (k_with "STOPS" => (first | (with_reducible first | show wpAny _ _ (pyIter _) _ _ _ | show wpAny _ _ (exec (Stmt.While _ _ _ _) _) _ _ _ | show wpAny _ _ (exec (Stmt.For _ _ _ _ _) _) _ _ _ | show wpAny _ _ (call (Value.builtin "str.join") _ _) _ _ _ | show EachEnd _ _ _ _ _ _ _ | show TurnEnd _ _ _ _ _ _ _ _ _ | show TurnEndT _ _ _ _ _ _ _ _ _ | show WhileEnd _ _ _ _ _ _ _ _ | show EltEnd _ _ _ _ _ _ _ _ | show EnumEnd _ _ _ _ _ _ _ _) | fail "row"))
  (k_with "SZ" => (first | (first | decide | exact Nat.le_trans (by assumption) (by decide) | exact Nat.le_trans (Nat.le_of_eq (by assumption)) (by decide) | (show 1 ≤ _; decide) | (simp only [str_len_add, *]; first | done | decide | omega)) | fail "row"))
  (k_with "eval Name" => (first | ((k_dflt (((with_reducible refine' ldEp (by k_dflt (with_reducible assumption)) (by k_dflt (rfl)) (by k_dflt (rfl)) (by k_dflt (rfl)) (by k_dflt (decide)) (by k_dflt (first | rfl | assumption)) ?_)); k_whole))) | fail "row"))
  (k_with "loadName" => (first | ((k_dflt (((with_reducible refine' ldnEp (by k_dflt (with_reducible assumption)) (by k_dflt (rfl)) (by k_dflt (rfl)) (by k_dflt (rfl)) (by k_dflt (first | rfl | assumption)) ?_)); k_whole))) | fail "row"))
  (k_with "eval Name" => (first | ((k_dflt (((with_reducible refine' ldKp (by k_dflt (with_reducible assumption)) (by k_dflt (rfl)) (by k_dflt (rfl)) (by k_dflt (rfl)) (by k_dflt (decide)) (by k_dflt (k_mem)) (by k_dflt (assumption)) ?_)); k_whole))) | fail "row"))
  (k_with "eval ListComp" => (first | ((k_dflt ((with_reducible refine' comp_rule (by k_dflt (exact rfl)) ?_ (by k_dflt (rfl)) (by k_dflt (decide)) (by k_dflt (intro _; rfl)))))) | fail "row"))
  (k_with "binaryOp Add str str" => (first | ((k_dflt ((with_reducible refine addSN (by k_dflt (k_extra "SZ")) (by k_dflt (k_extra "SZ")) ?_); intro t9 tk9; revert t9 tk9; intro _ _))) | fail "row"))
  (k_with "compareOp In str str" => (first | (((with_reducible refine inC ?_))) | fail "row"))
  (k_with "KS" => (first | (repeat' (first | ((with_reducible show wpAny _ _ (execs _ _) _ _ _); k_fold) | (k_unfold; (try dsimp only)) | ((fail_if_success (k_extra "STOPS")); walk1) | dsimp only)) | fail "row"))
  (k_with "ite" => (first | ((k_dflt first | (k_closed; first | ((with_reducible refine ite_pos (by k_dflt (decide)) ?_)) | ((with_reducible refine ite_neg (by k_dflt (decide)) ?_))) | ((with_reducible refine split_decN ?_ ?_) <;> intro _))) | fail "row"))
  (k_with "LATS" => (first | (repeat (rename (Later _ _) => la9; have lb9 := leN la9.1; clear la9; (try simp only at lb9))) | fail "row"))
  (k_with "eval Dict" => (first | ((k_dflt ((refine' kdn_int (by k_dflt (rfl)) (by k_dflt (k_asm)) (by k_dflt (first | k_asm | exact News.nil)) (by k_dflt (exact TopRead.nolimit (by k_asm))) (by k_dflt (rfl)) (by k_dflt (rfl)) (by k_dflt (exact List.cons_ne_nil _ _)) (by k_dflt (exact Nat.le_of_ble_eq_true rfl)) ?_); intro d' h' o' F' N' l1 lo' hd'; (try k_lt l1); revert d' h' o' F' N' l1 lo' hd'; intro _ _ _ _ _ _ _ _))) | fail "row"))
  (k_with "binaryOp Add ref ref" => (first | ((k_dflt ((with_reducible refine' addL (by k_dflt (assumption)) (by k_dflt (assumption)) (by k_dflt (is_list)) (by k_dflt (is_list)) (by k_dflt ((simp only [List.length_append, List.length_cons, List.length_nil, sizeLine]; omega))) ?_); intro D9 h9 F9 N9 l9; (try k_lt l9); revert D9 h9 F9 N9 l9; intro _ _ _ _ _))) | fail "row"))
  (k_with "storeName" => (first | ((k_dflt (((with_reducible refine' stKp (by k_dflt (with_reducible assumption)) (by k_dflt (with_reducible assumption)) (by k_dflt (rfl)) (by k_dflt (rfl)) (by k_dflt (rfl)) (by k_dflt (k_updF)) (by k_dflt (assumption)) ?_)); k_whole; intro h9 o9 F9 N9 d9; (try dsimp only at N9); revert h9 o9 F9 N9 d9; intro _ _ _ _ _))) | fail "row"))
  (k_with "JUNK" => (first | (repeat (first | (with_reducible show Str; exact Str.ofString "") | (with_reducible show Value; exact Value.none) | (with_reducible show List (Str × Addr); exact []) | (with_reducible show Addr; exact 0))) | fail "row"))
  (k_with "exec Assign cons ListComp" => (first | ((k_dflt ((with_reducible refine' comp_assign (by k_dflt (exact rfl)) (by k_dflt (rfl)) (by k_dflt (rfl)) (by k_dflt (rfl)) ?_ (by k_dflt (rfl)) (by k_dflt (decide)) (by k_dflt (intro _; rfl)))))) | fail "row"))
  (k_with "SUBL" => (first | (((with_reducible show wpAny _ _ (subscriptTail _ _ (Value.ref _) (Value.int _ _)) _ _ _); k_dflt ((with_reducible refine' subL (by k_dflt (is_list)) (by k_dflt (first | exact rfl | exact (rfl : (0:Int) = ((0:Nat):Int)) | exact (rfl : (1:Int) = ((1:Nat):Int)) | exact (rfl : (2:Int) = ((2:Nat):Int)) | exact (rfl : (3:Int) = ((3:Nat):Int)))) (by k_dflt (first | assumption | rfl)) (by k_dflt (first | decide | omega)) ?_ (by k_dflt (with_unfolding_all rfl)))))) | fail "row"))
  (k_with "subscriptTail" => (first | ((k_extra "SUBL")) | fail "row"))
  (k_with "subscriptTail Name Name ref int" => (first | ((k_extra "SUBL")) | fail "row"))
  (k_with "subscriptTail Name Constant ref int" => (first | ((k_extra "SUBL")) | fail "row"))
  (k_with "subscriptTail" => (first | (((with_reducible show wpAny _ _ (subscriptTail _ _ (Value.ref _) (Value.int _ _)) _ _ _); k_dflt ((with_reducible refine' getI (by k_dflt (with_reducible assumption)) (by k_dflt (k_mem)) (by k_dflt (assumption)) (by k_dflt (assumption)) ?_ (by k_dflt (with_unfolding_all rfl)))))) | fail "row"))
  trivial
example : True := by
  (k_with "PJ" => (first | ((first | exact hC.1 | exact hC.2.1 | exact hC.2.2.1 | exact hC.2.2.2.1 | exact hC.2.2.2.2.1 | exact hC.2.2.2.2.2.1 | exact hC.2.2.2.2.2.2.1 | exact hC.2.2.2.2.2.2.2.1 | exact hC.2.2.2.2.2.2.2.2.1 | exact hC.2.2.2.2.2.2.2.2.2.1 | exact hC.2.2.2.2.2.2.2.2.2.2.1 | exact hC.2.2.2.2.2.2.2.2.2.2.2.1 | exact hC.2.2.2.2.2.2.2.2.2.2.2.2.1 | exact hC.2.2.2.2.2.2.2.2.2.2.2.2.2.1 | exact hC.2 | exact hC.2.2 | exact hC.2.2.2 | exact hC.2.2.2.2 | exact hC.2.2.2.2.2 | exact hC.2.2.2.2.2.2 | exact hC.2.2.2.2.2.2.2 | exact hC.2.2.2.2.2.2.2.2 | exact hC.2.2.2.2.2.2.2.2.2 | exact hC.2.2.2.2.2.2.2.2.2.2 | exact hC.2.2.2.2.2.2.2.2.2.2.2 | exact hC.2.2.2.2.2.2.2.2.2.2.2.2 | exact hC.2.2.2.2.2.2.2.2.2.2.2.2.2)) | fail "row"))
  (k_with "LT" => (first | (((repeat (first | exact Nat.lt_succ_self _ | (with_reducible assumption) | refine Nat.lt_succ_of_lt ?_)); done)) | fail "row"))
  (k_with "NE" => (first | ((refine neN ?_; (try dsimp only); first | exact Hold.out (by assumption) | exact Nat.ne_of_lt (by assumption) | exact Nat.ne_of_gt (by assumption) | (refine Nat.ne_of_lt ?_; k_extra "LT"; done) | (refine Nat.ne_of_gt ?_; k_extra "LT"; done) | exact Nat.ne_of_gt (lt2 (by assumption) (fun hC => by k_extra "PJ")) | exact Nat.ne_of_lt (lt2 (by assumption) (fun hC => by k_extra "PJ")) | exact ne2 (by assumption) (fun hC => by k_extra "PJ") | exact Ne.symm (ne2 (by assumption) (fun hC => by k_extra "PJ")) | exact Nat.ne_of_gt (ltM (by assumption) (by k_mem)) | exact Nat.ne_of_gt (ltM (Hold.out (by assumption)) (by k_mem)))) | fail "row"))
  trivial

theorem for_ci {L I : Addr} {w : World} {A : Around} {s : Shared} {g : Heap} {env : Env} {x : Str} {xp : Pos} {body orelse : List Stmt} {Q : Flow → Shared → Prop} {m₀ : Str → Option Value} {ld₀ : List (Addr × Obj)}
    (J : Nat → Nat → (Str → Option Value) → List (Addr × Obj) → Prop) (k₀ : Nat) (F : Fr g L s.heap m₀) (N : News g L s.heap ld₀) (h0 : J k₀ s.toks m₀ ld₀)
    (turn : ∀ (k : Nat) (m : Str → Option Value) (ld : List (Addr × Obj)) (h : Heap) (tk : Nat), J k tk m ld → Fr g L h m → News g L h ld →
      wpAny (model PG w) A (pyNext (.ref I)) (fun ov s₁ => match ov with
        | none => wpAny (model PG w) A (execs orelse env) Q NoE s₁
        | some v => (∃ l u, v = .str l u) ∧ wpAny (model PG w) A (assign (.Name x xp) env v) (fun _ s₂ => wpAny (model PG w) A (execs body env) (fun f s₃ => WhileEnd g L J k s Q f s₃) NoE s₂) NoE s₁) NoE { s with heap := h, toks := tk }) :
    codeAny (model PG w) A (.forLoop (.Name x xp) (.ref I) body orelse env) (LoopR Q) s := by
  refine codeAny_forLoop_any (WhI g L J (fun _ => True) s) ?_ k₀ ⟨s.heap, s.toks, m₀, ld₀, rfl, trivial, F, N, h0⟩
  intro k s' hJa
  (try k_fold)
  refine byGoal fun P9 k9 => ?_
  obtain ⟨h, tk, m, ld, rfl, -, F₁, N₁, hJ⟩ := hJa
  refine k9 ?_
  clear k9 P9
  refine wpAny_mono (turn k m ld h tk hJ F₁ N₁) (fun ov s₁ h₁ => ?_) fun _ _ x => x.elim
  cases ov with
  | none => exact wpAny_mono h₁ (fun _ _ x => x) fun _ _ x => x.elim
  | some v =>
    (try k_fold)
    refine byGoal fun P9 k9 => ?_
    obtain ⟨⟨l, u, rfl⟩, h₁⟩ := h₁
    refine k9 ?_
    clear k9 P9
    have e : letOwnedTupleGo (.Name x xp) (.ref I) (.str l u) = pure () := rfl
    show wpAny _ _ (letOwnedTupleGo _ _ _) _ _ _
    rw [e]
    refine wpAny_pure (wpAny_mono h₁ (fun _ s₂ h₂ => wpAny_mono h₂ (fun f s₃ h₃ => ?_) fun _ _ x => x.elim) fun _ _ x => x.elim)
    have nx : NextW g L J k s.gens s.drawn s.os s₃ →
        ∃ m, m < k ∧ WhI g L J (fun _ => True) s m s₃ := by
      intro hJa
      (try k_fold)
      refine byGoal fun P9 k9 => ?_
      obtain ⟨k', h', tk', m', ld', hk, rfl, F', N', hj⟩ := hJa
      refine k9 ?_
      clear k9 P9
      exact ⟨k', hk, h', tk', m', ld', rfl, trivial, F', N', hj⟩
    cases f with
    | next => exact nx h₃
    | cont => exact nx h₃
    | brk => exact h₃
    | ret v => exact h₃
theorem iterK {w : World} {A : Around} {E : Value → Shared → Prop} {s : Shared} {g : Heap} {L m₁ : Addr} {m : Str → Option Value} {Q : Value → Shared → Prop} {ld : List (Addr × Obj)} {f x sen : Value} (F : Fr g L s.heap m) (N : News g L s.heap ld) (hm : (m₁, methodObj f x) ∈ ld)
    (h : ∀ I h', Fr g L h' m → News g L h' ((I, ciObj (.ref m₁) sen) :: ld) → (∀ p ∈ ld, p.1 < I) → Q (.ref I) { s with heap := h' }) : wpAny (model PG w) A (call (.builtin "iter") [.ref m₁, sen]) Q E s :=
  iter_two (N.get hm) (h _ _ (fr_stays F fun _ _ e => Heap.get?_push_of_some _ e) (news_cons (news_stays N fun _ _ e => Heap.get?_push_of_some _ e) F (fresh_of (Nat.le_refl _)) (Heap.get?_push_size _ rfl)) fun p hp => Heap.lt_size (N p hp).1)
example : True := by
  (k_with "call builtin:iter" => (first | ((k_dflt ((refine' iterK (by k_dflt (assumption)) (by k_dflt (assumption)) (by k_dflt (k_mem)) ?_); intro I9 h9 F9 N9 l9; (try k_lt l9); revert I9 h9 F9 N9 l9; intro _ _ _ _ _))) | fail "row"))
  trivial
theorem news_frame {g h h' : Heap} {L : Addr} {m : Str → Option Value} {ld ld' : List (Addr × Obj)} {sk : List Addr} (F : Fr g L h m) (N : News g L h ld) (k : ∀ b o, h.get? b = some o → b ∉ sk → h'.get? b = some o)
    (hs : ∀ b ∈ sk, b ∈ ld.map (·.1)) (hl : ld'.map (·.1) = ld.map (·.1)) (hv : ∀ p ∈ ld', h'.get? p.1 = some p.2) : Fr g L h' m ∧ News g L h' ld' := by
  have key : ∀ b ∈ ld.map (·.1), b ≠ L ∧ g.get? b = none := fun b hb => by
    (try k_fold)
    refine byGoal fun P9 k9 => ?_
    obtain ⟨q, hq, rfl⟩ := List.mem_map.mp hb
    refine k9 ?_
    clear k9 P9
    exact (N q hq).2
  (try k_fold)
  refine byGoal fun P9 k9 => ?_
  obtain ⟨oL, es, ep, hoL, r⟩ := id F.ns
  refine k9 ?_
  clear k9 P9
  refine ⟨⟨⟨oL, es, ep, k _ _ hoL (fun q => (key _ (hs _ q)).1 rfl), r⟩, fun b o e => k _ _ (F.keep b o e) (fun q => by rw [(key _ (hs _ q)).2] at e; cases e), F.above⟩, fun p hp => ⟨hv p hp, key _ (hl ▸ List.mem_map_of_mem hp)⟩⟩
noncomputable abbrev Lx.lnD (P : Params) (a : Lx) (ln : Int) (tl : Tok) : Obj := dictOf [⟨PyData.keyHash P "lineno", .str "lineno" a.z2.k1, .int ln tl⟩, ⟨PyData.keyHash P "instream", .str "instream" a.z2.k2, .ref a.x1⟩, ⟨PyData.keyHash P "whitespace", .str "whitespace" a.z2.k3, .str "\n\t\r " a.z2.t3⟩, ⟨PyData.keyHash P "pushback", .str "pushback" a.z2.k4, .ref a.pb2⟩] 4
noncomputable abbrev Lx.led (P : Params) (a : Lx) (I M : Addr) (ic : Obj) (ys : List Value) (n np : Nat) (ln : Int) (tl : Tok) : List (Addr × Obj) :=
  [(I, ic), (M, methodObj (.ref 91) (.ref a.x2)), (a.D, listOf ys.reverse.toArray n), (a.dx2, a.lnD P ln tl), (a.x2, instObj 108 a.dx2), (a.pb2, listOf #[] np)]
section
variable {w : World} {base : Heap} {A : Around} {E : Value → Shared → Prop} {s : Shared} {k : Nat} {t : Tok}
theorem gt_next {g : Heap} {L I M : Addr} {m : Str → Option Value} {a : Lx} {t₀ tl : Tok} {ys : List Value} {n np : Nat} {ln : Int} {txt : List Nat} {o91 : Obj} {fd : FuncData} {Q : Option Value → Shared → Prop}
    (G : G0 w base) (st : base.StaysIn s.heap) (R : Rm A (k + 4)) (ok : a.Ok) (F : Fr g L s.heap m) (N : News g L s.heap (a.led w.params I M (ciObj (.ref M) (.str ⟨#[]⟩ t₀)) ys n np ln tl))
    (Hf : ∀ p ∈ a.fix w.params, s.heap.get? p.1 = some p.2 ∧ base.get? p.1 = none) (h91 : s.heap.get? 91 = some o91) (hfd : o91.data = .func fd)
    (nD : base.get? a.D = none) (nd : base.get? a.dx2 = none) (hys : StrsAre ys (txt.map fun c => S [c])) (hlen : ys.length ≤ 1000)
    (h0 : txt = [] → ∀ h' tk n' tl', Fr g L h' m → News g L h' (a.led w.params I M ciEnd [] n' np ln tl') → (∀ b o, s.heap.get? b = some o → b ∉ [I, a.D, a.dx2] → h'.get? b = some o) → Q none { s with heap := h', toks := tk })
    (h1 : ∀ c txt', txt = c :: txt' → ∀ h' tk u ys' n' tl', Fr g L h' m → News g L h' (a.led w.params I M (ciObj (.ref M) (.str ⟨#[]⟩ t₀)) ys' n' np (if c = 10 then ln + 1 else ln) tl') → (∀ b o, s.heap.get? b = some o → b ∉ [I, a.D, a.dx2] → h'.get? b = some o) →
      StrsAre ys' (txt'.map fun c => S [c]) → ys'.length ≤ 1000 → Q (some (.str (S [c]) u)) { s with heap := h', toks := tk }) :
    wpAny (model PG w) A (pyNext (.ref I)) Q E s := by
  have hI := (N _ (.head _)).1
  have hM := (N _ (.tail _ (.head _))).1
  have hD := (N _ (.tail _ (.tail _ (.head _)))).1
  have hd := (N _ (.tail _ (.tail _ (.tail _ (.head _))))).1
  have hx := (N _ (.tail _ (.tail _ (.tail _ (.tail _ (.head _)))))).1
  have hp := (N _ (.tail _ (.tail _ (.tail _ (.tail _ (.tail _ (.head _))))))).1
  have q1 := obj_ne hI hD (by simp [W.listOf, ciObj])
  have q2 := obj_ne hI hd (by simp [dictOf, ciObj])
  have q3 := obj_ne hM hD (by simp [W.listOf])
  have q4 := obj_ne hM hd (by simp [dictOf])
  have q5 := obj_ne hx hD (by simp [W.listOf, instObj])
  have q6 := obj_ne hx hd (by simp [dictOf, instObj])
  have q7 := obj_ne hp hd (by simp [dictOf, W.listOf])
  have q8 := Ne.symm ok.ne
  have q9 := obj_ne h91 hD (by simp [W.listOf, hfd])
  have q10 := obj_ne h91 hd (by simp [dictOf, hfd])
  have q11 := obj_ne hM hI (by simp [ciObj])
  have q12 := obj_ne hD hI (by simp [ciObj, W.listOf])
  have q13 := obj_ne hd hI (by simp [ciObj, dictOf])
  have q14 := obj_ne hx hI (by simp [ciObj, instObj])
  have q15 := obj_ne hp hI (by simp [ciObj, W.listOf])
  have n2 : ∀ {b x y : Addr}, @Ne Nat b x → @Ne Nat b y → b ∉ [x, y] := fun h1 h2 q => by
    rcases List.mem_cons.mp q with q | q
    · exact h1 q
    · exact h2 (List.mem_singleton.mp q)
  refine ci_next_some hI hM h91 hfd R.h (c_readX G st R.in1 ok Hf hD hd nD nd hys hlen ?_)
  intro h' tk t' tl' ys' n' k' d1 d2 hys' hlen'
  refine ⟨(rd1 txt).1.toArray, t', rfl, k' _ _ hI (n2 q1 q2), k' _ _ hM (n2 q3 q4), k' _ _ h91 (n2 q9 q10), fun hne => ?_, fun he h'' kk hIe => ?_⟩
  · cases txt with
    | nil => exact absurd rfl hne
    | cons c txt' =>
      obtain ⟨F', N'⟩ := news_frame (ld' := a.led w.params I M (ciObj (.ref M) (.str ⟨#[]⟩ t₀)) ys' n' np (if c = 10 then ln + 1 else ln) tl') F N k' (by simp) rfl
        (fmc (k' _ _ hI (n2 q1 q2)) (fmc (k' _ _ hM (n2 q3 q4)) (fmc d1 (fmc (by
          have e : (if (rd1 (c :: txt')).1 = [10] then ln + 1 else ln) = (if c = 10 then ln + 1 else ln) := by simp [rd1]
          rw [e] at d2; exact d2) (fmc (k' _ _ hx (n2 q5 q6)) (fmc (k' _ _ hp (n2 q8 q7)) fmn))))))
      exact h1 c txt' rfl _ _ _ _ _ _ F' N' (fun b o e hb => k' b o e (fun q => hb (.tail _ q))) hys' hlen'
  · cases txt with
    | cons c txt' => simp [rd1] at he
    | nil =>
      cases hys'
      have kk' : ∀ b o, s.heap.get? b = some o → b ∉ [I, a.D, a.dx2] → h''.get? b = some o := fun b o e hb => kk b o (k' b o e (fun q => hb (.tail _ q))) (fun q => hb (q ▸ .head _))
      obtain ⟨F', N'⟩ := news_frame (sk := [I, a.D, a.dx2]) (ld' := a.led w.params I M ciEnd [] n' np ln tl') F N kk' (by simp) rfl
        (fmc hIe (fmc (kk _ _ (k' _ _ hM (n2 q3 q4)) q11) (fmc (kk _ _ d1 q12) (fmc (kk _ _ d2 q13) (fmc (kk _ _ (k' _ _ hx (n2 q5 q6)) q14) (fmc (kk _ _ (k' _ _ hp (n2 q8 q7)) q15) fmn))))))
      exact h0 rfl _ _ _ _ F' N' kk'
end
section
variable {w : World} {base : Heap} {A : Around} {E : Value → Shared → Prop} {s : Shared} {k : Nat} {t : Tok}
theorem gt_read {g : Heap} {L I M : Addr} {m : Str → Option Value} {a : Lx} {ic : Obj} {tl : Tok} {ys : List Value} {n np : Nat} {ln : Int} {txt : List Nat} {Q : Value → Shared → Prop}
    (G : G0 w base) (st : base.StaysIn s.heap) (R : Rm A (k + 3)) (ok : a.Ok) (hic : ∀ v n, ic.data ≠ .seq v n) (hic2 : ∀ v n, ic.data ≠ .dict v n) (F : Fr g L s.heap m) (N : News g L s.heap (a.led w.params I M ic ys n np ln tl))
    (Hf : ∀ p ∈ a.fix w.params, s.heap.get? p.1 = some p.2 ∧ base.get? p.1 = none)
    (nD : base.get? a.D = none) (nd : base.get? a.dx2 = none) (hys : StrsAre ys (txt.map fun c => S [c])) (hlen : ys.length ≤ 1000)
    (h1 : ∀ h' tk u ys' n' tl', Fr g L h' m → News g L h' (a.led w.params I M ic ys' n' np (if (rd1 txt).1 = [10] then ln + 1 else ln) tl') → 
      StrsAre ys' ((rd1 txt).2.map fun c => S [c]) → ys'.length ≤ 1000 → Q (.str (S (rd1 txt).1) u) { s with heap := h', toks := tk }) :
    wpAny (model PG w) A (call (.ref 91) [.ref a.x2]) Q E s := by
  have hI := (N _ (.head _)).1
  have hM := (N _ (.tail _ (.head _))).1
  have hD := (N _ (.tail _ (.tail _ (.head _)))).1
  have hd := (N _ (.tail _ (.tail _ (.tail _ (.head _))))).1
  have hx := (N _ (.tail _ (.tail _ (.tail _ (.tail _ (.head _)))))).1
  have hp := (N _ (.tail _ (.tail _ (.tail _ (.tail _ (.tail _ (.head _))))))).1
  have q1 := obj_ne hI hD (by simpa [W.listOf] using hic _ _)
  have q2 := obj_ne hI hd (by simpa [dictOf] using hic2 _ _)
  have q3 := obj_ne hM hD (by simp [W.listOf])
  have q4 := obj_ne hM hd (by simp [dictOf])
  have q5 := obj_ne hx hD (by simp [W.listOf, instObj])
  have q6 := obj_ne hx hd (by simp [dictOf, instObj])
  have q7 := obj_ne hp hd (by simp [dictOf, W.listOf])
  have q8 := Ne.symm ok.ne
  have n2 : ∀ {b x y : Addr}, @Ne Nat b x → @Ne Nat b y → b ∉ [x, y] := fun h1 h2 q => by
    rcases List.mem_cons.mp q with q | q
    · exact h1 q
    · exact h2 (List.mem_singleton.mp q)
  refine c_read G st R ok Hf hD hd nD nd hys hlen ?_
  intro h' tk t' tl' ys' n' k' d1 d2 hys' hlen'
  obtain ⟨F', N'⟩ := news_frame (ld' := a.led w.params I M ic ys' n' np (if (rd1 txt).1 = [10] then ln + 1 else ln) tl') F N k' (by simp) rfl
    (fmc (k' _ _ hI (n2 q1 q2)) (fmc (k' _ _ hM (n2 q3 q4)) (fmc d1 (fmc d2 (fmc (k' _ _ hx (n2 q5 q6)) (fmc (k' _ _ hp (n2 q8 q7)) fmn))))))
  exact h1 _ _ _ _ _ _ F' N' hys' hlen'
end
noncomputable def nl (c n : Nat) : Nat := if c = 10 then n + 1 else n
noncomputable def lexQ : Bool → List Nat → Nat → List Nat → List Nat × List Nat × Nat
  | _, acc, n, [] => (acc, [], n)
  | true, acc, n, c :: r => lexQ false (acc ++ [c]) (nl c n) r
  | false, acc, n, c :: r => if c = 34 then (acc, r, n) else if c = 92 then lexQ true acc n r else lexQ false (acc ++ [c]) (nl c n) r
noncomputable def lexB : Bool → List Nat → Nat → List Nat → List Nat × List Nat × Nat
  | _, acc, n, [] => (acc, [], n)
  | true, acc, n, c :: r => lexB false (acc ++ [c]) (nl c n) r
  | false, acc, n, c :: r => if c ∈ [10, 9, 13, 32] then (acc, r, nl c n) else if c = 92 then lexB true acc n r else lexB false (acc ++ [c]) (nl c n) r
noncomputable def lexA : Nat → List Nat → List Nat × List Nat × Nat
  | n, [] => ([], [], n)
  | n, c :: r => if c ∈ [10, 9, 13, 32] then lexA (nl c n) r else if c = 34 then lexQ false [] n r else if c = 92 then lexB true [] n r else lexB false [c] n r
/-- the loops' state while the iterator lives -/
inductive LiveJ (P : Params) (a : Lx) (I M : Addr) (t₀ : Tok) (np : Nat) (ln : Int) (Φ : List Nat → Nat → List Nat → Prop) (k : Nat) (m : Str → Option Value) (ld : List (Addr × Obj)) : Prop
  | mk (ys : List Value) (n' : Nat) (tl' : Tok) (acc txt : List Nat) (tt : Tok) (j : Nat) (e : ld = a.led P I M (ciObj (.ref M) (.str ⟨#[]⟩ t₀)) ys n' np (ln + (j : Nat)) tl') (e1 : m "self" = some (.ref a.x2)) (e2 : m "fiter" = some (.ref I)) (e3 : m "token" = some (.str (S acc) tt))
    (hys : StrsAre ys (txt.map fun c => S [c])) (hl : ys.length ≤ 1000) (ha : acc.length + txt.length ≤ 1000) (hk : k = txt.length + 1) (hL : Φ acc j txt)
inductive EndJ (P : Params) (a : Lx) (I M : Addr) (np : Nat) (ln : Int) (RES : List Nat × List Nat × Nat) (k : Nat) (m : Str → Option Value) (ld : List (Addr × Obj)) : Prop
  | mk (n' : Nat) (tl' : Tok) (acc : List Nat) (tt : Tok) (j : Nat) (e : ld = a.led P I M ciEnd [] n' np (ln + (j : Nat)) tl') (e1 : m "self" = some (.ref a.x2)) (e2 : m "fiter" = some (.ref I)) (e3 : m "token" = some (.str (S acc) tt)) (hR : RES = (acc, [], j)) (hk : k = 0)
theorem strs_len {ys : List Value} {l : List Nat} (h : StrsAre ys (l.map fun c => S [c])) : ys.length = l.length := by
  induction l generalizing ys with
  | nil => cases h; rfl
  | cons c l ih => cases h with | cons _ _ h => rw [List.length_cons, List.length_cons, ih h]
end Mine
end
section
set_option maxHeartbeats 1000000
namespace Mine
example : True := by
  k_with_none
  (k_with "STOPS" => (first | (with_reducible first | show wpAny _ _ (pyIter _) _ _ _ | show wpAny _ _ (exec (Stmt.While _ _ _ _) _) _ _ _ | show wpAny _ _ (exec (Stmt.For _ _ _ _ _) _) _ _ _ | show wpAny _ _ (call (Value.builtin "str.join") _ _) _ _ _ | show EachEnd _ _ _ _ _ _ _ | show TurnEnd _ _ _ _ _ _ _ _ _ | show TurnEndT _ _ _ _ _ _ _ _ _ | show WhileEnd _ _ _ _ _ _ _ _ | show EltEnd _ _ _ _ _ _ _ _ | show EnumEnd _ _ _ _ _ _ _ _) | fail "row"))
  (k_with "SZ" => (first | (first | decide | exact Nat.le_trans (by assumption) (by decide) | exact Nat.le_trans (Nat.le_of_eq (by assumption)) (by decide) | (show 1 ≤ _; decide) | (simp only [str_len_add, *]; first | done | decide | omega)) | fail "row"))
  (k_with "eval Name" => (first | ((k_dflt (((with_reducible refine' ldEp (by k_dflt (with_reducible assumption)) (by k_dflt (rfl)) (by k_dflt (rfl)) (by k_dflt (rfl)) (by k_dflt (decide)) (by k_dflt (first | rfl | assumption)) ?_)); k_whole))) | fail "row"))
  (k_with "loadName" => (first | ((k_dflt (((with_reducible refine' ldnEp (by k_dflt (with_reducible assumption)) (by k_dflt (rfl)) (by k_dflt (rfl)) (by k_dflt (rfl)) (by k_dflt (first | rfl | assumption)) ?_)); k_whole))) | fail "row"))
  (k_with "eval Name" => (first | ((k_dflt (((with_reducible refine' ldKp (by k_dflt (with_reducible assumption)) (by k_dflt (rfl)) (by k_dflt (rfl)) (by k_dflt (rfl)) (by k_dflt (decide)) (by k_dflt (k_mem)) (by k_dflt (assumption)) ?_)); k_whole))) | fail "row"))
  (k_with "eval ListComp" => (first | ((k_dflt ((with_reducible refine' comp_rule (by k_dflt (exact rfl)) ?_ (by k_dflt (rfl)) (by k_dflt (decide)) (by k_dflt (intro _; rfl)))))) | fail "row"))
  (k_with "binaryOp Add str str" => (first | ((k_dflt ((with_reducible refine addSN (by k_dflt (k_extra "SZ")) (by k_dflt (k_extra "SZ")) ?_); intro t9 tk9; revert t9 tk9; intro _ _))) | fail "row"))
  (k_with "compareOp In str str" => (first | (((with_reducible refine inC ?_))) | fail "row"))
  (k_with "KS" => (first | (repeat' (first | ((with_reducible show wpAny _ _ (execs _ _) _ _ _); k_fold) | (k_unfold; (try dsimp only)) | ((fail_if_success (k_extra "STOPS")); walk1) | dsimp only)) | fail "row"))
  (k_with "ite" => (first | ((k_dflt first | (k_closed; first | ((with_reducible refine ite_pos (by k_dflt (decide)) ?_)) | ((with_reducible refine ite_neg (by k_dflt (decide)) ?_))) | ((with_reducible refine split_decN ?_ ?_) <;> intro _))) | fail "row"))
  (k_with "LATS" => (first | (repeat (rename (Later _ _) => la9; have lb9 := leN la9.1; clear la9; (try simp only at lb9))) | fail "row"))
  (k_with "eval Dict" => (first | ((k_dflt ((refine' kdn_int (by k_dflt (rfl)) (by k_dflt (k_asm)) (by k_dflt (first | k_asm | exact News.nil)) (by k_dflt (exact TopRead.nolimit (by k_asm))) (by k_dflt (rfl)) (by k_dflt (rfl)) (by k_dflt (exact List.cons_ne_nil _ _)) (by k_dflt (exact Nat.le_of_ble_eq_true rfl)) ?_); intro d' h' o' F' N' l1 lo' hd'; (try k_lt l1); revert d' h' o' F' N' l1 lo' hd'; intro _ _ _ _ _ _ _ _))) | fail "row"))
  (k_with "binaryOp Add ref ref" => (first | ((k_dflt ((with_reducible refine' addL (by k_dflt (assumption)) (by k_dflt (assumption)) (by k_dflt (is_list)) (by k_dflt (is_list)) (by k_dflt ((simp only [List.length_append, List.length_cons, List.length_nil, sizeLine]; omega))) ?_); intro D9 h9 F9 N9 l9; (try k_lt l9); revert D9 h9 F9 N9 l9; intro _ _ _ _ _))) | fail "row"))
  (k_with "storeName" => (first | ((k_dflt (((with_reducible refine' stKp (by k_dflt (with_reducible assumption)) (by k_dflt (with_reducible assumption)) (by k_dflt (rfl)) (by k_dflt (rfl)) (by k_dflt (rfl)) (by k_dflt (k_updF)) (by k_dflt (assumption)) ?_)); k_whole; intro h9 o9 F9 N9 d9; (try dsimp only at N9); revert h9 o9 F9 N9 d9; intro _ _ _ _ _))) | fail "row"))
  (k_with "JUNK" => (first | (repeat (first | (with_reducible show Str; exact Str.ofString "") | (with_reducible show Value; exact Value.none) | (with_reducible show List (Str × Addr); exact []) | (with_reducible show Addr; exact 0))) | fail "row"))
  (k_with "exec Assign cons ListComp" => (first | ((k_dflt ((with_reducible refine' comp_assign (by k_dflt (exact rfl)) (by k_dflt (rfl)) (by k_dflt (rfl)) (by k_dflt (rfl)) ?_ (by k_dflt (rfl)) (by k_dflt (decide)) (by k_dflt (intro _; rfl)))))) | fail "row"))
  (k_with "SUBL" => (first | (((with_reducible show wpAny _ _ (subscriptTail _ _ (Value.ref _) (Value.int _ _)) _ _ _); k_dflt ((with_reducible refine' subL (by k_dflt (is_list)) (by k_dflt (first | exact rfl | exact (rfl : (0:Int) = ((0:Nat):Int)) | exact (rfl : (1:Int) = ((1:Nat):Int)) | exact (rfl : (2:Int) = ((2:Nat):Int)) | exact (rfl : (3:Int) = ((3:Nat):Int)))) (by k_dflt (first | assumption | rfl)) (by k_dflt (first | decide | omega)) ?_ (by k_dflt (with_unfolding_all rfl)))))) | fail "row"))
  (k_with "subscriptTail" => (first | ((k_extra "SUBL")) | fail "row"))
  (k_with "subscriptTail Name Name ref int" => (first | ((k_extra "SUBL")) | fail "row"))
  (k_with "subscriptTail Name Constant ref int" => (first | ((k_extra "SUBL")) | fail "row"))
  (k_with "subscriptTail" => (first | (((with_reducible show wpAny _ _ (subscriptTail _ _ (Value.ref _) (Value.int _ _)) _ _ _); k_dflt ((with_reducible refine' getI (by k_dflt (with_reducible assumption)) (by k_dflt (k_mem)) (by k_dflt (assumption)) (by k_dflt (assumption)) ?_ (by k_dflt (with_unfolding_all rfl)))))) | fail "row"))
  trivial
example : True := by
  (k_with "PJ" => (first | ((first | exact hC.1 | exact hC.2.1 | exact hC.2.2.1 | exact hC.2.2.2.1 | exact hC.2.2.2.2.1 | exact hC.2.2.2.2.2.1 | exact hC.2.2.2.2.2.2.1 | exact hC.2.2.2.2.2.2.2.1 | exact hC.2.2.2.2.2.2.2.2.1 | exact hC.2.2.2.2.2.2.2.2.2.1 | exact hC.2.2.2.2.2.2.2.2.2.2.1 | exact hC.2.2.2.2.2.2.2.2.2.2.2.1 | exact hC.2.2.2.2.2.2.2.2.2.2.2.2.1 | exact hC.2.2.2.2.2.2.2.2.2.2.2.2.2.1 | exact hC.2 | exact hC.2.2 | exact hC.2.2.2 | exact hC.2.2.2.2 | exact hC.2.2.2.2.2 | exact hC.2.2.2.2.2.2 | exact hC.2.2.2.2.2.2.2 | exact hC.2.2.2.2.2.2.2.2 | exact hC.2.2.2.2.2.2.2.2.2 | exact hC.2.2.2.2.2.2.2.2.2.2 | exact hC.2.2.2.2.2.2.2.2.2.2.2 | exact hC.2.2.2.2.2.2.2.2.2.2.2.2 | exact hC.2.2.2.2.2.2.2.2.2.2.2.2.2)) | fail "row"))
  (k_with "LT" => (first | (((repeat (first | exact Nat.lt_succ_self _ | (with_reducible assumption) | refine Nat.lt_succ_of_lt ?_)); done)) | fail "row"))
  (k_with "NE" => (first | ((refine neN ?_; (try dsimp only); first | exact Hold.out (by assumption) | exact Nat.ne_of_lt (by assumption) | exact Nat.ne_of_gt (by assumption) | (refine Nat.ne_of_lt ?_; k_extra "LT"; done) | (refine Nat.ne_of_gt ?_; k_extra "LT"; done) | exact Nat.ne_of_gt (lt2 (by assumption) (fun hC => by k_extra "PJ")) | exact Nat.ne_of_lt (lt2 (by assumption) (fun hC => by k_extra "PJ")) | exact ne2 (by assumption) (fun hC => by k_extra "PJ") | exact Ne.symm (ne2 (by assumption) (fun hC => by k_extra "PJ")) | exact Nat.ne_of_gt (ltM (by assumption) (by k_mem)) | exact Nat.ne_of_gt (ltM (Hold.out (by assumption)) (by k_mem)))) | fail "row"))
  trivial

theorem beq_lit {c d : Nat} (h : (S [c] == S [d]) = true) : c = d := by
  rw [S_beq] at h; simpa using h
theorem beq_nlit {c d : Nat} (h : ¬ (S [c] == S [d]) = true) : c ≠ d := fun q => h (by rw [S_beq, q]; simp)
theorem nl_int (ln : Int) (c j : Nat) : (if c = 10 then ln + (j : Nat) + 1 else ln + (j : Nat)) = ln + (nl c j : Nat) := by
  unfold nl; split <;> omega
noncomputable abbrev gtEnv (L : Addr) : Env := envOf (Str.ofString "_netrclex.get_token") { kind := ScopeKind.function, names := [(Str.ofString "self", NameKind.local), (Str.ofString "token", NameKind.local), (Str.ofString "fiter", NameKind.local), (Str.ofString "ch", NameKind.local), (Str.ofString "iter", NameKind.globalImplicit)], isGenerator := false, isCoroutine := false } L 98 (Value.ref 97)
noncomputable def escP (c j : Nat) (txt : List Nat) : List Nat × List Nat × Nat := if c = 92 then ((rd1 txt).1, (rd1 txt).2, if (rd1 txt).1 = [10] then j + 1 else j) else ([c], txt, nl c j)
theorem escP_len (c j : Nat) (txt : List Nat) : (escP c j txt).1.length ≤ 1 ∧ (escP c j txt).2.1.length ≤ txt.length ∧ (escP c j txt).1.length + (escP c j txt).2.1.length ≤ txt.length + 1 := by
  unfold escP
  split
  · cases txt <;> simp [rd1] <;> exact Mine.om138
  · simp; exact Mine.om139
theorem lexQ_esc (acc : List Nat) (c j : Nat) (txt : List Nat) (h : c ≠ 34) : lexQ false acc j (c :: txt) = lexQ false (acc ++ (escP c j txt).1) (escP c j txt).2.2 (escP c j txt).2.1 := by
  by_cases h2 : c = 92
  · subst h2
    cases txt with
    | nil => simp [lexQ, escP, rd1]
    | cons d r => by_cases hd : d = 10 <;> simp [lexQ, escP, rd1, nl, hd]
  · simp [lexQ, escP, h, h2]
theorem lexB_esc (acc : List Nat) (c j : Nat) (txt : List Nat) (h : c ∉ [10, 9, 13, 32]) : lexB false acc j (c :: txt) = lexB false (acc ++ (escP c j txt).1) (escP c j txt).2.2 (escP c j txt).2.1 := by
  by_cases h2 : c = 92
  · subst h2
    cases txt with
    | nil => simp [lexB, escP, rd1]
    | cons d r => by_cases hd : d = 10 <;> simp [lexB, escP, rd1, nl, hd]
  · simp only [lexB, escP, if_neg h, if_neg h2]
theorem lexA_esc (c j : Nat) (txt : List Nat) (h : c ∉ [10, 9, 13, 32]) (h34 : c ≠ 34) : lexA j (c :: txt) = lexB false (escP c j txt).1 (escP c j txt).2.2 (escP c j txt).2.1 := by
  have h10 : c ≠ 10 := fun q => h (by rw [q]; decide)
  by_cases h2 : c = 92
  · subst h2
    cases txt with
    | nil => simp [lexA, lexB, escP, rd1]
    | cons d r => by_cases hd : d = 10 <;> simp [lexA, lexB, escP, rd1, nl, hd]
  · simp only [lexA, escP, if_neg h, if_neg h2, if_neg h34, nl, if_neg h10]
section
variable {w : World} {base : Heap} {A : Around} {E : Value → Shared → Prop} {s : Shared} {k : Nat} {t : Tok}
theorem esc_if {g : Heap} {L I M : Addr} {m : Str → Option Value} {a : Lx} {tl u₀ : Tok} {ys : List Value} {n np c j : Nat} {ln : Int} {t₀ : Tok} {txt : List Nat} {Q : Flow → Shared → Prop} {p1 p2 p3 p4 p5 p6 p7 p8 p9 : Pos}
    (G : G0 w base) (st : base.StaysIn s.heap) (R : Rm A (k + 4)) (ok : a.Ok) (F : Fr g L s.heap m) (N : News g L s.heap (a.led w.params I M (ciObj (.ref M) (.str ⟨#[]⟩ t₀)) ys n np (ln + (nl c j : Nat)) tl)) (X : (hd.heap_39 w.params).In g) (G' : G0 w g)
    (Hf : ∀ p ∈ a.fix w.params, s.heap.get? p.1 = some p.2 ∧ base.get? p.1 = none)
    (nD : base.get? a.D = none) (nd : base.get? a.dx2 = none) (hys : StrsAre ys (txt.map fun c => S [c])) (hlen : ys.length ≤ 1000) (e1 : m "self" = some (.ref a.x2)) (e2 : m "ch" = some (.str (S [c]) u₀))
    (h1 : ∀ h' tk u ys' n' tl' m', Fr g L h' m' → (∀ y : Str, y ≠ Str.ofString "ch" → m' y = m y) → m' "ch" = some (.str (S (escP c j txt).1) u) → News g L h' (a.led w.params I M (ciObj (.ref M) (.str ⟨#[]⟩ t₀)) ys' n' np (ln + ((escP c j txt).2.2 : Nat)) tl') → 
      StrsAre ys' ((escP c j txt).2.1.map fun c => S [c]) → ys'.length ≤ 1000 → Q .next { s with heap := h', toks := tk })
    {pl : Sem Bool} (he : eval (.Call (.Attribute (.Name (Str.ofString "self") p5) (Str.ofString "_read_char") p6) [] [] p7) (gtEnv L) = (do
      let ov ← eval (.Name (Str.ofString "self") p5) (gtEnv L)
      standAt p6.atName
      let (f, first) ← holding [ov] (getMethod ov (Str.ofString "_read_char") pl)
      callWith p7 f first (backTo p7 (starEach [] (gtEnv L))) [])) :
    wpAny (model PG w) (A.deeper (gtEnv L)) (exec (Stmt.If (Expr.Compare (Expr.Name (Str.ofString "ch") p1) [CmpOp.Eq] [Expr.Constant (Const.str (Str.ofString "\\")) 0 p2] p3) [Stmt.Assign [Expr.Name (Str.ofString "ch") p4] (Expr.Call (Expr.Attribute (Expr.Name (Str.ofString "self") p5) (Str.ofString "_read_char") p6) [] [] p7) p8] [] p9) (gtEnv L)) Q E s := by
  have X' := X
  have hU := R.units
  (try k_fold)
  refine byGoal fun P9 k9 => ?_
  obtain ⟨pp, loo, mg, mb, T⟩ := G'.T
  refine k9 ?_
  clear k9 P9
  have R' := R.deeper
  k_extra "KS"
  · refine MethodCall_ ?_ he
    k_extra "KS"
    rename (_ == _) = true => hn
    have hn : c = 92 := by
      have e := S_beq [c] [92]
      rw [show S [92] = Str.ofString "\\" from rfl, hn] at e
      simpa using e.symm
    subst hn
    have e : nl 92 j = j := rfl
    rw [e] at N
    refine gt_read (k := 0) G st ((R.deeper _).le (by exact Mine.om140)) ok (by simp [ciObj]) (by simp [ciObj]) F N Hf nD nd hys hlen ?_
    intro h' tk' u' ys' n' tl' F2 N2 hys' hlen'
    k_extra "KS"
    refine h1 _ _ u' ys' n' tl' _ (by assumption) (fun y hy => if_neg hy) (if_pos rfl) ?_ hys' hlen'
    have e2 : (if (rd1 txt).1 = [10] then ln + (j : Nat) + 1 else ln + (j : Nat)) = ln + ((escP 92 j txt).2.2 : Nat) := by
      show _ = ln + ((if (rd1 txt).1 = [10] then j + 1 else j : Nat) : Int)
      split <;> omega
    rw [← e2]
    assumption
  · rename ¬ (_ == _) = true => hn
    have hn : c ≠ 92 := fun q => hn (by rw [show Str.ofString "\\" = S [92] from rfl, S_beq, q]; rfl)
    have e : escP c j txt = ([c], txt, nl c j) := if_neg hn
    rw [e] at h1
    exact h1 s.heap _ u₀ ys n tl m F (fun _ _ => rfl) e2 N hys hlen
end
end Mine
end
section
set_option maxHeartbeats 1000000
namespace Mine

example : True := by
  (k_with "STOPS" => (first | (with_reducible first | show wpAny _ _ (call (Value.builtin "iter") _ _) _ _ _ | show wpAny _ _ (exec (Stmt.If (Expr.Compare _ [CmpOp.Eq] [Expr.Constant (Const.str (Str.ofString "\\")) _ _] _) _ _ _) _) _ _ _) | fail "row"))
  trivial
section
variable {w : World} {base : Heap} {A : Around} {E : Value → Shared → Prop} {s : Shared} {Q : Value → Shared → Prop} {k : Nat} {t : Tok}
theorem c_getRead {a : Lx} {ln : Int} {tl : Tok} {ys : List Value} {txt : List Nat} {n np : Nat} (G : G0 w base) (st : base.StaysIn s.heap) (R : Rm A (k + 5)) (ok : a.Ok)
   (Hf : ∀ p ∈ a.fix w.params, s.heap.get? p.1 = some p.2 ∧ base.get? p.1 = none)
   (hD : s.heap.get? a.D = some (listOf ys.reverse.toArray n)) (hd : s.heap.get? a.dx2 = some (a.lnD w.params ln tl)) (hp : s.heap.get? a.pb2 = some (listOf #[] np)) (nD : base.get? a.D = none) (nd : base.get? a.dx2 = none) (np2 : base.get? a.pb2 = none)
   (hys : StrsAre ys (txt.map fun c => S [c])) (hlen : ys.length ≤ 1000)
   (h : ∀ h' tk t' tl' ys' n', (∀ b o, s.heap.get? b = some o → b ∉ [a.D, a.dx2] → h'.get? b = some o) → h'.get? a.D = some (listOf ys'.reverse.toArray n') → h'.get? a.dx2 = some (a.lnD w.params (ln + (lexA 0 txt).2.2) tl') →
     StrsAre ys' ((lexA 0 txt).2.1.map fun c => S [c]) → ys'.length ≤ 1000 → Q (.str (S (lexA 0 txt).1) t') { s with heap := h', toks := tk }) :
   wpAny (model PG w) A (call (.ref 98) [.ref a.x2]) Q E s := by
  have Hf' := Hf
  have ok' := ok
  (try k_fold)
  refine byGoal fun P9 k9 => ?_
  obtain ⟨hoc, hvs, ho9, hDp⟩ := ok'
  refine k9 ?_
  clear k9 P9
  have hn1 := fixP Hf (b := a.cl) (o := a.o9) (by k_mem)
  have hn2 := fixP Hf (b := a.f) (o := giveObj a.cl a.dc a.pm a.c a.ct) (by k_mem)
  have hn3 := fixP Hf (b := a.c) (o := a.oc) (by k_mem)
  have hn4 := fixP Hf (b := a.x2) (o := instObj 108 a.dx2) (by k_mem)
  have hn5 := fixP Hf (b := a.x1) (o := instObj 108 a.dx1) (by k_mem)
  have hn6 := fixP Hf (b := a.dx1) (o := _) (by k_mem)
  have h1 := hn1.1
  have n1 := hn1.2
  have h2 := hn2.1
  have n2 := hn2.2
  have h3 := hn3.1
  have n3 := hn3.2
  have h4 := hn4.1
  have n4 := hn4.2
  have h5 := hn5.1
  have n5 := hn5.2
  have h6 := hn6.1
  have n6 := hn6.2
  clear hn1 hn2 hn3 hn4 hn5 hn6
  dsimp only [Lx.lnD] at hd
  refine wpAny_call ?_
  refine enterH (ld := [(a.D, listOf ys.reverse.toArray n), (a.dx2, dictOf [⟨PyData.keyHash w.params "lineno", .str "lineno" a.z2.k1, .int ln tl⟩, ⟨PyData.keyHash w.params "instream", .str "instream" a.z2.k2, .ref a.x1⟩, ⟨PyData.keyHash w.params "whitespace", .str "whitespace" a.z2.k3, .str "\n\t\r " a.z2.t3⟩, ⟨PyData.keyHash w.params "pushback", .str "pushback" a.z2.k4, .ref a.pb2⟩] 4), (a.x2, instObj 108 a.dx2), (a.pb2, listOf #[] np)]) (binds := [("self", .ref a.x2)]) G st (fmc ⟨hD, nD⟩ (fmc ⟨hd, nd⟩ (fmc ⟨h4, n4⟩ (fmc ⟨hp, np2⟩ fmn)))) R.room (by k_is) (by k_is) (BindsTo.of_eq rfl) (locs rfl) ?_ (by decide)
  intro g L h₁ up dn F N X G'
  obtain ⟨pp, loo, mg, mb, T⟩ := G'.T
  have R' := R.deeper
  dsimp only [List.reverse_cons, List.reverse_nil, List.nil_append, List.cons_append, List.length_cons, List.length_nil] at F ⊢
  have X' := X
  have hU := R.units
  (try k_fold)
  refine byGoal fun P9 k9 => ?_
  obtain ⟨o91, fd91, h91, hfd⟩ : ∃ o fd, g.get? 91 = some o ∧ o.data = .func fd := ⟨_, _, X _ _ (by k_is), rfl⟩
  refine k9 ?_
  clear k9 P9
  have hfix : ∀ h m, Fr g L h m → h.get? a.x2 = some (instObj 108 a.dx2) → ∀ p ∈ a.fix w.params, h.get? p.1 = some p.2 ∧ base.get? p.1 = none := by
    have nin : ∀ {b : Addr} {o : Obj}, s.heap.get? b = some o → o.data ≠ (listOf ys.reverse.toArray n).data → o.data ≠ (listOf #[] np).data → o ≠ instObj 108 a.dx2 → (∀ es e, e = 4 → o.data ≠ .dict es e) → g.get? b = some o := by
      intro b o e k1 k2 k3 k4
      refine up b o e fun q => ?_
      simp only [List.map_cons, List.map_nil, List.mem_cons, List.not_mem_nil, or_false] at q
      rcases q with rfl | rfl | rfl | rfl
      · rw [hD] at e; cases e; exact k1 rfl
      · rw [hd] at e; cases e; exact k4 _ _ rfl rfl
      · rw [h4] at e; cases e; exact k3 rfl
      · rw [hp] at e; cases e; exact k2 rfl
    have g1 := nin h1 (by simp [ho9, W.listOf]) (by simp [ho9, W.listOf]) (fun q => by rw [q] at ho9; cases ho9) (by simp [ho9])
    have g2 := nin h2 (by simp [W.listOf]) (by simp [W.listOf]) (fun q => by simp [instObj] at q) (by simp)
    have g3 := nin h3 (by simp [hoc, W.listOf]) (by simp [hoc, W.listOf]) (fun q => by rw [q] at hoc; cases hoc) (by simp [hoc])
    have g6 := nin h6 (by simp [dictOf, W.listOf]) (by simp [dictOf, W.listOf]) (fun q => by simp [dictOf, instObj] at q) (by intro es e he; subst he; simp [dictOf])
    have g5 : g.get? a.x1 = some (instObj 108 a.dx1) := nin h5 (by simp [W.listOf, instObj]) (by simp [W.listOf, instObj]) (fun q => obj_ne h6 hd (by simp [dictOf]) (by simpa [instObj] using q)) (by simp [instObj])
    exact fun h m F hx => fmc ⟨F.keep _ _ g1, n1⟩ (fmc ⟨F.keep _ _ g2, n2⟩ (fmc ⟨F.keep _ _ g3, n3⟩ (fmc ⟨hx, n4⟩ (fmc ⟨F.keep _ _ g5, n5⟩ (fmc ⟨F.keep _ _ g6, n6⟩ fmn)))))
  have bg : ∀ b o, base.get? b = some o → g.get? b = some o := fun b o e => up b o (st b o e) fun q => by
    simp only [List.map_cons, List.map_nil, List.mem_cons, List.not_mem_nil, or_false] at q
    rcases q with rfl | rfl | rfl | rfl
    · rw [nD] at e; cases e
    · rw [nd] at e; cases e
    · rw [n4] at e; cases e
    · rw [np2] at e; cases e
  generalize hRES : lexA 0 txt = RES at h
  have fin : ∀ h' tk t' tl' ys' n' m' acc rest j ld, Fr g L h' m' → News g L h' ld → (∀ p ∈ [(a.D, listOf ys'.reverse.toArray n'), (a.dx2, a.lnD w.params (ln + (j : Nat)) tl'), (a.x2, instObj 108 a.dx2), (a.pb2, listOf #[] np)], p ∈ ld) → RES = (acc, rest, j) → StrsAre ys' (rest.map fun c => S [c]) → ys'.length ≤ 1000 → Q (.str (S acc) t') { s with heap := h', toks := tk } := by
    intro h' tk t' tl' ys' n' m' acc rest j ld F' N' hm e hs' hl'
    subst e
    exact h h' tk t' tl' ys' n' (fun b o e hb => frame_of (skip := [a.D, a.dx2]) up F' (fmc hD (fmc hd (fmc h4 (fmc hp fmn)))) (fmc (.inl (.head _)) (fmc (.inl (.tail _ (.head _))) (fmc (.inr (N' _ (hm _ (.tail _ (.tail _ (.head _))))).1) (fmc (.inr (N' _ (hm _ (.tail _ (.tail _ (.tail _ (.head _)))))).1) fmn)))) b o e hb)
      (N' _ (hm _ (.head _))).1 (N' _ (hm _ (.tail _ (.head _)))).1 hs' hl'
  clear h
  k_extra "KS"
  rename Addr => M
  refine iterK (by assumption) (by assumption) (by k_mem) ?_
  intro I h9 F9 N9 l9
  k_lt l9
  k_extra "KS"
  rename (News _ _ _ _) => N1
  rename (Fr _ _ _ _) => F1
  refine for_rule ?_
  k_extra "KS"
  refine iter_self ⟨_, N1.get (.head _), rfl⟩ ?_
  refine for_ci (L := L) (g := g) (fun k _ m ld => LiveJ w.params a I M _ np ln (fun acc j txt => acc = [] ∧ lexA j txt = RES) k m ld ∨ EndJ w.params a I M np ln RES k m ld) (txt.length + 1) F1 N1 (.inl ⟨ys, n, tl, [], txt, _, 0, by rw [Int.natCast_zero, Int.add_zero]; rfl, rfl, rfl, rfl, hys, hlen, by rw [List.length_nil, Nat.zero_add, ← strs_len hys]; exact hlen, rfl, rfl, hRES⟩) ?_
  rintro k' m ld h' tk' (⟨ys', n', tl', acc, txt', tt, j, rfl, e1, e2, e3, hys', hlen', hal, rfl, rfl, hL⟩ | ⟨n', tl', acc, tt, j, rfl, e1, e2, e3, hR, rfl⟩) F2 N2
  · refine gt_next (k := 0) G (fun b o e => F2.keep b o (bg b o e)) ((R.deeper _).le (by exact Mine.om132)) ok F2 N2 (hfix _ _ F2 (N2.get (.tail _ (.tail _ (.tail _ (.tail _ (.head _))))))) (F2.keep _ _ h91) hfd nD nd hys' hlen' ?_ ?_
    · rintro rfl h3 tk3 n3 tl3 F3 N3 k3
      dsimp only
      k_extra "KS"
      exact fin _ _ _ _ [] n3 m [] [] j _ F3 N3 (fun p hp => .tail _ (.tail _ hp)) hL.symm .nil (Nat.zero_le _)
    · rintro c txt'' rfl h3 tk3 u3 ys3 n3 tl3 F3 N3 k3 hys3 hlen3
      rw [nl_int] at N3
      refine ⟨⟨_, _, rfl⟩, ?_⟩
      dsimp only
      k_extra "KS"
      · rename decide (_ ∈ _) = true => hn
        have hn : c ∈ [10, 9, 13, 32] := of_decide_eq_true hn
        refine ⟨txt''.length + 1, _, _, _, _, Nat.lt_succ_self _, rfl, by assumption, by assumption, .inl ?_⟩
        refine ⟨ys3, n3, tl3, [], txt'', tt, nl c j, rfl, (if_neg (by decide)).trans e1, (if_neg (by decide)).trans e2, (if_neg (by decide)).trans e3, hys3, hlen3, Nat.le_of_succ_le hal, rfl, rfl, ?_⟩
        rw [← hL]
        exact (if_pos hn).symm
      · rename (_ == _) = true => hn
        have hn : c = 34 := by
          have e := S_beq [c] [34]
          rw [show S [34] = Str.ofString "\"" from rfl, hn] at e
          simpa using e.symm
        subst hn
        rename (News _ _ _ _) => N4
        rename (Fr _ _ _ _) => F4
        refine for_rule ?_
        k_extra "KS"
        refine iter_self ⟨_, N4.get (.head _), rfl⟩ ?_
        refine for_ci (L := L) (g := g) (I := I) (fun k _ m ld => LiveJ w.params a I M _ np ln (fun acc j txt => lexQ false acc j txt = RES) k m ld) (txt''.length + 1) F4 N4
          ⟨ys3, n3, tl3, [], txt'', tt, nl 34 j, rfl, (if_neg (by decide)).trans e1, (if_neg (by decide)).trans e2, (if_neg (by decide)).trans e3, hys3, hlen3, Nat.le_of_succ_le hal, rfl, hL⟩ ?_
        intro k5 m5 ld5 h5 tk5 hJa F5 N5
        (try k_fold)
        refine byGoal fun P9 k9 => ?_
        obtain ⟨ys5, n5, tl5, acc5, txt5, tt5, j5, rfl, g1, g2, g3, hys5, hlen5, hal5, rfl, hL5⟩ := hJa
        refine k9 ?_
        clear k9 P9
        refine gt_next (k := 0) G (fun b o e => F5.keep b o (bg b o e)) ((R.deeper _).le (by exact Mine.om132)) ok F5 N5 (hfix _ _ F5 (N5.get (.tail _ (.tail _ (.tail _ (.tail _ (.head _))))))) (F5.keep _ _ h91) hfd nD nd hys5 hlen5 ?_ ?_
        · rintro rfl h6 tk6 n6 tl6 F6 N6 k6
          dsimp only
          k_extra "KS"
          refine ⟨0, _, _, _, _, Nat.succ_pos _, rfl, by assumption, by assumption, .inr ?_⟩
          exact ⟨n6, tl6, acc5, tt5, j5, rfl, g1, g2, g3, hL5.symm, rfl⟩
        · rintro c6 txt6 rfl h6 tk6 u6 ys6 n6 tl6 F6 N6 k6 hys6 hlen6
          rw [nl_int] at N6
          refine ⟨⟨_, _, rfl⟩, ?_⟩
          dsimp only
          k_extra "KS"
          · rename (_ == _) = true => hn
            have hn : c6 = 34 := beq_lit hn
            subst hn
            rename (News _ _ _ _) => N7
            rename (Fr _ _ _ _) => F7
            exact fin _ _ _ _ ys6 n6 _ acc5 txt6 j5 _ F7 N7 (fun p hp => .tail _ (.tail _ hp)) hL5.symm hys6 hlen6
          · rename ¬ (_ == _) = true => hn
            have hn : c6 ≠ 34 := beq_nlit hn
            rename (News _ _ _ _) => N7
            rename (Fr _ _ _ _) => F7
            rw [lexQ_esc _ _ _ _ hn] at hL5
            have el := escP_len c6 j5 txt6
            rw [List.length_cons] at hal5
            refine esc_if (k := 0) (c := c6) (j := j5) (txt := txt6) G (fun b o e => F7.keep b o (bg b o e)) (R.le (by exact Mine.om27)) ok F7 N7 X G' (hfix _ _ F7 (N7.get (.tail _ (.tail _ (.tail _ (.tail _ (.head _))))))) nD nd hys6 hlen6 ((if_neg (by decide)).trans g1) (if_pos rfl) ?_ rfl
            intro h8 tk8 u8 ys8 n8 tl8 m8 F8 k8 e8 N8 hys8 hlen8
            have t8 : m8 "token" = some (.str (S acc5) tt5) := (k8 _ (by decide)).trans ((if_neg (by decide)).trans g3)
            have z1 : (S acc5).length ≤ 1000 := by rw [S_len]; exact Mine.om133 hal5
            have z2 : (S (escP c6 j5 txt6).1).length ≤ 1000 := by rw [S_len]; exact Mine.om134 el.1
            k_extra "KS"
            rename (Fr _ _ _ _) => F9
            rw [S_append] at F9
            refine ⟨(escP c6 j5 txt6).2.1.length + 1, _, _, _, _, by rw [List.length_cons]; exact Mine.om135 el.2.1, rfl, F9, by assumption, ?_⟩
            refine ⟨ys8, n8, tl8, acc5 ++ (escP c6 j5 txt6).1, (escP c6 j5 txt6).2.1, _, (escP c6 j5 txt6).2.2, rfl, (if_neg (by decide)).trans ((k8 _ (by decide)).trans ((if_neg (by decide)).trans g1)), (if_neg (by decide)).trans ((k8 _ (by decide)).trans ((if_neg (by decide)).trans g2)), if_pos rfl, hys8, hlen8, by rw [List.length_append]; exact Mine.om136 hal5 el.2.2, rfl, hL5⟩
      · rename ¬ (_ == _) = true => hn
        have hn : c ≠ 34 := beq_nlit hn
        rename ¬ decide (_ ∈ _) = true => hw
        have hw : c ∉ [10, 9, 13, 32] := fun q => hw (decide_eq_true q)
        rename (News _ _ _ _) => N7
        rename (Fr _ _ _ _) => F7
        rw [lexA_esc _ _ _ hw hn] at hL
        have el := escP_len c j txt''
        rw [List.length_nil, List.length_cons] at hal
        refine esc_if (k := 0) (c := c) (j := j) (txt := txt'') G (fun b o e => F7.keep b o (bg b o e)) (R.le (by exact Mine.om27)) ok F7 N7 X G' (hfix _ _ F7 (N7.get (.tail _ (.tail _ (.tail _ (.tail _ (.head _))))))) nD nd hys3 hlen3 ((if_neg (by decide)).trans e1) (if_pos rfl) ?_ rfl
        intro h8 tk8 u8 ys8 n8 tl8 m8 F8 k8 e8 N8 hys8 hlen8
        have t8 : m8 "token" = some (.str (S []) tt) := (k8 _ (by decide)).trans ((if_neg (by decide)).trans e3)
        have z1 : (S []).length ≤ 1000 := by rw [S_len]; exact Nat.zero_le _
        have z2 : (S (escP c j txt'').1).length ≤ 1000 := by rw [S_len]; exact Mine.om134 el.1
        have f8 : m8 "fiter" = some (.ref I) := (k8 _ (by decide)).trans ((if_neg (by decide)).trans e2)
        k_extra "KS"
        rename (Fr _ _ _ _) => F9
        rename (News _ _ _ _) => N9
        rw [S_append, List.nil_append] at F9
        refine for_rule ?_
        k_extra "KS"
        refine iter_self ⟨_, N9.get (.head _), rfl⟩ ?_
        refine for_ci (L := L) (g := g) (I := I) (fun k _ m ld => LiveJ w.params a I M _ np ln (fun acc j txt => lexB false acc j txt = RES) k m ld) ((escP c j txt'').2.1.length + 1) F9 N9
          ⟨ys8, n8, tl8, (escP c j txt'').1, (escP c j txt'').2.1, _, (escP c j txt'').2.2, rfl, (if_neg (by decide)).trans ((k8 _ (by decide)).trans ((if_neg (by decide)).trans e1)), (if_neg (by decide)).trans f8, if_pos rfl, hys8, hlen8, by exact Mine.om137 hal el.2.2, rfl, hL⟩ ?_
        intro k5 m5 ld5 h5 tk5 hJa F5 N5
        (try k_fold)
        refine byGoal fun P9 k9 => ?_
        obtain ⟨ys5, n5, tl5, acc5, txt5, tt5, j5, rfl, g1, g2, g3, hys5, hlen5, hal5, rfl, hL5⟩ := hJa
        refine k9 ?_
        clear k9 P9
        refine gt_next (k := 0) G (fun b o e => F5.keep b o (bg b o e)) ((R.deeper _).le (by exact Mine.om132)) ok F5 N5 (hfix _ _ F5 (N5.get (.tail _ (.tail _ (.tail _ (.tail _ (.head _))))))) (F5.keep _ _ h91) hfd nD nd hys5 hlen5 ?_ ?_
        · rintro rfl h6 tk6 n6 tl6 F6 N6 k6
          dsimp only
          k_extra "KS"
          refine ⟨0, _, _, _, _, Nat.succ_pos _, rfl, by assumption, by assumption, .inr ?_⟩
          exact ⟨n6, tl6, acc5, tt5, j5, rfl, g1, g2, g3, hL5.symm, rfl⟩
        · rintro c6 txt6 rfl h6 tk6 u6 ys6 n6 tl6 F6 N6 k6 hys6 hlen6
          rw [nl_int] at N6
          refine ⟨⟨_, _, rfl⟩, ?_⟩
          dsimp only
          k_extra "KS"
          · rename decide (_ ∈ _) = true => hn
            have hn : c6 ∈ [10, 9, 13, 32] := of_decide_eq_true hn
            rename (News _ _ _ _) => N7
            rename (Fr _ _ _ _) => F7
            refine fin _ _ _ _ ys6 n6 _ acc5 txt6 (nl c6 j5) _ F7 N7 (fun p hp => .tail _ (.tail _ hp)) ?_ hys6 hlen6
            rw [← hL5]
            exact if_pos hn
          · rename ¬ decide (_ ∈ _) = true => hn
            have hn : c6 ∉ [10, 9, 13, 32] := fun q => hn (decide_eq_true q)
            rename (News _ _ _ _) => N7
            rename (Fr _ _ _ _) => F7
            rw [lexB_esc _ _ _ _ hn] at hL5
            have el := escP_len c6 j5 txt6
            rw [List.length_cons] at hal5
            refine esc_if (k := 0) (c := c6) (j := j5) (txt := txt6) G (fun b o e => F7.keep b o (bg b o e)) (R.le (by exact Mine.om27)) ok F7 N7 X G' (hfix _ _ F7 (N7.get (.tail _ (.tail _ (.tail _ (.tail _ (.head _))))))) nD nd hys6 hlen6 ((if_neg (by decide)).trans g1) (if_pos rfl) ?_ rfl
            intro h8 tk8 u8 ys8 n8 tl8 m8 F8 k8 e8 N8 hys8 hlen8
            have t8 : m8 "token" = some (.str (S acc5) tt5) := (k8 _ (by decide)).trans ((if_neg (by decide)).trans g3)
            have z1 : (S acc5).length ≤ 1000 := by rw [S_len]; exact Mine.om133 hal5
            have z2 : (S (escP c6 j5 txt6).1).length ≤ 1000 := by rw [S_len]; exact Mine.om134 el.1
            k_extra "KS"
            rename (Fr _ _ _ _) => F9
            rw [S_append] at F9
            refine ⟨(escP c6 j5 txt6).2.1.length + 1, _, _, _, _, by rw [List.length_cons]; exact Mine.om135 el.2.1, rfl, F9, by assumption, ?_⟩
            refine ⟨ys8, n8, tl8, acc5 ++ (escP c6 j5 txt6).1, (escP c6 j5 txt6).2.1, _, (escP c6 j5 txt6).2.2, rfl, (if_neg (by decide)).trans ((k8 _ (by decide)).trans ((if_neg (by decide)).trans g1)), (if_neg (by decide)).trans ((k8 _ (by decide)).trans ((if_neg (by decide)).trans g2)), if_pos rfl, hys8, hlen8, by rw [List.length_append]; exact Mine.om136 hal5 el.2.2, rfl, hL5⟩
  · refine ci_next_end (N2.get (.head _)) R.h ?_
    intro h3 k3
    have F3 := fr_stays F2 k3
    have N3 := news_stays N2 k3
    dsimp only
    k_extra "KS"
    exact fin _ _ _ _ [] n' m acc [] j _ F3 N3 (fun p hp => .tail _ (.tail _ hp)) hR .nil (Nat.zero_le _)
end
end Mine
end
section
set_option maxHeartbeats 1000000
namespace Mine
example : True := by
  k_with_none
  (k_with "STOPS" => (first | (with_reducible first | show wpAny _ _ (pyIter _) _ _ _ | show wpAny _ _ (exec (Stmt.While _ _ _ _) _) _ _ _ | show wpAny _ _ (exec (Stmt.For _ _ _ _ _) _) _ _ _ | show wpAny _ _ (call (Value.builtin "str.join") _ _) _ _ _ | show EachEnd _ _ _ _ _ _ _ | show TurnEnd _ _ _ _ _ _ _ _ _ | show TurnEndT _ _ _ _ _ _ _ _ _ | show WhileEnd _ _ _ _ _ _ _ _ | show EltEnd _ _ _ _ _ _ _ _ | show EnumEnd _ _ _ _ _ _ _ _) | fail "row"))
  (k_with "SZ" => (first | (first | decide | exact Nat.le_trans (by assumption) (by decide) | exact Nat.le_trans (Nat.le_of_eq (by assumption)) (by decide) | (show 1 ≤ _; decide) | (simp only [str_len_add, *]; first | done | decide | omega)) | fail "row"))
  (k_with "eval Name" => (first | ((k_dflt (((with_reducible refine' ldEp (by k_dflt (with_reducible assumption)) (by k_dflt (rfl)) (by k_dflt (rfl)) (by k_dflt (rfl)) (by k_dflt (decide)) (by k_dflt (first | rfl | assumption)) ?_)); k_whole))) | fail "row"))
  (k_with "loadName" => (first | ((k_dflt (((with_reducible refine' ldnEp (by k_dflt (with_reducible assumption)) (by k_dflt (rfl)) (by k_dflt (rfl)) (by k_dflt (rfl)) (by k_dflt (first | rfl | assumption)) ?_)); k_whole))) | fail "row"))
  (k_with "eval Name" => (first | ((k_dflt (((with_reducible refine' ldKp (by k_dflt (with_reducible assumption)) (by k_dflt (rfl)) (by k_dflt (rfl)) (by k_dflt (rfl)) (by k_dflt (decide)) (by k_dflt (k_mem)) (by k_dflt (assumption)) ?_)); k_whole))) | fail "row"))
  (k_with "eval ListComp" => (first | ((k_dflt ((with_reducible refine' comp_rule (by k_dflt (exact rfl)) ?_ (by k_dflt (rfl)) (by k_dflt (decide)) (by k_dflt (intro _; rfl)))))) | fail "row"))
  (k_with "binaryOp Add str str" => (first | ((k_dflt ((with_reducible refine addSN (by k_dflt (k_extra "SZ")) (by k_dflt (k_extra "SZ")) ?_); intro t9 tk9; revert t9 tk9; intro _ _))) | fail "row"))
  (k_with "compareOp In str str" => (first | (((with_reducible refine inC ?_))) | fail "row"))
  (k_with "KS" => (first | (repeat' (first | ((with_reducible show wpAny _ _ (execs _ _) _ _ _); k_fold) | (k_unfold; (try dsimp only)) | ((fail_if_success (k_extra "STOPS")); walk1) | dsimp only)) | fail "row"))
  (k_with "ite" => (first | ((k_dflt first | (k_closed; first | ((with_reducible refine ite_pos (by k_dflt (decide)) ?_)) | ((with_reducible refine ite_neg (by k_dflt (decide)) ?_))) | ((with_reducible refine split_decN ?_ ?_) <;> intro _))) | fail "row"))
  (k_with "LATS" => (first | (repeat (rename (Later _ _) => la9; have lb9 := leN la9.1; clear la9; (try simp only at lb9))) | fail "row"))
  (k_with "eval Dict" => (first | ((k_dflt ((refine' kdn_int (by k_dflt (rfl)) (by k_dflt (k_asm)) (by k_dflt (first | k_asm | exact News.nil)) (by k_dflt (exact TopRead.nolimit (by k_asm))) (by k_dflt (rfl)) (by k_dflt (rfl)) (by k_dflt (exact List.cons_ne_nil _ _)) (by k_dflt (exact Nat.le_of_ble_eq_true rfl)) ?_); intro d' h' o' F' N' l1 lo' hd'; (try k_lt l1); revert d' h' o' F' N' l1 lo' hd'; intro _ _ _ _ _ _ _ _))) | fail "row"))
  (k_with "binaryOp Add ref ref" => (first | ((k_dflt ((with_reducible refine' addL (by k_dflt (assumption)) (by k_dflt (assumption)) (by k_dflt (is_list)) (by k_dflt (is_list)) (by k_dflt ((simp only [List.length_append, List.length_cons, List.length_nil, sizeLine]; omega))) ?_); intro D9 h9 F9 N9 l9; (try k_lt l9); revert D9 h9 F9 N9 l9; intro _ _ _ _ _))) | fail "row"))
  (k_with "storeName" => (first | ((k_dflt (((with_reducible refine' stKp (by k_dflt (with_reducible assumption)) (by k_dflt (with_reducible assumption)) (by k_dflt (rfl)) (by k_dflt (rfl)) (by k_dflt (rfl)) (by k_dflt (k_updF)) (by k_dflt (assumption)) ?_)); k_whole; intro h9 o9 F9 N9 d9; (try dsimp only at N9); revert h9 o9 F9 N9 d9; intro _ _ _ _ _))) | fail "row"))
  (k_with "JUNK" => (first | (repeat (first | (with_reducible show Str; exact Str.ofString "") | (with_reducible show Value; exact Value.none) | (with_reducible show List (Str × Addr); exact []) | (with_reducible show Addr; exact 0))) | fail "row"))
  (k_with "exec Assign cons ListComp" => (first | ((k_dflt ((with_reducible refine' comp_assign (by k_dflt (exact rfl)) (by k_dflt (rfl)) (by k_dflt (rfl)) (by k_dflt (rfl)) ?_ (by k_dflt (rfl)) (by k_dflt (decide)) (by k_dflt (intro _; rfl)))))) | fail "row"))
  (k_with "SUBL" => (first | (((with_reducible show wpAny _ _ (subscriptTail _ _ (Value.ref _) (Value.int _ _)) _ _ _); k_dflt ((with_reducible refine' subL (by k_dflt (is_list)) (by k_dflt (first | exact rfl | exact (rfl : (0:Int) = ((0:Nat):Int)) | exact (rfl : (1:Int) = ((1:Nat):Int)) | exact (rfl : (2:Int) = ((2:Nat):Int)) | exact (rfl : (3:Int) = ((3:Nat):Int)))) (by k_dflt (first | assumption | rfl)) (by k_dflt (first | decide | omega)) ?_ (by k_dflt (with_unfolding_all rfl)))))) | fail "row"))
  (k_with "subscriptTail" => (first | ((k_extra "SUBL")) | fail "row"))
  (k_with "subscriptTail Name Name ref int" => (first | ((k_extra "SUBL")) | fail "row"))
  (k_with "subscriptTail Name Constant ref int" => (first | ((k_extra "SUBL")) | fail "row"))
  (k_with "subscriptTail" => (first | (((with_reducible show wpAny _ _ (subscriptTail _ _ (Value.ref _) (Value.int _ _)) _ _ _); k_dflt ((with_reducible refine' getI (by k_dflt (with_reducible assumption)) (by k_dflt (k_mem)) (by k_dflt (assumption)) (by k_dflt (assumption)) ?_ (by k_dflt (with_unfolding_all rfl)))))) | fail "row"))
  trivial
example : True := by
  (k_with "PJ" => (first | ((first | exact hC.1 | exact hC.2.1 | exact hC.2.2.1 | exact hC.2.2.2.1 | exact hC.2.2.2.2.1 | exact hC.2.2.2.2.2.1 | exact hC.2.2.2.2.2.2.1 | exact hC.2.2.2.2.2.2.2.1 | exact hC.2.2.2.2.2.2.2.2.1 | exact hC.2.2.2.2.2.2.2.2.2.1 | exact hC.2.2.2.2.2.2.2.2.2.2.1 | exact hC.2.2.2.2.2.2.2.2.2.2.2.1 | exact hC.2.2.2.2.2.2.2.2.2.2.2.2.1 | exact hC.2.2.2.2.2.2.2.2.2.2.2.2.2.1 | exact hC.2 | exact hC.2.2 | exact hC.2.2.2 | exact hC.2.2.2.2 | exact hC.2.2.2.2.2 | exact hC.2.2.2.2.2.2 | exact hC.2.2.2.2.2.2.2 | exact hC.2.2.2.2.2.2.2.2 | exact hC.2.2.2.2.2.2.2.2.2 | exact hC.2.2.2.2.2.2.2.2.2.2 | exact hC.2.2.2.2.2.2.2.2.2.2.2 | exact hC.2.2.2.2.2.2.2.2.2.2.2.2 | exact hC.2.2.2.2.2.2.2.2.2.2.2.2.2)) | fail "row"))
  (k_with "LT" => (first | (((repeat (first | exact Nat.lt_succ_self _ | (with_reducible assumption) | refine Nat.lt_succ_of_lt ?_)); done)) | fail "row"))
  (k_with "NE" => (first | ((refine neN ?_; (try dsimp only); first | exact Hold.out (by assumption) | exact Nat.ne_of_lt (by assumption) | exact Nat.ne_of_gt (by assumption) | (refine Nat.ne_of_lt ?_; k_extra "LT"; done) | (refine Nat.ne_of_gt ?_; k_extra "LT"; done) | exact Nat.ne_of_gt (lt2 (by assumption) (fun hC => by k_extra "PJ")) | exact Nat.ne_of_lt (lt2 (by assumption) (fun hC => by k_extra "PJ")) | exact ne2 (by assumption) (fun hC => by k_extra "PJ") | exact Ne.symm (ne2 (by assumption) (fun hC => by k_extra "PJ")) | exact Nat.ne_of_gt (ltM (by assumption) (by k_mem)) | exact Nat.ne_of_gt (ltM (Hold.out (by assumption)) (by k_mem)))) | fail "row"))
  trivial

example : True := by
  (k_with "STOPS" => (first | (with_reducible show wpAny _ _ (call (Value.builtin "list.pop") _ _) _ _ _) | fail "row"))
  trivial
section
variable {w : World} {base : Heap} {A : Around} {E : Value → Shared → Prop} {s : Shared} {Q : Value → Shared → Prop} {k : Nat} {t : Tok}
theorem c_getPush {x dx pb : Addr} {v : Value} {vs : List Value} {n nd : Nat} {z : LexK} {ln inst : Value} (G : G0 w base) (st : base.StaysIn s.heap) (R : Rm A (k + 2)) (hx : s.heap.get? x = some (instObj 108 dx)) (hdx : s.heap.get? dx = some (dictOf (lexD w.params z ln inst pb) nd)) (hpb : s.heap.get? pb = some (listOf (v :: vs).toArray n)) (nx : base.get? x = none) (ndx : base.get? dx = none) (npb : base.get? pb = none) (hlen : vs.length ≤ 1000)
   (h : ∀ h' tk, (∀ b o, s.heap.get? b = some o → b ≠ pb → h'.get? b = some o) → h'.get? pb = some (listOf vs.toArray (n + 1)) → Q v { s with heap := h', toks := tk }) :
   wpAny (model PG w) A (call (.ref 98) [.ref x]) Q E s := by
  refine wpAny_call ?_
  refine enterH (ld := [(pb, listOf (v :: vs).toArray n), (x, instObj 108 dx), (dx, dictOf (lexD w.params z ln inst pb) nd)]) (binds := [("self", .ref x)]) G st (fmc ⟨hpb, npb⟩ (fmc ⟨hx, nx⟩ (fmc ⟨hdx, ndx⟩ fmn))) R.room (by k_is) (by k_is) (BindsTo.of_eq rfl) (locs rfl) ?_ (by decide)
  intro g L h₁ up dn F N X G'
  obtain ⟨pp, loo, mg, mb, T⟩ := G'.T
  have R' := R.deeper
  dsimp only [List.reverse_cons, List.reverse_nil, List.nil_append, List.cons_append, List.length_cons, List.length_nil] at F ⊢
  have X' := X
  have hU := R.units
  unfold lexD at N
  have q1 := obj_ne hx hpb (by simp [W.listOf, instObj])
  have q2 := obj_ne hdx hpb (by simp [W.listOf, dictOf])
  k_extra "KS"
  refine' kl_popAt (its := (v :: vs).toArray) (k := 0) (p := []) (q := vs) (y := v) (by assumption) (by assumption) rfl (by simp [seqIndex?]) rfl ?U ?z ?_
  case U => k_upd
  case z => show vs.length + 1 ≤ _; exact Nat.le_trans (Nat.succ_le_succ hlen) (by decide)
  intro h' F9 N9
  exact h _ _ (fun b o e hb => frame_of (skip := [pb]) up F9 (fmc hpb (fmc hx (fmc hdx fmn))) (fmc (.inl (.head _)) fun p hp => .inr (N9 p (.tail _ hp)).1) b o e (fun q => hb (List.mem_singleton.mp q))) (N9.get (.head _))
end
end Mine
end
section
set_option maxHeartbeats 1000000
namespace Mine
example : True := by
  k_with_none
  (k_with "STOPS" => (first | (with_reducible first | show wpAny _ _ (pyIter _) _ _ _ | show wpAny _ _ (exec (Stmt.While _ _ _ _) _) _ _ _ | show wpAny _ _ (exec (Stmt.For _ _ _ _ _) _) _ _ _ | show wpAny _ _ (call (Value.builtin "str.join") _ _) _ _ _ | show EachEnd _ _ _ _ _ _ _ | show TurnEnd _ _ _ _ _ _ _ _ _ | show TurnEndT _ _ _ _ _ _ _ _ _ | show WhileEnd _ _ _ _ _ _ _ _ | show EltEnd _ _ _ _ _ _ _ _ | show EnumEnd _ _ _ _ _ _ _ _) | fail "row"))
  (k_with "SZ" => (first | (first | decide | exact Nat.le_trans (by assumption) (by decide) | exact Nat.le_trans (Nat.le_of_eq (by assumption)) (by decide) | (show 1 ≤ _; decide) | (simp only [str_len_add, *]; first | done | decide | omega)) | fail "row"))
  (k_with "eval Name" => (first | ((k_dflt (((with_reducible refine' ldEp (by k_dflt (with_reducible assumption)) (by k_dflt (rfl)) (by k_dflt (rfl)) (by k_dflt (rfl)) (by k_dflt (decide)) (by k_dflt (first | rfl | assumption)) ?_)); k_whole))) | fail "row"))
  (k_with "loadName" => (first | ((k_dflt (((with_reducible refine' ldnEp (by k_dflt (with_reducible assumption)) (by k_dflt (rfl)) (by k_dflt (rfl)) (by k_dflt (rfl)) (by k_dflt (first | rfl | assumption)) ?_)); k_whole))) | fail "row"))
  (k_with "eval Name" => (first | ((k_dflt (((with_reducible refine' ldKp (by k_dflt (with_reducible assumption)) (by k_dflt (rfl)) (by k_dflt (rfl)) (by k_dflt (rfl)) (by k_dflt (decide)) (by k_dflt (k_mem)) (by k_dflt (assumption)) ?_)); k_whole))) | fail "row"))
  (k_with "eval ListComp" => (first | ((k_dflt ((with_reducible refine' comp_rule (by k_dflt (exact rfl)) ?_ (by k_dflt (rfl)) (by k_dflt (decide)) (by k_dflt (intro _; rfl)))))) | fail "row"))
  (k_with "binaryOp Add str str" => (first | ((k_dflt ((with_reducible refine addSN (by k_dflt (k_extra "SZ")) (by k_dflt (k_extra "SZ")) ?_); intro t9 tk9; revert t9 tk9; intro _ _))) | fail "row"))
  (k_with "compareOp In str str" => (first | (((with_reducible refine inC ?_))) | fail "row"))
  (k_with "KS" => (first | (repeat' (first | ((with_reducible show wpAny _ _ (execs _ _) _ _ _); k_fold) | (k_unfold; (try dsimp only)) | ((fail_if_success (k_extra "STOPS")); walk1) | dsimp only)) | fail "row"))
  (k_with "ite" => (first | ((k_dflt first | (k_closed; first | ((with_reducible refine ite_pos (by k_dflt (decide)) ?_)) | ((with_reducible refine ite_neg (by k_dflt (decide)) ?_))) | ((with_reducible refine split_decN ?_ ?_) <;> intro _))) | fail "row"))
  (k_with "LATS" => (first | (repeat (rename (Later _ _) => la9; have lb9 := leN la9.1; clear la9; (try simp only at lb9))) | fail "row"))
  (k_with "eval Dict" => (first | ((k_dflt ((refine' kdn_int (by k_dflt (rfl)) (by k_dflt (k_asm)) (by k_dflt (first | k_asm | exact News.nil)) (by k_dflt (exact TopRead.nolimit (by k_asm))) (by k_dflt (rfl)) (by k_dflt (rfl)) (by k_dflt (exact List.cons_ne_nil _ _)) (by k_dflt (exact Nat.le_of_ble_eq_true rfl)) ?_); intro d' h' o' F' N' l1 lo' hd'; (try k_lt l1); revert d' h' o' F' N' l1 lo' hd'; intro _ _ _ _ _ _ _ _))) | fail "row"))
  (k_with "binaryOp Add ref ref" => (first | ((k_dflt ((with_reducible refine' addL (by k_dflt (assumption)) (by k_dflt (assumption)) (by k_dflt (is_list)) (by k_dflt (is_list)) (by k_dflt ((simp only [List.length_append, List.length_cons, List.length_nil, sizeLine]; omega))) ?_); intro D9 h9 F9 N9 l9; (try k_lt l9); revert D9 h9 F9 N9 l9; intro _ _ _ _ _))) | fail "row"))
  (k_with "storeName" => (first | ((k_dflt (((with_reducible refine' stKp (by k_dflt (with_reducible assumption)) (by k_dflt (with_reducible assumption)) (by k_dflt (rfl)) (by k_dflt (rfl)) (by k_dflt (rfl)) (by k_dflt (k_updF)) (by k_dflt (assumption)) ?_)); k_whole; intro h9 o9 F9 N9 d9; (try dsimp only at N9); revert h9 o9 F9 N9 d9; intro _ _ _ _ _))) | fail "row"))
  (k_with "JUNK" => (first | (repeat (first | (with_reducible show Str; exact Str.ofString "") | (with_reducible show Value; exact Value.none) | (with_reducible show List (Str × Addr); exact []) | (with_reducible show Addr; exact 0))) | fail "row"))
  (k_with "exec Assign cons ListComp" => (first | ((k_dflt ((with_reducible refine' comp_assign (by k_dflt (exact rfl)) (by k_dflt (rfl)) (by k_dflt (rfl)) (by k_dflt (rfl)) ?_ (by k_dflt (rfl)) (by k_dflt (decide)) (by k_dflt (intro _; rfl)))))) | fail "row"))
  (k_with "SUBL" => (first | (((with_reducible show wpAny _ _ (subscriptTail _ _ (Value.ref _) (Value.int _ _)) _ _ _); k_dflt ((with_reducible refine' subL (by k_dflt (is_list)) (by k_dflt (first | exact rfl | exact (rfl : (0:Int) = ((0:Nat):Int)) | exact (rfl : (1:Int) = ((1:Nat):Int)) | exact (rfl : (2:Int) = ((2:Nat):Int)) | exact (rfl : (3:Int) = ((3:Nat):Int)))) (by k_dflt (first | assumption | rfl)) (by k_dflt (first | decide | omega)) ?_ (by k_dflt (with_unfolding_all rfl)))))) | fail "row"))
  (k_with "subscriptTail" => (first | ((k_extra "SUBL")) | fail "row"))
  (k_with "subscriptTail Name Name ref int" => (first | ((k_extra "SUBL")) | fail "row"))
  (k_with "subscriptTail Name Constant ref int" => (first | ((k_extra "SUBL")) | fail "row"))
  (k_with "subscriptTail" => (first | (((with_reducible show wpAny _ _ (subscriptTail _ _ (Value.ref _) (Value.int _ _)) _ _ _); k_dflt ((with_reducible refine' getI (by k_dflt (with_reducible assumption)) (by k_dflt (k_mem)) (by k_dflt (assumption)) (by k_dflt (assumption)) ?_ (by k_dflt (with_unfolding_all rfl)))))) | fail "row"))
  trivial
example : True := by
  (k_with "PJ" => (first | ((first | exact hC.1 | exact hC.2.1 | exact hC.2.2.1 | exact hC.2.2.2.1 | exact hC.2.2.2.2.1 | exact hC.2.2.2.2.2.1 | exact hC.2.2.2.2.2.2.1 | exact hC.2.2.2.2.2.2.2.1 | exact hC.2.2.2.2.2.2.2.2.1 | exact hC.2.2.2.2.2.2.2.2.2.1 | exact hC.2.2.2.2.2.2.2.2.2.2.1 | exact hC.2.2.2.2.2.2.2.2.2.2.2.1 | exact hC.2.2.2.2.2.2.2.2.2.2.2.2.1 | exact hC.2.2.2.2.2.2.2.2.2.2.2.2.2.1 | exact hC.2 | exact hC.2.2 | exact hC.2.2.2 | exact hC.2.2.2.2 | exact hC.2.2.2.2.2 | exact hC.2.2.2.2.2.2 | exact hC.2.2.2.2.2.2.2 | exact hC.2.2.2.2.2.2.2.2 | exact hC.2.2.2.2.2.2.2.2.2 | exact hC.2.2.2.2.2.2.2.2.2.2 | exact hC.2.2.2.2.2.2.2.2.2.2.2 | exact hC.2.2.2.2.2.2.2.2.2.2.2.2 | exact hC.2.2.2.2.2.2.2.2.2.2.2.2.2)) | fail "row"))
  (k_with "LT" => (first | (((repeat (first | exact Nat.lt_succ_self _ | (with_reducible assumption) | refine Nat.lt_succ_of_lt ?_)); done)) | fail "row"))
  (k_with "NE" => (first | ((refine neN ?_; (try dsimp only); first | exact Hold.out (by assumption) | exact Nat.ne_of_lt (by assumption) | exact Nat.ne_of_gt (by assumption) | (refine Nat.ne_of_lt ?_; k_extra "LT"; done) | (refine Nat.ne_of_gt ?_; k_extra "LT"; done) | exact Nat.ne_of_gt (lt2 (by assumption) (fun hC => by k_extra "PJ")) | exact Nat.ne_of_lt (lt2 (by assumption) (fun hC => by k_extra "PJ")) | exact ne2 (by assumption) (fun hC => by k_extra "PJ") | exact Ne.symm (ne2 (by assumption) (fun hC => by k_extra "PJ")) | exact Nat.ne_of_gt (ltM (by assumption) (by k_mem)) | exact Nat.ne_of_gt (ltM (Hold.out (by assumption)) (by k_mem)))) | fail "row"))
  trivial

theorem listS {w : World} {A : Around} {E : Value → Shared → Prop} {s : Shared} {g : Heap} {L : Addr} {m : Str → Option Value} {Q : Value → Shared → Prop} {l : List Nat} {t : Tok} {ld : List (Addr × Obj)} (F : Fr g L s.heap m) (N : News g L s.heap ld) (hh : A.handled = none) (hl : l.length ≤ sizeLine)
    (h : ∀ D h' tk vs n, Fr g L h' m → News g L h' ((D, listOf vs n) :: ld) → (∀ p ∈ ld, p.1 < D) → StrsAre vs.toList (l.map fun c => S [c]) → vs.size = l.length → Q (.ref D) { s with heap := h', toks := tk }) :
    wpAny (model PG w) A (call (.type "list") [.str (S l) t]) Q E s := by
  have hc : (S l).cps.size = l.length := S_len l
  refine call_list_str hh (S l) t (hn := by rw [hc]; exact hl) fun h' tk acc' c' hk hS' hacc => ?_
  have hk' : s.heap.StaysIn h' := hk
  refine h _ h' tk acc' c' (fr_stays F hk') (news_cons (news_stays N hk') F (fresh_of (Nat.le_refl _)) hS') (fun p hp => Heap.lt_size (N p hp).1) ?_ (by rw [hacc.1, hc])
  have key : ∀ (ys : List Value) (l : List Nat), ys.length = l.length → (∀ (j : Nat) (v : Value), ys[j]? = some v → ∃ (c : Nat) (u : Tok), l[j]? = some c ∧ v = .str (S [c]) u) → StrsAre ys (l.map fun c => S [c]) := by
    intro ys
    induction ys with
    | nil => intro l hl _; rw [List.eq_nil_of_length_eq_zero hl.symm]; exact .nil
    | cons y ys ih =>
      intro l hl hy
      match l, hl with
      | c :: l, hl =>
        (try k_fold)
        refine byGoal fun P9 k9 => ?_
        obtain ⟨c', u, e, rfl⟩ := hy 0 y rfl
        refine k9 ?_
        clear k9 P9
        cases e
        exact .cons _ _ (ih l (by simpa using hl) fun j v e => by simpa using hy (j + 1) v (by simpa using e))
  refine key _ _ (by rw [Array.length_toList, hacc.1, hc]) fun j v hv => ?_
  (try k_fold)
  refine byGoal fun P9 k9 => ?_
  obtain ⟨c, u, e, rfl⟩ := hacc.2 j v (by simpa using hv)
  refine k9 ?_
  clear k9 P9
  exact ⟨c, u, by simpa using e, rfl⟩
example : True := by
  (k_with "call type:list" => (first | ((k_dflt ((with_reducible refine' listS (by k_dflt (assumption)) (by k_dflt (assumption)) (by k_dflt (exact Rm.h (Rm.deeper (by assumption) _))) (by k_dflt (exact Nat.le_trans (by assumption) (by decide))) ?_); intro D9 h9 tk9 vs9 n9 F9 N9 l9 hv9 hz9; (try k_lt l9); revert D9 h9 tk9 vs9 n9 F9 N9 l9 hv9 hz9; intro _ _ _ _ _ _ _ _ _ _))) | fail "row"))
  (k_with "call builtin:list.reverse" => (first | ((k_dflt ((refine' reverse_head (by k_dflt (assumption)) (by k_dflt (assumption)) (by k_dflt (k_all)) ?_ (by k_dflt (exact Nat.le_trans (Nat.le_of_eq (by assumption)) (Nat.le_trans (by assumption) (by decide))))); intro h9 F9 N9; revert h9 F9 N9; intro _ _ _))) | fail "row"))
  trivial
theorem Rm.under {A : Around} {k : Nat} {C : Addr} {vals : List Value} {kw : List (Str × Value)} (R : Rm A (k + 1)) : Rm (A.under (.builtin "type.__call__" ⟨.ref C :: vals, kw⟩)) k := by
  (try k_fold)
  refine byGoal fun P9 k9 => ?_
  obtain ⟨d, u, h⟩ := R
  refine k9 ?_
  clear k9 P9
  exact ⟨by show A.depth + 1 + k < _; exact Mine.om1 d, by show A.units + 1 + 8 * k < _; exact Mine.om4 u, h⟩
theorem lexer_end {w : World} {s : Shared} {Q : Value → Shared → Prop} {g h8 : Heap} {L : Addr} {m : Str → Option Value} {ys : List Value} {l : List Nat} {pb2 x2 dx2 x1 dx1 pb1 f c D cl : Addr} {z2 z1 : LexK} {t2 t1 tr tq : Tok} {o1 oc o9 o124 : Obj} {dc pm ct : Value} {vs : Array Value} {n tk : Nat}
    (up : ∀ (b : Addr) (o : Obj), s.heap.get? b = some o → ¬b ∈ List.map (fun x => x.fst) [((124 : Addr), tabObj #[])] → g.get? b = some o) (F8 : Fr g L h8 m)
    (N8 : News g L h8 [(pb2, listOf #[] 0), (x2, instObj 108 dx2), (dx2, dictOf (lexD w.params z2 (.int 1 t2) (.ref x1) pb2) 4), (pb1, o1), (x1, instObj 108 dx1), (dx1, dictOf (lexD w.params z1 (.int 1 t1) .none pb1 ++ [⟨PyData.keyHash w.params "read", .str "read" tr, .ref f⟩]) 5), (f, giveObj cl dc pm c ct), (c, oc), (D, listOf ys.reverse.toArray n), (cl, o9), (124, o124)])
    (d1 : oc.data = .fields vs) (d2 : vs[1]? = some (.str giveQ tq)) (d9 : o9.data = .cell (some (.ref D))) (hne : @Ne Nat D pb2)
    (hall : ∀ p ∈ [(pb2, listOf #[] 0), (x2, instObj 108 dx2), (dx2, dictOf (lexD w.params z2 (.int 1 t2) (.ref x1) pb2) 4), (pb1, o1), (x1, instObj 108 dx1), (dx1, dictOf (lexD w.params z1 (.int 1 t1) .none pb1 ++ [⟨PyData.keyHash w.params "read", .str "read" tr, .ref f⟩]) 5), (f, giveObj cl dc pm c ct), (c, oc), (D, listOf ys.reverse.toArray n), (cl, o9)], @Ne Nat p.1 124)
    (hys : StrsAre ys (l.map fun c => S [c]))
    (h : ∀ (a : Lx) h' tk tl ys n, (∀ b o, s.heap.get? b = some o → b ≠ 124 → h'.get? b = some o) → a.Ok → (∀ p ∈ a.fix w.params, h'.get? p.1 = some p.2 ∧ s.heap.get? p.1 = none) → StrsAre ys (l.map fun c => S [c]) →
      h'.get? a.D = some (listOf ys.reverse.toArray n) → s.heap.get? a.D = none → h'.get? a.dx2 = some (dictOf (lexD w.params a.z2 (.int 1 tl) (.ref a.x1) a.pb2) 4) → s.heap.get? a.dx2 = none → h'.get? a.pb2 = some (listOf #[] 0) → s.heap.get? a.pb2 = none → h'.get? 124 = some o124 → Q (.ref a.x2) { s with heap := h', toks := tk }) :
    Q (.ref x2) { s with heap := h8, toks := tk } := by
  have fr : ∀ p ∈ [(pb2, listOf #[] 0), (x2, instObj 108 dx2), (dx2, dictOf (lexD w.params z2 (.int 1 t2) (.ref x1) pb2) 4), (pb1, o1), (x1, instObj 108 dx1), (dx1, dictOf (lexD w.params z1 (.int 1 t1) .none pb1 ++ [⟨PyData.keyHash w.params "read", .str "read" tr, .ref f⟩]) 5), (f, giveObj cl dc pm c ct), (c, oc), (D, listOf ys.reverse.toArray n), (cl, o9)], h8.get? p.1 = some p.2 ∧ s.heap.get? p.1 = none := fun p hp => by
    have hp' : p ∈ [(pb2, listOf #[] 0), (x2, instObj 108 dx2), (dx2, dictOf (lexD w.params z2 (.int 1 t2) (.ref x1) pb2) 4), (pb1, o1), (x1, instObj 108 dx1), (dx1, dictOf (lexD w.params z1 (.int 1 t1) .none pb1 ++ [⟨PyData.keyHash w.params "read", .str "read" tr, .ref f⟩]) 5), (f, giveObj cl dc pm c ct), (c, oc), (D, listOf ys.reverse.toArray n), (cl, o9)] ++ [(124, o124)] := List.mem_append_left _ hp
    exact ⟨(N8 p hp').1, fresh_ld up (N8 p hp').2.2 (fun q => hall p hp (by simpa using q))⟩
  refine h ⟨x2, dx2, x1, dx1, f, cl, c, D, pb2, pb1, dc, pm, ct, o9, oc, vs, tq, tr, t1, z1, z2⟩ h8 tk t2 ys n (fun b o e hb => F8.keep b o (up b o e (by simpa using hb))) ⟨d1, d2, d9, hne⟩ ?_ hys ?_ ?_ ?_ ?_ ?_ ?_ (N8 _ (List.mem_append_right [(pb2, listOf #[] 0), (x2, instObj 108 dx2), (dx2, dictOf (lexD w.params z2 (.int 1 t2) (.ref x1) pb2) 4), (pb1, o1), (x1, instObj 108 dx1), (dx1, dictOf (lexD w.params z1 (.int 1 t1) .none pb1 ++ [⟨PyData.keyHash w.params "read", .str "read" tr, .ref f⟩]) 5), (f, giveObj cl dc pm c ct), (c, oc), (D, listOf ys.reverse.toArray n), (cl, o9)] (.head _))).1
  · exact fmc (fr _ (by k_mem)) (fmc (fr _ (by k_mem)) (fmc (fr _ (by k_mem)) (fmc (fr _ (by k_mem)) (fmc (fr _ (by k_mem)) (fmc (fr _ (by k_mem)) fmn)))))
  · exact (fr (D, _) (by k_mem)).1
  · exact (fr (D, listOf ys.reverse.toArray n) (by k_mem)).2
  · exact (fr (dx2, _) (by k_mem)).1
  · exact (fr (dx2, dictOf (lexD w.params z2 (.int 1 t2) (.ref x1) pb2) 4) (by k_mem)).2
  · exact (fr (pb2, _) (by k_mem)).1
  · exact (fr (pb2, listOf #[] 0) (by k_mem)).2
section
variable {w : World} {base : Heap} {A : Around} {E : Value → Shared → Prop} {s : Shared} {Q : Value → Shared → Prop} {k : Nat} {t : Tok}
theorem c_lexer {p : Program} {loose : List Str} {mean : ExcName → Option Value} {mg₀ mb₀ : Str → Option Value} {l : List Nat} (G : G0 w base) (TT : Top p loose mean mg₀ mb₀ base) (st : base.StaysIn s.heap) (R : Rm A (k + 4)) (hl : l.length ≤ 1000)
   (htab : s.heap.get? 124 = some (tabObj #[])) (hbt : base.get? 124 = none)
   (h : ∀ (a : Lx) h' tk tl ys n ps, (∀ b o, s.heap.get? b = some o → b ≠ 124 → h'.get? b = some o) → a.Ok → (∀ p ∈ a.fix w.params, h'.get? p.1 = some p.2 ∧ s.heap.get? p.1 = none) → StrsAre ys (l.map fun c => S [c]) →
      h'.get? a.D = some (listOf ys.reverse.toArray n) → s.heap.get? a.D = none → h'.get? a.dx2 = some (dictOf (lexD w.params a.z2 (.int 1 tl) (.ref a.x1) a.pb2) 4) → s.heap.get? a.dx2 = none → h'.get? a.pb2 = some (listOf #[] 0) → s.heap.get? a.pb2 = none → h'.get? 124 = some (tabObj ps) → Q (.ref a.x2) { s with heap := h', toks := tk }) :
   wpAny (model PG w) A (call (.ref 129) [.str (S l) t]) Q E s := by
  refine wpAny_call ?_
  refine enterC (ld := [(124, tabObj #[])]) (binds := [("text", .str (S l) t)]) G st (fun p hp => by rw [List.mem_singleton.mp hp]; exact ⟨htab, hbt⟩) R.room (by k_is) (by k_is) (BindsTo.of_eq rfl) rfl ?_ (by decide)
  intro g L h₁ tk₁ cells up dn htk₁ F N Y lL X G'
  obtain ⟨pp, loo, mg, mb, T⟩ := G'.T
  have R' := R.deeper
  first | (obtain ⟨o1, hE, d1⟩ := CellsAre.one Y; subst hE) | (obtain ⟨o1, o2, hE, d1, d2⟩ := CellsAre.two Y; subst hE) | (obtain ⟨o1, o2, o3, hE, d1, d2, d3⟩ := CellsAre.three Y; subst hE) | (obtain ⟨o1, o2, o3, o4, hE, d1, d2, d3, d4⟩ := CellsAre.four Y; subst hE)
  (try simp only [List.cons_append, List.nil_append] at N)
  have X' := X
  have TG := TT.keeps (h' := g) (fun b o e => up b o (st b o e) (fun q => by rw [List.mem_singleton.mp q, hbt] at e; cases e))
  change o1.data = .cell none at d1
  have hCode : CodeHd g 128 124 := codeHd_of_K X rfl
  have lL : (124 : Nat) < L := lL _ (.head _)
  have hU := R.units
  k_extra "KS"
  refine' call_cls ?k1 ?k2 ?k3 ?k4 ?k5 ?k6 ?_
  case k1 => k_asm
  case k2 => k_asm
  case k3 => k_asm
  case k4 => k_is
  case k5 => k_is
  case k6 => k_is
  intro x1 dx1 h1 F1 N1 l1 l2
  refine c_init G' (Fr.keep F1) (k := 0) (((R.deeper _).under).le (by exact Mine.om98)) (N1 _ (.head _)).1 (N1 _ (.tail _ (.head _))).1 (N1 _ (.head _)).2.2 (N1 _ (.tail _ (.head _))).2.2 l2 ?_
  intro h2 tk2 pb1 hJa t1 kk2 hd2 hp2
  (try k_fold)
  refine byGoal fun P9 k9 => ?_
  obtain ⟨zk1, zk2, zk3, zk4, zt3⟩ := hJa
  refine k9 ?_
  clear k9 P9
  refine ⟨rfl, ?_⟩
  (try k_fold)
  refine byGoal fun P9 k9 => ?_
  obtain ⟨F2, N2, q2⟩ := news_init F1 N1 l1 l2 kk2 hd2 hp2
  refine k9 ?_
  clear k9 P9
  simp only [List.forall_mem_cons, List.not_mem_nil, false_implies, implies_true, and_true] at q2
  k_lt l1
  have l2 := ltN l2
  dsimp only
  k_extra "KS"
  rename (Fr _ _ _ _) => F3
  rename (News _ _ _ _) => N3
  refine c_push G' (Fr.keep F3) (k := 0) ((R.deeper _).le (by exact Mine.om91)) (x := x1) (dx := dx1) (pb := pb1) (N3 _ (.tail _ (.head _))).1 (N3 _ (.tail _ (.tail _ (.head _)))).1 (N3 _ (.head _)).1 (N3 _ (.tail _ (.head _))).2.2 (N3 _ (.tail _ (.tail _ (.head _)))).2.2 (N3 _ (.head _)).2.2 (by decide) ?_
  intro h4 tk4 kk4 hb4
  obtain ⟨F5, N5⟩ := news_mut F3 N3 (.head (fmc q2.1 (fmc q2.2.1 (fmc q2.2.2.1 (fmc q2.2.2.2.1 (fmc q2.2.2.2.2.1 (fmc q2.2.2.2.2.2.1 (fmc q2.2.2.2.2.2.2 fmn)))))))) kk4 hb4
  change News g L h4 ((pb1, _) :: (x1, instObj 108 dx1) :: (dx1, dictOf _ _) :: _) at N5
  unfold lexD at N5
  k_extra "KS"
  refine' call_cls ?k1 ?k2 ?k3 ?k4 ?k5 ?k6 ?_
  case k1 => k_asm
  case k2 => k_asm
  case k3 => k_asm
  case k4 => k_is
  case k5 => k_is
  case k6 => k_is
  intro x2 dx2 h6 F6 N6 l6 l7
  refine c_init G' (Fr.keep F6) (k := 0) (((R.deeper _).under).le (by exact Mine.om98)) (N6 _ (.head _)).1 (N6 _ (.tail _ (.head _))).1 (N6 _ (.head _)).2.2 (N6 _ (.tail _ (.head _))).2.2 l7 ?_
  rintro h8 tk8 pb2 z2 t2 kk8 hd8 hp8
  refine ⟨rfl, ?_⟩
  (try k_fold)
  refine byGoal fun P9 k9 => ?_
  obtain ⟨F8, N8, q8⟩ := news_init F6 N6 l6 l7 kk8 hd8 hp8
  refine k9 ?_
  clear k9 P9
  dsimp only
  k_extra "KS"
  k_lt l6
  simp only [List.forall_mem_cons, List.not_mem_nil, false_implies, implies_true, and_true] at q8
  have eq : qualnameIn (envOfC (Str.ofString "_law_lexer") { kind := ScopeKind.function, names := [(Str.ofString "text", NameKind.local), (Str.ofString "_law_give", NameKind.local), (Str.ofString "stream", NameKind.local), (Str.ofString "signs", NameKind.cell), (Str.ofString "list", NameKind.globalImplicit), (Str.ofString "_netrclex", NameKind.globalImplicit)], isGenerator := false, isCoroutine := false } L 129 (Value.ref 128)) (Str.ofString "_law_give") (Str.ofString "_law_give") = giveQ := by kernel_rfl
  rw [eq] at N8
  rename _ = some (Value.str (qualnameIn _ _ _) _) => dq
  rw [eq] at dq
  refine lexer_end (z1 := ⟨zk1, zk2, zk3, zk4, zt3⟩) up F8 N8 (by assumption) dq (by assumption) ?_ ?_ (by assumption) (fun a h' tk tl ys n k1 k2 k3 k4 k5 k6 k7 k8 k9 k10 k11 => h a h' tk tl ys n _ k1 k2 k3 k4 k5 k6 k7 k8 k9 k10 k11)
  · exact Mine.om100 q8.2.2.2.2.2.2.2.1
  · have l7 := ltN l7
    refine fmc (Ne.symm q8.2.2.2.2.2.2.2.2.2) ?_
    refine fmc (Nat.ne_of_gt (by show @LT.lt Nat _ 124 _; dsimp only; exact Mine.om101 l6.2.2.2.2.2.2.2 l7)) ?_
    refine fmc (Nat.ne_of_gt (by show @LT.lt Nat _ 124 _; dsimp only; exact Mine.om102 l6.2.2.2.2.2.2.2)) ?_
    refine fmc (Ne.symm q2.2.2.2.2.2.2) ?_
    iterate 6 (refine fmc (Nat.ne_of_gt (by show @LT.lt Nat _ 124 _; dsimp only; first | exact Mine.om101 l1.2.2.2.2 l2 | exact l1.2.2.2.2 | exact Nat.lt_succ_of_lt lL | omega)) ?_)
    exact fmn
end
end Mine
end
section
set_option maxHeartbeats 1000000
namespace Mine
example : True := by
  k_with_none
  (k_with "STOPS" => (first | (with_reducible first | show wpAny _ _ (pyIter _) _ _ _ | show wpAny _ _ (exec (Stmt.While _ _ _ _) _) _ _ _ | show wpAny _ _ (exec (Stmt.For _ _ _ _ _) _) _ _ _ | show wpAny _ _ (call (Value.builtin "str.join") _ _) _ _ _ | show EachEnd _ _ _ _ _ _ _ | show TurnEnd _ _ _ _ _ _ _ _ _ | show TurnEndT _ _ _ _ _ _ _ _ _ | show WhileEnd _ _ _ _ _ _ _ _ | show EltEnd _ _ _ _ _ _ _ _ | show EnumEnd _ _ _ _ _ _ _ _) | fail "row"))
  (k_with "SZ" => (first | (first | decide | exact Nat.le_trans (by assumption) (by decide) | exact Nat.le_trans (Nat.le_of_eq (by assumption)) (by decide) | (show 1 ≤ _; decide) | (simp only [str_len_add, *]; first | done | decide | omega)) | fail "row"))
  (k_with "eval Name" => (first | ((k_dflt (((with_reducible refine' ldEp (by k_dflt (with_reducible assumption)) (by k_dflt (rfl)) (by k_dflt (rfl)) (by k_dflt (rfl)) (by k_dflt (decide)) (by k_dflt (first | rfl | assumption)) ?_)); k_whole))) | fail "row"))
  (k_with "loadName" => (first | ((k_dflt (((with_reducible refine' ldnEp (by k_dflt (with_reducible assumption)) (by k_dflt (rfl)) (by k_dflt (rfl)) (by k_dflt (rfl)) (by k_dflt (first | rfl | assumption)) ?_)); k_whole))) | fail "row"))
  (k_with "eval Name" => (first | ((k_dflt (((with_reducible refine' ldKp (by k_dflt (with_reducible assumption)) (by k_dflt (rfl)) (by k_dflt (rfl)) (by k_dflt (rfl)) (by k_dflt (decide)) (by k_dflt (k_mem)) (by k_dflt (assumption)) ?_)); k_whole))) | fail "row"))
  (k_with "eval ListComp" => (first | ((k_dflt ((with_reducible refine' comp_rule (by k_dflt (exact rfl)) ?_ (by k_dflt (rfl)) (by k_dflt (decide)) (by k_dflt (intro _; rfl)))))) | fail "row"))
  (k_with "binaryOp Add str str" => (first | ((k_dflt ((with_reducible refine addSN (by k_dflt (k_extra "SZ")) (by k_dflt (k_extra "SZ")) ?_); intro t9 tk9; revert t9 tk9; intro _ _))) | fail "row"))
  (k_with "compareOp In str str" => (first | (((with_reducible refine inC ?_))) | fail "row"))
  (k_with "KS" => (first | (repeat' (first | ((with_reducible show wpAny _ _ (execs _ _) _ _ _); k_fold) | (k_unfold; (try dsimp only)) | ((fail_if_success (k_extra "STOPS")); walk1) | dsimp only)) | fail "row"))
  (k_with "ite" => (first | ((k_dflt first | (k_closed; first | ((with_reducible refine ite_pos (by k_dflt (decide)) ?_)) | ((with_reducible refine ite_neg (by k_dflt (decide)) ?_))) | ((with_reducible refine split_decN ?_ ?_) <;> intro _))) | fail "row"))
  (k_with "LATS" => (first | (repeat (rename (Later _ _) => la9; have lb9 := leN la9.1; clear la9; (try simp only at lb9))) | fail "row"))
  (k_with "eval Dict" => (first | ((k_dflt ((refine' kdn_int (by k_dflt (rfl)) (by k_dflt (k_asm)) (by k_dflt (first | k_asm | exact News.nil)) (by k_dflt (exact TopRead.nolimit (by k_asm))) (by k_dflt (rfl)) (by k_dflt (rfl)) (by k_dflt (exact List.cons_ne_nil _ _)) (by k_dflt (exact Nat.le_of_ble_eq_true rfl)) ?_); intro d' h' o' F' N' l1 lo' hd'; (try k_lt l1); revert d' h' o' F' N' l1 lo' hd'; intro _ _ _ _ _ _ _ _))) | fail "row"))
  (k_with "binaryOp Add ref ref" => (first | ((k_dflt ((with_reducible refine' addL (by k_dflt (assumption)) (by k_dflt (assumption)) (by k_dflt (is_list)) (by k_dflt (is_list)) (by k_dflt ((simp only [List.length_append, List.length_cons, List.length_nil, sizeLine]; omega))) ?_); intro D9 h9 F9 N9 l9; (try k_lt l9); revert D9 h9 F9 N9 l9; intro _ _ _ _ _))) | fail "row"))
  (k_with "storeName" => (first | ((k_dflt (((with_reducible refine' stKp (by k_dflt (with_reducible assumption)) (by k_dflt (with_reducible assumption)) (by k_dflt (rfl)) (by k_dflt (rfl)) (by k_dflt (rfl)) (by k_dflt (k_updF)) (by k_dflt (assumption)) ?_)); k_whole; intro h9 o9 F9 N9 d9; (try dsimp only at N9); revert h9 o9 F9 N9 d9; intro _ _ _ _ _))) | fail "row"))
  (k_with "JUNK" => (first | (repeat (first | (with_reducible show Str; exact Str.ofString "") | (with_reducible show Value; exact Value.none) | (with_reducible show List (Str × Addr); exact []) | (with_reducible show Addr; exact 0))) | fail "row"))
  (k_with "exec Assign cons ListComp" => (first | ((k_dflt ((with_reducible refine' comp_assign (by k_dflt (exact rfl)) (by k_dflt (rfl)) (by k_dflt (rfl)) (by k_dflt (rfl)) ?_ (by k_dflt (rfl)) (by k_dflt (decide)) (by k_dflt (intro _; rfl)))))) | fail "row"))
  (k_with "SUBL" => (first | (((with_reducible show wpAny _ _ (subscriptTail _ _ (Value.ref _) (Value.int _ _)) _ _ _); k_dflt ((with_reducible refine' subL (by k_dflt (is_list)) (by k_dflt (first | exact rfl | exact (rfl : (0:Int) = ((0:Nat):Int)) | exact (rfl : (1:Int) = ((1:Nat):Int)) | exact (rfl : (2:Int) = ((2:Nat):Int)) | exact (rfl : (3:Int) = ((3:Nat):Int)))) (by k_dflt (first | assumption | rfl)) (by k_dflt (first | decide | omega)) ?_ (by k_dflt (with_unfolding_all rfl)))))) | fail "row"))
  (k_with "subscriptTail" => (first | ((k_extra "SUBL")) | fail "row"))
  (k_with "subscriptTail Name Name ref int" => (first | ((k_extra "SUBL")) | fail "row"))
  (k_with "subscriptTail Name Constant ref int" => (first | ((k_extra "SUBL")) | fail "row"))
  (k_with "subscriptTail" => (first | (((with_reducible show wpAny _ _ (subscriptTail _ _ (Value.ref _) (Value.int _ _)) _ _ _); k_dflt ((with_reducible refine' getI (by k_dflt (with_reducible assumption)) (by k_dflt (k_mem)) (by k_dflt (assumption)) (by k_dflt (assumption)) ?_ (by k_dflt (with_unfolding_all rfl)))))) | fail "row"))
  trivial
example : True := by
  (k_with "PJ" => (first | ((first | exact hC.1 | exact hC.2.1 | exact hC.2.2.1 | exact hC.2.2.2.1 | exact hC.2.2.2.2.1 | exact hC.2.2.2.2.2.1 | exact hC.2.2.2.2.2.2.1 | exact hC.2.2.2.2.2.2.2.1 | exact hC.2.2.2.2.2.2.2.2.1 | exact hC.2.2.2.2.2.2.2.2.2.1 | exact hC.2.2.2.2.2.2.2.2.2.2.1 | exact hC.2.2.2.2.2.2.2.2.2.2.2.1 | exact hC.2.2.2.2.2.2.2.2.2.2.2.2.1 | exact hC.2.2.2.2.2.2.2.2.2.2.2.2.2.1 | exact hC.2 | exact hC.2.2 | exact hC.2.2.2 | exact hC.2.2.2.2 | exact hC.2.2.2.2.2 | exact hC.2.2.2.2.2.2 | exact hC.2.2.2.2.2.2.2 | exact hC.2.2.2.2.2.2.2.2 | exact hC.2.2.2.2.2.2.2.2.2 | exact hC.2.2.2.2.2.2.2.2.2.2 | exact hC.2.2.2.2.2.2.2.2.2.2.2 | exact hC.2.2.2.2.2.2.2.2.2.2.2.2 | exact hC.2.2.2.2.2.2.2.2.2.2.2.2.2)) | fail "row"))
  (k_with "LT" => (first | (((repeat (first | exact Nat.lt_succ_self _ | (with_reducible assumption) | refine Nat.lt_succ_of_lt ?_)); done)) | fail "row"))
  (k_with "NE" => (first | ((refine neN ?_; (try dsimp only); first | exact Hold.out (by assumption) | exact Nat.ne_of_lt (by assumption) | exact Nat.ne_of_gt (by assumption) | (refine Nat.ne_of_lt ?_; k_extra "LT"; done) | (refine Nat.ne_of_gt ?_; k_extra "LT"; done) | exact Nat.ne_of_gt (lt2 (by assumption) (fun hC => by k_extra "PJ")) | exact Nat.ne_of_lt (lt2 (by assumption) (fun hC => by k_extra "PJ")) | exact ne2 (by assumption) (fun hC => by k_extra "PJ") | exact Ne.symm (ne2 (by assumption) (fun hC => by k_extra "PJ")) | exact Nat.ne_of_gt (ltM (by assumption) (by k_mem)) | exact Nat.ne_of_gt (ltM (Hold.out (by assumption)) (by k_mem)))) | fail "row"))
  trivial

example : True := by
  (k_with "call builtin:len" => (first | (((with_reducible show wpAny _ _ (call (Value.builtin "len") [Value.ref _]) _ _ _); k_dflt ((refine' call_len_list (by k_dflt (is_list)) (by k_dflt (first | exact fit63 (by assumption) | omega)) ?_)))) | fail "row"))
  (k_with "subscriptTail" => (first | (((with_reducible show wpAny _ _ (subscriptTail _ _ (Value.str _ _) (Value.int _ _)) _ _ _); k_dflt ((with_reducible refine' subS (by k_dflt (first | exact natSucc _ | rfl)) (by k_dflt (assumption)) (by k_dflt (omega)) ?_ (by k_dflt (with_unfolding_all rfl)))))) | fail "row"))
  trivial
theorem updF_upd {a : Addr} {o o' : Obj} {ld : List (Addr × Obj)} {gf : Obj → List (Addr × Obj)} (U : UpdF a o ld gf) : Upd a o o' ld (gf o') := by
  induction U with
  | head h => exact .head h
  | tail h _ ih => exact .tail h ih
theorem appendG {w : World} {A : Around} {E : Value → Shared → Prop} {s : Shared} {g : Heap} {L D : Addr} {m : Str → Option Value} {ld : List (Addr × Obj)} {gf : Obj → List (Addr × Obj)} {vs : List Value} {n : Nat} {x : Value} {Q : Value → Shared → Prop} (F : Fr g L s.heap m) (N : News g L s.heap ld) (U : UpdF D (listOf vs.toArray n) ld gf) (hz : vs.length ≤ 1000)
    (h : ∀ h', Fr g L h' m → News g L h' (gf (listOf (vs ++ [x]).toArray (n + 1))) → Q .none { s with heap := h' }) : wpAny (model PG w) A (call (.builtin "list.append") [.ref D, x]) Q E s :=
  append_K F N (updF_upd U) (fun h' F' N' => h h' F' (by rw [List.push_toArray] at N'; exact N')) (by rw [List.size_toArray]; exact Nat.le_trans hz (by decide))
example : True := by
  (k_with "UPD" => (first | (first | k_updF | (refine' UpdF.app (by k_dflt (k_extra "UPD")) (by k_dflt ((intro p hp; refine ((by k_dflt (assumption)) : OwnOff _ _) p hp _ (by k_dflt (simp))))))) | fail "row"))
  (k_with "call builtin:list.append" => (first | ((k_dflt ((refine' appendG (by k_dflt (assumption)) (by k_dflt (assumption)) (by k_dflt (k_extra "UPD")) (by k_dflt (first | assumption | omega)) ?_)); intro h9 F9 N9; (try dsimp only at N9); revert h9 F9 N9; intro _ _ _)) | fail "row"))
  trivial
theorem strsAre_append {vs ws : List Value} {l l' : List Str} (h : StrsAre vs l) (h' : StrsAre ws l') : StrsAre (vs ++ ws) (l ++ l') := by
  induction h with
  | nil => exact h'
  | cons x u _ ih => exact .cons x u ih
theorem intsAre_len {vs : List Value} {l : List Int} (h : IntsAre vs l) : vs.length = l.length := by
  induction h with
  | nil => rfl
  | cons _ _ _ ih => rw [List.length_cons, List.length_cons, ih]
theorem intsAre_append {vs ws : List Value} {l l' : List Int} (h : IntsAre vs l) (h' : IntsAre ws l') : IntsAre (vs ++ ws) (l ++ l') := by
  induction h with
  | nil => exact h'
  | cons x u _ ih => exact .cons x u ih
theorem intsAre_at {vs : List Value} {l : List Int} (h : IntsAre vs l) {i : Nat} {a : Int} (ha : l[i]? = some a) : ∃ t, vs[i]? = some (.int a t) := by
  induction h generalizing i with
  | nil => cases ha
  | cons x u _ ih =>
    cases i with
    | zero => cases ha; exact ⟨u, rfl⟩
    | succ i => exact ih (by simpa using ha)
theorem any_S {l : List (List Nat)} {x : List Nat} (h : (((l.map S).any fun y => y == S x) == false) = true) : x ∉ l := fun q => by
  have : ((l.map S).any fun y => y == S x) = true := List.any_eq_true.mpr ⟨S x, List.mem_map_of_mem q, by simp⟩
  rw [this] at h; cases h
theorem any_S' {l : List (List Nat)} {x : List Nat} (h : ¬ (((l.map S).any fun y => y == S x) == false) = true) : x ∈ l := by
  have h2 : ((l.map S).any fun y => y == S x) = true := by
    cases q : ((l.map S).any fun y => y == S x) with
    | true => rfl
    | false => rw [q] at h; exact absurd rfl h
  (try k_fold)
  refine byGoal fun P9 k9 => ?_
  obtain ⟨y, hy, e⟩ := List.any_eq_true.mp h2
  refine k9 ?_
  clear k9 P9
  (try k_fold)
  refine byGoal fun P9 k9 => ?_
  obtain ⟨z, hz, rfl⟩ := List.mem_map.mp hy
  refine k9 ?_
  clear k9 P9
  rw [← S_inj (eq_of_beq e)]; exact hz
theorem strsAre_len {vs : List Value} {l : List Str} (h : StrsAre vs l) : vs.length = l.length := by
  induction h with
  | nil => rfl
  | cons _ _ _ ih => rw [List.length_cons, List.length_cons, ih]
example : True := by
  (k_with "STOPS" => (first | (with_reducible show wpAny _ _ (subscriptTail _ _ (Value.ref _) (Value.int _ _)) _ _ _) | fail "row"))
  (k_with "execs nil" => (first | (refine wpAny_execs_nil ?_) | fail "row"))
  (k_with "execs cons" => (first | ((with_reducible refine execs_consL ?_)) | fail "row"))
  (k_with "KZ" => (first | ((repeat (first | (k_unfold; (try dsimp only)) | ((fail_if_success (k_extra "STOPS")); (fail_if_success (with_reducible show wpAny _ _ (subscriptTail _ (Expr.Slice _ _ _ _) _ _) _ _ _)); walk1) | dsimp only))) | fail "row"))
  trivial
def Toks (vs : List Value) (hi : Nat) : Prop := (∀ y u, Value.str y u ∈ vs → @Ne Nat u 0 ∧ @LT.lt Nat _ u hi) ∧ ∀ y u y' u', Value.str y u ∈ vs → Value.str y' u' ∈ vs → u = u' → y = y'
theorem Toks.mono {vs : List Value} {a b : Nat} (h : Toks vs a) (hab : a ≤ b) : Toks vs b := ⟨fun y u q => ⟨(h.1 y u q).1, Nat.lt_of_lt_of_le (h.1 y u q).2 hab⟩, h.2⟩
theorem Toks.sub {vs ws : List Value} {a : Nat} (h : Toks vs a) (k : ∀ v ∈ ws, v ∈ vs) : Toks ws a := ⟨fun y u q => h.1 y u (k _ q), fun y u y' u' q q' => h.2 y u y' u' (k _ q) (k _ q')⟩
theorem Toks.one {y : Str} {t b : Nat} (h0 : @Ne Nat t 0) (h : @LT.lt Nat _ t b) : Toks [Value.str y t] b := by
  constructor
  · intro y' u q
    have := List.mem_singleton.mp q
    cases this; exact ⟨h0, h⟩
  · intro y1 u1 y2 u2 q1 q2 _
    have a := List.mem_singleton.mp q1
    have b := List.mem_singleton.mp q2
    cases a; cases b; rfl
theorem Toks.snoc {vs : List Value} {a b t : Nat} {y : Str} (h : Toks vs a) (h1 : a ≤ t) (h2 : t < b) (h0 : 0 < a) : Toks (vs ++ [Value.str y t]) b := by
  have o := Toks.one (y := y) (t := t) (b := b) (by show t ≠ 0; exact Mine.om11 h1 h0) h2
  have m := h.mono (b := b) (by exact Mine.om12 h1 h2)
  constructor
  · intro y' u q
    rcases List.mem_append.mp q with q | q
    · exact m.1 y' u q
    · exact o.1 y' u q
  · intro y1 u1 y2 u2 q1 q2 e
    rcases List.mem_append.mp q1 with q1 | q1 <;> rcases List.mem_append.mp q2 with q2 | q2
    · exact h.2 _ _ _ _ q1 q2 e
    · have := List.mem_singleton.mp q2
      cases this
      have := (h.1 _ _ q1).2
      rw [e] at this
      exact absurd (Nat.lt_of_lt_of_le this h1) (Nat.lt_irrefl _)
    · have := List.mem_singleton.mp q1
      cases this
      have := (h.1 _ _ q2).2
      rw [← e] at this
      exact absurd (Nat.lt_of_lt_of_le this h1) (Nat.lt_irrefl _)
    · exact o.2 _ _ _ _ q1 q2 e
theorem Toks.pos {vs : List Value} {a : Nat} {l : List Str} (h : Toks vs a) (hs : StrsAre vs l) (hl : 0 < vs.length) : 0 < a := by
  cases hs with
  | nil => cases hl
  | cons y t _ => exact Nat.lt_of_le_of_lt (Nat.zero_le _) (h.1 _ _ (.head _)).2
theorem drop_take {vl p : List Value} {v : Value} {n : Nat} (h : v :: p = vl.drop n) : p = vl.drop (n + 1) ∧ vl.take n ++ [v] = vl.take (n + 1) := by
  have hn : n < vl.length := by
    by_cases q : n < vl.length
    · exact q
    · rw [List.drop_eq_nil_of_le (by exact Mine.om13 q)] at h; cases h
  rw [List.drop_eq_getElem_cons hn] at h
  injection h with h1 h2
  exact ⟨h2, by rw [h1, List.take_succ_eq_append_getElem hn]⟩
noncomputable abbrev WS := List (List Nat)
noncomputable def swapAt (l : List Nat) (p : Nat) : List Nat := (l.take p ++ [l.getD (p + 1) 0]) ++ ([l.getD p 0] ++ l.drop (p + 2))
noncomputable def clsStep (rs : List RuleP) (got : WS) (word : List Nat) (st : WS × List Nat) (p : Nat) : WS × List Nat :=
  if swapAt word p ∉ got ++ st.1 ∧ letsP rs word p = true then (st.1 ++ [swapAt word p], st.2 ++ [st.2.getD (got.length - 1) 0 + 1]) else st
noncomputable def clsTurn (rs : List RuleP) (st : WS × List Nat × WS) : WS × List Nat × WS :=
  let word := st.1.getD st.2.2.length []
  let got := st.2.2 ++ [word]
  let r := (List.range 4).foldl (clsStep rs got word) (st.1, st.2.1)
  (r.1, r.2, got)
noncomputable def clsRun (rs : List RuleP) : Nat → WS × List Nat × WS → WS × List Nat × WS
  | 0, st => st
  | k + 1, st => if st.2.2.length < st.1.length ∧ st.1.length < 17 then clsRun rs k (clsTurn rs st) else st
noncomputable abbrev intsN (l : List Nat) : List Int := l.map Int.ofNat
theorem b1000 {a b c i : Nat} (h1 : a = b) (h2 : b ≤ c + i) (h3 : c ≤ 20) (h4 : i < 4) : a ≤ 1000 := by omega
inductive ClsW (oD : Obj) (x2 dx2 pb2 rl lA aA gA : Addr) (rs : List RuleP) (l0 : List Nat) (k tk : Nat) (m : Str → Option Value) (ld : List (Addr × Obj)) : Prop
  | mk (vg : List Value) (ng : Nat) (va : List Value) (na : Nat) (vl : List Value) (nl : Nat) (pend : List Value) (np' : Nat) (laid : WS) (away : List Nat) (got : WS)
    (e : ld = [(gA, listOf (List.toArray vg) ng), (aA, listOf (List.toArray va) na), (lA, listOf (List.toArray vl) nl), (pb2, listOf (List.toArray pend) np'), (x2, instObj 108 dx2), (dx2, oD)])
    (e1 : m "lexer" = some (.ref x2)) (e2 : m "rules" = some (.ref rl)) (e3 : m "laid" = some (.ref lA)) (e4 : m "away" = some (.ref aA)) (e5 : m "got" = some (.ref gA)) (hvl : StrsAre vl (laid.map S)) (hva : IntsAre va (intsN away)) (hvg : StrsAre vg (got.map S)) (hpd : StrsAre pend ((laid.drop got.length).map S))
    (h5 : ∀ x ∈ laid, x.length = 5) (hal : away.length = laid.length) (hgl : got.length ≤ laid.length) (hl20 : laid.length ≤ 20) (hk : k + got.length = 17) (hrun : clsRun rs k (laid, away, got) = clsRun rs 17 ([l0], [0], [])) (hvgt : vg = vl.take got.length) (hpdt : pend = vl.drop got.length) (hTk : Toks vl tk)
inductive ClsR (oD oG : Obj) (x2 dx2 pb2 rl lA aA gA : Addr) (rs : List RuleP) (vW : Value) (word : List Nat) (got laid : WS) (away : List Nat) (vg : List Value) (i tk : Nat) (m : Str → Option Value) (ld : List (Addr × Obj)) : Prop
  | mk (va : List Value) (na : Nat) (vl : List Value) (nl : Nat) (pend : List Value) (np' : Nat) (laid' : WS) (away' : List Nat)
    (e : ld = [(gA, oG), (aA, listOf (List.toArray va) na), (lA, listOf (List.toArray vl) nl), (pb2, listOf (List.toArray pend) np'), (x2, instObj 108 dx2), (dx2, oD)])
    (e1 : m "lexer" = some (.ref x2)) (e2 : m "rules" = some (.ref rl)) (e3 : m "laid" = some (.ref lA)) (e4 : m "away" = some (.ref aA)) (e5 : m "got" = some (.ref gA)) (e6 : m "word" = some vW) (hvl : StrsAre vl (laid'.map S)) (hva : IntsAre va (intsN away')) (hpd : StrsAre pend ((laid'.drop (got.length + 1)).map S))
    (h5 : ∀ x ∈ laid', x.length = 5) (hal : away'.length = laid'.length) (hgl : got.length + 1 ≤ laid'.length) (hll : laid'.length ≤ laid.length + i) (hf : (List.range i).foldl (clsStep rs (got ++ [word]) word) (laid, away) = (laid', away')) (hvt : vg ++ [vW] = vl.take (got.length + 1)) (hpt : pend = vl.drop (got.length + 1)) (hT : Toks vl tk)
section
variable {w : World} {base : Heap} {A : Around} {E : Value → Shared → Prop} {s : Shared} {Q : Value → Shared → Prop} {k : Nat} {t : Tok}
theorem c_class {x2 dx2 pb2 rl : Addr} {z : LexK} {ln inst : Value} {l0 : List Nat} {rv : List Value} {rs : List RuleP} {np nd : Nat} (G : G0 w base) (st : base.StaysIn s.heap) (R : Rm A (k + 6))
   (hx : s.heap.get? x2 = some (instObj 108 dx2)) (hd : s.heap.get? dx2 = some (dictOf (lexD w.params z ln inst pb2) nd)) (hp : s.heap.get? pb2 = some (listOf #[] np)) (nx : base.get? x2 = none) (nd2 : base.get? dx2 = none) (np2 : base.get? pb2 = none)
   (hrk : ∀ h, (∀ b o, s.heap.get? b = some o → b ∉ [pb2, x2, dx2] → h.get? b = some o) → h.IsList rl rv.toArray ∧ All2 (RuleAt h) rv rs) (hl0 : l0.length = 5) (hst : @Ne Nat t 0 ∧ @LT.lt Nat _ t s.toks)
   (h : ∀ r lA aA gA vl va vg nl na ng pend np' h' tk laid away got, clsRun rs 17 ([l0], [0], []) = (laid, away, got) →
     (∀ b o, s.heap.get? b = some o → b ≠ pb2 → h'.get? b = some o) → h'.get? pb2 = some (listOf pend np') → StrsAre pend.toList ((laid.drop got.length).map S) →
     Fresh s.heap h' r (tupObj #[.ref lA, .ref gA, .ref aA]) → Fresh s.heap h' lA (listOf vl nl) → Fresh s.heap h' aA (listOf va na) → Fresh s.heap h' gA (listOf vg ng) →
     StrsAre vl.toList (laid.map S) → IntsAre va.toList (intsN away) → StrsAre vg.toList (got.map S) → (∃ hi, Toks vg.toList hi) → Q (.ref r) { s with heap := h', toks := tk }) :
   wpAny (model PG w) A (call (.ref 172) [.ref x2, .str (S l0) t, .ref rl]) Q E s := by
  refine wpAny_call ?_
  refine enterH (ld := [(pb2, listOf #[] np), (x2, instObj 108 dx2), (dx2, dictOf (lexD w.params z ln inst pb2) nd)]) (binds := [("lexer", .ref x2), ("start", .str (S l0) t), ("rules", .ref rl)]) G st (fmc ⟨hp, np2⟩ (fmc ⟨hx, nx⟩ (fmc ⟨hd, nd2⟩ fmn))) R.room (by k_is) (by k_is) (BindsTo.of_eq rfl) (locs rfl) ?_ (by decide)
  intro g L h₁ up dn F N X G'
  obtain ⟨pp, loo, mg, mb, T⟩ := G'.T
  have R' := R.deeper
  dsimp only [List.reverse_cons, List.reverse_nil, List.nil_append, List.cons_append, List.length_cons, List.length_nil] at F ⊢
  have X' := X
  have hU := R.units
  have q1 := obj_ne hx hp (by simp [W.listOf, instObj])
  have q2 := obj_ne hd hp (by simp [W.listOf, dictOf])
  obtain ⟨hrg, hag⟩ := hrk g up
  k_extra "KS"
  rename_i lA _ lb1 _ _ aA _ lb2 _ _ gA _ lb3 _ F1 N1 _

  refine later ?_
  refine c_push G' (Fr.keep F1) (k := 0) ((R.deeper _).le (by exact Mine.om14)) (x := x2) (dx := dx2) (pb := pb2) (N1 _ (.tail _ (.tail _ (.tail _ (.tail _ (.head _)))))).1 (N1 _ (.tail _ (.tail _ (.tail _ (.tail _ (.tail _ (.head _))))))).1 (N1 _ (.tail _ (.tail _ (.tail _ (.head _))))).1 (N1 _ (.tail _ (.tail _ (.tail _ (.tail _ (.head _)))))).2.2 (N1 _ (.tail _ (.tail _ (.tail _ (.tail _ (.tail _ (.head _))))))).2.2 (N1 _ (.tail _ (.tail _ (.tail _ (.head _))))).2.2 (by decide) ?_
  intro h4 tk4 kk4 hb4 lat4
  obtain ⟨F5, N5⟩ := news_mut (a := pb2) F1 N1 (by k_updF) kk4 hb4
  change News g L h4 [(gA, listOf #[] 0), (aA, _), (lA, _), (pb2, listOf [Value.str (S l0) t].toArray (np + 1)), (x2, _), (dx2, _)] at N5
  k_extra "KS"
  have fin : ∀ D h' tk m' vg ng va na vl nl pend np' laid away got k, Fr g L h' m' → News g L h' [(D, tupObj #[.ref lA, .ref gA, .ref aA]), (gA, listOf (List.toArray vg) ng), (aA, listOf (List.toArray va) na), (lA, listOf (List.toArray vl) nl), (pb2, listOf (List.toArray pend) np'), (x2, instObj 108 dx2), (dx2, dictOf (lexD w.params z ln inst pb2) nd)] → @LT.lt Nat _ gA D →
      StrsAre vl (laid.map S) → IntsAre va (intsN away) → StrsAre vg (got.map S) → StrsAre pend ((laid.drop got.length).map S) → ¬ (got.length < laid.length ∧ laid.length < 17) → clsRun rs k (laid, away, got) = clsRun rs 17 ([l0], [0], []) → (vg = vl.take got.length ∧ pend = vl.drop got.length ∧ ∃ hi, Toks vl hi) → Q (.ref D) { s with heap := h', toks := tk } := by
    intro D h' tk m' vg ng va na vl nl pend np' laid away got k F N lD hvl hva hvg hpd hcond hrun ⟨hvgt, _, hi, hTv⟩
    have e : clsRun rs k (laid, away, got) = (laid, away, got) := by
      cases k with
      | zero => rfl
      | succ k => exact if_neg hcond
    have lb0 := ltN lD
    have fr : ∀ {b : Addr} {o : Obj}, (b, o) ∈ [(D, tupObj #[.ref lA, .ref gA, .ref aA]), (gA, listOf (List.toArray vg) ng), (aA, listOf (List.toArray va) na), (lA, listOf (List.toArray vl) nl), (pb2, listOf (List.toArray pend) np'), (x2, instObj 108 dx2), (dx2, dictOf (lexD w.params z ln inst pb2) nd)] → @Ne Nat b pb2 → @Ne Nat b x2 → @Ne Nat b dx2 → Fresh s.heap h' b o := by
      intro b o hm a1 a2 a3
      refine ⟨fresh_ld up (N _ hm).2.2 (fun q => ?_), (N _ hm).1⟩
      simp only [List.map_cons, List.map_nil, List.mem_cons, List.not_mem_nil, or_false] at q
      rcases q with q | q | q
      · exact a1 q
      · exact a2 q
      · exact a3 q
    refine h D lA aA gA vl.toArray va.toArray vg.toArray nl na ng pend.toArray np' h' tk laid away got (by rw [← hrun, e]) (fun b o e hb => frame_of (skip := [pb2]) up F (fmc hp (fmc hx (fmc hd fmn))) (fmc (.inl (.head _)) fun p hp => .inr (N p (.tail _ (.tail _ (.tail _ (.tail _ (.tail _ hp)))))).1) b o e (fun q => hb (List.mem_singleton.mp q)))
      (N.get (.tail _ (.tail _ (.tail _ (.tail _ (.head _)))))) hpd (fr (.head _) (Nat.ne_of_gt (Nat.lt_trans lb3.2.2.1 lb0)) (Nat.ne_of_gt (Nat.lt_trans lb3.2.2.2.1 lb0)) (Nat.ne_of_gt (Nat.lt_trans lb3.2.2.2.2 lb0))) (fr (.tail _ (.tail _ (.tail _ (.head _)))) (Nat.ne_of_gt lb1.1) (Nat.ne_of_gt lb1.2.1) (Nat.ne_of_gt lb1.2.2)) (fr (.tail _ (.tail _ (.head _))) (Nat.ne_of_gt lb2.2.1) (Nat.ne_of_gt lb2.2.2.1) (Nat.ne_of_gt lb2.2.2.2)) (fr (.tail _ (.head _)) (Nat.ne_of_gt lb3.2.2.1) (Nat.ne_of_gt lb3.2.2.2.1) (Nat.ne_of_gt lb3.2.2.2.2)) hvl hva hvg ⟨hi, hTv.sub fun v hv => List.mem_of_mem_take (hvgt ▸ hv)⟩
  refine while_rule (L := L) (ClsW (dictOf (lexD w.params z ln inst pb2) nd) x2 dx2 pb2 rl lA aA gA rs l0) 17 F5 N5 ⟨[], _, [.int 0 _], _, [.str (S l0) t], _, _, _, [l0], [0], [], rfl, rfl, rfl, rfl, rfl, rfl, .cons _ _ .nil, .cons _ _ .nil, .nil, .cons _ _ .nil, by simpa using hl0, rfl, Nat.zero_le _, by simp, rfl, rfl, rfl, rfl, Toks.one hst.1 (by k_extra "LATS"; have := ltN hst.2; simp only; exact Mine.om15 hst.2 (by assumption))⟩ ?_
  intro k' m ld h6 tk6 htk6 hJa F6 N6
  (try k_fold)
  refine byGoal fun P9 k9 => ?_
  obtain ⟨vg, ng, va, na, vl, nl, pend, np', laid, away, got, rfl, e1, e2, e3, e4, e5, hvl, hva, hvg, hpd, h5, hal, hgl, hl20, hk, hrun, hvgt, hpdt, hTk⟩ := hJa
  refine k9 ?_
  clear k9 P9
  have zg : vg.toArray.size = got.length := by have := strsAre_len hvg; rw [List.length_map] at this; exact this
  have zl : vl.toArray.size = laid.length := by have := strsAre_len hvl; rw [List.length_map] at this; exact this
  have zg20 : vg.toArray.size ≤ 1000 := by rw [zg]; exact Nat.le_trans hgl (Nat.le_trans hl20 (by decide))
  have zl20 : vl.toArray.size ≤ 1000 := by rw [zl]; exact Nat.le_trans hl20 (by decide)
  have zp : pend.length = laid.length - got.length := by have := strsAre_len hpd; rw [List.length_map, List.length_drop] at this; exact this
  k_extra "KS"
  · refine byGoal fun P9 k9 => ?_
    obtain ⟨v, pend', rfl⟩ : ∃ v pend', pend = v :: pend' := by
      cases pend with
      | nil => rename decide ((vg.toArray.size : Int) < (vl.toArray.size : Int)) = true => c1; have c1 := of_decide_eq_true c1; rw [List.length_nil] at zp; exact False.elim (Mine.om16 zg zl zp c1)
      | cons v p => exact ⟨v, p, rfl⟩
    refine k9 ?_
    clear k9 P9
    have hge : got.length < laid.length := by rename decide ((vg.toArray.size : Int) < (vl.toArray.size : Int)) = true => c1; have c1 := of_decide_eq_true c1; exact Mine.om17 zg zl c1
    rw [List.drop_eq_getElem_cons hge, List.map_cons] at hpd
    (try k_fold)
    refine byGoal fun P9 k9 => ?_
    obtain ⟨word, u, hv, hw5, hwd, hpd'⟩ : ∃ word u, v = .str (S word) u ∧ word.length = 5 ∧ laid.getD got.length [] = word ∧ StrsAre pend' ((laid.drop (got.length + 1)).map S) := by
      cases hpd with
      | cons _ u h => exact ⟨laid[got.length], u, rfl, h5 _ (List.getElem_mem hge), by rw [List.getD_eq_getElem?_getD, List.getElem?_eq_getElem hge]; rfl, h⟩
    refine k9 ?_
    clear k9 P9
    subst hv
    obtain ⟨hpd2', hvgt2⟩ := drop_take hpdt
    rw [← hvgt] at hvgt2
    rename (Fr _ _ _ _) => F7
    rename (News _ _ _ _) => N7
    refine later ?_
    refine c_getPush G' (Fr.keep F7) (k := 0) ((R.deeper _).le (by exact Mine.om14)) (N7.get (.tail _ (.tail _ (.tail _ (.tail _ (.head _)))))) (N7.get (.tail _ (.tail _ (.tail _ (.tail _ (.tail _ (.head _))))))) (N7.get (.tail _ (.tail _ (.tail _ (.head _)))))
      (N7 _ (.tail _ (.tail _ (.tail _ (.tail _ (.head _)))))).2.2 (N7 _ (.tail _ (.tail _ (.tail _ (.tail _ (.tail _ (.head _))))))).2.2 (N7 _ (.tail _ (.tail _ (.tail _ (.head _))))).2.2 (by rw [List.length_cons] at zp; exact Mine.om18 hl20 zp) ?_
    intro h8 tk8 kk8 hb8 lat8
    obtain ⟨F8, N8⟩ := news_mut (a := pb2) F7 N7 (by k_updF) kk8 hb8
    change News g L h8 [(gA, listOf (List.toArray vg) ng), (aA, listOf (List.toArray va) na), (lA, listOf (List.toArray vl) nl), (pb2, listOf (List.toArray pend') (np' + 1)), (x2, instObj 108 dx2), (dx2, dictOf (lexD w.params z ln inst pb2) nd)] at N8
    k_extra "KS"
    rename decide ((vg.toArray.size : Int) < (vl.toArray.size : Int)) = true => c1
    rename decide ((vl.toArray.size : Int) < 17) = true => c2
    have c1 := of_decide_eq_true c1
    have c2 := of_decide_eq_true c2
    refine for_rule ?_
    repeat (first | (k_unfold; (try dsimp only)) | ((fail_if_success (k_extra "STOPS")); (fail_if_success (with_reducible show wpAny _ _ (call (Value.type "range") _) _ _ _)); walk1) | dsimp only)
    refine later ?_
    k_extra "KS"
    rename (Fr _ _ _ _) => F9
    rename (News _ _ _ _) => N9
    (try rw [List.push_toArray] at N9)
    rename (IsRange _ _ _ _ _ _ _ _) => hir
    k_extra "LATS"
    refine for_rangeT (L := L) (n := 4) (ClsR (dictOf (lexD w.params z ln inst pb2) nd) (listOf (List.toArray (vg ++ [.str (S word) u])) (ng + 1)) x2 dx2 pb2 rl lA aA gA rs (.str (S word) u) word got laid away vg) (Rm.h (Rm.deeper (by assumption) _)) hir (by decide) ?_ F9 N9
      ⟨va, na, vl, nl, pend', _, laid, away, rfl, e1, e2, e3, e4, e5, rfl, hvl, hva, hpd', h5, hal, hge, Nat.le_refl _, rfl, hvgt2, hpd2', hTk.mono (by simp only; exact Mine.om19 (by assumption) (by assumption))⟩ ?_ ?_
    · exact fr_nL (by assumption) (fresh_of (Nat.le_refl _))
    · intro i ti m2 ld2 h10 tk10 tk10' own hi htk10' htk10 had hoff hJa F10 N10
      (try k_fold)
      refine byGoal fun P9 k9 => ?_
      obtain ⟨va2, na2, vl2, nl2, pend2, np2', laid2, away2, rfl, g1, g2, g3, g4, g5, g6, hvl2, hva2, hpd2, h52, hal2, hgl2, hll2, hf2, hvt2, hpt2, hT2⟩ := hJa
      refine k9 ?_
      clear k9 P9
      have hc1 : word[i]? = some (word.getD i 0) := by rw [List.getD_eq_getElem?_getD, List.getElem?_eq_getElem (by exact Mine.om20 hw5 hi)]; rfl
      have hc2 : word[i + 1]? = some (word.getD (i + 1) 0) := by rw [List.getD_eq_getElem?_getD, List.getElem?_eq_getElem (by exact Mine.om21 hw5 hi)]; rfl
      k_extra "KZ"
      refine later ?_
      k_extra "KS"
      rw [sliceNS]
      refine later ?_
      refine c_concat G' (Fr.keep (by assumption)) (k := 0) ((R.deeper _).le (by exact Mine.om14)) (by rw [S_len, List.length_take]; exact Mine.om22 hi) (by rw [S_len]; simp) ?_
      intro h11 tk11 t11 k11 _ lat11
      have F11 := fr_stays (by assumption) k11
      have N11 := news_stays (by assumption) k11
      rw [S_append]
      k_extra "KZ"
      refine later ?_
      k_extra "KS"
      rw [show ((i : Int) + 2) = ((i + 2 : Nat) : Int) from rfl, sliceSN]
      refine later ?_
      refine c_concat G' (Fr.keep (by assumption)) (k := 0) ((R.deeper _).le (by exact Mine.om14)) (by rw [S_len]; simp) (by rw [S_len, List.length_drop]; exact Mine.om23 hw5) ?_
      intro h12 tk12 t12 k12 _ lat12
      have F12 := fr_stays (by assumption) k12
      have N12 := news_stays (by assumption) k12
      rw [S_append]
      k_extra "KS"
      refine later ?_
      refine c_concat G' (Fr.keep (by assumption)) (k := 0) ((R.deeper _).le (by exact Mine.om14)) (by rw [S_len]; simp; exact Mine.om24 hi) (by rw [S_len]; simp; exact Mine.om25 hw5) ?_
      intro h13 tk13 t13 k13 tf13 lat13
      obtain ⟨tf13, tg13⟩ := tf13 (by rw [S_len]; simp) (by rw [S_len]; simp)
      have F13 := fr_stays (by assumption) k13
      have N13 := news_stays (by assumption) k13
      rw [S_append]
      change wpAny _ _ (storeName _ _ (.str (S (swapAt word i)) _)) _ _ _
      have hs5 : (swapAt word i).length = 5 := by unfold swapAt; simp; exact Mine.om26 hw5 hi
      generalize hsw : swapAt word i = made at hs5
      have zg2 : vg.length = got.length := by have := strsAre_len hvg; rw [List.length_map] at this; exact this
      have zl2 : vl2.length = laid2.length := by have := strsAre_len hvl2; rw [List.length_map] at this; exact this
      have z2v : vl2.length ≤ 1000 := b1000 zl2 hll2 hl20 hi
      have hvg2 : StrsAre (vg ++ [Value.str (S word) u]) ((got ++ [word]).map S) := by rw [List.map_append]; exact strsAre_append hvg (.cons _ _ .nil)
      have hvgl := strsAre_append hvg2 hvl2
      rw [← List.map_append] at hvgl
      k_extra "KS"
      refine later ?_
      refine c_contains G' (Fr.keep (by assumption)) (k := 0) ((R.deeper _).le (by exact Mine.om14)) (by is_list) hvgl ?_
      intro h14 tk14 k14 lat14
      have F14 := fr_stays (by assumption) k14
      have N14 := news_stays (by assumption) k14
      k_extra "KS"
      · refine later ?_
        refine c_lets G' (Fr.keep (by assumption)) (k := 0) ((R.deeper _).le (by exact Mine.om27)) (isList_keep hrg (Fr.keep (by assumption))) (hag.mono fun v r q => q.up (Fr.keep (by assumption))) hw5 hi ?_
        intro h15 tk15 k15 lat15
        have F15 := fr_stays (by assumption) k15
        have N15 := news_stays (by assumption) k15
        k_extra "KS"
        · rename (News _ _ _ _) => N9
          have N16 := news_sub N9 (fun p hp => .tail _ hp)
          clear N9 N15 N14
          have zga : (vg ++ [Value.str (S word) u]).toArray.size = got.length + 1 := by rw [List.size_toArray, List.length_append, zg2]; rfl
          have zva : va2.length = away2.length := by have := intsAre_len hva2; rw [List.length_map] at this; exact this
          have z2a : va2.length ≤ 1000 := b1000 (zva.trans hal2) hll2 hl20 hi
          have zpd : pend2.length = laid2.length - (got.length + 1) := by have := strsAre_len hpd2; rw [List.length_map, List.length_drop] at this; exact this
          obtain ⟨ta, hta⟩ := intsAre_at (i := got.length) (a := ((away2.getD got.length 0 : Nat) : Int)) hva2 (by rw [List.getElem?_map, List.getD_eq_getElem?_getD, List.getElem?_eq_getElem (by exact Mine.om28 hal2 hgl2)]; rfl)
          k_extra "KS"
          refine subL (j := got.length) (by is_list) (by exact Mine.om29 zga) (by simpa using hta) (lt60 (Nat.le_trans hgl (Nat.le_trans hl20 (by decide)))) ?_
          k_extra "KS"
          rename (Fr _ _ _ _) => F17
          rename (News _ _ _ _) => N17
          refine later ?_
          refine c_push G' (Fr.keep F17) (k := 0) ((R.deeper _).le (by exact Mine.om14)) (x := x2) (dx := dx2) (pb := pb2) (vs := pend2.toArray) (N17.get (.tail _ (.tail _ (.tail _ (.tail _ (.head _)))))) (N17.get (.tail _ (.tail _ (.tail _ (.tail _ (.tail _ (.head _))))))) (N17.get (.tail _ (.tail _ (.tail _ (.head _)))))
            (N17 _ (.tail _ (.tail _ (.tail _ (.tail _ (.head _)))))).2.2 (N17 _ (.tail _ (.tail _ (.tail _ (.tail _ (.tail _ (.head _))))))).2.2 (N17 _ (.tail _ (.tail _ (.tail _ (.head _))))).2.2 (by rw [List.size_toArray]; exact Nat.le_trans (show pend2.length ≤ 100 by exact Mine.om30 zl c2 hi hll2 zpd) (by decide)) ?_
          intro h18 tk18 kk18 hb18 lat18
          obtain ⟨F18, N18⟩ := news_mut (a := pb2) F17 N17 (by k_extra "UPD") kk18 hb18
          rw [List.push_toArray] at N18
          k_extra "KS"
          rename ((_ == false) = true) => hnin
          have hnin := any_S hnin
          rename (letsP rs word i = true) => hlets
          refine ⟨_, _, _, [(gA, listOf (List.toArray (vg ++ [.str (S word) u])) (ng + 1)), (aA, listOf (List.toArray (va2 ++ [.int (((away2.getD got.length 0 : Nat) : Int) + 1) _])) _), (lA, listOf (List.toArray (vl2 ++ [.str (S made) _])) _), (pb2, listOf (List.toArray (pend2 ++ [.str (S made) _])) _), (x2, instObj 108 dx2), (dx2, dictOf (lexD w.params z ln inst pb2) nd)], rfl, by assumption, by assumption, rfl, ?_⟩
          refine ⟨_, _, _, _, _, _, laid2 ++ [made], away2 ++ [away2.getD got.length 0 + 1], rfl, g1, g2, g3, g4, g5, g6, by rw [List.map_append]; exact strsAre_append hvl2 (.cons _ _ .nil), by rw [intsN, List.map_append]; exact intsAre_append hva2 (.cons _ _ .nil), ?_, ?_, by rw [List.length_append, List.length_append, hal2]; rfl, by rw [List.length_append]; exact Mine.om31 hgl2, by rw [List.length_append, List.length_singleton]; exact Mine.om32 hll2, ?_, by rw [hvt2, List.take_append_of_le_length (by exact Mine.om33 hgl2 zl2)], by rw [hpt2, List.drop_append_of_le_length (by exact Mine.om33 hgl2 zl2)], hT2.snoc ?_ ?_ (hT2.pos hvl2 (by exact Mine.om34 hgl2 zl2))⟩
          · rw [List.drop_append_of_le_length (by exact Mine.om35 hgl2), List.map_append]; exact strsAre_append hpd2 (.cons _ _ .nil)
          · intro x hx
            rcases List.mem_append.mp hx with hx | hx
            · exact h52 x hx
            · rw [List.mem_singleton.mp hx]; exact hs5
          · rw [List.range_succ, List.foldl_append, hf2]
            show clsStep rs (got ++ [word]) word (laid2, away2) i = _
            unfold clsStep
            rw [hsw, if_pos ⟨hnin, hlets⟩, List.length_append, List.length_singleton, Nat.add_sub_cancel]
          · k_extra "LATS"
            have tf13 := leN tf13
            simp only at tf13 ⊢
            exact Mine.om36 htk10 (by assumption) (by assumption) (by assumption) lb9 tf13
          · k_extra "LATS"
            have tg13 := ltN tg13
            exact Mine.om37 (by assumption) (by assumption)
        · rename (¬ letsP rs word i = true) => hlets
          refine ⟨_, _, _, [(gA, listOf (List.toArray (vg ++ [.str (S word) u])) (ng + 1)), (aA, listOf (List.toArray va2) na2), (lA, listOf (List.toArray vl2) nl2), (pb2, listOf (List.toArray pend2) np2'), (x2, instObj 108 dx2), (dx2, dictOf (lexD w.params z ln inst pb2) nd)], rfl, by assumption, news_sub N15 (fun p hp => .tail _ hp), rfl, ?_⟩
          refine ⟨va2, na2, vl2, nl2, pend2, np2', laid2, away2, rfl, g1, g2, g3, g4, g5, g6, hvl2, hva2, hpd2, h52, hal2, hgl2, by exact Mine.om38 hll2, ?_, hvt2, hpt2, hT2.mono (by k_extra "LATS"; exact Mine.om39 htk10 (by assumption))⟩
          rw [List.range_succ, List.foldl_append, hf2]
          show clsStep rs (got ++ [word]) word (laid2, away2) i = _
          unfold clsStep
          rw [if_neg (fun q => hlets q.2)]
      · rename (¬ (_ == false) = true) => hnin
        have hnin := any_S' hnin
        refine ⟨_, _, _, [(gA, listOf (List.toArray (vg ++ [.str (S word) u])) (ng + 1)), (aA, listOf (List.toArray va2) na2), (lA, listOf (List.toArray vl2) nl2), (pb2, listOf (List.toArray pend2) np2'), (x2, instObj 108 dx2), (dx2, dictOf (lexD w.params z ln inst pb2) nd)], rfl, by assumption, news_sub N14 (fun p hp => .tail _ hp), rfl, ?_⟩
        refine ⟨va2, na2, vl2, nl2, pend2, np2', laid2, away2, rfl, g1, g2, g3, g4, g5, g6, hvl2, hva2, hpd2, h52, hal2, hgl2, by exact Mine.om38 hll2, ?_, hvt2, hpt2, hT2.mono (by k_extra "LATS"; exact Mine.om39 htk10 (by assumption))⟩
        rw [List.range_succ, List.foldl_append, hf2]
        show clsStep rs (got ++ [word]) word (laid2, away2) i = _
        unfold clsStep
        rw [hsw, if_neg (fun q => q.1 hnin)]
    · intro m3 ld3 h20 tk20 tk20' htk20' htk20 hJa F20 N20
      (try k_fold)
      refine byGoal fun P9 k9 => ?_
      obtain ⟨va3, na3, vl3, nl3, pend3, np3', laid3, away3, rfl, g1, g2, g3, g4, g5, g6, hvl3, hva3, hpd3, h53, hal3, hgl3, hll3, hf3, hvt3, hpt3, hT3⟩ := hJa
      refine k9 ?_
      clear k9 P9
      k_extra "KS"
      obtain ⟨k1, rfl⟩ : ∃ k1, k' = k1 + 1 := ⟨k' - 1, by exact Mine.om40 hk zl hge c2⟩
      refine ⟨k1, _, _, _, _, Nat.lt_succ_self _, rfl, by assumption, by assumption, ?_⟩
      refine ⟨_, _, _, _, _, _, _, _, laid3, away3, got ++ [word], rfl, g1, g2, g3, g4, g5, hvl3, hva3, by rw [List.map_append]; exact strsAre_append hvg (.cons _ _ .nil), by rw [List.length_append]; exact hpd3, h53, hal3, by rw [List.length_append]; exact hgl3, by exact Mine.om41 zl c2 hll3, by rw [List.length_append, List.length_singleton]; exact Mine.om42 hk, ?_, by rw [List.length_append]; exact hvt3, by rw [List.length_append]; exact hpt3, hT3.mono (by k_extra "LATS"; exact Mine.om43 htk20)⟩
      rw [← hrun]
      have hcond : got.length < laid.length ∧ laid.length < 17 := ⟨by exact Mine.om44 hge, by exact Mine.om45 zl c2⟩
      have e : clsTurn rs (laid, away, got) = (laid3, away3, got ++ [word]) := by
        unfold clsTurn
        dsimp only
        rw [hwd, hf3]
      show _ = (if got.length < laid.length ∧ laid.length < 17 then clsRun rs k1 (clsTurn rs (laid, away, got)) else (laid, away, got))
      rw [if_pos hcond, e]
  · rename ¬ decide ((vl.toArray.size : Int) < 17) = true => c2
    have c2 : ¬ ((vl.toArray.size : Int) < 17) := fun q => c2 (decide_eq_true q)
    rename @LT.lt Nat _ gA _ ∧ _ => lD
    exact fin _ _ _ _ vg ng va na vl nl pend np' laid away got k' (by assumption) (by assumption) lD.1 hvl hva hvg hpd (fun q => by exact Mine.om46 zl c2 q.2) hrun ⟨hvgt, hpdt, _, hTk⟩
  · rename ¬ decide ((vg.toArray.size : Int) < (vl.toArray.size : Int)) = true => c1
    have c1 : ¬ ((vg.toArray.size : Int) < (vl.toArray.size : Int)) := fun q => c1 (decide_eq_true q)
    rename @LT.lt Nat _ gA _ ∧ _ => lD
    exact fin _ _ _ _ vg ng va na vl nl pend np' laid away got k' (by assumption) (by assumption) lD.1 hvl hva hvg hpd (fun q => by exact Mine.om47 zg zl c1 q.1) hrun ⟨hvgt, hpdt, _, hTk⟩
end
end Mine
end
section
set_option maxHeartbeats 1000000
namespace Mine
example : True := by
  k_with_none
  (k_with "STOPS" => (first | (with_reducible first | show wpAny _ _ (pyIter _) _ _ _ | show wpAny _ _ (exec (Stmt.While _ _ _ _) _) _ _ _ | show wpAny _ _ (exec (Stmt.For _ _ _ _ _) _) _ _ _ | show wpAny _ _ (call (Value.builtin "str.join") _ _) _ _ _ | show EachEnd _ _ _ _ _ _ _ | show TurnEnd _ _ _ _ _ _ _ _ _ | show TurnEndT _ _ _ _ _ _ _ _ _ | show WhileEnd _ _ _ _ _ _ _ _ | show EltEnd _ _ _ _ _ _ _ _ | show EnumEnd _ _ _ _ _ _ _ _) | fail "row"))
  (k_with "SZ" => (first | (first | decide | exact Nat.le_trans (by assumption) (by decide) | exact Nat.le_trans (Nat.le_of_eq (by assumption)) (by decide) | (show 1 ≤ _; decide) | (simp only [str_len_add, *]; first | done | decide | omega)) | fail "row"))
  (k_with "eval Name" => (first | ((k_dflt (((with_reducible refine' ldEp (by k_dflt (with_reducible assumption)) (by k_dflt (rfl)) (by k_dflt (rfl)) (by k_dflt (rfl)) (by k_dflt (decide)) (by k_dflt (first | rfl | assumption)) ?_)); k_whole))) | fail "row"))
  (k_with "loadName" => (first | ((k_dflt (((with_reducible refine' ldnEp (by k_dflt (with_reducible assumption)) (by k_dflt (rfl)) (by k_dflt (rfl)) (by k_dflt (rfl)) (by k_dflt (first | rfl | assumption)) ?_)); k_whole))) | fail "row"))
  (k_with "eval Name" => (first | ((k_dflt (((with_reducible refine' ldKp (by k_dflt (with_reducible assumption)) (by k_dflt (rfl)) (by k_dflt (rfl)) (by k_dflt (rfl)) (by k_dflt (decide)) (by k_dflt (k_mem)) (by k_dflt (assumption)) ?_)); k_whole))) | fail "row"))
  (k_with "eval ListComp" => (first | ((k_dflt ((with_reducible refine' comp_rule (by k_dflt (exact rfl)) ?_ (by k_dflt (rfl)) (by k_dflt (decide)) (by k_dflt (intro _; rfl)))))) | fail "row"))
  (k_with "binaryOp Add str str" => (first | ((k_dflt ((with_reducible refine addSN (by k_dflt (k_extra "SZ")) (by k_dflt (k_extra "SZ")) ?_); intro t9 tk9; revert t9 tk9; intro _ _))) | fail "row"))
  (k_with "compareOp In str str" => (first | (((with_reducible refine inC ?_))) | fail "row"))
  (k_with "KS" => (first | (repeat' (first | ((with_reducible show wpAny _ _ (execs _ _) _ _ _); k_fold) | (k_unfold; (try dsimp only)) | ((fail_if_success (k_extra "STOPS")); walk1) | dsimp only)) | fail "row"))
  (k_with "ite" => (first | ((k_dflt first | (k_closed; first | ((with_reducible refine ite_pos (by k_dflt (decide)) ?_)) | ((with_reducible refine ite_neg (by k_dflt (decide)) ?_))) | ((with_reducible refine split_decN ?_ ?_) <;> intro _))) | fail "row"))
  (k_with "LATS" => (first | (repeat (rename (Later _ _) => la9; have lb9 := leN la9.1; clear la9; (try simp only at lb9))) | fail "row"))
  (k_with "eval Dict" => (first | ((k_dflt ((refine' kdn_int (by k_dflt (rfl)) (by k_dflt (k_asm)) (by k_dflt (first | k_asm | exact News.nil)) (by k_dflt (exact TopRead.nolimit (by k_asm))) (by k_dflt (rfl)) (by k_dflt (rfl)) (by k_dflt (exact List.cons_ne_nil _ _)) (by k_dflt (exact Nat.le_of_ble_eq_true rfl)) ?_); intro d' h' o' F' N' l1 lo' hd'; (try k_lt l1); revert d' h' o' F' N' l1 lo' hd'; intro _ _ _ _ _ _ _ _))) | fail "row"))
  (k_with "binaryOp Add ref ref" => (first | ((k_dflt ((with_reducible refine' addL (by k_dflt (assumption)) (by k_dflt (assumption)) (by k_dflt (is_list)) (by k_dflt (is_list)) (by k_dflt ((simp only [List.length_append, List.length_cons, List.length_nil, sizeLine]; omega))) ?_); intro D9 h9 F9 N9 l9; (try k_lt l9); revert D9 h9 F9 N9 l9; intro _ _ _ _ _))) | fail "row"))
  (k_with "storeName" => (first | ((k_dflt (((with_reducible refine' stKp (by k_dflt (with_reducible assumption)) (by k_dflt (with_reducible assumption)) (by k_dflt (rfl)) (by k_dflt (rfl)) (by k_dflt (rfl)) (by k_dflt (k_updF)) (by k_dflt (assumption)) ?_)); k_whole; intro h9 o9 F9 N9 d9; (try dsimp only at N9); revert h9 o9 F9 N9 d9; intro _ _ _ _ _))) | fail "row"))
  (k_with "JUNK" => (first | (repeat (first | (with_reducible show Str; exact Str.ofString "") | (with_reducible show Value; exact Value.none) | (with_reducible show List (Str × Addr); exact []) | (with_reducible show Addr; exact 0))) | fail "row"))
  (k_with "exec Assign cons ListComp" => (first | ((k_dflt ((with_reducible refine' comp_assign (by k_dflt (exact rfl)) (by k_dflt (rfl)) (by k_dflt (rfl)) (by k_dflt (rfl)) ?_ (by k_dflt (rfl)) (by k_dflt (decide)) (by k_dflt (intro _; rfl)))))) | fail "row"))
  (k_with "SUBL" => (first | (((with_reducible show wpAny _ _ (subscriptTail _ _ (Value.ref _) (Value.int _ _)) _ _ _); k_dflt ((with_reducible refine' subL (by k_dflt (is_list)) (by k_dflt (first | exact rfl | exact (rfl : (0:Int) = ((0:Nat):Int)) | exact (rfl : (1:Int) = ((1:Nat):Int)) | exact (rfl : (2:Int) = ((2:Nat):Int)) | exact (rfl : (3:Int) = ((3:Nat):Int)))) (by k_dflt (first | assumption | rfl)) (by k_dflt (first | decide | omega)) ?_ (by k_dflt (with_unfolding_all rfl)))))) | fail "row"))
  (k_with "subscriptTail" => (first | ((k_extra "SUBL")) | fail "row"))
  (k_with "subscriptTail Name Name ref int" => (first | ((k_extra "SUBL")) | fail "row"))
  (k_with "subscriptTail Name Constant ref int" => (first | ((k_extra "SUBL")) | fail "row"))
  (k_with "subscriptTail" => (first | (((with_reducible show wpAny _ _ (subscriptTail _ _ (Value.ref _) (Value.int _ _)) _ _ _); k_dflt ((with_reducible refine' getI (by k_dflt (with_reducible assumption)) (by k_dflt (k_mem)) (by k_dflt (assumption)) (by k_dflt (assumption)) ?_ (by k_dflt (with_unfolding_all rfl)))))) | fail "row"))
  trivial
example : True := by
  (k_with "PJ" => (first | ((first | exact hC.1 | exact hC.2.1 | exact hC.2.2.1 | exact hC.2.2.2.1 | exact hC.2.2.2.2.1 | exact hC.2.2.2.2.2.1 | exact hC.2.2.2.2.2.2.1 | exact hC.2.2.2.2.2.2.2.1 | exact hC.2.2.2.2.2.2.2.2.1 | exact hC.2.2.2.2.2.2.2.2.2.1 | exact hC.2.2.2.2.2.2.2.2.2.2.1 | exact hC.2.2.2.2.2.2.2.2.2.2.2.1 | exact hC.2.2.2.2.2.2.2.2.2.2.2.2.1 | exact hC.2.2.2.2.2.2.2.2.2.2.2.2.2.1 | exact hC.2 | exact hC.2.2 | exact hC.2.2.2 | exact hC.2.2.2.2 | exact hC.2.2.2.2.2 | exact hC.2.2.2.2.2.2 | exact hC.2.2.2.2.2.2.2 | exact hC.2.2.2.2.2.2.2.2 | exact hC.2.2.2.2.2.2.2.2.2 | exact hC.2.2.2.2.2.2.2.2.2.2 | exact hC.2.2.2.2.2.2.2.2.2.2.2 | exact hC.2.2.2.2.2.2.2.2.2.2.2.2 | exact hC.2.2.2.2.2.2.2.2.2.2.2.2.2)) | fail "row"))
  (k_with "LT" => (first | (((repeat (first | exact Nat.lt_succ_self _ | (with_reducible assumption) | refine Nat.lt_succ_of_lt ?_)); done)) | fail "row"))
  (k_with "NE" => (first | ((refine neN ?_; (try dsimp only); first | exact Hold.out (by assumption) | exact Nat.ne_of_lt (by assumption) | exact Nat.ne_of_gt (by assumption) | (refine Nat.ne_of_lt ?_; k_extra "LT"; done) | (refine Nat.ne_of_gt ?_; k_extra "LT"; done) | exact Nat.ne_of_gt (lt2 (by assumption) (fun hC => by k_extra "PJ")) | exact Nat.ne_of_lt (lt2 (by assumption) (fun hC => by k_extra "PJ")) | exact ne2 (by assumption) (fun hC => by k_extra "PJ") | exact Ne.symm (ne2 (by assumption) (fun hC => by k_extra "PJ")) | exact Nat.ne_of_gt (ltM (by assumption) (by k_mem)) | exact Nat.ne_of_gt (ltM (Hold.out (by assumption)) (by k_mem)))) | fail "row"))
  trivial

example : True := by
  (k_with "call builtin:len" => (first | (((with_reducible show wpAny _ _ (call (Value.builtin "len") [Value.ref _]) _ _ _); k_dflt ((refine' call_len_list (by k_dflt (is_list)) (by k_dflt (omega)) ?_)))) | fail "row"))
  trivial
section
variable {w : World} {base : Heap} {A : Around} {E : Value → Shared → Prop} {s : Shared} {Q : Value → Shared → Prop} {k : Nat} {t : Tok}
inductive CellJ (cA sl : Addr) (m : Str → Option Value) (ld : List (Addr × Obj)) : Prop
  | mk (c0 c1 c2 : Int) (t0 t1 t2 : Tok) (n : Nat) (e : ld = [(cA, listOf #[.int c0 t0, .int c1 t1, .int c2 t2] n)]) (e1 : m "cells" = some (.ref cA)) (e2 : m "script" = some (.ref sl))
theorem c_cells {sl : Addr} {vs : List Value} {ns : List Int} (G : G0 w base) (st : base.StaysIn s.heap) (R : Rm A (k + 4)) (hs : s.heap.IsList sl vs.toArray) (hns : IntsAre vs ns) (hl : vs.length ≤ 63)
   (h : ∀ r h' tk c0 c1 c2 t0 t1 t2 n, s.heap.StaysIn h' → Fresh s.heap h' r (listOf #[.int c0 t0, .int c1 t1, .int c2 t2] n) → Q (.ref r) { s with heap := h', toks := tk }) :
   wpAny (model PG w) A (call (.ref 136) [.ref sl]) Q E s := by
  refine wpAny_call ?_
  refine enterH (ld := []) (binds := [("script", .ref sl)]) G st (fun _ h => nomatch h) R.room (by k_is) (by k_is) (BindsTo.of_eq rfl) (locs rfl) ?_ (by decide)
  intro g L h₁ up dn F N X G'
  obtain ⟨pp, loo, mg, mb, T⟩ := G'.T
  have R' := R.deeper
  dsimp only [List.reverse_cons, List.reverse_nil, List.nil_append, List.cons_append, List.length_cons, List.length_nil] at F ⊢
  have X' := X
  have hU := R.units
  have hg := isList_up hs up
  have zs : vs.toArray.size = vs.length := rfl
  have zn := intsAre_len hns
  k_extra "KS"
  rename_i cA _ _ _ _ _
  refine for_rule ?_
  k_extra "KS"
  rename (Fr _ _ _ _) => F1
  rename (News _ _ _ _) => N1
  rename (IsRange _ _ _ _ _ _ _ _) => hir
  refine for_range (L := L) (n := ns.length) (fun _ m ld => CellJ cA sl m ld) (Rm.h (Rm.deeper (by assumption) _)) hir (by exact Mine.om276 hl zn) (fr_nL (by assumption) (fresh_of (Nat.le_refl _))) F1 N1 ⟨_, _, _, _, _, _, _, rfl, rfl, rfl⟩ ?_ ?_
  · intro i ti m ld h1 tk1 own hi1 htk had hoff hJa F2 N2
    (try k_fold)
    refine byGoal fun P9 k9 => ?_
    obtain ⟨c0, c1, c2, t0, t1, t2, n, rfl, e1, e2⟩ := hJa
    refine k9 ?_
    clear k9 P9
    k_extra "KS"
    have U : ∀ o', Upd cA (listOf #[.int c0 t0, .int c1 t1, .int c2 t2] n) o' ([(cA, listOf #[.int c0 t0, .int c1 t1, .int c2 t2] n)] ++ own) ([(cA, o')] ++ own) := fun o' => updF_upd (UpdF.app (gf := fun o => [(cA, o)]) (.head fmn) (fun p hp => hoff p hp _ (by simp)))
    rcases (show ((i : Int).fmod 3 = 0 ∨ (i : Int).fmod 3 = 1 ∨ (i : Int).fmod 3 = 2) by
      rw [Int.fmod_eq_emod_of_nonneg _ (by decide)]; exact Mine.om48) with e | e | e <;> rw [e]
    · refine ki_set F2 N2 (by decide) (by decide) rfl (U _) ?_
      intro h9 F9 N9
      k_extra "KS"
      refine ⟨_, _, _, [(cA, _)], rfl, F9, N9, rfl, ?_⟩
      exact ⟨_, _, _, _, _, _, _, rfl, e1, e2⟩
    · refine ki_set F2 N2 (by decide) (by decide) rfl (U _) ?_
      intro h9 F9 N9
      k_extra "KS"
      refine ⟨_, _, _, [(cA, _)], rfl, F9, N9, rfl, ?_⟩
      exact ⟨_, _, _, _, _, _, _, rfl, e1, e2⟩
    · refine ki_set F2 N2 (by decide) (by decide) rfl (U _) ?_
      intro h9 F9 N9
      k_extra "KS"
      refine ⟨_, _, _, [(cA, _)], rfl, F9, N9, rfl, ?_⟩
      exact ⟨_, _, _, _, _, _, _, rfl, e1, e2⟩
  · intro m ld h1 tk1 htk hJa F2 N2
    (try k_fold)
    refine byGoal fun P9 k9 => ?_
    obtain ⟨c0, c1, c2, t0, t1, t2, n, rfl, e1, e2⟩ := hJa
    refine k9 ?_
    clear k9 P9
    k_extra "KS"
    exact h _ _ _ _ _ _ _ _ _ _ (fun b o e => Fr.keep (by assumption) b o (up b o e (fun q => nomatch q))) (fresh_of_news (by assumption) (.head _) up)
end
end Mine
end
section
set_option maxHeartbeats 1000000
namespace Mine
example : True := by
  k_with_none
  (k_with "STOPS" => (first | (with_reducible first | show wpAny _ _ (pyIter _) _ _ _ | show wpAny _ _ (exec (Stmt.While _ _ _ _) _) _ _ _ | show wpAny _ _ (exec (Stmt.For _ _ _ _ _) _) _ _ _ | show wpAny _ _ (call (Value.builtin "str.join") _ _) _ _ _ | show EachEnd _ _ _ _ _ _ _ | show TurnEnd _ _ _ _ _ _ _ _ _ | show TurnEndT _ _ _ _ _ _ _ _ _ | show WhileEnd _ _ _ _ _ _ _ _ | show EltEnd _ _ _ _ _ _ _ _ | show EnumEnd _ _ _ _ _ _ _ _) | fail "row"))
  (k_with "SZ" => (first | (first | decide | exact Nat.le_trans (by assumption) (by decide) | exact Nat.le_trans (Nat.le_of_eq (by assumption)) (by decide) | (show 1 ≤ _; decide) | (simp only [str_len_add, *]; first | done | decide | omega)) | fail "row"))
  (k_with "eval Name" => (first | ((k_dflt (((with_reducible refine' ldEp (by k_dflt (with_reducible assumption)) (by k_dflt (rfl)) (by k_dflt (rfl)) (by k_dflt (rfl)) (by k_dflt (decide)) (by k_dflt (first | rfl | assumption)) ?_)); k_whole))) | fail "row"))
  (k_with "loadName" => (first | ((k_dflt (((with_reducible refine' ldnEp (by k_dflt (with_reducible assumption)) (by k_dflt (rfl)) (by k_dflt (rfl)) (by k_dflt (rfl)) (by k_dflt (first | rfl | assumption)) ?_)); k_whole))) | fail "row"))
  (k_with "eval Name" => (first | ((k_dflt (((with_reducible refine' ldKp (by k_dflt (with_reducible assumption)) (by k_dflt (rfl)) (by k_dflt (rfl)) (by k_dflt (rfl)) (by k_dflt (decide)) (by k_dflt (k_mem)) (by k_dflt (assumption)) ?_)); k_whole))) | fail "row"))
  (k_with "eval ListComp" => (first | ((k_dflt ((with_reducible refine' comp_rule (by k_dflt (exact rfl)) ?_ (by k_dflt (rfl)) (by k_dflt (decide)) (by k_dflt (intro _; rfl)))))) | fail "row"))
  (k_with "binaryOp Add str str" => (first | ((k_dflt ((with_reducible refine addSN (by k_dflt (k_extra "SZ")) (by k_dflt (k_extra "SZ")) ?_); intro t9 tk9; revert t9 tk9; intro _ _))) | fail "row"))
  (k_with "compareOp In str str" => (first | (((with_reducible refine inC ?_))) | fail "row"))
  (k_with "KS" => (first | (repeat' (first | ((with_reducible show wpAny _ _ (execs _ _) _ _ _); k_fold) | (k_unfold; (try dsimp only)) | ((fail_if_success (k_extra "STOPS")); walk1) | dsimp only)) | fail "row"))
  (k_with "ite" => (first | ((k_dflt first | (k_closed; first | ((with_reducible refine ite_pos (by k_dflt (decide)) ?_)) | ((with_reducible refine ite_neg (by k_dflt (decide)) ?_))) | ((with_reducible refine split_decN ?_ ?_) <;> intro _))) | fail "row"))
  (k_with "LATS" => (first | (repeat (rename (Later _ _) => la9; have lb9 := leN la9.1; clear la9; (try simp only at lb9))) | fail "row"))
  (k_with "eval Dict" => (first | ((k_dflt ((refine' kdn_int (by k_dflt (rfl)) (by k_dflt (k_asm)) (by k_dflt (first | k_asm | exact News.nil)) (by k_dflt (exact TopRead.nolimit (by k_asm))) (by k_dflt (rfl)) (by k_dflt (rfl)) (by k_dflt (exact List.cons_ne_nil _ _)) (by k_dflt (exact Nat.le_of_ble_eq_true rfl)) ?_); intro d' h' o' F' N' l1 lo' hd'; (try k_lt l1); revert d' h' o' F' N' l1 lo' hd'; intro _ _ _ _ _ _ _ _))) | fail "row"))
  (k_with "binaryOp Add ref ref" => (first | ((k_dflt ((with_reducible refine' addL (by k_dflt (assumption)) (by k_dflt (assumption)) (by k_dflt (is_list)) (by k_dflt (is_list)) (by k_dflt ((simp only [List.length_append, List.length_cons, List.length_nil, sizeLine]; omega))) ?_); intro D9 h9 F9 N9 l9; (try k_lt l9); revert D9 h9 F9 N9 l9; intro _ _ _ _ _))) | fail "row"))
  (k_with "storeName" => (first | ((k_dflt (((with_reducible refine' stKp (by k_dflt (with_reducible assumption)) (by k_dflt (with_reducible assumption)) (by k_dflt (rfl)) (by k_dflt (rfl)) (by k_dflt (rfl)) (by k_dflt (k_updF)) (by k_dflt (assumption)) ?_)); k_whole; intro h9 o9 F9 N9 d9; (try dsimp only at N9); revert h9 o9 F9 N9 d9; intro _ _ _ _ _))) | fail "row"))
  (k_with "JUNK" => (first | (repeat (first | (with_reducible show Str; exact Str.ofString "") | (with_reducible show Value; exact Value.none) | (with_reducible show List (Str × Addr); exact []) | (with_reducible show Addr; exact 0))) | fail "row"))
  (k_with "exec Assign cons ListComp" => (first | ((k_dflt ((with_reducible refine' comp_assign (by k_dflt (exact rfl)) (by k_dflt (rfl)) (by k_dflt (rfl)) (by k_dflt (rfl)) ?_ (by k_dflt (rfl)) (by k_dflt (decide)) (by k_dflt (intro _; rfl)))))) | fail "row"))
  (k_with "SUBL" => (first | (((with_reducible show wpAny _ _ (subscriptTail _ _ (Value.ref _) (Value.int _ _)) _ _ _); k_dflt ((with_reducible refine' subL (by k_dflt (is_list)) (by k_dflt (first | exact rfl | exact (rfl : (0:Int) = ((0:Nat):Int)) | exact (rfl : (1:Int) = ((1:Nat):Int)) | exact (rfl : (2:Int) = ((2:Nat):Int)) | exact (rfl : (3:Int) = ((3:Nat):Int)))) (by k_dflt (first | assumption | rfl)) (by k_dflt (first | decide | omega)) ?_ (by k_dflt (with_unfolding_all rfl)))))) | fail "row"))
  (k_with "subscriptTail" => (first | ((k_extra "SUBL")) | fail "row"))
  (k_with "subscriptTail Name Name ref int" => (first | ((k_extra "SUBL")) | fail "row"))
  (k_with "subscriptTail Name Constant ref int" => (first | ((k_extra "SUBL")) | fail "row"))
  (k_with "subscriptTail" => (first | (((with_reducible show wpAny _ _ (subscriptTail _ _ (Value.ref _) (Value.int _ _)) _ _ _); k_dflt ((with_reducible refine' getI (by k_dflt (with_reducible assumption)) (by k_dflt (k_mem)) (by k_dflt (assumption)) (by k_dflt (assumption)) ?_ (by k_dflt (with_unfolding_all rfl)))))) | fail "row"))
  trivial
example : True := by
  (k_with "PJ" => (first | ((first | exact hC.1 | exact hC.2.1 | exact hC.2.2.1 | exact hC.2.2.2.1 | exact hC.2.2.2.2.1 | exact hC.2.2.2.2.2.1 | exact hC.2.2.2.2.2.2.1 | exact hC.2.2.2.2.2.2.2.1 | exact hC.2.2.2.2.2.2.2.2.1 | exact hC.2.2.2.2.2.2.2.2.2.1 | exact hC.2.2.2.2.2.2.2.2.2.2.1 | exact hC.2.2.2.2.2.2.2.2.2.2.2.1 | exact hC.2.2.2.2.2.2.2.2.2.2.2.2.1 | exact hC.2.2.2.2.2.2.2.2.2.2.2.2.2.1 | exact hC.2 | exact hC.2.2 | exact hC.2.2.2 | exact hC.2.2.2.2 | exact hC.2.2.2.2.2 | exact hC.2.2.2.2.2.2 | exact hC.2.2.2.2.2.2.2 | exact hC.2.2.2.2.2.2.2.2 | exact hC.2.2.2.2.2.2.2.2.2 | exact hC.2.2.2.2.2.2.2.2.2.2 | exact hC.2.2.2.2.2.2.2.2.2.2.2 | exact hC.2.2.2.2.2.2.2.2.2.2.2.2 | exact hC.2.2.2.2.2.2.2.2.2.2.2.2.2)) | fail "row"))
  (k_with "LT" => (first | (((repeat (first | exact Nat.lt_succ_self _ | (with_reducible assumption) | refine Nat.lt_succ_of_lt ?_)); done)) | fail "row"))
  (k_with "NE" => (first | ((refine neN ?_; (try dsimp only); first | exact Hold.out (by assumption) | exact Nat.ne_of_lt (by assumption) | exact Nat.ne_of_gt (by assumption) | (refine Nat.ne_of_lt ?_; k_extra "LT"; done) | (refine Nat.ne_of_gt ?_; k_extra "LT"; done) | exact Nat.ne_of_gt (lt2 (by assumption) (fun hC => by k_extra "PJ")) | exact Nat.ne_of_lt (lt2 (by assumption) (fun hC => by k_extra "PJ")) | exact ne2 (by assumption) (fun hC => by k_extra "PJ") | exact Ne.symm (ne2 (by assumption) (fun hC => by k_extra "PJ")) | exact Nat.ne_of_gt (ltM (by assumption) (by k_mem)) | exact Nat.ne_of_gt (ltM (Hold.out (by assumption)) (by k_mem)))) | fail "row"))
  trivial

example : True := by
  (k_with "assign" => (first | ((k_dflt ((with_reducible refine' unpackT (by k_dflt (assumption)) (by k_dflt (assumption)) (by k_dflt (exact Rm.h (Rm.deeper (by assumption) _))) (by k_dflt (assumption)) (by k_dflt (rfl)) (by k_dflt (rfl)) ?_); k_whole; intro h9 F9 N9 k9; revert h9 F9 N9 k9; intro _ _ _ _))) | fail "row"))
  (k_with "STOPS" => (first | (with_reducible show wpAny _ _ (compareOp CmpOp.Eq (Value.ref _) (Value.ref _)) _ _ _) | fail "row"))
  trivial
inductive Tr where
  | nil : Tr
  | node (c : Nat) (l r : Tr) : Tr
noncomputable def Tr.hgt : Tr → Nat
  | .nil => 0
  | .node _ l r => max l.hgt r.hgt + 1
noncomputable def TreeAt (h : Heap) : Tr → Value → Prop
  | .nil, v => ∃ a n, v = .ref a ∧ h.get? a = some (listOf #[] n)
  | .node c l r, v => ∃ a n vl vr t, v = .ref a ∧ h.get? a = some (listOf #[.str (S [c]) t, vl, vr] n) ∧ TreeAt h l vl ∧ TreeAt h r vr
theorem TreeAt.up {h h' : Heap} (k : h.StaysIn h') : ∀ {T : Tr} {v : Value}, TreeAt h T v → TreeAt h' T v
  | .nil, _, ⟨a, n, e, g⟩ => ⟨a, n, e, k _ _ g⟩
  | .node _ _ _, _, ⟨a, n, vl, vr, t, e, g, q1, q2⟩ => ⟨a, n, vl, vr, t, e, k _ _ g, q1.up k, q2.up k⟩
noncomputable def mixW (a b : Nat) (w : Int) (n : Nat) : Int := (List.range n).foldl (fun (w : Int) (k : Nat) => (w * ((a : Int) + (b : Int) - (k : Int))).fdiv ((k : Int) + 1)) w
theorem mixW_succ (a b : Nat) (w : Int) (n : Nat) : mixW a b w (n + 1) = (mixW a b w n * ((a : Int) + (b : Int) - (n : Int))).fdiv ((n : Int) + 1) := by
  unfold mixW; rw [List.range_succ, List.foldl_append]; rfl
noncomputable def mixP : Tr → Nat × Int
  | .nil => (0, 1)
  | .node _ l r => ((mixP l).1 + (mixP r).1 + 1, mixW (mixP l).1 (mixP r).1 ((mixP l).2 * (mixP r).2) (mixP l).1)
noncomputable def Tr.size : Tr → Nat
  | .nil => 0
  | .node _ l r => l.size + r.size + 1
theorem mixP_fst : ∀ T : Tr, (mixP T).1 = T.size
  | .nil => rfl
  | .node _ l r => by show (mixP l).1 + (mixP r).1 + 1 = _; rw [mixP_fst l, mixP_fst r]; rfl
noncomputable def okT : Tr → Bool
  | .nil => true
  | .node _ l r => okT l && okT r && decide (-1000000000 ≤ (mixP r).2 ∧ (mixP r).2 ≤ 1000000000)
section
variable {w : World} {base : Heap}
theorem c_mixed (G₀ : True) : ∀ (T : Tr) {k : Nat} {A : Around} {E : Value → Shared → Prop} {s : Shared} {Q : Value → Shared → Prop} {base : Heap} {v : Value} (G : G0 w base) (st : base.StaysIn s.heap) (R : Rm A (k + 2 * T.hgt + 3)) (ht : TreeAt s.heap T v) (hz : T.size ≤ 100) (hok : okT T = true)
   (h : ∀ r h' tk t0 t1, s.heap.StaysIn h' → Fresh s.heap h' r { cls := .type "tuple", data := .seq #[.int ((mixP T).1 : Nat) t0, .int (mixP T).2 t1] } → Q (.ref r) { s with heap := h', toks := tk }),
   wpAny (model PG w) A (call (.ref 184) [v]) Q E s := by
  intro T
  induction T with
  | nil =>
    intro k A E s Q base v G st R ht hz hok h
    (try k_fold)
    refine byGoal fun P9 k9 => ?_
    obtain ⟨a, n, rfl, ha⟩ := ht
    refine k9 ?_
    clear k9 P9
    refine wpAny_call ?_
    refine enterH (ld := []) (binds := [("tree", .ref a)]) G st (fun _ h => nomatch h) R.room (by k_is) (by k_is) (BindsTo.of_eq rfl) (locs rfl) ?_ (by decide)
    intro g L h₁ up dn F N X G'
    obtain ⟨pp, loo, mg, mb, T⟩ := G'.T
    have R' := R.deeper
    dsimp only [List.reverse_cons, List.reverse_nil, List.nil_append, List.cons_append, List.length_cons, List.length_nil] at F ⊢
    have X' := X
    have hU := R.units
    have ga := up _ _ ha (fun q => nomatch q)
    k_extra "KS"
    refine PySem.SeqAt.eq_listAt (e := fun _ => true) ⟨_, Fr.keep (by assumption) _ _ ga, rfl, n, rfl⟩ (News.isList (by assumption) (.head _)) rfl (R' _).units (fun j h1 _ => absurd h1 (Nat.not_lt_zero j)) ?_
    have e9 : (List.range (#[] : Array Value).size).all (fun _ => true) = true := rfl
    rw [e9]
    k_extra "KS"
    exact h _ _ _ _ _ (fun b o e => Fr.keep (by assumption) b o (up b o e (fun q => nomatch q))) (fresh_of_news (by assumption) (.head _) up)
  | node c l r ihl ihr =>
    intro k A E s Q base v G st R ht hz hok h
    (try k_fold)
    refine byGoal fun P9 k9 => ?_
    obtain ⟨a, n, vl, vr, t, rfl, ha, hl, hr⟩ := ht
    refine k9 ?_
    clear k9 P9
    refine wpAny_call ?_
    refine enterH (ld := []) (binds := [("tree", .ref a)]) G st (fun _ h => nomatch h) R.room (by k_is) (by k_is) (BindsTo.of_eq rfl) (locs rfl) ?_ (by decide)
    intro g L h₁ up dn F N X G'
    obtain ⟨pp, loo, mg, mb, T⟩ := G'.T
    have R' := R.deeper
    dsimp only [List.reverse_cons, List.reverse_nil, List.nil_append, List.cons_append, List.length_cons, List.length_nil] at F ⊢
    have X' := X
    have hU := R.units
    have ga := up _ _ ha (fun q => nomatch q)
    have gl : g.IsList a #[.str (S [c]) t, vl, vr] := ⟨_, ga, rfl, n, rfl⟩
    k_extra "KS"
    refine PySem.SeqAt.eq_list_lengthsAt (isList_keep gl (Fr.keep (by assumption))) (News.isList (by assumption) (.head _)) rfl (R' _).units ?_
    k_extra "KS"
    have R1 : Rm A ((k + 2 * max l.hgt r.hgt + 4) + 1) := R.le (by show _ ≤ k + 2 * (max l.hgt r.hgt + 1) + 3; exact Mine.om49)
    have zsz : l.size + r.size + 1 ≤ 100 := hz
    simp only [okT, Bool.and_eq_true, decide_eq_true_eq] at hok
    (try k_fold)
    refine byGoal fun P9 k9 => ?_
    obtain ⟨⟨okl, okr⟩, okb⟩ := hok
    refine k9 ?_
    clear k9 P9
    refine ihl (k := 0) G' (Fr.keep (by assumption)) ((R1.deeper _).le (by exact Mine.om50)) ((hl.up fun b o e => up b o e (fun q => nomatch q)).up (Fr.keep (by assumption))) (by exact Mine.om51 zsz) okl ?_
    intro r1 h1 tk1 t0 t1 k1 f1
    have F1 := fr_stays (by assumption) k1
    have N1 := news_cons (news_stays (by assumption) k1) (by assumption) f1.new f1.at_
    have i1 : h1.IsTuple r1 #[.int ((mixP l).1 : Nat) t0, .int (mixP l).2 t1] := ⟨_, f1.at_, rfl, 0, rfl⟩
    k_extra "KS"
    refine ihr (k := 0) G' (Fr.keep (by assumption)) ((R1.deeper _).le (by exact Mine.om52)) ((hr.up fun b o e => up b o e (fun q => nomatch q)).up (Fr.keep (by assumption))) (by exact Mine.om53 zsz) okr ?_
    intro r2 h2 tk2 t2 t3 k2 f2
    have F2 := fr_stays (by assumption) k2
    have N2 := news_cons (news_stays (by assumption) k2) (by assumption) f2.new f2.at_
    have i2 : h2.IsTuple r2 #[.int ((mixP r).1 : Nat) t2, .int (mixP r).2 t3] := ⟨_, f2.at_, rfl, 0, rfl⟩
    k_extra "KS"
    refine for_rule ?_
    k_extra "KS"
    rename (Fr _ _ _ _) => F3
    rename (News _ _ _ _) => N3
    rename (IsRange _ _ _ _ _ _ _ _) => hir
    have z1 := mixP_fst l
    have z2 := mixP_fst r
    refine for_range (L := L) (n := (mixP l).1) (fun i m ld => ∃ t4, m "ways" = some (.int (mixW (mixP l).1 (mixP r).1 ((mixP l).2 * (mixP r).2) i) t4) ∧ m "left" = some (.int ((mixP l).1 : Nat) t0) ∧ m "right" = some (.int ((mixP r).1 : Nat) t2)) (Rm.h (Rm.deeper (by assumption) _)) hir (by exact Mine.om277 zsz z1) (fr_nL (by assumption) (fresh_of (Nat.le_refl _))) F3 N3 ⟨_, rfl, rfl, rfl⟩ ?_ ?_
    · intro i ti m ld h4 tk4 own hi4 htk had hoff hJa F4 N4
      (try k_fold)
      refine byGoal fun P9 k9 => ?_
      obtain ⟨t4, e1, e2, e3⟩ := hJa
      refine k9 ?_
      clear k9 P9
      k_extra "KS"
      refine ⟨_, _, _, ld, rfl, by assumption, by assumption, had, ?_⟩
      exact ⟨_, (if_pos rfl).trans (by rw [mixW_succ]), e2, e3⟩
    · intro m ld h4 tk4 htk hJa F4 N4
      (try k_fold)
      refine byGoal fun P9 k9 => ?_
      obtain ⟨t4, e1, e2, e3⟩ := hJa
      refine k9 ?_
      clear k9 P9
      k_extra "KS"
      rename (News _ _ _ _) => N5
      exact h _ _ _ _ _ (fun b o e => Fr.keep (by assumption) b o (up b o e (fun q => nomatch q))) (fresh_of_news N5 (.head _) up)
end
end Mine
end
section
set_option maxHeartbeats 1000000
namespace Mine
example : True := by
  k_with_none
  (k_with "STOPS" => (first | (with_reducible first | show wpAny _ _ (pyIter _) _ _ _ | show wpAny _ _ (exec (Stmt.While _ _ _ _) _) _ _ _ | show wpAny _ _ (exec (Stmt.For _ _ _ _ _) _) _ _ _ | show wpAny _ _ (call (Value.builtin "str.join") _ _) _ _ _ | show EachEnd _ _ _ _ _ _ _ | show TurnEnd _ _ _ _ _ _ _ _ _ | show TurnEndT _ _ _ _ _ _ _ _ _ | show WhileEnd _ _ _ _ _ _ _ _ | show EltEnd _ _ _ _ _ _ _ _ | show EnumEnd _ _ _ _ _ _ _ _) | fail "row"))
  (k_with "SZ" => (first | (first | decide | exact Nat.le_trans (by assumption) (by decide) | exact Nat.le_trans (Nat.le_of_eq (by assumption)) (by decide) | (show 1 ≤ _; decide) | (simp only [str_len_add, *]; first | done | decide | omega)) | fail "row"))
  (k_with "eval Name" => (first | ((k_dflt (((with_reducible refine' ldEp (by k_dflt (with_reducible assumption)) (by k_dflt (rfl)) (by k_dflt (rfl)) (by k_dflt (rfl)) (by k_dflt (decide)) (by k_dflt (first | rfl | assumption)) ?_)); k_whole))) | fail "row"))
  (k_with "loadName" => (first | ((k_dflt (((with_reducible refine' ldnEp (by k_dflt (with_reducible assumption)) (by k_dflt (rfl)) (by k_dflt (rfl)) (by k_dflt (rfl)) (by k_dflt (first | rfl | assumption)) ?_)); k_whole))) | fail "row"))
  (k_with "eval Name" => (first | ((k_dflt (((with_reducible refine' ldKp (by k_dflt (with_reducible assumption)) (by k_dflt (rfl)) (by k_dflt (rfl)) (by k_dflt (rfl)) (by k_dflt (decide)) (by k_dflt (k_mem)) (by k_dflt (assumption)) ?_)); k_whole))) | fail "row"))
  (k_with "eval ListComp" => (first | ((k_dflt ((with_reducible refine' comp_rule (by k_dflt (exact rfl)) ?_ (by k_dflt (rfl)) (by k_dflt (decide)) (by k_dflt (intro _; rfl)))))) | fail "row"))
  (k_with "binaryOp Add str str" => (first | ((k_dflt ((with_reducible refine addSN (by k_dflt (k_extra "SZ")) (by k_dflt (k_extra "SZ")) ?_); intro t9 tk9; revert t9 tk9; intro _ _))) | fail "row"))
  (k_with "compareOp In str str" => (first | (((with_reducible refine inC ?_))) | fail "row"))
  (k_with "KS" => (first | (repeat' (first | ((with_reducible show wpAny _ _ (execs _ _) _ _ _); k_fold) | (k_unfold; (try dsimp only)) | ((fail_if_success (k_extra "STOPS")); walk1) | dsimp only)) | fail "row"))
  (k_with "ite" => (first | ((k_dflt first | (k_closed; first | ((with_reducible refine ite_pos (by k_dflt (decide)) ?_)) | ((with_reducible refine ite_neg (by k_dflt (decide)) ?_))) | ((with_reducible refine split_decN ?_ ?_) <;> intro _))) | fail "row"))
  (k_with "LATS" => (first | (repeat (rename (Later _ _) => la9; have lb9 := leN la9.1; clear la9; (try simp only at lb9))) | fail "row"))
  (k_with "eval Dict" => (first | ((k_dflt ((refine' kdn_int (by k_dflt (rfl)) (by k_dflt (k_asm)) (by k_dflt (first | k_asm | exact News.nil)) (by k_dflt (exact TopRead.nolimit (by k_asm))) (by k_dflt (rfl)) (by k_dflt (rfl)) (by k_dflt (exact List.cons_ne_nil _ _)) (by k_dflt (exact Nat.le_of_ble_eq_true rfl)) ?_); intro d' h' o' F' N' l1 lo' hd'; (try k_lt l1); revert d' h' o' F' N' l1 lo' hd'; intro _ _ _ _ _ _ _ _))) | fail "row"))
  (k_with "binaryOp Add ref ref" => (first | ((k_dflt ((with_reducible refine' addL (by k_dflt (assumption)) (by k_dflt (assumption)) (by k_dflt (is_list)) (by k_dflt (is_list)) (by k_dflt ((simp only [List.length_append, List.length_cons, List.length_nil, sizeLine]; omega))) ?_); intro D9 h9 F9 N9 l9; (try k_lt l9); revert D9 h9 F9 N9 l9; intro _ _ _ _ _))) | fail "row"))
  (k_with "storeName" => (first | ((k_dflt (((with_reducible refine' stKp (by k_dflt (with_reducible assumption)) (by k_dflt (with_reducible assumption)) (by k_dflt (rfl)) (by k_dflt (rfl)) (by k_dflt (rfl)) (by k_dflt (k_updF)) (by k_dflt (assumption)) ?_)); k_whole; intro h9 o9 F9 N9 d9; (try dsimp only at N9); revert h9 o9 F9 N9 d9; intro _ _ _ _ _))) | fail "row"))
  (k_with "JUNK" => (first | (repeat (first | (with_reducible show Str; exact Str.ofString "") | (with_reducible show Value; exact Value.none) | (with_reducible show List (Str × Addr); exact []) | (with_reducible show Addr; exact 0))) | fail "row"))
  (k_with "exec Assign cons ListComp" => (first | ((k_dflt ((with_reducible refine' comp_assign (by k_dflt (exact rfl)) (by k_dflt (rfl)) (by k_dflt (rfl)) (by k_dflt (rfl)) ?_ (by k_dflt (rfl)) (by k_dflt (decide)) (by k_dflt (intro _; rfl)))))) | fail "row"))
  (k_with "SUBL" => (first | (((with_reducible show wpAny _ _ (subscriptTail _ _ (Value.ref _) (Value.int _ _)) _ _ _); k_dflt ((with_reducible refine' subL (by k_dflt (is_list)) (by k_dflt (first | exact rfl | exact (rfl : (0:Int) = ((0:Nat):Int)) | exact (rfl : (1:Int) = ((1:Nat):Int)) | exact (rfl : (2:Int) = ((2:Nat):Int)) | exact (rfl : (3:Int) = ((3:Nat):Int)))) (by k_dflt (first | assumption | rfl)) (by k_dflt (first | decide | omega)) ?_ (by k_dflt (with_unfolding_all rfl)))))) | fail "row"))
  (k_with "subscriptTail" => (first | ((k_extra "SUBL")) | fail "row"))
  (k_with "subscriptTail Name Name ref int" => (first | ((k_extra "SUBL")) | fail "row"))
  (k_with "subscriptTail Name Constant ref int" => (first | ((k_extra "SUBL")) | fail "row"))
  (k_with "subscriptTail" => (first | (((with_reducible show wpAny _ _ (subscriptTail _ _ (Value.ref _) (Value.int _ _)) _ _ _); k_dflt ((with_reducible refine' getI (by k_dflt (with_reducible assumption)) (by k_dflt (k_mem)) (by k_dflt (assumption)) (by k_dflt (assumption)) ?_ (by k_dflt (with_unfolding_all rfl)))))) | fail "row"))
  trivial
example : True := by
  (k_with "PJ" => (first | ((first | exact hC.1 | exact hC.2.1 | exact hC.2.2.1 | exact hC.2.2.2.1 | exact hC.2.2.2.2.1 | exact hC.2.2.2.2.2.1 | exact hC.2.2.2.2.2.2.1 | exact hC.2.2.2.2.2.2.2.1 | exact hC.2.2.2.2.2.2.2.2.1 | exact hC.2.2.2.2.2.2.2.2.2.1 | exact hC.2.2.2.2.2.2.2.2.2.2.1 | exact hC.2.2.2.2.2.2.2.2.2.2.2.1 | exact hC.2.2.2.2.2.2.2.2.2.2.2.2.1 | exact hC.2.2.2.2.2.2.2.2.2.2.2.2.2.1 | exact hC.2 | exact hC.2.2 | exact hC.2.2.2 | exact hC.2.2.2.2 | exact hC.2.2.2.2.2 | exact hC.2.2.2.2.2.2 | exact hC.2.2.2.2.2.2.2 | exact hC.2.2.2.2.2.2.2.2 | exact hC.2.2.2.2.2.2.2.2.2 | exact hC.2.2.2.2.2.2.2.2.2.2 | exact hC.2.2.2.2.2.2.2.2.2.2.2 | exact hC.2.2.2.2.2.2.2.2.2.2.2.2 | exact hC.2.2.2.2.2.2.2.2.2.2.2.2.2)) | fail "row"))
  (k_with "LT" => (first | (((repeat (first | exact Nat.lt_succ_self _ | (with_reducible assumption) | refine Nat.lt_succ_of_lt ?_)); done)) | fail "row"))
  (k_with "NE" => (first | ((refine neN ?_; (try dsimp only); first | exact Hold.out (by assumption) | exact Nat.ne_of_lt (by assumption) | exact Nat.ne_of_gt (by assumption) | (refine Nat.ne_of_lt ?_; k_extra "LT"; done) | (refine Nat.ne_of_gt ?_; k_extra "LT"; done) | exact Nat.ne_of_gt (lt2 (by assumption) (fun hC => by k_extra "PJ")) | exact Nat.ne_of_lt (lt2 (by assumption) (fun hC => by k_extra "PJ")) | exact ne2 (by assumption) (fun hC => by k_extra "PJ") | exact Ne.symm (ne2 (by assumption) (fun hC => by k_extra "PJ")) | exact Nat.ne_of_gt (ltM (by assumption) (by k_mem)) | exact Nat.ne_of_gt (ltM (Hold.out (by assumption)) (by k_mem)))) | fail "row"))
  trivial

example : True := by
  (k_with "call builtin:len" => (first | (((with_reducible show wpAny _ _ (call (Value.builtin "len") [Value.ref _]) _ _ _); k_dflt ((refine' call_len_list (by k_dflt (is_list)) (by k_dflt (omega)) ?_)))) | fail "row"))
  (k_with "UPD" => (first | (first | k_updF | (refine' UpdF.app (by k_dflt (k_extra "UPD")) (by k_dflt ((intro p hp; refine ((by k_dflt (assumption)) : OwnOff _ _) p hp _ (by k_dflt (simp))))))) | fail "row"))
  (k_with "storeName" => (first | ((k_dflt (((with_reducible refine' stKp (by k_dflt (with_reducible assumption)) (by k_dflt (with_reducible assumption)) (by k_dflt (rfl)) (by k_dflt (rfl)) (by k_dflt (rfl)) (by k_dflt (k_extra "UPD")) (by k_dflt (assumption)) ?_)); k_whole; intro h9 o9 F9 N9 d9; (try dsimp only at N9); revert h9 o9 F9 N9 d9; intro _ _ _ _ _))) | fail "row"))
  (k_with "STOPS" => (first | (with_reducible first | show wpAny _ _ (call (Value.builtin "sum") _) _ _ _ | show wpAny _ _ (subscriptTail _ (Expr.Slice _ _ _ _) _ _) _ _ _) | fail "row"))
  trivial
theorem intsAre_take {vs : List Value} {l : List Int} (h : IntsAre vs l) : ∀ k, IntsAre (vs.take k) (l.take k) := by
  induction h with
  | nil => intro k; simp only [List.take_nil]; exact .nil
  | cons x u h ih =>
    intro k
    cases k with
    | zero => exact .nil
    | succ k => exact .cons x u (ih k)
theorem intsAre_drop {vs : List Value} {l : List Int} (h : IntsAre vs l) : ∀ k, IntsAre (vs.drop k) (l.drop k) := by
  induction h with
  | nil => intro k; simp only [List.drop_nil]; exact .nil
  | cons x u h ih =>
    intro k
    cases k with
    | zero => exact .cons x u h
    | succ k => exact ih k
theorem ldB {M : Model} {A : Around} {E : Value → Shared → Prop} {s : Shared} {K : Frag} {g : Heap} {L : Addr} {m mg mb : Str → Option Value} {p : Program} {loose : List Str} {env : Env} {x : Str} {pos : Pos} {v : Value} {Q : Value → Shared → Prop} (F : Fr g L s.heap m) (X : K.In g) (T : TopRead p loose mg mb g) (e : nsIn K mainGlobals x = some none) (hv : bootBuiltins x = some v) (hn : x ≠ "__name__") (h : Q v s)
    (hk : env.scope.kind = .function) (hx : env.kindOf x = some .globalImplicit) (hg : env.globals = mainGlobals) (hb : env.builtins = builtinsNs) (hd : (x == ("__debug__" : Str)) = false) :
    wpAny M A (eval (.Name x pos) env) Q E s := by
  obtain ⟨⟩ := env
  simp only at hg hb
  subst hg hb
  exact Name_function_global hk hx (loadGlobal_builtin (T.g.keeps F.keep) (mg_none_of X T.g e) (T.b.keeps F.keep) ((T.builtins x hn).trans hv) h) hd
example : True := by
  (k_with "eval Name" => (first | (((with_reducible show wpAny _ _ (eval (Expr.Name (Str.ofString "sum") _) _) _ _ _); k_dflt (((with_reducible refine' ldB (v := Value.builtin "sum") (by k_dflt (with_reducible assumption)) (by k_dflt (with_reducible assumption)) (by k_dflt (with_reducible assumption)) (by k_dflt (k_is)) (by k_dflt (decide)) (by k_dflt (decide)) ?_ (by k_dflt (rfl)) (by k_dflt (rfl)) (by k_dflt (rfl)) (by k_dflt (rfl)) (by k_dflt (decide)))); k_whole))) | fail "row"))
  trivial
theorem ints_of_each {n : Nat} {ys : List Value} {f : Nat → Int} (hl : ys.length = n) (h : ∀ (j : Nat) (y : Value), ys[j]? = some y → ∃ t, y = Value.int (f j) t) : IntsAre ys ((List.range n).map f) := by
  subst hl
  induction ys generalizing f with
  | nil => exact .nil
  | cons y ys ih =>
    rw [List.length_cons, List.range_succ_eq_map, List.map_cons, List.map_map]
    obtain ⟨t, rfl⟩ := h 0 y rfl
    exact .cons _ _ (ih fun j y e => h (j + 1) y (by simpa using e))
noncomputable def zigS (up : Bool) (ws : List Int) : List Int := (List.range (ws.length + 1)).map fun k => if up then (ws.take k).sum else (ws.drop k).sum
noncomputable def zigP (bs : List Bool) : Int := (bs.foldl (fun ws up => zigS up ws) [1]).sum
section
variable {w : World} {base : Heap} {A : Around} {E : Value → Shared → Prop} {s : Shared} {Q : Value → Shared → Prop} {k : Nat} {t : Tok}
inductive ZigJ (L : Addr) (bs : List Bool) (i : Nat) (m : Str → Option Value) (ld : List (Addr × Obj)) : Prop
  | mk (oa ob : Obj) (wA : Addr) (ws : List Int) (us : List Value) (n : Nat) (va : Option Value) (e : ld = [(wA, listOf (List.toArray us) n), (L + 1 + 1, oa), (L + 1, ob)]) (da : oa.data = .cell va) (db : ob.data = .cell (some (.ref wA))) (hlt : @LT.lt Nat _ (L + 1 + 1) wA) (hl : us.length ≤ i + 1) (hu : IntsAre us ws) (hw : ws = (bs.take i).foldl (fun ws up => zigS up ws) [1])
theorem c_zig {ul : Addr} {bs : List Bool} (G : G0 w base) (st : base.StaysIn s.heap) (R : Rm A (k + 4)) (hs : s.heap.IsList ul (bs.map Value.bool).toArray) (hl : bs.length ≤ 10)
   (h : ∀ h' tk t', s.heap.StaysIn h' → Q (.int (zigP bs) t') { s with heap := h', toks := tk }) :
   wpAny (model PG w) A (call (.ref 189) [.ref ul]) Q E s := by
  refine wpAny_call ?_
  refine enterC (ld := []) (binds := [("ups", .ref ul)]) G st (fun _ h => nomatch h) R.room (by k_is) (by k_is) (BindsTo.of_eq rfl) rfl ?_ (by decide)
  intro g L h₁ tk₁ cells up dn htk₁ F N Y lL X G'
  obtain ⟨pp, loo, mg, mb, T⟩ := G'.T
  have R' := R.deeper
  first | (obtain ⟨o1, hE, d1⟩ := CellsAre.one Y; subst hE) | (obtain ⟨o1, o2, hE, d1, d2⟩ := CellsAre.two Y; subst hE) | (obtain ⟨o1, o2, o3, hE, d1, d2, d3⟩ := CellsAre.three Y; subst hE) | (obtain ⟨o1, o2, o3, o4, hE, d1, d2, d3, d4⟩ := CellsAre.four Y; subst hE)
  (try simp only [List.cons_append, List.nil_append] at N)
  have X' := X
  have hU := R.units
  have hg := isList_up hs up
  change o1.data = .cell none at d1
  change o2.data = .cell none at d2
  (try k_fold)
  refine byGoal fun P9 k9 => ?_
  obtain ⟨og, hog, _⟩ := id hg
  refine k9 ?_
  clear k9 P9
  k_extra "KS"
  refine for_rule ?_
  k_extra "KS"
  rename (Fr _ _ _ _) => F1
  rename (News _ _ _ _) => N1
  refine for_listV (vs := bs.map Value.bool) (fun i m ld => ZigJ L bs i m ld) (Rm.h (Rm.deeper (by assumption) _)) (isList_keep hg (Fr.keep (by assumption))) (fr_ne (by assumption) hog) (fun q hq => fun e => by have := (N1 q hq).2.2; rw [e, hog] at this; cases this) F1 N1 ⟨_, _, _, [1], [.int 1 tk₁], 0, none, rfl, d1, by assumption, by omega, Nat.le_refl _, .cons _ _ .nil, rfl⟩ ?_ ?_
  · intro i v m ld h1 tk1 own1 hiv htk1 hoff1 hJa F2 N2
    (try k_fold)
    refine byGoal fun P9 k9 => ?_
    obtain ⟨oa, ob, wA, ws, us, n, va, rfl, da, db, hwl, hul, hus, hws⟩ := hJa
    refine k9 ?_
    clear k9 P9
    have hi10 : i < bs.length := by have := (List.getElem?_eq_some_iff.mp hiv).1; simpa using this
    have hus' : IntsAre us ws ∧ True := ⟨hus, trivial⟩
    have zus : us.toArray.size = us.length := rfl
    (try k_fold)
    refine byGoal fun P9 k9 => ?_
    obtain ⟨up, hup, rfl⟩ : ∃ up, bs[i]? = some up ∧ v = .bool up := by
      rw [List.getElem?_map] at hiv
      cases q : bs[i]? with
      | none => rw [q] at hiv; cases hiv
      | some b => rw [q] at hiv; exact ⟨b, rfl, (Option.some.inj hiv).symm⟩
    refine k9 ?_
    clear k9 P9
    have zws := intsAre_len hus
    k_extra "KS"
    rename (Fr _ _ _ _) => F4
    rename (News _ _ _ _) => N4
    rename (IsRange _ _ _ _ _ _ _ _) => hir
    trace_state
    refine comp_range (n := ws.length + 1) (fun i tk y => ∃ t, y = .int (if up then (ws.take i).sum else (ws.drop i).sum) t) (fun _ _ _ _ _ h => h) (Rm.h (Rm.deeper (by assumption) _)) hir (by have : sizeLine = 16777216 := rfl; exact Mine.om54 hl hul hi10 zws this) F4 N4 ?_ ?_
    · intro i2 ti h2 tk2 own2 C m2 hi2 htk2 F5 N5
      have hi3 : i2 ≤ us.toArray.size := by exact Mine.om55 zus zws hi2
      iterate 4 walk1
      split
      · repeat ((fail_if_success (k_extra "STOPS")); walk1)
        refine slice_list F5 N5 (News.isList N5 (.head _)) .none (.int _ _) ?_
        intro h6 F6 N6
        rw [PySem.slicePick_upto _ _ hi3] at N6
        repeat ((fail_if_success (k_extra "STOPS")); walk1)
        refine sumK (vs := us.take i2) (Rm.h (Rm.deeper (by assumption) _)) F6 N6 ⟨_, (N6 _ (.head _)).1, rfl, 0, rfl⟩ (intsAre_take hus'.1 i2) ?_
        intro h9 tk9 t9 F9 N9
        exact fun _ => ⟨_, _, _, rfl, F9, news_sub N9 (fun p hp => .tail _ hp), _, rfl⟩
      · repeat ((fail_if_success (k_extra "STOPS")); walk1)
        refine slice_list F5 N5 (News.isList N5 (.head _)) (.int _ _) .none ?_
        intro h6 F6 N6
        rw [PySem.slicePick_from _ _ hi3] at N6
        repeat ((fail_if_success (k_extra "STOPS")); walk1)
        refine sumK (vs := us.drop i2) (Rm.h (Rm.deeper (by assumption) _)) F6 N6 ⟨_, (N6 _ (.head _)).1, rfl, 0, rfl⟩ (intsAre_drop hus'.1 i2) ?_
        intro h9 tk9 t9 F9 N9
        exact fun _ => ⟨_, _, _, rfl, F9, news_sub N9 (fun p hp => .tail _ hp), _, rfl⟩
    · intro D ys h2 tk2 k2 htk2 F5 N5 hlt hlen hR
      have hys : IntsAre ys (zigS up ws) ∧ True := ⟨ints_of_each hlen (fun j y e => hR j y e), trivial⟩
      have hD : ∀ p ∈ own1, p.1 < D := fun p hp => hlt p (.tail _ (.tail _ (.tail _ hp)))
      have hDL := ltN (hlt (L + 1 + 1, _) (.tail _ (.head _)))
      have hDW := ltN (hlt (wA, _) (.head _))
      have hDM := ltN (hlt (L + 1, _) (.tail _ (.tail _ (.head _))))
      dsimp only at hDL hDW hDM
      k_extra "KS"
      rename (News _ _ _ _) => N9
      rename (_ = Data.cell (some (Value.ref D))) => dw
      rename (_ = Data.cell (some (Value.bool up))) => du
      rename Heap => hz9
      (try k_fold)
      refine byGoal fun P9 k9 => ?_
      obtain ⟨oU, oW, du, dw, N9⟩ : ∃ oU oW, oU.data = Data.cell (some (Value.bool up)) ∧ oW.data = Data.cell (some (Value.ref D)) ∧ News g L hz9 ((D, listOf (List.toArray ys) k2) :: (wA, listOf (List.toArray us) n) :: (L + 1 + 1, oU) :: (L + 1, oW) :: own1) := ⟨_, _, du, dw, N9⟩
      refine k9 ?_
      clear k9 P9
      refine' ⟨_, _, _, [(D, listOf (List.toArray ys) k2), (L + 1 + 1, oU), (L + 1, oW)], rfl, by assumption, ?nn, ?off, ?jj⟩
      case jj => exact ⟨_, _, D, zigS up ws, ys, k2, _, rfl, du, dw, hDL, by exact Mine.om58 hul zws hlen, hys.1, by rw [take_succ_of hup, List.foldl_append, ← hws]; rfl⟩
      case nn =>
        refine news_sub N9 ?_
        intro p hp
        rcases List.mem_cons.mp hp with rfl | hp
        · exact .head _
        · exact .tail _ (.tail _ hp)
      case off =>
        intro p hp b hb e
        simp only [List.map_cons, List.map_nil, List.mem_cons, List.not_mem_nil, or_false] at hb
        rcases hb with rfl | rfl | rfl
        · exact absurd (hD p hp) (by rw [e]; exact Nat.lt_irrefl _)
        · exact hoff1 p hp _ (by simp) e
        · exact hoff1 p hp _ (by simp) e
  · intro m ld h1 tk1 htk1 hJa F2 N2
    (try k_fold)
    refine byGoal fun P9 k9 => ?_
    obtain ⟨oa, ob, wA, ws, us, n, va, rfl, da, db, hwl, hul, hus, hws⟩ := hJa
    refine k9 ?_
    clear k9 P9
    k_extra "KS"
    refine sumK (Rm.h (Rm.deeper (by assumption) _)) F2 N2 (News.isList N2 (.head _)) hus ?_
    intro h' tk' t' F' N'
    have e : zigP bs = ws.sum := by rw [hws, List.length_map, List.take_length]; rfl
    rw [← e]
    exact h _ _ _ (fun b o e => F'.keep b o (up b o e (fun q => nomatch q)))
end
end Mine
end
section
set_option maxHeartbeats 2000000
namespace Mine
example : True := by
  k_with_none
  (k_with "STOPS" => (first | (with_reducible first | show wpAny _ _ (pyIter _) _ _ _ | show wpAny _ _ (exec (Stmt.While _ _ _ _) _) _ _ _ | show wpAny _ _ (exec (Stmt.For _ _ _ _ _) _) _ _ _ | show wpAny _ _ (call (Value.builtin "str.join") _ _) _ _ _ | show EachEnd _ _ _ _ _ _ _ | show TurnEnd _ _ _ _ _ _ _ _ _ | show TurnEndT _ _ _ _ _ _ _ _ _ | show WhileEnd _ _ _ _ _ _ _ _ | show EltEnd _ _ _ _ _ _ _ _ | show EnumEnd _ _ _ _ _ _ _ _) | fail "row"))
  (k_with "SZ" => (first | (first | decide | exact Nat.le_trans (by assumption) (by decide) | exact Nat.le_trans (Nat.le_of_eq (by assumption)) (by decide) | (show 1 ≤ _; decide) | (simp only [str_len_add, *]; first | done | decide | omega)) | fail "row"))
  (k_with "eval Name" => (first | ((k_dflt (((with_reducible refine' ldEp (by k_dflt (with_reducible assumption)) (by k_dflt (rfl)) (by k_dflt (rfl)) (by k_dflt (rfl)) (by k_dflt (decide)) (by k_dflt (first | rfl | assumption)) ?_)); k_whole))) | fail "row"))
  (k_with "loadName" => (first | ((k_dflt (((with_reducible refine' ldnEp (by k_dflt (with_reducible assumption)) (by k_dflt (rfl)) (by k_dflt (rfl)) (by k_dflt (rfl)) (by k_dflt (first | rfl | assumption)) ?_)); k_whole))) | fail "row"))
  (k_with "eval Name" => (first | ((k_dflt (((with_reducible refine' ldKp (by k_dflt (with_reducible assumption)) (by k_dflt (rfl)) (by k_dflt (rfl)) (by k_dflt (rfl)) (by k_dflt (decide)) (by k_dflt (k_mem)) (by k_dflt (assumption)) ?_)); k_whole))) | fail "row"))
  (k_with "eval ListComp" => (first | ((k_dflt ((with_reducible refine' comp_rule (by k_dflt (exact rfl)) ?_ (by k_dflt (rfl)) (by k_dflt (decide)) (by k_dflt (intro _; rfl)))))) | fail "row"))
  (k_with "binaryOp Add str str" => (first | ((k_dflt ((with_reducible refine addSN (by k_dflt (k_extra "SZ")) (by k_dflt (k_extra "SZ")) ?_); intro t9 tk9; revert t9 tk9; intro _ _))) | fail "row"))
  (k_with "compareOp In str str" => (first | (((with_reducible refine inC ?_))) | fail "row"))
  (k_with "KS" => (first | (repeat' (first | ((with_reducible show wpAny _ _ (execs _ _) _ _ _); k_fold) | (k_unfold; (try dsimp only)) | ((fail_if_success (k_extra "STOPS")); walk1) | dsimp only)) | fail "row"))
  (k_with "ite" => (first | ((k_dflt first | (k_closed; first | ((with_reducible refine ite_pos (by k_dflt (decide)) ?_)) | ((with_reducible refine ite_neg (by k_dflt (decide)) ?_))) | ((with_reducible refine split_decN ?_ ?_) <;> intro _))) | fail "row"))
  (k_with "LATS" => (first | (repeat (rename (Later _ _) => la9; have lb9 := leN la9.1; clear la9; (try simp only at lb9))) | fail "row"))
  (k_with "eval Dict" => (first | ((k_dflt ((refine' kdn_int (by k_dflt (rfl)) (by k_dflt (k_asm)) (by k_dflt (first | k_asm | exact News.nil)) (by k_dflt (exact TopRead.nolimit (by k_asm))) (by k_dflt (rfl)) (by k_dflt (rfl)) (by k_dflt (exact List.cons_ne_nil _ _)) (by k_dflt (exact Nat.le_of_ble_eq_true rfl)) ?_); intro d' h' o' F' N' l1 lo' hd'; (try k_lt l1); revert d' h' o' F' N' l1 lo' hd'; intro _ _ _ _ _ _ _ _))) | fail "row"))
  (k_with "binaryOp Add ref ref" => (first | ((k_dflt ((with_reducible refine' addL (by k_dflt (assumption)) (by k_dflt (assumption)) (by k_dflt (is_list)) (by k_dflt (is_list)) (by k_dflt ((simp only [List.length_append, List.length_cons, List.length_nil, sizeLine]; omega))) ?_); intro D9 h9 F9 N9 l9; (try k_lt l9); revert D9 h9 F9 N9 l9; intro _ _ _ _ _))) | fail "row"))
  (k_with "storeName" => (first | ((k_dflt (((with_reducible refine' stKp (by k_dflt (with_reducible assumption)) (by k_dflt (with_reducible assumption)) (by k_dflt (rfl)) (by k_dflt (rfl)) (by k_dflt (rfl)) (by k_dflt (k_updF)) (by k_dflt (assumption)) ?_)); k_whole; intro h9 o9 F9 N9 d9; (try dsimp only at N9); revert h9 o9 F9 N9 d9; intro _ _ _ _ _))) | fail "row"))
  (k_with "JUNK" => (first | (repeat (first | (with_reducible show Str; exact Str.ofString "") | (with_reducible show Value; exact Value.none) | (with_reducible show List (Str × Addr); exact []) | (with_reducible show Addr; exact 0))) | fail "row"))
  (k_with "exec Assign cons ListComp" => (first | ((k_dflt ((with_reducible refine' comp_assign (by k_dflt (exact rfl)) (by k_dflt (rfl)) (by k_dflt (rfl)) (by k_dflt (rfl)) ?_ (by k_dflt (rfl)) (by k_dflt (decide)) (by k_dflt (intro _; rfl)))))) | fail "row"))
  (k_with "SUBL" => (first | (((with_reducible show wpAny _ _ (subscriptTail _ _ (Value.ref _) (Value.int _ _)) _ _ _); k_dflt ((with_reducible refine' subL (by k_dflt (is_list)) (by k_dflt (first | exact rfl | exact (rfl : (0:Int) = ((0:Nat):Int)) | exact (rfl : (1:Int) = ((1:Nat):Int)) | exact (rfl : (2:Int) = ((2:Nat):Int)) | exact (rfl : (3:Int) = ((3:Nat):Int)))) (by k_dflt (first | assumption | rfl)) (by k_dflt (first | decide | omega)) ?_ (by k_dflt (with_unfolding_all rfl)))))) | fail "row"))
  (k_with "subscriptTail" => (first | ((k_extra "SUBL")) | fail "row"))
  (k_with "subscriptTail Name Name ref int" => (first | ((k_extra "SUBL")) | fail "row"))
  (k_with "subscriptTail Name Constant ref int" => (first | ((k_extra "SUBL")) | fail "row"))
  (k_with "subscriptTail" => (first | (((with_reducible show wpAny _ _ (subscriptTail _ _ (Value.ref _) (Value.int _ _)) _ _ _); k_dflt ((with_reducible refine' getI (by k_dflt (with_reducible assumption)) (by k_dflt (k_mem)) (by k_dflt (assumption)) (by k_dflt (assumption)) ?_ (by k_dflt (with_unfolding_all rfl)))))) | fail "row"))
  trivial
example : True := by
  (k_with "PJ" => (first | ((first | exact hC.1 | exact hC.2.1 | exact hC.2.2.1 | exact hC.2.2.2.1 | exact hC.2.2.2.2.1 | exact hC.2.2.2.2.2.1 | exact hC.2.2.2.2.2.2.1 | exact hC.2.2.2.2.2.2.2.1 | exact hC.2.2.2.2.2.2.2.2.1 | exact hC.2.2.2.2.2.2.2.2.2.1 | exact hC.2.2.2.2.2.2.2.2.2.2.1 | exact hC.2.2.2.2.2.2.2.2.2.2.2.1 | exact hC.2.2.2.2.2.2.2.2.2.2.2.2.1 | exact hC.2.2.2.2.2.2.2.2.2.2.2.2.2.1 | exact hC.2 | exact hC.2.2 | exact hC.2.2.2 | exact hC.2.2.2.2 | exact hC.2.2.2.2.2 | exact hC.2.2.2.2.2.2 | exact hC.2.2.2.2.2.2.2 | exact hC.2.2.2.2.2.2.2.2 | exact hC.2.2.2.2.2.2.2.2.2 | exact hC.2.2.2.2.2.2.2.2.2.2 | exact hC.2.2.2.2.2.2.2.2.2.2.2 | exact hC.2.2.2.2.2.2.2.2.2.2.2.2 | exact hC.2.2.2.2.2.2.2.2.2.2.2.2.2)) | fail "row"))
  (k_with "LT" => (first | (((repeat (first | exact Nat.lt_succ_self _ | (with_reducible assumption) | refine Nat.lt_succ_of_lt ?_)); done)) | fail "row"))
  (k_with "NE" => (first | ((refine neN ?_; (try dsimp only); first | exact Hold.out (by assumption) | exact Nat.ne_of_lt (by assumption) | exact Nat.ne_of_gt (by assumption) | (refine Nat.ne_of_lt ?_; k_extra "LT"; done) | (refine Nat.ne_of_gt ?_; k_extra "LT"; done) | exact Nat.ne_of_gt (lt2 (by assumption) (fun hC => by k_extra "PJ")) | exact Nat.ne_of_lt (lt2 (by assumption) (fun hC => by k_extra "PJ")) | exact ne2 (by assumption) (fun hC => by k_extra "PJ") | exact Ne.symm (ne2 (by assumption) (fun hC => by k_extra "PJ")) | exact Nat.ne_of_gt (ltM (by assumption) (by k_mem)) | exact Nat.ne_of_gt (ltM (Hold.out (by assumption)) (by k_mem)))) | fail "row"))
  trivial

example : True := by
  (k_with "call builtin:len" => (first | (((with_reducible show wpAny _ _ (call (Value.builtin "len") [Value.ref _]) _ _ _); k_dflt ((refine' call_len_list (by k_dflt (is_list)) (by k_dflt (omega)) ?_)))) | fail "row"))
  (k_with "UPD" => (first | (first | k_updF | (refine' UpdF.app (by k_dflt (k_extra "UPD")) (by k_dflt ((intro p hp; refine ((by k_dflt (assumption)) : OwnOff _ _) p hp _ (by k_dflt (simp))))))) | fail "row"))
  (k_with "storeName" => (first | ((k_dflt (((with_reducible refine' stKp (by k_dflt (with_reducible assumption)) (by k_dflt (with_reducible assumption)) (by k_dflt (rfl)) (by k_dflt (rfl)) (by k_dflt (rfl)) (by k_dflt (k_extra "UPD")) (by k_dflt (assumption)) ?_)); k_whole; intro h9 o9 F9 N9 d9; (try dsimp only at N9); revert h9 o9 F9 N9 d9; intro _ _ _ _ _))) | fail "row"))
  (k_with "call builtin:len" => (first | (((with_reducible show wpAny _ _ (call (Value.builtin "len") [Value.str _ _]) _ _ _); k_dflt ((refine' PySem.len_str (by k_dflt (omega)) ?_)))) | fail "row"))
  trivial
theorem rsz (n : Nat) : Builtin.Range.rangeSize 0 n 1 = n := by unfold Builtin.Range.rangeSize; simp; exact Mine.om59
theorem item_S {l : List Nat} {k : Nat} {c : Nat} (h : l[k]? = some c) : Txt.item (S l) (k : Int) = S [c] := by
  unfold Txt.item
  have hk : k < l.length := (List.getElem?_eq_some_iff.mp h).1
  have e1 : seqIndex? (k : Int) (S l).length = some k := by
    unfold seqIndex?; rw [S_len]; simp [hk]; omega
  have e : Txt.charAt (S l) (k : Int) = some c := by
    unfold Txt.charAt; rw [e1]; simpa using h
  rw [e]; rfl
noncomputable def intP (f : Nat → Bool) : Value → Bool
  | .int k _ => f k.toNat
  | _ => false
theorem intP_filter {f : Nat → Bool} {fv : List Value} {fl : List Nat} (h : IntsAre fv (intsN fl)) : IntsAre (fv.filter (intP f)) (intsN (fl.filter f)) := by
  induction fl generalizing fv with
  | nil => cases h; exact .nil
  | cons a fl ih =>
    cases h with
    | cons _ t h =>
      have e : intP f (.int (Int.ofNat a) t) = f a := rfl
      cases q : f a with
      | true =>
        rw [List.filter_cons_of_pos (by rw [e, q]), List.filter_cons_of_pos q]
        exact .cons _ _ (ih h)
      | false =>
        rw [List.filter_cons_of_neg (by rw [e, q]; decide), List.filter_cons_of_neg (by rw [q]; decide)]
        exact ih h
theorem intsN_at {fv : List Value} {fl : List Nat} (h : IntsAre fv (intsN fl)) {i : Nat} {v : Value} (hv : fv[i]? = some v) : ∃ k t, fl[i]? = some k ∧ v = .int ((k : Nat) : Int) t := by
  induction fl generalizing fv i with
  | nil => cases h; cases hv
  | cons a fl ih =>
    cases h with
    | cons _ t h =>
      cases i with
      | zero => cases hv; exact ⟨a, t, rfl, rfl⟩
      | succ i => exact ih h (by simpa using hv)
example : True := by
  (k_with "subscriptTail" => (first | (((with_reducible show wpAny _ _ (subscriptTail _ _ (Value.str _ _) (Value.int _ _)) _ _ _); k_dflt ((with_reducible refine' subS (by k_dflt (first | exact natSucc _ | rfl)) (by k_dflt (assumption)) (by k_dflt (omega)) ?_ (by k_dflt (with_unfolding_all rfl)))))) | fail "row"))
  trivial
noncomputable def turnP (start : List Nat) : List Nat → List Nat → Nat → Option Nat
  | [], _, n => some n
  | c :: r, free, n => match free.filter (fun k => start.getD k 0 == c) with
    | [] => none
    | p :: _ => turnP start r (free.filter (fun k => !(k == p))) (n + (free.filter (fun k => decide (k < p))).length)
section
variable {w : World} {base : Heap} {A : Around} {E : Value → Shared → Prop} {s : Shared} {Q : Value → Shared → Prop} {k : Nat} {t u : Tok}
inductive TurnJ (L : Addr) (o3 : Obj) (start word : List Nat) (res : Nat) (i : Nat) (m : Str → Option Value) (ld : List (Addr × Obj)) : Prop
  | mk (fl : List Nat) (fv : List Value) (fA : Addr) (nf : Nat) (oc ob : Obj) (vc vb : Option Value) (n : Nat) (tn : Tok) (e : ld = [(fA, listOf (List.toArray fv) nf), (L + 1 + 1 + 1, oc), (L + 1 + 1, ob), (L + 1, o3)]) (dc : oc.data = .cell vc) (db : ob.data = .cell vb) (hlt : @LT.lt Nat _ (L + 1 + 1 + 1) fA) (hfv : IntsAre fv (intsN fl)) (hfl : ∀ k ∈ fl, k < start.length) (hl10 : fl.length ≤ 10)
    (e1 : m "free" = some (.ref fA)) (e2 : m "turned" = some (.int ((n : Nat) : Int) tn)) (hr : turnP start (word.drop i) fl n = some res)
theorem c_turned {start word : List Nat} {res : Nat} (G : G0 w base) (st : base.StaysIn s.heap) (R : Rm A (k + 4)) (hs : start.length ≤ 10) (hw : (S word).cps.all (· < 128) = true) (hres : turnP start word (List.range start.length) 0 = some res)
   (h : ∀ h' tk t', s.heap.StaysIn h' → Q (.int (res : Nat) t') { s with heap := h', toks := tk }) :
   wpAny (model PG w) A (call (.ref 194) [.str (S start) t, .str (S word) u]) Q E s := by
  refine wpAny_call ?_
  refine enterC (ld := []) (binds := [("start", .str (S start) t), ("word", .str (S word) u)]) G st (fun _ h => nomatch h) R.room (by k_is) (by k_is) (BindsTo.of_eq rfl) rfl ?_ (by decide)
  intro g L h₁ tk₁ cells up dn htk₁ F N Y lL X G'
  obtain ⟨pp, loo, mg, mb, T⟩ := G'.T
  have R' := R.deeper
  first | (obtain ⟨o1, hE, d1⟩ := CellsAre.one Y; subst hE) | (obtain ⟨o1, o2, hE, d1, d2⟩ := CellsAre.two Y; subst hE) | (obtain ⟨o1, o2, o3, hE, d1, d2, d3⟩ := CellsAre.three Y; subst hE) | (obtain ⟨o1, o2, o3, o4, hE, d1, d2, d3, d4⟩ := CellsAre.four Y; subst hE)
  (try simp only [List.cons_append, List.nil_append] at N)
  have X' := X
  have hU := R.units
  change o1.data = .cell none at d1
  change o2.data = .cell none at d2
  change o3.data = .cell (some (.str (S start) t)) at d3
  have zS : (S start).length = start.length := S_len _
  k_extra "KS"
  rename (Fr _ _ _ _) => F1
  rename (News _ _ _ _) => N1
  rename (IsRange _ _ _ _ _ _ _ _) => hir
  rw [zS] at hir
  refine call_list_range (n := start.length) (Rm.h (Rm.deeper (by assumption) _)) hir ?_ ?_ (by exact Mine.om279 hs) ?_
  · unfold Builtin.Range.small; rw [rsz]; simp [Builtin.Range.rangeFitsLong]; omega
  · exact rsz _
  intro h2 tk2 acc2 c2 hk2 hS2 hacc2
  have F2 := fr_stays F1 hk2
  have N2 := news_cons (news_stays N1 hk2) F1 (fresh_of (Nat.le_refl _)) hS2
  have l2 : ∀ p ∈ [(L + 1 + 1 + 1, o1), (L + 1 + 1, o2), (L + 1, o3)], p.1 < _ := fun p hp => Heap.lt_size (N1 p hp).1
  have hints : IntsAre acc2.toList (intsN (List.range start.length)) := ints_of_each (by rw [Array.length_toList]; exact hacc2.1) (fun j y e => by
    obtain ⟨t, rfl⟩ := hacc2.2 j y (by simpa using e)
    exact ⟨t, by rw [show (0 + (j : Int) * 1) = Int.ofNat j from by simp]⟩)
  k_lt l2
  k_extra "KS"
  refine for_rule ?_
  k_extra "KS"
  rename (Fr _ _ _ _) => F3
  rename (News _ _ _ _) => N3
  obtain ⟨av, rfl⟩ : ∃ av, acc2 = List.toArray av := ⟨acc2.toList, by simp⟩
  refine for_strV (L := L) hw (TurnJ L o3 start word res) (Rm.h (Rm.deeper (by assumption) _)) F3 N3 ⟨_, av, _, _, _, _, _, _, 0, _, rfl, d1, d2, l2.1, hints, fun k hk => List.mem_range.mp hk, by rw [List.length_range]; exact hs, rfl, rfl, hres⟩ ?_ ?_
  · intro i c uc m ld h4 tk4 own4 hc htk4 hoff4 hJa F4 N4
    (try k_fold)
    refine byGoal fun P9 k9 => ?_
    obtain ⟨fl, fv, fA, nf, oc, ob, vc, vb, n, tn, rfl, dc, db, hlt4, hfv, hfl, hfl10, e1, e2, hr4⟩ := hJa
    refine k9 ?_
    clear k9 P9
    have hwi : i < word.length := by have := (Array.getElem?_eq_some_iff.mp hc).1; simpa using this
    have hwc : word.drop i = c :: word.drop (i + 1) := by
      rw [List.drop_eq_getElem_cons hwi]
      have : word[i]? = some c := by simpa using hc
      rw [List.getElem?_eq_getElem hwi] at this
      rw [Option.some.inj this]
    rw [hwc] at hr4
    (try k_fold)
    refine byGoal fun P9 k9 => ?_
    obtain ⟨p, rest, hp⟩ : ∃ p rest, fl.filter (fun k => start.getD k 0 == c) = p :: rest := by
      cases q : fl.filter (fun k => start.getD k 0 == c) with
      | nil => rw [turnP, q] at hr4; cases hr4
      | cons p r => exact ⟨p, r, rfl⟩
    refine k9 ?_
    clear k9 P9
    rw [turnP, hp] at hr4
    dsimp only at hr4
    have zfv : fv.length = fl.length := by have := intsAre_len hfv; rw [List.length_map] at this; exact this
    k_extra "KS"
    rename (Fr _ _ _ _) => F5
    rename (News _ _ _ _) => N5
    have hkeep : IntsAre fv (intsN fl) ∧ True := ⟨hfv, trivial⟩
    refine filt_listW (vs := fv) (intP (fun k => start.getD k 0 == c)) (Rm.h (Rm.deeper (by assumption) _)) (News.isList N5 (.head _)) (N5 _ (.head _)).2.1 (by have : sizeLine = 16777216 := rfl; exact Mine.om61 hfl10 zfv this) F5 N5 ?_ ?_
    · rintro i2 v h6 tk6 own6 C m6 hv6 htk6 F6 N6
      (try k_fold)
      refine byGoal fun P9 k9 => ?_
      obtain ⟨k2, t2, hk2, rfl⟩ := intsN_at hkeep.1 hv6
      refine k9 ?_
      clear k9 P9
      have hks : start[k2]? = some (start.getD k2 0) := by rw [List.getD_eq_getElem?_getD, List.getElem?_eq_getElem (hfl k2 (List.mem_of_getElem? hk2))]; rfl
      have hk60 := hfl k2 (List.mem_of_getElem? hk2)
      k_extra "KS"
      refine ⟨_, _, _, rfl, by assumption, by assumption, if_pos rfl, ?_⟩
      show (_ == S [c]) = (start.getD k2 0 == c)
      rw [item_S hks, S_beq]
      by_cases q : start.getD k2 0 = c
      · rw [q]; simp
      · rw [decide_eq_false (fun e => q (by simpa using e))]; exact (beq_eq_false_iff_ne.mpr q).symm
    · intro D h6 tk6 k6 htk6 F6 N6 hlt6
      have hD4 : ∀ p ∈ own4, p.1 < D := fun p hp => hlt6 p (.tail _ (.tail _ (.tail _ (.tail _ hp))))
      have hDf := ltN (hlt6 (fA, _) (.head _))
      have hDL := ltN (hlt6 (L + 1 + 1 + 1, _) (.tail _ (.head _)))
      dsimp only at hDf hDL
      obtain ⟨tp, htp⟩ := intsAre_at (i := 0) (a := ((p : Nat) : Int)) (intP_filter (f := fun k => start.getD k 0 == c) hkeep.1) (by rw [hp]; rfl)
      k_extra "KS"
      refine subL (j := 0) (News.isList N6 (.head _)) rfl (by simpa using htp) (by decide) ?_
      k_extra "KS"
      rename (Fr _ _ _ _) => F7
      rename (News _ _ _ _) => N7
      have zb : (fl.filter fun k => decide (k < p)).length ≤ 10 := Nat.le_trans (List.length_filter_le _ _) hfl10
      have zf2 : (fv.filter (intP fun k => decide (k < p))).toArray.size = (fl.filter fun k => decide (k < p)).length := by
        have := intsAre_len (intP_filter (f := fun k => decide (k < p)) hkeep.1); rw [List.length_map] at this; exact this
      refine filt_listW (vs := fv) (intP (fun k => decide (k < p))) (Rm.h (Rm.deeper (by assumption) _)) (News.isList N7 (.tail _ (.head _))) (N7 _ (.tail _ (.head _))).2.1 (by have : sizeLine = 16777216 := rfl; exact Mine.om61 hfl10 zfv this) F7 N7 ?_ ?_
      · rintro i2 v h8 tk8 own8 C m8 hv8 htk8 F8 N8
        (try k_fold)
        refine byGoal fun P9 k9 => ?_
        obtain ⟨k2, t2, hk2, rfl⟩ := intsN_at hkeep.1 hv8
        refine k9 ?_
        clear k9 P9
        k_extra "KS"
        refine ⟨_, _, _, rfl, by assumption, by assumption, if_pos rfl, ?_⟩
        show decide ((k2 : Int) < (p : Int)) = decide (k2 < p)
        exact decide_eq_decide.mpr Int.ofNat_lt
      · intro D2 h8 tk8 k8 htk8 F8 N8 hlt8
        k_extra "KS"
        rename (Fr _ _ _ _) => F9
        rename (News _ _ _ _) => N9
        refine filt_listW (vs := fv) (intP (fun k => !(k == p))) (Rm.h (Rm.deeper (by assumption) _)) (News.isList N9 (.tail _ (.tail _ (.head _)))) (N9 _ (.tail _ (.tail _ (.head _)))).2.1 (by have : sizeLine = 16777216 := rfl; exact Mine.om61 hfl10 zfv this) F9 N9 ?_ ?_
        · rintro i2 v h10 tk10 own10 C m10 hv10 htk10 F10 N10
          (try k_fold)
          refine byGoal fun P9 k9 => ?_
          obtain ⟨k2, t2, hk2, rfl⟩ := intsN_at hkeep.1 hv10
          refine k9 ?_
          clear k9 P9
          k_extra "KS"
          refine ⟨_, _, _, rfl, by assumption, by assumption, if_pos rfl, ?_⟩
          show ((k2 : Int) != (p : Int)) = !(k2 == p)
          by_cases q : k2 = p
          · subst q; simp
          · rw [beq_eq_false_iff_ne.mpr q]; exact bne_iff_ne.mpr (fun e => q (by exact_mod_cast e))
        · intro D3 h10 tk10 k10 htk10 F10 N10 hlt10
          have hD34 : ∀ p ∈ own4, p.1 < D3 := fun p hp => hlt10 p (.tail _ (.tail _ (.tail _ (.tail _ (.tail _ (.tail _ hp))))))
          have hD3L := ltN (hlt10 (L + 1 + 1 + 1, _) (.tail _ (.tail _ (.tail _ (.head _)))))
          dsimp only at hD3L
          k_extra "KS"
          rename (_ = Data.cell (some (Value.int (p : Int) tp))) => dp
          rename (_ = Data.cell (some (Value.str _ uc))) => ds
          (try k_fold)
          refine byGoal fun P9 k9 => ?_
          obtain ⟨oP, oS, dp, ds, N12⟩ : ∃ oP oS, oP.data = Data.cell (some (Value.int (p : Int) tp)) ∧ oS.data = Data.cell (some (Value.str ⟨#[c]⟩ uc)) ∧ News g L h10 ([(D3, listOf (List.toArray (fv.filter (intP fun k => !(k == p)))) k10), (L + 1 + 1 + 1, oP), (L + 1 + 1, oS), (L + 1, o3)] ++ own4) :=
            ⟨_, _, dp, ds, news_sub N10 (fun q hq => by
              rcases List.mem_cons.mp hq with rfl | hq
              · exact .head _
              · exact .tail _ (.tail _ (.tail _ (.tail _ hq))))⟩
          refine k9 ?_
          clear k9 P9
          refine ⟨_, _, _, [(D3, _), (L + 1 + 1 + 1, oP), (L + 1 + 1, oS), (L + 1, o3)], rfl, F10, N12, ?_, ?_⟩
          · intro q hq b hb e
            simp only [List.map_cons, List.map_nil, List.mem_cons, List.not_mem_nil, or_false] at hb
            rcases hb with rfl | rfl | rfl | rfl
            · exact absurd (hD34 q hq) (by rw [e]; exact Nat.lt_irrefl _)
            · exact hoff4 q hq _ (by simp) e
            · exact hoff4 q hq _ (by simp) e
            · exact hoff4 q hq _ (by simp) e
          · have hz : ((n : Nat) : Int) + ((fv.filter (intP fun k => decide (k < p))).toArray.size : Int) = ((n + (fl.filter (fun k => decide (k < p))).length : Nat) : Int) := by rw [zf2]; rfl
            exact ⟨fl.filter (fun k => !(k == p)), fv.filter (intP fun k => !(k == p)), D3, k10, oP, oS, _, _, n + (fl.filter (fun k => decide (k < p))).length, _, rfl, dp, ds, hD3L, intP_filter hkeep.1, fun k hk => hfl k (List.mem_filter.mp hk).1, Nat.le_trans (List.length_filter_le _ _) hfl10, if_pos rfl, (if_neg (by decide)).trans ((if_pos rfl).trans (congrArg (fun z => some (Value.int z _)) hz)), hr4⟩
  · intro m ld h4 tk4 htk4 hJa F4 N4
    (try k_fold)
    refine byGoal fun P9 k9 => ?_
    obtain ⟨fl, fv, fA, nf, oc, ob, vc, vb, n, tn, rfl, dc, db, hlt4, hfv, hfl, hfl10, e1, e2, hr4⟩ := hJa
    refine k9 ?_
    clear k9 P9
    have e9 : word.drop (S word).cps.size = [] := by rw [show (S word).cps.size = word.length from by simp]; exact List.drop_length
    rw [e9, turnP] at hr4
    cases hr4
    k_extra "KS"
    exact h _ _ _ (fun b o e => Fr.keep (by assumption) b o (up b o e (fun q => nomatch q)))
end
end Mine
end
section
set_option maxHeartbeats 2000000
namespace Mine
example : True := by
  k_with_none
  (k_with "STOPS" => (first | (with_reducible first | show wpAny _ _ (pyIter _) _ _ _ | show wpAny _ _ (exec (Stmt.While _ _ _ _) _) _ _ _ | show wpAny _ _ (exec (Stmt.For _ _ _ _ _) _) _ _ _ | show wpAny _ _ (call (Value.builtin "str.join") _ _) _ _ _ | show EachEnd _ _ _ _ _ _ _ | show TurnEnd _ _ _ _ _ _ _ _ _ | show TurnEndT _ _ _ _ _ _ _ _ _ | show WhileEnd _ _ _ _ _ _ _ _ | show EltEnd _ _ _ _ _ _ _ _ | show EnumEnd _ _ _ _ _ _ _ _) | fail "row"))
  (k_with "SZ" => (first | (first | decide | exact Nat.le_trans (by assumption) (by decide) | exact Nat.le_trans (Nat.le_of_eq (by assumption)) (by decide) | (show 1 ≤ _; decide) | (simp only [str_len_add, *]; first | done | decide | omega)) | fail "row"))
  (k_with "eval Name" => (first | ((k_dflt (((with_reducible refine' ldEp (by k_dflt (with_reducible assumption)) (by k_dflt (rfl)) (by k_dflt (rfl)) (by k_dflt (rfl)) (by k_dflt (decide)) (by k_dflt (first | rfl | assumption)) ?_)); k_whole))) | fail "row"))
  (k_with "loadName" => (first | ((k_dflt (((with_reducible refine' ldnEp (by k_dflt (with_reducible assumption)) (by k_dflt (rfl)) (by k_dflt (rfl)) (by k_dflt (rfl)) (by k_dflt (first | rfl | assumption)) ?_)); k_whole))) | fail "row"))
  (k_with "eval Name" => (first | ((k_dflt (((with_reducible refine' ldKp (by k_dflt (with_reducible assumption)) (by k_dflt (rfl)) (by k_dflt (rfl)) (by k_dflt (rfl)) (by k_dflt (decide)) (by k_dflt (k_mem)) (by k_dflt (assumption)) ?_)); k_whole))) | fail "row"))
  (k_with "eval ListComp" => (first | ((k_dflt ((with_reducible refine' comp_rule (by k_dflt (exact rfl)) ?_ (by k_dflt (rfl)) (by k_dflt (decide)) (by k_dflt (intro _; rfl)))))) | fail "row"))
  (k_with "binaryOp Add str str" => (first | ((k_dflt ((with_reducible refine addSN (by k_dflt (k_extra "SZ")) (by k_dflt (k_extra "SZ")) ?_); intro t9 tk9; revert t9 tk9; intro _ _))) | fail "row"))
  (k_with "compareOp In str str" => (first | (((with_reducible refine inC ?_))) | fail "row"))
  (k_with "KS" => (first | (repeat' (first | ((with_reducible show wpAny _ _ (execs _ _) _ _ _); k_fold) | (k_unfold; (try dsimp only)) | ((fail_if_success (k_extra "STOPS")); walk1) | dsimp only)) | fail "row"))
  (k_with "ite" => (first | ((k_dflt first | (k_closed; first | ((with_reducible refine ite_pos (by k_dflt (decide)) ?_)) | ((with_reducible refine ite_neg (by k_dflt (decide)) ?_))) | ((with_reducible refine split_decN ?_ ?_) <;> intro _))) | fail "row"))
  (k_with "LATS" => (first | (repeat (rename (Later _ _) => la9; have lb9 := leN la9.1; clear la9; (try simp only at lb9))) | fail "row"))
  (k_with "eval Dict" => (first | ((k_dflt ((refine' kdn_int (by k_dflt (rfl)) (by k_dflt (k_asm)) (by k_dflt (first | k_asm | exact News.nil)) (by k_dflt (exact TopRead.nolimit (by k_asm))) (by k_dflt (rfl)) (by k_dflt (rfl)) (by k_dflt (exact List.cons_ne_nil _ _)) (by k_dflt (exact Nat.le_of_ble_eq_true rfl)) ?_); intro d' h' o' F' N' l1 lo' hd'; (try k_lt l1); revert d' h' o' F' N' l1 lo' hd'; intro _ _ _ _ _ _ _ _))) | fail "row"))
  (k_with "binaryOp Add ref ref" => (first | ((k_dflt ((with_reducible refine' addL (by k_dflt (assumption)) (by k_dflt (assumption)) (by k_dflt (is_list)) (by k_dflt (is_list)) (by k_dflt ((simp only [List.length_append, List.length_cons, List.length_nil, sizeLine]; omega))) ?_); intro D9 h9 F9 N9 l9; (try k_lt l9); revert D9 h9 F9 N9 l9; intro _ _ _ _ _))) | fail "row"))
  (k_with "storeName" => (first | ((k_dflt (((with_reducible refine' stKp (by k_dflt (with_reducible assumption)) (by k_dflt (with_reducible assumption)) (by k_dflt (rfl)) (by k_dflt (rfl)) (by k_dflt (rfl)) (by k_dflt (k_updF)) (by k_dflt (assumption)) ?_)); k_whole; intro h9 o9 F9 N9 d9; (try dsimp only at N9); revert h9 o9 F9 N9 d9; intro _ _ _ _ _))) | fail "row"))
  (k_with "JUNK" => (first | (repeat (first | (with_reducible show Str; exact Str.ofString "") | (with_reducible show Value; exact Value.none) | (with_reducible show List (Str × Addr); exact []) | (with_reducible show Addr; exact 0))) | fail "row"))
  (k_with "exec Assign cons ListComp" => (first | ((k_dflt ((with_reducible refine' comp_assign (by k_dflt (exact rfl)) (by k_dflt (rfl)) (by k_dflt (rfl)) (by k_dflt (rfl)) ?_ (by k_dflt (rfl)) (by k_dflt (decide)) (by k_dflt (intro _; rfl)))))) | fail "row"))
  (k_with "SUBL" => (first | (((with_reducible show wpAny _ _ (subscriptTail _ _ (Value.ref _) (Value.int _ _)) _ _ _); k_dflt ((with_reducible refine' subL (by k_dflt (is_list)) (by k_dflt (first | exact rfl | exact (rfl : (0:Int) = ((0:Nat):Int)) | exact (rfl : (1:Int) = ((1:Nat):Int)) | exact (rfl : (2:Int) = ((2:Nat):Int)) | exact (rfl : (3:Int) = ((3:Nat):Int)))) (by k_dflt (first | assumption | rfl)) (by k_dflt (first | decide | omega)) ?_ (by k_dflt (with_unfolding_all rfl)))))) | fail "row"))
  (k_with "subscriptTail" => (first | ((k_extra "SUBL")) | fail "row"))
  (k_with "subscriptTail Name Name ref int" => (first | ((k_extra "SUBL")) | fail "row"))
  (k_with "subscriptTail Name Constant ref int" => (first | ((k_extra "SUBL")) | fail "row"))
  (k_with "subscriptTail" => (first | (((with_reducible show wpAny _ _ (subscriptTail _ _ (Value.ref _) (Value.int _ _)) _ _ _); k_dflt ((with_reducible refine' getI (by k_dflt (with_reducible assumption)) (by k_dflt (k_mem)) (by k_dflt (assumption)) (by k_dflt (assumption)) ?_ (by k_dflt (with_unfolding_all rfl)))))) | fail "row"))
  trivial
example : True := by
  (k_with "PJ" => (first | ((first | exact hC.1 | exact hC.2.1 | exact hC.2.2.1 | exact hC.2.2.2.1 | exact hC.2.2.2.2.1 | exact hC.2.2.2.2.2.1 | exact hC.2.2.2.2.2.2.1 | exact hC.2.2.2.2.2.2.2.1 | exact hC.2.2.2.2.2.2.2.2.1 | exact hC.2.2.2.2.2.2.2.2.2.1 | exact hC.2.2.2.2.2.2.2.2.2.2.1 | exact hC.2.2.2.2.2.2.2.2.2.2.2.1 | exact hC.2.2.2.2.2.2.2.2.2.2.2.2.1 | exact hC.2.2.2.2.2.2.2.2.2.2.2.2.2.1 | exact hC.2 | exact hC.2.2 | exact hC.2.2.2 | exact hC.2.2.2.2 | exact hC.2.2.2.2.2 | exact hC.2.2.2.2.2.2 | exact hC.2.2.2.2.2.2.2 | exact hC.2.2.2.2.2.2.2.2 | exact hC.2.2.2.2.2.2.2.2.2 | exact hC.2.2.2.2.2.2.2.2.2.2 | exact hC.2.2.2.2.2.2.2.2.2.2.2 | exact hC.2.2.2.2.2.2.2.2.2.2.2.2 | exact hC.2.2.2.2.2.2.2.2.2.2.2.2.2)) | fail "row"))
  (k_with "LT" => (first | (((repeat (first | exact Nat.lt_succ_self _ | (with_reducible assumption) | refine Nat.lt_succ_of_lt ?_)); done)) | fail "row"))
  (k_with "NE" => (first | ((refine neN ?_; (try dsimp only); first | exact Hold.out (by assumption) | exact Nat.ne_of_lt (by assumption) | exact Nat.ne_of_gt (by assumption) | (refine Nat.ne_of_lt ?_; k_extra "LT"; done) | (refine Nat.ne_of_gt ?_; k_extra "LT"; done) | exact Nat.ne_of_gt (lt2 (by assumption) (fun hC => by k_extra "PJ")) | exact Nat.ne_of_lt (lt2 (by assumption) (fun hC => by k_extra "PJ")) | exact ne2 (by assumption) (fun hC => by k_extra "PJ") | exact Ne.symm (ne2 (by assumption) (fun hC => by k_extra "PJ")) | exact Nat.ne_of_gt (ltM (by assumption) (by k_mem)) | exact Nat.ne_of_gt (ltM (Hold.out (by assumption)) (by k_mem)))) | fail "row"))
  trivial

example : True := by
  (k_with "UPD" => (first | (first | k_updF | (refine' UpdF.app (by k_dflt (k_extra "UPD")) (by k_dflt ((intro p hp; refine ((by k_dflt (assumption)) : OwnOff _ _) p hp _ (by k_dflt (simp))))))) | fail "row"))
  (k_with "storeName" => (first | ((k_dflt (((with_reducible refine' stKp (by k_dflt (with_reducible assumption)) (by k_dflt (with_reducible assumption)) (by k_dflt (rfl)) (by k_dflt (rfl)) (by k_dflt (rfl)) (by k_dflt (k_extra "UPD")) (by k_dflt (assumption)) ?_)); k_whole; intro h9 o9 F9 N9 d9; (try dsimp only at N9); revert h9 o9 F9 N9 d9; intro _ _ _ _ _))) | fail "row"))
  trivial
theorem subSm1 {prog : Program} {w : World} {A : Around} {E : Value → Shared → Prop} {s : Shared} {Q : Value → Shared → Prop} {value slice : Expr} {l : List Nat} {c : Nat} {t u : Tok} (hc : l[l.length - 1]? = some c)
    (h : Q (.str (S [c]) s.toks) { s with toks := s.toks + 1 })
    (hs : subscripted slice false (.str (S l) t) (.int (-1) u) = operate [.str (S l) t, .int (-1) u] (getItem (.str (S l) t) (.int (-1) u)) := by with_unfolding_all rfl) :
    wpAny (model prog w) A (subscriptTail value slice (.str (S l) t) (.int (-1) u)) Q E s := by
  have hlt : l.length - 1 < l.length := (List.getElem?_eq_some_iff.mp hc).1
  refine tail_any (typeIs_str s _ t) F.slot_str_getitem.lookup (P.getItem_str (c := c) (by decide) ?_ h) hs
  have e : seqIndex? (-1) l.length = some (l.length - 1) := by
    unfold seqIndex?
    simp
    exact Mine.om62 hlt
  rw [S_len, e]
  simpa using hc
example : True := by
  (k_with "STOPS" => (first | (with_reducible show wpAny _ _ (subscriptTail _ _ (Value.str _ _) (Value.int _ _)) _ _ _) | fail "row"))
  trivial
noncomputable def shP (kd : Nat) : Nat → List Nat → Tr
  | 0, _ => .nil
  | f + 1, l => if l = [] then .nil else if kd = 0 then .node (l.getLastD 0) (shP kd f (l.dropLast.filter fun c => decide (c ≤ l.getLastD 0))) (shP kd f (l.dropLast.filter fun c => decide (l.getLastD 0 < c)))
      else .node (l.headD 0) (shP kd f (l.tail.filter fun c => decide (c < l.headD 0))) (shP kd f (l.tail.filter fun c => decide (l.headD 0 ≤ c)))
noncomputable def TreeIn (objs : List (Addr × Obj)) : Tr → Value → Prop
  | .nil, v => ∃ a n, v = .ref a ∧ (a, listOf #[] n) ∈ objs
  | .node c l r, v => ∃ a n vl vr t, v = .ref a ∧ (a, listOf #[.str (S [c]) t, vl, vr] n) ∈ objs ∧ TreeIn objs l vl ∧ TreeIn objs r vr
theorem TreeIn.mono {o1 o2 : List (Addr × Obj)} (k : ∀ p ∈ o1, p ∈ o2) : ∀ {T : Tr} {v : Value}, TreeIn o1 T v → TreeIn o2 T v
  | .nil, _, ⟨a, n, e, g⟩ => ⟨a, n, e, k _ g⟩
  | .node _ _ _, _, ⟨a, n, vl, vr, t, e, g, q1, q2⟩ => ⟨a, n, vl, vr, t, e, k _ g, q1.mono k, q2.mono k⟩
theorem TreeIn.at {objs : List (Addr × Obj)} {h : Heap} (k : ∀ p ∈ objs, h.get? p.1 = some p.2) : ∀ {T : Tr} {v : Value}, TreeIn objs T v → TreeAt h T v
  | .nil, _, ⟨a, n, e, g⟩ => ⟨a, n, e, k _ g⟩
  | .node _ _ _, _, ⟨a, n, vl, vr, t, e, g, q1, q2⟩ => ⟨a, n, vl, vr, t, e, k _ g, q1.at k, q2.at k⟩
theorem news_freshL {g h0 h : Heap} {L : Addr} {m : Str → Option Value} {ld objs : List (Addr × Obj)} (N : News g L h ld) (F : Fr g L h0 m) (k : ∀ p ∈ objs, Fresh h0 h p.1 p.2) : News g L h (ld ++ objs) := fun p hp => by
  rcases List.mem_append.mp hp with hp | hp
  · exact N p hp
  · refine ⟨(k p hp).at_, fr_nL F (k p hp).new, ?_⟩
    cases q : g.get? p.1 with
    | none => rfl
    | some x => have := F.keep _ _ q; rw [(k p hp).new] at this; cases this
theorem shape_end {h₀ g h' : Heap} {L l' : Addr} {r : Nat} {tq : Tok} {v1 v2 : Value} {Ta Tb : Tr} {ld objs1 objs2 : List (Addr × Obj)} (N : News g L h' ((l', listOf #[.str (S [r]) tq, v1, v2] 0) :: (ld ++ objs1 ++ objs2))) (up : ∀ b o, h₀.get? b = some o → b ∉ ([] : List (Addr × Obj)).map (·.1) → g.get? b = some o)
    (T1 : TreeIn objs1 Ta v1) (T2 : TreeIn objs2 Tb v2) : ∃ objs, (∀ p ∈ objs, Fresh h₀ h' p.1 p.2) ∧ TreeIn objs (.node r Ta Tb) (.ref l') := by
  refine ⟨(l', listOf #[.str (S [r]) tq, v1, v2] 0) :: (objs1 ++ objs2), fun p hp => fresh_of_news N ?_ up, ⟨_, _, v1, v2, _, rfl, .head _, T1.mono (fun p hp => .tail _ (List.mem_append_left _ hp)), T2.mono (fun p hp => .tail _ (List.mem_append_right _ hp))⟩⟩
  rcases List.mem_cons.mp hp with rfl | hp
  · exact .head _
  · rcases List.mem_append.mp hp with hp | hp
    · exact .tail _ (List.mem_append_left _ (List.mem_append_right _ hp))
    · exact .tail _ (List.mem_append_right _ hp)
theorem one_lt (a b : Nat) : ([a] < [b]) ↔ a < b := by
  rw [List.cons_lt_cons_iff]; simp
theorem join1 {prog : Program} {w : World} {A : Around} {E : Value → Shared → Prop} {s : Shared} {Q : Value → Shared → Prop} {D : Addr} {items : Array Value} {lf : List Nat} {t : Tok} (hl : s.heap.IsList D items) (hi : StrsAre items.toList (lf.map fun a => S [a])) (hb : lf.length ≤ 1000)
    (h : ∀ t' k, s.toks ≤ k → Q (.str (S lf) t') { s with toks := k }) : wpAny (model prog w) A (call (.builtin "str.join") [.str (Str.ofString "") t, .ref D]) Q E s := by
  have e1 : ((lf.map fun a => S [a]).flatMap fun y => y.cps.toList) = lf := by
    induction lf with
    | nil => rfl
    | cons a l ih =>
      clear h hi hb
      have : ∀ l : List Nat, ((l.map fun a => S [a]).flatMap fun y => y.cps.toList) = l := fun l => by
        induction l with
        | nil => rfl
        | cons a l ih => rw [List.map_cons, List.flatMap_cons, ih]; rfl
      exact this _
  have e2 : ((lf.map fun a => S [a]).map (·.length)).sum = lf.length := by
    have : ∀ l : List Nat, ((l.map fun a => S [a]).map (·.length)).sum = l.length := fun l => by
      induction l with
      | nil => rfl
      | cons a l ih => rw [List.map_cons, List.map_cons, List.sum_cons, ih, List.length_cons, S_len]; simp; exact Mine.om63
    exact this _
  refine joinS hl hi (by rw [e2]; exact Mine.om64 hb) fun t' k h1 _ => ?_
  rw [e1]
  exact h t' k h1
section
variable {w : World} {base : Heap} {A : Around} {E : Value → Shared → Prop} {s : Shared} {Q : Value → Shared → Prop} {k : Nat} {t u : Tok}
theorem c_shape0 : ∀ (f : Nat) {k : Nat} {A : Around} {E : Value → Shared → Prop} {s : Shared} {Q : Value → Shared → Prop} {base : Heap} {l : List Nat} {t u : Tok} (G : G0 w base) (st : base.StaysIn s.heap) (R : Rm A (k + 2 * f + 4)) (hl : l.length < f) (hf : f ≤ 20)
   (h : ∀ v h' tk objs, s.heap.StaysIn h' → (∀ p ∈ objs, Fresh s.heap h' p.1 p.2) → TreeIn objs (shP 0 f l) v → Q v { s with heap := h', toks := tk }),
   wpAny (model PG w) A (call (.ref 177) [.str (S l) t, .int 0 u]) Q E s := by
  intro f
  induction f with
  | zero => intro k A E s Q base l t u G st R hl; exact absurd hl (Nat.not_lt_zero _)
  | succ f ih =>
    intro k A E s Q base l t u G st R hl hf h
    refine wpAny_call ?_
    refine enterC (ld := []) (binds := [("word", .str (S l) t), ("kind", .int 0 u)]) G st (fun _ h => nomatch h) R.room (by k_is) (by k_is) (BindsTo.of_eq rfl) rfl ?_ (by decide)
    intro g L h₁ tk₁ cells up dn htk₁ F N Y lL X G'
    obtain ⟨pp, loo, mg, mb, T⟩ := G'.T
    have R' := R.deeper
    first | (obtain ⟨o1, hE, d1⟩ := CellsAre.one Y; subst hE) | (obtain ⟨o1, o2, hE, d1, d2⟩ := CellsAre.two Y; subst hE) | (obtain ⟨o1, o2, o3, hE, d1, d2, d3⟩ := CellsAre.three Y; subst hE) | (obtain ⟨o1, o2, o3, o4, hE, d1, d2, d3, d4⟩ := CellsAre.four Y; subst hE)
    (try simp only [List.cons_append, List.nil_append] at N)
    have X' := X
    have hU := R.units
    change o1.data = .cell none at d1
    change o2.data = .cell none at d2
    change o3.data = .cell (some (.str (S l) t)) at d3
    k_extra "KS"
    · rename (_ == _) = true => hn
      have hn : l = [] := by
        have e := S_beq l []
        rw [show S [] = Str.ofString "" from rfl, hn] at e
        simpa using e.symm
      subst hn
      rename (News _ _ _ _) => N9
      exact h _ _ _ [(_, listOf #[] 0)] (fun b o e => Fr.keep (by assumption) b o (up b o e (fun q => nomatch q))) (fun p hp => fresh_of_news N9 (by rw [List.mem_singleton.mp hp]; exact .head _) up) ⟨_, _, rfl, .head _⟩
    · rename ¬ (_ == _) = true => hn
      have hn : l ≠ [] := fun q => hn (by rw [q]; rfl)
      have hlen : 0 < l.length := List.length_pos_iff.mpr hn
      obtain ⟨r, hr⟩ : ∃ r, l[l.length - 1]? = some r := ⟨l[l.length - 1], List.getElem?_eq_getElem (by exact Mine.om65 hlen)⟩
      refine subSm1 hr ?_
      k_extra "KS"
      rw [sliceNm1]
      rename (Fr _ _ _ _) => F1
      rename (News _ _ _ _) => N1
      have zd : l.dropLast.length = l.length - 1 := List.length_dropLast
      refine filt_str (l := l.dropLast) (fun c => decide (c ≤ r)) (Rm.h (Rm.deeper (by assumption) _)) (by have : sizeLine = 16777216 := rfl; exact Mine.om66 hl hf zd this) F1 N1 ?_ ?_
      · rintro i a ua h2 tk2 own C m ha htk F2 N2
        k_extra "KS"
        refine ⟨_, _, _, rfl, by assumption, by assumption, if_pos rfl, ?_⟩
        show (!decide ([r] < [a])) = decide (a ≤ r)
        rw [decide_eq_decide.mpr (one_lt r a)]
        by_cases q : a ≤ r
        · rw [decide_eq_true q, decide_eq_false (by exact Mine.om67 q)]; rfl
        · rw [decide_eq_false q, decide_eq_true (by exact Mine.om68 q)]; rfl
      · intro D ys h2 tk2 k2 htk2 F2 N2 hlt2 hys
        k_lt hlt2
        k_extra "KS"
        have zl : (l.dropLast.filter fun c => decide (c ≤ r)).length ≤ l.length - 1 := Nat.le_trans (List.length_filter_le _ _) (Nat.le_of_eq zd)
        refine join1 (News.isList N2 (.head _)) hys (by exact Mine.om69 hl hf zl) fun t3 k3 _ => ?_
        k_extra "KS"
        rw [sliceNm1]
        rename (Fr _ _ _ _) => F4
        rename (News _ _ _ _) => N4
        refine filt_str (l := l.dropLast) (fun c => decide (r < c)) (Rm.h (Rm.deeper (by assumption) _)) (by have : sizeLine = 16777216 := rfl; exact Mine.om66 hl hf zd this) F4 N4 ?_ ?_
        · rintro i a ua h5 tk5 own C m ha htk F5 N5
          k_extra "KS"
          refine ⟨_, _, _, rfl, by assumption, by assumption, if_pos rfl, ?_⟩
          show (decide ([r] < [a])) = decide (r < a)
          exact decide_eq_decide.mpr (one_lt r a)
        · intro D2 ys2 h5 tk5 k5 htk5 F5 N5 hlt5 hys2
          k_lt hlt5
          k_extra "KS"
          have zr : (l.dropLast.filter fun c => decide (r < c)).length ≤ l.length - 1 := Nat.le_trans (List.length_filter_le _ _) (Nat.le_of_eq zd)
          refine join1 (News.isList N5 (.head _)) hys2 (by exact Mine.om69 hl hf zr) fun t6 k6 _ => ?_
          k_extra "KS"
          have R1 : Rm A ((k + 2 * f + 5) + 1) := R.le (by exact Mine.om70)
          rename (Fr _ _ _ _) => F6
          rename (News _ _ _ _) => N6
          refine ih (k := 0) G' (Fr.keep F6) ((R1.deeper _).le (by exact Mine.om71)) (by exact Mine.om72 hl hlen zl) (by exact Mine.om73 hf) ?_
          intro v1 h7 tk7 objs1 k7 fr7 T7
          have F7 := fr_stays F6 k7
          have N7 := news_freshL (news_stays N6 k7) F6 fr7
          k_extra "KS"
          refine ih (k := 0) G' (Fr.keep F7) ((R1.deeper _).le (by exact Mine.om71)) (by exact Mine.om72 hl hlen zr) (by exact Mine.om73 hf) ?_
          intro v2 h8 tk8 objs2 k8 fr8 T8
          have F8 := fr_stays F7 k8
          have N8 := news_freshL (news_stays N7 k8) F7 fr8
          k_extra "KS"
          rename (News _ _ _ _) => N9
          have hlast : l.getLastD 0 = r := by rw [List.getLastD_eq_getLast?, List.getLast?_eq_getElem?, hr]; rfl
          have e9 : shP 0 (f + 1) l = .node r (shP 0 f (l.dropLast.filter fun c => decide (c ≤ r))) (shP 0 f (l.dropLast.filter fun c => decide (r < c))) := by
            rw [shP, if_neg hn, if_pos rfl, hlast]
          (try k_fold)
          refine byGoal fun P9 k9 => ?_
          obtain ⟨objs, fo, To⟩ := shape_end N9 up T7 T8
          refine k9 ?_
          clear k9 P9
          rw [← e9] at To
          exact h _ _ _ objs (fun b o e => Fr.keep (by assumption) b o (up b o e (fun q => nomatch q))) fo To
end
end Mine
end
section
set_option maxHeartbeats 2000000
namespace Mine
example : True := by
  k_with_none
  (k_with "STOPS" => (first | (with_reducible first | show wpAny _ _ (pyIter _) _ _ _ | show wpAny _ _ (exec (Stmt.While _ _ _ _) _) _ _ _ | show wpAny _ _ (exec (Stmt.For _ _ _ _ _) _) _ _ _ | show wpAny _ _ (call (Value.builtin "str.join") _ _) _ _ _ | show EachEnd _ _ _ _ _ _ _ | show TurnEnd _ _ _ _ _ _ _ _ _ | show TurnEndT _ _ _ _ _ _ _ _ _ | show WhileEnd _ _ _ _ _ _ _ _ | show EltEnd _ _ _ _ _ _ _ _ | show EnumEnd _ _ _ _ _ _ _ _) | fail "row"))
  (k_with "SZ" => (first | (first | decide | exact Nat.le_trans (by assumption) (by decide) | exact Nat.le_trans (Nat.le_of_eq (by assumption)) (by decide) | (show 1 ≤ _; decide) | (simp only [str_len_add, *]; first | done | decide | omega)) | fail "row"))
  (k_with "eval Name" => (first | ((k_dflt (((with_reducible refine' ldEp (by k_dflt (with_reducible assumption)) (by k_dflt (rfl)) (by k_dflt (rfl)) (by k_dflt (rfl)) (by k_dflt (decide)) (by k_dflt (first | rfl | assumption)) ?_)); k_whole))) | fail "row"))
  (k_with "loadName" => (first | ((k_dflt (((with_reducible refine' ldnEp (by k_dflt (with_reducible assumption)) (by k_dflt (rfl)) (by k_dflt (rfl)) (by k_dflt (rfl)) (by k_dflt (first | rfl | assumption)) ?_)); k_whole))) | fail "row"))
  (k_with "eval Name" => (first | ((k_dflt (((with_reducible refine' ldKp (by k_dflt (with_reducible assumption)) (by k_dflt (rfl)) (by k_dflt (rfl)) (by k_dflt (rfl)) (by k_dflt (decide)) (by k_dflt (k_mem)) (by k_dflt (assumption)) ?_)); k_whole))) | fail "row"))
  (k_with "eval ListComp" => (first | ((k_dflt ((with_reducible refine' comp_rule (by k_dflt (exact rfl)) ?_ (by k_dflt (rfl)) (by k_dflt (decide)) (by k_dflt (intro _; rfl)))))) | fail "row"))
  (k_with "binaryOp Add str str" => (first | ((k_dflt ((with_reducible refine addSN (by k_dflt (k_extra "SZ")) (by k_dflt (k_extra "SZ")) ?_); intro t9 tk9; revert t9 tk9; intro _ _))) | fail "row"))
  (k_with "compareOp In str str" => (first | (((with_reducible refine inC ?_))) | fail "row"))
  (k_with "KS" => (first | (repeat' (first | ((with_reducible show wpAny _ _ (execs _ _) _ _ _); k_fold) | (k_unfold; (try dsimp only)) | ((fail_if_success (k_extra "STOPS")); walk1) | dsimp only)) | fail "row"))
  (k_with "ite" => (first | ((k_dflt first | (k_closed; first | ((with_reducible refine ite_pos (by k_dflt (decide)) ?_)) | ((with_reducible refine ite_neg (by k_dflt (decide)) ?_))) | ((with_reducible refine split_decN ?_ ?_) <;> intro _))) | fail "row"))
  (k_with "LATS" => (first | (repeat (rename (Later _ _) => la9; have lb9 := leN la9.1; clear la9; (try simp only at lb9))) | fail "row"))
  (k_with "eval Dict" => (first | ((k_dflt ((refine' kdn_int (by k_dflt (rfl)) (by k_dflt (k_asm)) (by k_dflt (first | k_asm | exact News.nil)) (by k_dflt (exact TopRead.nolimit (by k_asm))) (by k_dflt (rfl)) (by k_dflt (rfl)) (by k_dflt (exact List.cons_ne_nil _ _)) (by k_dflt (exact Nat.le_of_ble_eq_true rfl)) ?_); intro d' h' o' F' N' l1 lo' hd'; (try k_lt l1); revert d' h' o' F' N' l1 lo' hd'; intro _ _ _ _ _ _ _ _))) | fail "row"))
  (k_with "binaryOp Add ref ref" => (first | ((k_dflt ((with_reducible refine' addL (by k_dflt (assumption)) (by k_dflt (assumption)) (by k_dflt (is_list)) (by k_dflt (is_list)) (by k_dflt ((simp only [List.length_append, List.length_cons, List.length_nil, sizeLine]; omega))) ?_); intro D9 h9 F9 N9 l9; (try k_lt l9); revert D9 h9 F9 N9 l9; intro _ _ _ _ _))) | fail "row"))
  (k_with "storeName" => (first | ((k_dflt (((with_reducible refine' stKp (by k_dflt (with_reducible assumption)) (by k_dflt (with_reducible assumption)) (by k_dflt (rfl)) (by k_dflt (rfl)) (by k_dflt (rfl)) (by k_dflt (k_updF)) (by k_dflt (assumption)) ?_)); k_whole; intro h9 o9 F9 N9 d9; (try dsimp only at N9); revert h9 o9 F9 N9 d9; intro _ _ _ _ _))) | fail "row"))
  (k_with "JUNK" => (first | (repeat (first | (with_reducible show Str; exact Str.ofString "") | (with_reducible show Value; exact Value.none) | (with_reducible show List (Str × Addr); exact []) | (with_reducible show Addr; exact 0))) | fail "row"))
  (k_with "exec Assign cons ListComp" => (first | ((k_dflt ((with_reducible refine' comp_assign (by k_dflt (exact rfl)) (by k_dflt (rfl)) (by k_dflt (rfl)) (by k_dflt (rfl)) ?_ (by k_dflt (rfl)) (by k_dflt (decide)) (by k_dflt (intro _; rfl)))))) | fail "row"))
  (k_with "SUBL" => (first | (((with_reducible show wpAny _ _ (subscriptTail _ _ (Value.ref _) (Value.int _ _)) _ _ _); k_dflt ((with_reducible refine' subL (by k_dflt (is_list)) (by k_dflt (first | exact rfl | exact (rfl : (0:Int) = ((0:Nat):Int)) | exact (rfl : (1:Int) = ((1:Nat):Int)) | exact (rfl : (2:Int) = ((2:Nat):Int)) | exact (rfl : (3:Int) = ((3:Nat):Int)))) (by k_dflt (first | assumption | rfl)) (by k_dflt (first | decide | omega)) ?_ (by k_dflt (with_unfolding_all rfl)))))) | fail "row"))
  (k_with "subscriptTail" => (first | ((k_extra "SUBL")) | fail "row"))
  (k_with "subscriptTail Name Name ref int" => (first | ((k_extra "SUBL")) | fail "row"))
  (k_with "subscriptTail Name Constant ref int" => (first | ((k_extra "SUBL")) | fail "row"))
  (k_with "subscriptTail" => (first | (((with_reducible show wpAny _ _ (subscriptTail _ _ (Value.ref _) (Value.int _ _)) _ _ _); k_dflt ((with_reducible refine' getI (by k_dflt (with_reducible assumption)) (by k_dflt (k_mem)) (by k_dflt (assumption)) (by k_dflt (assumption)) ?_ (by k_dflt (with_unfolding_all rfl)))))) | fail "row"))
  trivial
example : True := by
  (k_with "PJ" => (first | ((first | exact hC.1 | exact hC.2.1 | exact hC.2.2.1 | exact hC.2.2.2.1 | exact hC.2.2.2.2.1 | exact hC.2.2.2.2.2.1 | exact hC.2.2.2.2.2.2.1 | exact hC.2.2.2.2.2.2.2.1 | exact hC.2.2.2.2.2.2.2.2.1 | exact hC.2.2.2.2.2.2.2.2.2.1 | exact hC.2.2.2.2.2.2.2.2.2.2.1 | exact hC.2.2.2.2.2.2.2.2.2.2.2.1 | exact hC.2.2.2.2.2.2.2.2.2.2.2.2.1 | exact hC.2.2.2.2.2.2.2.2.2.2.2.2.2.1 | exact hC.2 | exact hC.2.2 | exact hC.2.2.2 | exact hC.2.2.2.2 | exact hC.2.2.2.2.2 | exact hC.2.2.2.2.2.2 | exact hC.2.2.2.2.2.2.2 | exact hC.2.2.2.2.2.2.2.2 | exact hC.2.2.2.2.2.2.2.2.2 | exact hC.2.2.2.2.2.2.2.2.2.2 | exact hC.2.2.2.2.2.2.2.2.2.2.2 | exact hC.2.2.2.2.2.2.2.2.2.2.2.2 | exact hC.2.2.2.2.2.2.2.2.2.2.2.2.2)) | fail "row"))
  (k_with "LT" => (first | (((repeat (first | exact Nat.lt_succ_self _ | (with_reducible assumption) | refine Nat.lt_succ_of_lt ?_)); done)) | fail "row"))
  (k_with "NE" => (first | ((refine neN ?_; (try dsimp only); first | exact Hold.out (by assumption) | exact Nat.ne_of_lt (by assumption) | exact Nat.ne_of_gt (by assumption) | (refine Nat.ne_of_lt ?_; k_extra "LT"; done) | (refine Nat.ne_of_gt ?_; k_extra "LT"; done) | exact Nat.ne_of_gt (lt2 (by assumption) (fun hC => by k_extra "PJ")) | exact Nat.ne_of_lt (lt2 (by assumption) (fun hC => by k_extra "PJ")) | exact ne2 (by assumption) (fun hC => by k_extra "PJ") | exact Ne.symm (ne2 (by assumption) (fun hC => by k_extra "PJ")) | exact Nat.ne_of_gt (ltM (by assumption) (by k_mem)) | exact Nat.ne_of_gt (ltM (Hold.out (by assumption)) (by k_mem)))) | fail "row"))
  trivial

example : True := by
  (k_with "UPD" => (first | (first | k_updF | (refine' UpdF.app (by k_dflt (k_extra "UPD")) (by k_dflt ((intro p hp; refine ((by k_dflt (assumption)) : OwnOff _ _) p hp _ (by k_dflt (simp))))))) | fail "row"))
  (k_with "storeName" => (first | ((k_dflt (((with_reducible refine' stKp (by k_dflt (with_reducible assumption)) (by k_dflt (with_reducible assumption)) (by k_dflt (rfl)) (by k_dflt (rfl)) (by k_dflt (rfl)) (by k_dflt (k_extra "UPD")) (by k_dflt (assumption)) ?_)); k_whole; intro h9 o9 F9 N9 d9; (try dsimp only at N9); revert h9 o9 F9 N9 d9; intro _ _ _ _ _))) | fail "row"))
  (k_with "STOPS" => (first | (with_reducible show wpAny _ _ (subscriptTail _ _ (Value.str _ _) (Value.int _ _)) _ _ _) | fail "row"))
  trivial
theorem sliceS1 (l : List Nat) : Txt.slice (S l) (some 1) none = S (l.drop 1) := sliceSN l 1
section
variable {w : World} {base : Heap}
theorem c_shape1 : ∀ (f : Nat) {k : Nat} {A : Around} {E : Value → Shared → Prop} {s : Shared} {Q : Value → Shared → Prop} {base : Heap} {l : List Nat} {t u : Tok} (G : G0 w base) (st : base.StaysIn s.heap) (R : Rm A (k + 2 * f + 4)) (hl : l.length < f) (hf : f ≤ 20)
   (h : ∀ v h' tk objs, s.heap.StaysIn h' → (∀ p ∈ objs, Fresh s.heap h' p.1 p.2) → TreeIn objs (shP 1 f l) v → Q v { s with heap := h', toks := tk }),
   wpAny (model PG w) A (call (.ref 177) [.str (S l) t, .int 1 u]) Q E s := by
  intro f
  induction f with
  | zero => intro k A E s Q base l t u G st R hl; exact absurd hl (Nat.not_lt_zero _)
  | succ f ih =>
    intro k A E s Q base l t u G st R hl hf h
    refine wpAny_call ?_
    refine enterC (ld := []) (binds := [("word", .str (S l) t), ("kind", .int 1 u)]) G st (fun _ h => nomatch h) R.room (by k_is) (by k_is) (BindsTo.of_eq rfl) rfl ?_ (by decide)
    intro g L h₁ tk₁ cells up dn htk₁ F N Y lL X G'
    obtain ⟨pp, loo, mg, mb, T⟩ := G'.T
    have R' := R.deeper
    first | (obtain ⟨o1, hE, d1⟩ := CellsAre.one Y; subst hE) | (obtain ⟨o1, o2, hE, d1, d2⟩ := CellsAre.two Y; subst hE) | (obtain ⟨o1, o2, o3, hE, d1, d2, d3⟩ := CellsAre.three Y; subst hE) | (obtain ⟨o1, o2, o3, o4, hE, d1, d2, d3, d4⟩ := CellsAre.four Y; subst hE)
    (try simp only [List.cons_append, List.nil_append] at N)
    have X' := X
    have hU := R.units
    change o1.data = .cell none at d1
    change o2.data = .cell none at d2
    change o3.data = .cell (some (.str (S l) t)) at d3
    k_extra "KS"
    · rename (_ == _) = true => hn
      have hn : l = [] := by
        have e := S_beq l []
        rw [show S [] = Str.ofString "" from rfl, hn] at e
        simpa using e.symm
      subst hn
      rename (News _ _ _ _) => N9
      exact h _ _ _ [(_, listOf #[] 0)] (fun b o e => Fr.keep (by assumption) b o (up b o e (fun q => nomatch q))) (fun p hp => fresh_of_news N9 (by rw [List.mem_singleton.mp hp]; exact .head _) up) ⟨_, _, rfl, .head _⟩
    · rename ¬ (_ == _) = true => hn
      have hn : l ≠ [] := fun q => hn (by rw [q]; rfl)
      have hlen : 0 < l.length := List.length_pos_iff.mpr hn
      obtain ⟨r, hr⟩ : ∃ r, l[0]? = some r := ⟨l[0], List.getElem?_eq_getElem (by exact Mine.om74 hlen)⟩
      refine subS (j := 0) rfl hr (by decide) ?_
      k_extra "KS"
      rw [sliceS1]
      rename (Fr _ _ _ _) => F1
      rename (News _ _ _ _) => N1
      have zd : (l.drop 1).length = l.length - 1 := List.length_drop
      refine filt_str (l := (l.drop 1)) (fun c => decide (c < r)) (Rm.h (Rm.deeper (by assumption) _)) (by have : sizeLine = 16777216 := rfl; exact Mine.om66 hl hf zd this) F1 N1 ?_ ?_
      · rintro i a ua h2 tk2 own C m ha htk F2 N2
        k_extra "KS"
        refine ⟨_, _, _, rfl, by assumption, by assumption, if_pos rfl, ?_⟩
        show (decide ([a] < [r])) = decide (a < r)
        exact decide_eq_decide.mpr (one_lt a r)
      · intro D ys h2 tk2 k2 htk2 F2 N2 hlt2 hys
        k_lt hlt2
        k_extra "KS"
        have zl : ((l.drop 1).filter fun c => decide (c < r)).length ≤ l.length - 1 := Nat.le_trans (List.length_filter_le _ _) (Nat.le_of_eq zd)
        refine join1 (News.isList N2 (.head _)) hys (by exact Mine.om69 hl hf zl) fun t3 k3 _ => ?_
        k_extra "KS"
        rw [sliceS1]
        rename (Fr _ _ _ _) => F4
        rename (News _ _ _ _) => N4
        refine filt_str (l := (l.drop 1)) (fun c => decide (r ≤ c)) (Rm.h (Rm.deeper (by assumption) _)) (by have : sizeLine = 16777216 := rfl; exact Mine.om66 hl hf zd this) F4 N4 ?_ ?_
        · rintro i a ua h5 tk5 own C m ha htk F5 N5
          k_extra "KS"
          refine ⟨_, _, _, rfl, by assumption, by assumption, if_pos rfl, ?_⟩
          show (!decide ([a] < [r])) = decide (r ≤ a)
          rw [decide_eq_decide.mpr (one_lt a r)]
          by_cases q : r ≤ a
          · rw [decide_eq_true q, decide_eq_false (by exact Mine.om67 q)]; rfl
          · rw [decide_eq_false q, decide_eq_true (by exact Mine.om68 q)]; rfl
        · intro D2 ys2 h5 tk5 k5 htk5 F5 N5 hlt5 hys2
          k_lt hlt5
          k_extra "KS"
          have zr : ((l.drop 1).filter fun c => decide (r ≤ c)).length ≤ l.length - 1 := Nat.le_trans (List.length_filter_le _ _) (Nat.le_of_eq zd)
          refine join1 (News.isList N5 (.head _)) hys2 (by exact Mine.om69 hl hf zr) fun t6 k6 _ => ?_
          k_extra "KS"
          have R1 : Rm A ((k + 2 * f + 5) + 1) := R.le (by exact Mine.om70)
          rename (Fr _ _ _ _) => F6
          rename (News _ _ _ _) => N6
          refine ih (k := 0) G' (Fr.keep F6) ((R1.deeper _).le (by exact Mine.om71)) (by exact Mine.om72 hl hlen zl) (by exact Mine.om73 hf) ?_
          intro v1 h7 tk7 objs1 k7 fr7 T7
          have F7 := fr_stays F6 k7
          have N7 := news_freshL (news_stays N6 k7) F6 fr7
          k_extra "KS"
          refine ih (k := 0) G' (Fr.keep F7) ((R1.deeper _).le (by exact Mine.om71)) (by exact Mine.om72 hl hlen zr) (by exact Mine.om73 hf) ?_
          intro v2 h8 tk8 objs2 k8 fr8 T8
          have F8 := fr_stays F7 k8
          have N8 := news_freshL (news_stays N7 k8) F7 fr8
          k_extra "KS"
          rename (News _ _ _ _) => N9
          have hlast : l.headD 0 = r := by cases l with | nil => exact absurd rfl hn | cons x y => simpa using hr
          have e9 : shP 1 (f + 1) l = .node r (shP 1 f ((l.drop 1).filter fun c => decide (c < r))) (shP 1 f ((l.drop 1).filter fun c => decide (r ≤ c))) := by
            rw [shP, if_neg hn, if_neg (by decide), hlast, List.drop_one]
          (try k_fold)
          refine byGoal fun P9 k9 => ?_
          obtain ⟨objs, fo, To⟩ := shape_end N9 up T7 T8
          refine k9 ?_
          clear k9 P9
          rw [← e9] at To
          exact h _ _ _ objs (fun b o e => Fr.keep (by assumption) b o (up b o e (fun q => nomatch q))) fo To
end
end Mine
end
section
set_option maxHeartbeats 2000000
namespace Mine
example : True := by
  k_with_none
  (k_with "STOPS" => (first | (with_reducible first | show wpAny _ _ (pyIter _) _ _ _ | show wpAny _ _ (exec (Stmt.While _ _ _ _) _) _ _ _ | show wpAny _ _ (exec (Stmt.For _ _ _ _ _) _) _ _ _ | show wpAny _ _ (call (Value.builtin "str.join") _ _) _ _ _ | show EachEnd _ _ _ _ _ _ _ | show TurnEnd _ _ _ _ _ _ _ _ _ | show TurnEndT _ _ _ _ _ _ _ _ _ | show WhileEnd _ _ _ _ _ _ _ _ | show EltEnd _ _ _ _ _ _ _ _ | show EnumEnd _ _ _ _ _ _ _ _) | fail "row"))
  (k_with "SZ" => (first | (first | decide | exact Nat.le_trans (by assumption) (by decide) | exact Nat.le_trans (Nat.le_of_eq (by assumption)) (by decide) | (show 1 ≤ _; decide) | (simp only [str_len_add, *]; first | done | decide | omega)) | fail "row"))
  (k_with "eval Name" => (first | ((k_dflt (((with_reducible refine' ldEp (by k_dflt (with_reducible assumption)) (by k_dflt (rfl)) (by k_dflt (rfl)) (by k_dflt (rfl)) (by k_dflt (decide)) (by k_dflt (first | rfl | assumption)) ?_)); k_whole))) | fail "row"))
  (k_with "loadName" => (first | ((k_dflt (((with_reducible refine' ldnEp (by k_dflt (with_reducible assumption)) (by k_dflt (rfl)) (by k_dflt (rfl)) (by k_dflt (rfl)) (by k_dflt (first | rfl | assumption)) ?_)); k_whole))) | fail "row"))
  (k_with "eval Name" => (first | ((k_dflt (((with_reducible refine' ldKp (by k_dflt (with_reducible assumption)) (by k_dflt (rfl)) (by k_dflt (rfl)) (by k_dflt (rfl)) (by k_dflt (decide)) (by k_dflt (k_mem)) (by k_dflt (assumption)) ?_)); k_whole))) | fail "row"))
  (k_with "eval ListComp" => (first | ((k_dflt ((with_reducible refine' comp_rule (by k_dflt (exact rfl)) ?_ (by k_dflt (rfl)) (by k_dflt (decide)) (by k_dflt (intro _; rfl)))))) | fail "row"))
  (k_with "binaryOp Add str str" => (first | ((k_dflt ((with_reducible refine addSN (by k_dflt (k_extra "SZ")) (by k_dflt (k_extra "SZ")) ?_); intro t9 tk9; revert t9 tk9; intro _ _))) | fail "row"))
  (k_with "compareOp In str str" => (first | (((with_reducible refine inC ?_))) | fail "row"))
  (k_with "KS" => (first | (repeat' (first | ((with_reducible show wpAny _ _ (execs _ _) _ _ _); k_fold) | (k_unfold; (try dsimp only)) | ((fail_if_success (k_extra "STOPS")); walk1) | dsimp only)) | fail "row"))
  (k_with "ite" => (first | ((k_dflt first | (k_closed; first | ((with_reducible refine ite_pos (by k_dflt (decide)) ?_)) | ((with_reducible refine ite_neg (by k_dflt (decide)) ?_))) | ((with_reducible refine split_decN ?_ ?_) <;> intro _))) | fail "row"))
  (k_with "LATS" => (first | (repeat (rename (Later _ _) => la9; have lb9 := leN la9.1; clear la9; (try simp only at lb9))) | fail "row"))
  (k_with "eval Dict" => (first | ((k_dflt ((refine' kdn_int (by k_dflt (rfl)) (by k_dflt (k_asm)) (by k_dflt (first | k_asm | exact News.nil)) (by k_dflt (exact TopRead.nolimit (by k_asm))) (by k_dflt (rfl)) (by k_dflt (rfl)) (by k_dflt (exact List.cons_ne_nil _ _)) (by k_dflt (exact Nat.le_of_ble_eq_true rfl)) ?_); intro d' h' o' F' N' l1 lo' hd'; (try k_lt l1); revert d' h' o' F' N' l1 lo' hd'; intro _ _ _ _ _ _ _ _))) | fail "row"))
  (k_with "binaryOp Add ref ref" => (first | ((k_dflt ((with_reducible refine' addL (by k_dflt (assumption)) (by k_dflt (assumption)) (by k_dflt (is_list)) (by k_dflt (is_list)) (by k_dflt ((simp only [List.length_append, List.length_cons, List.length_nil, sizeLine]; omega))) ?_); intro D9 h9 F9 N9 l9; (try k_lt l9); revert D9 h9 F9 N9 l9; intro _ _ _ _ _))) | fail "row"))
  (k_with "storeName" => (first | ((k_dflt (((with_reducible refine' stKp (by k_dflt (with_reducible assumption)) (by k_dflt (with_reducible assumption)) (by k_dflt (rfl)) (by k_dflt (rfl)) (by k_dflt (rfl)) (by k_dflt (k_updF)) (by k_dflt (assumption)) ?_)); k_whole; intro h9 o9 F9 N9 d9; (try dsimp only at N9); revert h9 o9 F9 N9 d9; intro _ _ _ _ _))) | fail "row"))
  (k_with "JUNK" => (first | (repeat (first | (with_reducible show Str; exact Str.ofString "") | (with_reducible show Value; exact Value.none) | (with_reducible show List (Str × Addr); exact []) | (with_reducible show Addr; exact 0))) | fail "row"))
  (k_with "exec Assign cons ListComp" => (first | ((k_dflt ((with_reducible refine' comp_assign (by k_dflt (exact rfl)) (by k_dflt (rfl)) (by k_dflt (rfl)) (by k_dflt (rfl)) ?_ (by k_dflt (rfl)) (by k_dflt (decide)) (by k_dflt (intro _; rfl)))))) | fail "row"))
  (k_with "SUBL" => (first | (((with_reducible show wpAny _ _ (subscriptTail _ _ (Value.ref _) (Value.int _ _)) _ _ _); k_dflt ((with_reducible refine' subL (by k_dflt (is_list)) (by k_dflt (first | exact rfl | exact (rfl : (0:Int) = ((0:Nat):Int)) | exact (rfl : (1:Int) = ((1:Nat):Int)) | exact (rfl : (2:Int) = ((2:Nat):Int)) | exact (rfl : (3:Int) = ((3:Nat):Int)))) (by k_dflt (first | assumption | rfl)) (by k_dflt (first | decide | omega)) ?_ (by k_dflt (with_unfolding_all rfl)))))) | fail "row"))
  (k_with "subscriptTail" => (first | ((k_extra "SUBL")) | fail "row"))
  (k_with "subscriptTail Name Name ref int" => (first | ((k_extra "SUBL")) | fail "row"))
  (k_with "subscriptTail Name Constant ref int" => (first | ((k_extra "SUBL")) | fail "row"))
  (k_with "subscriptTail" => (first | (((with_reducible show wpAny _ _ (subscriptTail _ _ (Value.ref _) (Value.int _ _)) _ _ _); k_dflt ((with_reducible refine' getI (by k_dflt (with_reducible assumption)) (by k_dflt (k_mem)) (by k_dflt (assumption)) (by k_dflt (assumption)) ?_ (by k_dflt (with_unfolding_all rfl)))))) | fail "row"))
  trivial
example : True := by
  (k_with "PJ" => (first | ((first | exact hC.1 | exact hC.2.1 | exact hC.2.2.1 | exact hC.2.2.2.1 | exact hC.2.2.2.2.1 | exact hC.2.2.2.2.2.1 | exact hC.2.2.2.2.2.2.1 | exact hC.2.2.2.2.2.2.2.1 | exact hC.2.2.2.2.2.2.2.2.1 | exact hC.2.2.2.2.2.2.2.2.2.1 | exact hC.2.2.2.2.2.2.2.2.2.2.1 | exact hC.2.2.2.2.2.2.2.2.2.2.2.1 | exact hC.2.2.2.2.2.2.2.2.2.2.2.2.1 | exact hC.2.2.2.2.2.2.2.2.2.2.2.2.2.1 | exact hC.2 | exact hC.2.2 | exact hC.2.2.2 | exact hC.2.2.2.2 | exact hC.2.2.2.2.2 | exact hC.2.2.2.2.2.2 | exact hC.2.2.2.2.2.2.2 | exact hC.2.2.2.2.2.2.2.2 | exact hC.2.2.2.2.2.2.2.2.2 | exact hC.2.2.2.2.2.2.2.2.2.2 | exact hC.2.2.2.2.2.2.2.2.2.2.2 | exact hC.2.2.2.2.2.2.2.2.2.2.2.2 | exact hC.2.2.2.2.2.2.2.2.2.2.2.2.2)) | fail "row"))
  (k_with "LT" => (first | (((repeat (first | exact Nat.lt_succ_self _ | (with_reducible assumption) | refine Nat.lt_succ_of_lt ?_)); done)) | fail "row"))
  (k_with "NE" => (first | ((refine neN ?_; (try dsimp only); first | exact Hold.out (by assumption) | exact Nat.ne_of_lt (by assumption) | exact Nat.ne_of_gt (by assumption) | (refine Nat.ne_of_lt ?_; k_extra "LT"; done) | (refine Nat.ne_of_gt ?_; k_extra "LT"; done) | exact Nat.ne_of_gt (lt2 (by assumption) (fun hC => by k_extra "PJ")) | exact Nat.ne_of_lt (lt2 (by assumption) (fun hC => by k_extra "PJ")) | exact ne2 (by assumption) (fun hC => by k_extra "PJ") | exact Ne.symm (ne2 (by assumption) (fun hC => by k_extra "PJ")) | exact Nat.ne_of_gt (ltM (by assumption) (by k_mem)) | exact Nat.ne_of_gt (ltM (Hold.out (by assumption)) (by k_mem)))) | fail "row"))
  trivial

example : True := by
  (k_with "UPD" => (first | (first | k_updF | (refine' UpdF.app (by k_dflt (k_extra "UPD")) (by k_dflt ((intro p hp; refine ((by k_dflt (assumption)) : OwnOff _ _) p hp _ (by k_dflt (simp))))))) | fail "row"))
  (k_with "storeName" => (first | ((k_dflt (((with_reducible refine' stKp (by k_dflt (with_reducible assumption)) (by k_dflt (with_reducible assumption)) (by k_dflt (rfl)) (by k_dflt (rfl)) (by k_dflt (rfl)) (by k_dflt (k_extra "UPD")) (by k_dflt (assumption)) ?_)); k_whole; intro h9 o9 F9 N9 d9; (try dsimp only at N9); revert h9 o9 F9 N9 d9; intro _ _ _ _ _))) | fail "row"))
  (k_with "call builtin:len" => (first | (((with_reducible show wpAny _ _ (call (Value.builtin "len") [Value.str _ _]) _ _ _); k_dflt ((refine' PySem.len_str (by k_dflt (omega)) ?_)))) | fail "row"))
  (k_with "call builtin:len" => (first | (((with_reducible show wpAny _ _ (call (Value.builtin "len") [Value.ref _]) _ _ _); k_dflt ((refine' call_len_list (by k_dflt (is_list)) (by k_dflt (omega)) ?_)))) | fail "row"))
  (k_with "STOPS" => (first | (with_reducible first | show wpAny _ _ (subscriptTail _ _ (Value.str _ _) (Value.int _ _)) _ _ _ | show wpAny _ _ (subscriptTail _ _ (Value.ref _) (Value.int _ _)) _ _ _) | fail "row"))
  (k_with "eval Name" => (first | (((with_reducible show wpAny _ _ (eval (Expr.Name (Str.ofString "range") _) (compEnvC _ _ _ _)) _ _ _); k_dflt (((with_reducible refine' ldB (v := Value.type "range") (by k_dflt (with_reducible assumption)) (by k_dflt (with_reducible assumption)) (by k_dflt (with_reducible assumption)) (by k_dflt (k_is)) (by k_dflt (decide)) (by k_dflt (decide)) ?_ (by k_dflt (rfl)) (by k_dflt (rfl)) (by k_dflt (rfl)) (by k_dflt (rfl)) (by k_dflt (decide)))); k_whole))) | fail "row"))
  (k_with "eval Name" => (first | (((with_reducible show wpAny _ _ (eval (Expr.Name (Str.ofString "len") _) (compEnvC _ _ _ _)) _ _ _); k_dflt (((with_reducible refine' ldB (v := Value.builtin "len") (by k_dflt (with_reducible assumption)) (by k_dflt (with_reducible assumption)) (by k_dflt (with_reducible assumption)) (by k_dflt (k_is)) (by k_dflt (decide)) (by k_dflt (decide)) ?_ (by k_dflt (rfl)) (by k_dflt (rfl)) (by k_dflt (rfl)) (by k_dflt (rfl)) (by k_dflt (decide)))); k_whole))) | fail "row"))
  trivial
noncomputable def plP (l : List Nat) : List Nat := [32, 34, 35, 92, 97].flatMap fun a => (List.range l.length).filter fun i => l.getD i 0 == a
noncomputable def shB (l : List Nat) : List Bool := (List.range ((plP l).length - 1)).map fun k => decide ((plP l).getD k 0 < (plP l).getD (k + 1) 0)
theorem vals_of_each {n : Nat} {ys : List Value} {f : Nat → Value} (hl : ys.length = n) (h : ∀ (j : Nat) (y : Value), ys[j]? = some y → y = f j) : ys = (List.range n).map f := by
  subst hl
  refine List.ext_getElem? fun i => ?_
  by_cases q : i < ys.length
  · rw [List.getElem?_map, List.getElem?_range q, List.getElem?_eq_getElem q]
    exact congrArg some (h i _ (List.getElem?_eq_getElem q))
  · rw [List.getElem?_eq_none (by exact Mine.om13 q), List.getElem?_eq_none (by rw [List.length_map, List.length_range]; exact Mine.om13 q)]
section
variable {w : World} {base : Heap} {A : Around} {E : Value → Shared → Prop} {s : Shared} {Q : Value → Shared → Prop} {k : Nat} {t u : Tok}
theorem c_shape2 {l : List Nat} (G : G0 w base) (st : base.StaysIn s.heap) (R : Rm A (k + 4)) (hl : l.length = 5) (hpl : (plP l).length = 5)
   (h : ∀ r h' tk n, s.heap.StaysIn h' → Fresh s.heap h' r (listOf ((shB l).map Value.bool).toArray n) → Q (.ref r) { s with heap := h', toks := tk }) :
   wpAny (model PG w) A (call (.ref 177) [.str (S l) t, .int 2 u]) Q E s := by
  refine wpAny_call ?_
  refine enterC (ld := []) (binds := [("word", .str (S l) t), ("kind", .int 2 u)]) G st (fun _ h => nomatch h) R.room (by k_is) (by k_is) (BindsTo.of_eq rfl) rfl ?_ (by decide)
  intro g L h₁ tk₁ cells up dn htk₁ F N Y lL X G'
  obtain ⟨pp, loo, mg, mb, T⟩ := G'.T
  have R' := R.deeper
  first | (obtain ⟨o1, hE, d1⟩ := CellsAre.one Y; subst hE) | (obtain ⟨o1, o2, hE, d1, d2⟩ := CellsAre.two Y; subst hE) | (obtain ⟨o1, o2, o3, hE, d1, d2, d3⟩ := CellsAre.three Y; subst hE) | (obtain ⟨o1, o2, o3, o4, hE, d1, d2, d3, d4⟩ := CellsAre.four Y; subst hE)
  (try simp only [List.cons_append, List.nil_append] at N)
  have X' := X
  have hU := R.units
  have zS : (S l).length = l.length := S_len _
  change o1.data = .cell none at d1
  change o2.data = .cell none at d2
  change o3.data = .cell (some (.str (S l) t)) at d3
  k_extra "KS"
  rw [show Str.ofString " \"#\\a" = S [32, 34, 35, 92, 97] from by decide]
  refine comp_nest (xs := [32, 34, 35, 92, 97]) (n := l.length) (fun a i => l.getD i 0 == a) (by decide +kernel) (Rm.h (Rm.deeper (by assumption) _)) (by simp; exact Mine.om75 hl) F N ?_ ?_ ?_
  · intro a ua h1 tk1 m1 C own hmem F1 hx0 N1 Q' hQ'
    k_extra "KS"
    rename (IsRange _ _ _ _ _ _ _ _) => hir
    rw [zS] at hir
    exact hQ' _ _ _ _ _ _ (by assumption) (by assumption) hir
  · intro a ua i ti h1 tk1 m1 C own hmem hi F1 hx0 hx1 N1
    have hc : l[i]? = some (l.getD i 0) := by rw [List.getD_eq_getElem?_getD, List.getElem?_eq_getElem hi]; rfl
    k_extra "KS"
    refine subS (j := i) rfl hc (by exact Mine.om282 hl hi) ?_
    k_extra "KS"
    · assumption
    · assumption
    · rw [S_beq]
      by_cases q : l.getD i 0 = a
      · rw [q]; simp
      · rw [decide_eq_false (fun e => q (by simpa using e))]; exact (beq_eq_false_iff_ne.mpr q).symm
  · intro D ys h1 tk1 k1 F1 N1 hlt1 hys
    change IntsAre ys (intsN (plP l)) at hys
    have hkeep : IntsAre ys (intsN (plP l)) ∧ True := ⟨hys, trivial⟩
    have zy : ys.toArray.size = 5 := by have := intsAre_len hys; rw [List.length_map, hpl] at this; exact this
    have hDL := ltN (hlt1 (L + 1 + 1 + 1, o1) (.head _))
    have hDM := ltN (hlt1 (L + 1 + 1, o2) (.tail _ (.head _)))
    have hDN := ltN (hlt1 (L + 1, o3) (.tail _ (.tail _ (.head _))))
    dsimp only at hDL hDM hDN
    clear hys
    k_extra "KS"
    rename (Fr _ _ _ _) => F2
    rename (News _ _ _ _) => N2
    rename (IsRange _ _ _ _ _ _ _ _) => hir
    rw [zy] at hir
    refine comp_range (n := 4) (fun i tk y => y = .bool (decide ((plP l).getD i 0 < (plP l).getD (i + 1) 0))) (fun _ _ _ _ _ h => h) (Rm.h (Rm.deeper (by assumption) _)) hir (by decide) F2 N2 ?_ ?_
    · intro i2 ti h2 tk2 own2 C m2 hi2 htk2 F3 N3
      obtain ⟨ta, hta⟩ := intsAre_at (i := i2) (a := (((plP l).getD i2 0 : Nat) : Int)) hkeep.1 (by rw [List.getElem?_map, List.getD_eq_getElem?_getD, List.getElem?_eq_getElem (by exact Mine.om20 hpl hi2)]; rfl)
      obtain ⟨tb, htb⟩ := intsAre_at (i := i2 + 1) (a := (((plP l).getD (i2 + 1) 0 : Nat) : Int)) hkeep.1 (by rw [List.getElem?_map, List.getD_eq_getElem?_getD, List.getElem?_eq_getElem (by exact Mine.om21 hpl hi2)]; rfl)
      k_extra "KS"
      refine subL (j := i2) (News.isList N3 (.head _)) rfl (by simpa using hta) (by exact Mine.om284 hi2) ?_
      k_extra "KS"
      refine subL (j := i2 + 1) (News.isList N3 (.head _)) rfl (by simpa using htb) (by exact Mine.om285 hi2) ?_
      k_extra "KS"
      refine ⟨_, _, _, rfl, by assumption, N3, ?_⟩
      show Value.bool _ = Value.bool _
      rw [List.getD_eq_getElem?_getD, List.getD_eq_getElem?_getD]
      exact congrArg Value.bool (decide_eq_decide.mpr Int.ofNat_lt)
    · intro D2 ys2 h2 tk2 k2 htk2 F3 N3 hlt3 hlen3 hR
      k_extra "KS"
      have e9 : ys2 = (shB l).map Value.bool := by
        rw [shB, hpl, List.map_map]
        exact vals_of_each hlen3 hR
      subst e9
      exact h _ _ _ k2 (fun b o e => Fr.keep (by assumption) b o (up b o e (fun q => nomatch q))) (fresh_of_news N3 (.head _) up)
end
end Mine
end
section
set_option maxHeartbeats 1000000
namespace Mine
-- equivariance
structure Mono (f : Nat → Nat) : Prop where
  z : f 0 = 0
  m : ∀ a b, a < b → f a < f b
theorem Mono.lt {f : Nat → Nat} (F : Mono f) (a b : Nat) : f a < f b ↔ a < b := by
  constructor
  · intro h
    rcases Nat.lt_trichotomy a b with q | q | q
    · exact q
    · rw [q] at h; exact absurd h (Nat.lt_irrefl _)
    · exact absurd (Nat.lt_trans h (F.m _ _ q)) (Nat.lt_irrefl _)
  · exact F.m a b
theorem Mono.le {f : Nat → Nat} (F : Mono f) (a b : Nat) : f a ≤ f b ↔ a ≤ b := by
  rw [← Nat.not_lt, F.lt, Nat.not_lt]
theorem Mono.inj {f : Nat → Nat} (F : Mono f) {a b : Nat} (h : f a = f b) : a = b :=
  Nat.le_antisymm ((F.le _ _).mp (Nat.le_of_eq h)) ((F.le _ _).mp (Nat.le_of_eq h.symm))
theorem Mono.eq {f : Nat → Nat} (F : Mono f) (a b : Nat) : f a = f b ↔ a = b := ⟨F.inj, fun h => h ▸ rfl⟩
theorem Mono.beq {f : Nat → Nat} (F : Mono f) (a b : Nat) : (f a == f b) = (a == b) := by
  rw [Bool.eq_iff_iff, beq_iff_eq, beq_iff_eq, F.eq]
theorem Mono.get {f : Nat → Nat} (F : Mono f) (l : List Nat) (k : Nat) : (l.map f).getD k 0 = f (l.getD k 0) := by
  rw [List.getD_eq_getElem?_getD, List.getD_eq_getElem?_getD, List.getElem?_map]
  cases l[k]? with
  | none => exact F.z.symm
  | some a => rfl
theorem Mono.last {f : Nat → Nat} (F : Mono f) (l : List Nat) : (l.map f).getLastD 0 = f (l.getLastD 0) := by
  rw [List.getLastD_eq_getLast?, List.getLastD_eq_getLast?, List.getLast?_map]
  cases l.getLast? with
  | none => exact F.z.symm
  | some a => rfl
theorem Mono.head {f : Nat → Nat} (F : Mono f) (l : List Nat) : (l.map f).headD 0 = f (l.headD 0) := by
  cases l with
  | nil => exact F.z.symm
  | cons a r => rfl
theorem Mono.maps {f : Nat → Nat} (F : Mono f) {a b : List Nat} (h : a.map f = b.map f) : a = b := by
  induction a generalizing b with
  | nil => cases b with
    | nil => rfl
    | cons _ _ => cases h
  | cons x a ih => cases b with
    | nil => cases h
    | cons y b =>
      rw [List.map_cons, List.map_cons] at h
      injection h with h1 h2
      rw [F.inj h1, ih h2]
theorem one_lt' (a b : Nat) : ([a] < [b]) ↔ a < b := by
  constructor
  · intro h
    cases h with
    | rel q => exact q
    | cons q => cases q
  · intro h; exact List.Lex.rel h
theorem cmpF_map {f : Nat → Nat} (F : Mono f) (k a b : Nat) : cmpF k [f a] [f b] = cmpF k [a] [b] := by
  unfold cmpF
  simp only [one_lt', F.lt]
theorem oneP_map {f : Nat → Nat} (F : Mono f) (r : RuleP) (z : List Nat) : oneP r (z.map f) = oneP r z := by
  unfold oneP
  simp only [F.get, cmpF_map F]
theorem wits_map (f : Nat → Nat) (r : RuleP) (l : List Nat) (p : Nat) : wits r (l.map f) p = (wits r l p).map f := by
  unfold wits
  split <;> simp [List.map_drop, List.map_take]
theorem letsP_map {f : Nat → Nat} (F : Mono f) (rs : List RuleP) (l : List Nat) (p : Nat) : letsP rs (l.map f) p = letsP rs l p := by
  unfold letsP pairsP
  simp only [wits_map, List.any_map, F.get]
  congr 1; funext r; congr 1; funext c
  simp only [Function.comp_apply, List.any_cons, List.any_nil]
  exact congr (congrArg or (oneP_map F r [c, _, _])) (congrArg (· || false) (oneP_map F r [c, _, _]))
theorem swapAt_map {f : Nat → Nat} (F : Mono f) (l : List Nat) (p : Nat) : swapAt (l.map f) p = (swapAt l p).map f := by
  unfold swapAt
  simp only [F.get, List.map_append, List.map_take, List.map_drop, List.map_cons, List.map_nil]
theorem mem_maps {f : Nat → Nat} (F : Mono f) (x : List Nat) (L : WS) : x.map f ∈ L.map (List.map f) ↔ x ∈ L := by
  rw [List.mem_map]
  exact ⟨fun ⟨a, h, e⟩ => F.maps e ▸ h, fun h => ⟨x, h, rfl⟩⟩
noncomputable def m2 (f : Nat → Nat) (st : WS × List Nat) : WS × List Nat := (st.1.map (List.map f), st.2)
noncomputable def m3 (f : Nat → Nat) (st : WS × List Nat × WS) : WS × List Nat × WS := (st.1.map (List.map f), st.2.1, st.2.2.map (List.map f))
theorem clsStep_map {f : Nat → Nat} (F : Mono f) (rs : List RuleP) (got : WS) (w : List Nat) (st : WS × List Nat) (p : Nat) :
    clsStep rs (got.map (List.map f)) (w.map f) (m2 f st) p = m2 f (clsStep rs got w st p) := by
  unfold clsStep m2
  simp only [swapAt_map F, letsP_map F, ← List.map_append, mem_maps F, List.length_map]
  split
  · simp only [List.map_append, List.map_cons, List.map_nil]
  · rfl
theorem clsFold_map {f : Nat → Nat} (F : Mono f) (rs : List RuleP) (got : WS) (w : List Nat) : ∀ (ps : List Nat) (st : WS × List Nat),
    ps.foldl (clsStep rs (got.map (List.map f)) (w.map f)) (m2 f st) = m2 f (ps.foldl (clsStep rs got w) st)
  | [], _ => rfl
  | p :: ps, st => by rw [List.foldl_cons, List.foldl_cons, clsStep_map F, clsFold_map F rs got w ps]
theorem getD_map (f : Nat → Nat) (L : WS) (n : Nat) : (L.map (List.map f)).getD n [] = (L.getD n []).map f := by
  rw [List.getD_eq_getElem?_getD, List.getD_eq_getElem?_getD, List.getElem?_map]
  cases L[n]? <;> rfl
theorem clsTurn_map {f : Nat → Nat} (F : Mono f) (rs : List RuleP) (st : WS × List Nat × WS) : clsTurn rs (m3 f st) = m3 f (clsTurn rs st) := by
  refine byGoal fun P9 k9 => ?_
  obtain ⟨l, a, g⟩ := st
  refine k9 ?_
  clear k9 P9
  unfold clsTurn m3
  have := clsFold_map F rs (g ++ [l.getD g.length []]) (l.getD g.length []) (List.range 4) (l, a)
  simp only [m2, List.map_append, List.map_cons, List.map_nil] at this
  simp only [List.length_map, getD_map, this, List.map_append, List.map_cons, List.map_nil]
theorem clsRun_map {f : Nat → Nat} (F : Mono f) (rs : List RuleP) : ∀ (k : Nat) (st : WS × List Nat × WS), clsRun rs k (m3 f st) = m3 f (clsRun rs k st)
  | 0, _ => rfl
  | k + 1, st => by
    unfold clsRun
    have h1 : (m3 f st).1.length = st.1.length := List.length_map _
    have h2 : (m3 f st).2.2.length = st.2.2.length := List.length_map _
    rw [h1, h2, clsTurn_map F, clsRun_map F rs k]
    split <;> rfl
noncomputable def Tr.map (f : Nat → Nat) : Tr → Tr
  | .nil => .nil
  | .node c l r => .node (f c) (l.map f) (r.map f)
theorem shP_map {f : Nat → Nat} (F : Mono f) (kd : Nat) : ∀ (n : Nat) (l : List Nat), shP kd n (l.map f) = (shP kd n l).map f
  | 0, _ => rfl
  | n + 1, l => by
    unfold shP
    simp only [List.map_eq_nil_iff]
    split
    · rfl
    · split
      · simp only [Tr.map, F.last, ← List.map_dropLast, List.filter_map, Function.comp_def, F.le, F.lt, shP_map F kd n]
      · simp only [Tr.map, F.head, ← List.map_tail, List.filter_map, Function.comp_def, F.le, F.lt, shP_map F kd n]
theorem mixP_map (f : Nat → Nat) : ∀ T : Tr, mixP (T.map f) = mixP T
  | .nil => rfl
  | .node c l r => by unfold Tr.map mixP; rw [mixP_map f l, mixP_map f r]
theorem okT_map (f : Nat → Nat) : ∀ T : Tr, okT (T.map f) = okT T
  | .nil => rfl
  | .node c l r => by unfold Tr.map okT; rw [okT_map f l, okT_map f r, mixP_map]
theorem turnP_map {f : Nat → Nat} (F : Mono f) (s : List Nat) : ∀ (w free : List Nat) (n : Nat), turnP (s.map f) (w.map f) free n = turnP s w free n
  | [], _, _ => rfl
  | c :: r, free, n => by
    rw [List.map_cons]
    unfold turnP
    simp only [F.get, F.beq]
    split
    · rfl
    · exact turnP_map F s r _ _
-- the quick search
noncomputable def lt' (a b : Nat) : Bool := Nat.ble (Nat.succ a) b
theorem ble_d (a b : Nat) : Nat.ble a b = decide (a ≤ b) := by
  rw [Bool.eq_iff_iff, Nat.ble_eq, decide_eq_true_iff]
theorem lt'_d (a b : Nat) : lt' a b = decide (a < b) := ble_d _ _
theorem beq_d (a b : Nat) : Nat.beq a b = decide (a = b) := by
  rw [Bool.eq_iff_iff, Nat.beq_eq, decide_eq_true_iff]
noncomputable def bA (x y w : Nat) : Bool := (Nat.ble x w && lt' w y) || (Nat.ble y w && lt' w x)
noncomputable def bB (x y w : Nat) : Bool := (lt' x w && Nat.ble w y) || (lt' y w && Nat.ble w x)
noncomputable def anyA (x y : Nat) : List Nat → Bool
  | [] => false
  | w :: r => bA x y w || anyA x y r
noncomputable def anyB (x y : Nat) : List Nat → Bool
  | [] => false
  | w :: r => bB x y w || anyB x y r
noncomputable def eqW : List Nat → List Nat → Bool
  | [], [] => true
  | a :: r, b :: q => Nat.beq a b && eqW r q
  | _, _ => false
theorem eqW_d : ∀ a b : List Nat, eqW a b = decide (a = b)
  | [], [] => rfl
  | [], _ :: _ => rfl
  | _ :: _, [] => rfl
  | a :: r, b :: q => by
    show (Nat.beq a b && eqW r q) = _
    rw [eqW_d r q, beq_d]; simp
noncomputable def mem (x : List Nat) : WS → Bool
  | [] => false
  | y :: r => eqW x y || mem x r
theorem mem_d (x : List Nat) : ∀ L : WS, mem x L = decide (x ∈ L)
  | [] => by show false = _; simp
  | y :: r => by
    show (eqW x y || mem x r) = _
    rw [eqW_d, mem_d x r]; simp
noncomputable abbrev Res := WS × List Nat × WS
noncomputable def push (done todo : WS) (ds : List Nat) (d : Nat) (x : List Nat) (ok : Bool) (K : WS → List Nat → Res) : Res :=
  bif ok then bif (mem x done || mem x todo) then K todo ds else K (todo ++ [x]) (ds ++ [d]) else K todo ds
noncomputable def okA (kd x y : Nat) (q : List Nat) : Bool := bif Nat.beq kd 1 then false else anyA x y q
noncomputable def okB (kd x y : Nat) (q : List Nat) : Bool := bif Nat.beq kd 0 then false else anyB x y q
noncomputable def turnA (kd : Nat) (done todo : WS) (ds : List Nat) (d : Nat) (w : List Nat) (K : WS → List Nat → Res) : Res :=
  match w with
  | [a,b,c,e,f] =>
    push done todo ds d [b,a,c,e,f] (okA kd a b [c,e,f] || okB kd a b []) fun todo ds =>
    push done todo ds d [a,c,b,e,f] (okA kd b c [e,f] || okB kd b c [a]) fun todo ds =>
    push done todo ds d [a,b,e,c,f] (okA kd c e [f] || okB kd c e [a,b]) fun todo ds =>
    push done todo ds d [a,b,c,f,e] (okA kd e f [] || okB kd e f [a,b,c]) K
  | _ => K todo ds
noncomputable def run (kd : Nat) : Nat → WS → List Nat → WS → List Nat → Res
  | 0, done, dd, todo, _ => (done, dd, todo)
  | k + 1, done, dd, todo, ds => match todo, ds with
    | w :: r, d :: q => bif lt' (done.length + todo.length) 17 then turnA kd (w :: done) r q (Nat.succ d) w fun todo ds => run kd k (w :: done) (d :: dd) todo ds else (done, dd, todo)
    | _, _ => (done, dd, todo)
noncomputable def rA (p : Nat) : RuleP := if p = 0 then ⟨2,1,0,2,28,21⟩ else ⟨2,2,0,1,42,35⟩
noncomputable def rB (p : Nat) : RuleP := if p = 0 then ⟨1,1,0,2,21,28⟩ else ⟨1,2,0,1,35,42⟩
noncomputable def rsP (kd p : Nat) : List RuleP := if kd = 0 then [rA p] else if kd = 1 then [rB p] else [rA p, rB p]
theorem cmp28 (a b : Nat) : cmpF 28 [a] [b] = Nat.ble a b := by
  rw [ble_d]; unfold cmpF; rw [Bool.eq_iff_iff]; simp [one_lt']
theorem cmp21 (a b : Nat) : cmpF 21 [a] [b] = lt' a b := by
  rw [lt'_d]; unfold cmpF; rw [Bool.eq_iff_iff]; simp [one_lt']
theorem cmp35 (a b : Nat) : cmpF 35 [a] [b] = Nat.ble b a := by
  rw [ble_d]; unfold cmpF; rw [Bool.eq_iff_iff]; simp [one_lt']
theorem cmp42 (a b : Nat) : cmpF 42 [a] [b] = lt' b a := by
  rw [lt'_d]; unfold cmpF; rw [Bool.eq_iff_iff]; simp [one_lt']
theorem oneA (p x y w : Nat) : ((pairsP [x,y] 0).any fun q => oneP (rA p) (w :: q)) = bA x y w := by
  unfold pairsP oneP rA bA
  split <;> simp [cmp28, cmp21, cmp35, cmp42, Bool.and_comm]
theorem oneB (p x y w : Nat) : ((pairsP [x,y] 0).any fun q => oneP (rB p) (w :: q)) = bB x y w := by
  unfold pairsP oneP rB bB
  split <;> simp [cmp28, cmp21, cmp35, cmp42, Bool.and_comm]
theorem any_A (p x y : Nat) : ∀ q : List Nat, (q.any fun c => (pairsP [x,y] 0).any fun q => oneP (rA p) (c :: q)) = anyA x y q
  | [] => rfl
  | w :: r => by rw [List.any_cons, any_A p x y r, oneA]; rfl
theorem any_B (p x y : Nat) : ∀ q : List Nat, (q.any fun c => (pairsP [x,y] 0).any fun q => oneP (rB p) (c :: q)) = anyB x y q
  | [] => rfl
  | w :: r => by rw [List.any_cons, any_B p x y r, oneB]; rfl
theorem gapA (p : Nat) (l : List Nat) (i : Nat) : wits (rA p) l i = l.drop (i + 2) := by
  unfold wits rA; split <;> rfl
theorem gapB (p : Nat) (l : List Nat) (i : Nat) : wits (rB p) l i = l.take i := by
  unfold wits rB; split <;> rfl
theorem lets_eq {kd : Nat} (hk : kd < 3) (p i : Nat) (l : List Nat) : letsP (rsP kd p) l i = (okA kd (l.getD i 0) (l.getD (i + 1) 0) (l.drop (i + 2)) || okB kd (l.getD i 0) (l.getD (i + 1) 0) (l.take i)) := by
  have hA : ((wits (rA p) l i).any fun c => (pairsP l i).any fun q => oneP (rA p) (c :: q)) = anyA (l.getD i 0) (l.getD (i + 1) 0) (l.drop (i + 2)) := by
    rw [gapA]; exact any_A p _ _ _
  have hB : ((wits (rB p) l i).any fun c => (pairsP l i).any fun q => oneP (rB p) (c :: q)) = anyB (l.getD i 0) (l.getD (i + 1) 0) (l.take i) := by
    rw [gapB]; exact any_B p _ _ _
  unfold letsP rsP okA okB
  match kd, hk with
  | 0, _ => simp [hA, Nat.beq]
  | 1, _ => simp [hB, Nat.beq]
  | 2, _ => simp [hA, hB, Nat.beq]
theorem push_eq {rs : List RuleP} {done0 todo : WS} {dd0 ds : List Nat} {d p : Nat} {w x : List Nat} {ok : Bool} (hl : dd0.length = done0.length) (hx : swapAt w p = x) (ho : letsP rs w p = ok) :
    ∃ t e, (∀ K, push (w :: done0) todo ds (Nat.succ d) x ok K = K t e) ∧ clsStep rs (done0.reverse ++ [w]) w (done0.reverse ++ w :: todo, dd0.reverse ++ d :: ds) p = (done0.reverse ++ w :: t, dd0.reverse ++ d :: e) ∧ (todo.length = ds.length → t.length = e.length) := by
  unfold push clsStep
  rw [hx, ho]
  have hd : (dd0.reverse ++ d :: ds).getD ((done0.reverse ++ [w]).length - 1) 0 = d := by
    rw [List.getD_eq_getElem?_getD]; simp [← hl]
  rw [hd]
  cases ok with
  | false => exact ⟨todo, ds, fun K => rfl, by simp, id⟩
  | true =>
    rw [mem_d, mem_d]
    by_cases hm : x ∈ w :: done0 ∨ x ∈ todo
    · refine ⟨todo, ds, fun K => by rw [← Bool.decide_or, decide_eq_true hm]; rfl, ?_, id⟩
      rw [if_neg]
      intro q
      apply q.1
      simp only [List.mem_append, List.mem_reverse, List.mem_cons] at hm ⊢
      rcases hm with (h | h) | h <;> simp [h]
    · refine ⟨todo ++ [x], ds ++ [Nat.succ d], fun K => by rw [← Bool.decide_or, decide_eq_false hm]; rfl, ?_, fun h => by simp [h]⟩
      rw [if_pos]
      · simp
      · refine ⟨fun q => hm ?_, rfl⟩
        simp only [List.mem_append, List.mem_reverse, List.mem_cons, List.not_mem_nil, or_false] at q ⊢
        rcases q with (h | h) | h | h | h <;> simp [h]
theorem turn_eq {kd p : Nat} (hk : kd < 3) {done0 todo : WS} {dd0 ds : List Nat} {d : Nat} {w : List Nat} (hw : w.length = 5) (hl : dd0.length = done0.length) (ht : todo.length = ds.length) :
    ∃ t e, (∀ K, turnA kd (w :: done0) todo ds (Nat.succ d) w K = K t e) ∧ clsTurn (rsP kd p) (done0.reverse ++ w :: todo, dd0.reverse ++ d :: ds, done0.reverse) = (done0.reverse ++ w :: t, dd0.reverse ++ d :: e, done0.reverse ++ [w]) ∧ t.length = e.length := by
  match w, hw with
  | [a, b, c, e, f], _ =>
    refine byGoal fun P9 k9 => ?_
    obtain ⟨t0, e0, k0, c0, l0⟩ := push_eq (rs := rsP kd p) (todo := todo) (ds := ds) (d := d) (p := 0) (w := [a,b,c,e,f]) hl rfl (lets_eq hk p 0 _)
    refine k9 ?_
    clear k9 P9
    refine byGoal fun P9 k9 => ?_
    obtain ⟨t1, e1, k1, c1, l1⟩ := push_eq (rs := rsP kd p) (todo := t0) (ds := e0) (d := d) (p := 1) (w := [a,b,c,e,f]) hl rfl (lets_eq hk p 1 _)
    refine k9 ?_
    clear k9 P9
    refine byGoal fun P9 k9 => ?_
    obtain ⟨t2, e2, k2, c2, l2⟩ := push_eq (rs := rsP kd p) (todo := t1) (ds := e1) (d := d) (p := 2) (w := [a,b,c,e,f]) hl rfl (lets_eq hk p 2 _)
    refine k9 ?_
    clear k9 P9
    refine byGoal fun P9 k9 => ?_
    obtain ⟨t3, e3, k3, c3, l3⟩ := push_eq (rs := rsP kd p) (todo := t2) (ds := e2) (d := d) (p := 3) (w := [a,b,c,e,f]) hl rfl (lets_eq hk p 3 _)
    refine k9 ?_
    clear k9 P9
    refine ⟨t3, e3, fun K => ?_, ?_, l3 (l2 (l1 (l0 ht)))⟩
    · refine (show turnA kd ([a,b,c,e,f] :: done0) todo ds (Nat.succ d) [a,b,c,e,f] K = _ from k0 (fun todo ds => push ([a,b,c,e,f] :: done0) todo ds d.succ [a,c,b,e,f] (okA kd b c [e,f] || okB kd b c [a]) fun todo ds => push ([a,b,c,e,f] :: done0) todo ds d.succ [a,b,e,c,f] (okA kd c e [f] || okB kd c e [a,b]) fun todo ds => push ([a,b,c,e,f] :: done0) todo ds d.succ [a,b,c,f,e] (okA kd e f [] || okB kd e f [a,b,c]) K)).trans ?_
      refine (k1 (fun todo ds => push ([a,b,c,e,f] :: done0) todo ds d.succ [a,b,e,c,f] (okA kd c e [f] || okB kd c e [a,b]) fun todo ds => push ([a,b,c,e,f] :: done0) todo ds d.succ [a,b,c,f,e] (okA kd e f [] || okB kd e f [a,b,c]) K)).trans ?_
      refine (k2 (fun todo ds => push ([a,b,c,e,f] :: done0) todo ds d.succ [a,b,c,f,e] (okA kd e f [] || okB kd e f [a,b,c]) K)).trans ?_
      exact k3 K
    · unfold clsTurn
      have hg : (done0.reverse ++ [a,b,c,e,f] :: todo).getD done0.reverse.length [] = [a,b,c,e,f] := by
        rw [List.getD_eq_getElem?_getD]; simp
      simp only [hg]
      show ((List.foldl (clsStep (rsP kd p) (done0.reverse ++ [[a,b,c,e,f]]) [a,b,c,e,f]) _ [0,1,2,3]).1, (List.foldl (clsStep (rsP kd p) (done0.reverse ++ [[a,b,c,e,f]]) [a,b,c,e,f]) _ [0,1,2,3]).2, _) = _
      simp only [List.foldl_cons, List.foldl_nil, c0, c1, c2, c3]
theorem swap_len {w : List Nat} {p : Nat} (h : w.length = 5) (hp : p < 4) : (swapAt w p).length = 5 := by
  unfold swapAt; simp; exact Mine.om26 h hp
theorem clsStep_all {rs : List RuleP} {got : WS} {w : List Nat} {P : List Nat → Prop} {st : WS × List Nat} {p : Nat} (hw : P (swapAt w p)) (h : ∀ x ∈ st.1, P x) : ∀ x ∈ (clsStep rs got w st p).1, P x := by
  unfold clsStep
  split
  · intro x hx
    rcases List.mem_append.mp hx with q | q
    · exact h x q
    · rw [List.mem_singleton.mp q]; exact hw
  · exact h
theorem clsFold_all {rs : List RuleP} {got : WS} {w : List Nat} {P : List Nat → Prop} : ∀ (ps : List Nat) {st : WS × List Nat}, (∀ p ∈ ps, P (swapAt w p)) → (∀ x ∈ st.1, P x) → ∀ x ∈ (ps.foldl (clsStep rs got w) st).1, P x
  | [], _, _, h => h
  | p :: ps, st, hw, h => clsFold_all ps (fun q hq => hw q (.tail _ hq)) (clsStep_all (hw p (.head _)) h)
theorem clsTurn_all {rs : List RuleP} {P : List Nat → Prop} (hP : ∀ w p, p < 4 → P w → P (swapAt w p)) {st : WS × List Nat × WS} (hlt : st.2.2.length < st.1.length) (h : ∀ x ∈ st.1, P x) : ∀ x ∈ (clsTurn rs st).1, P x := by
  refine clsFold_all _ (fun p hp => hP _ _ (List.mem_range.mp hp) (h _ ?_)) h
  rw [List.getD_eq_getElem?_getD, List.getElem?_eq_getElem hlt]
  exact List.getElem_mem _
theorem run_eq {kd p : Nat} (hk : kd < 3) : ∀ (k : Nat) (done0 todo : WS) (dd0 ds : List Nat), dd0.length = done0.length → todo.length = ds.length → (∀ x ∈ done0.reverse ++ todo, x.length = 5) →
    ∀ dn dd td, run kd k done0 dd0 todo ds = (dn, dd, td) → ∃ e, clsRun (rsP kd p) k (done0.reverse ++ todo, dd0.reverse ++ ds, done0.reverse) = (dn.reverse ++ td, dd.reverse ++ e, dn.reverse) ∧ dd.length = dn.length ∧ e.length = td.length
  | 0, done0, todo, dd0, ds, hl, ht, _, dn, dd, td, hr => by
    cases hr; exact ⟨ds, rfl, hl, ht.symm⟩
  | k + 1, done0, [], dd0, ds, hl, ht, _, dn, dd, td, hr => by
    have : run kd (k + 1) done0 dd0 [] ds = (done0, dd0, []) := by cases ds <;> rfl
    rw [this] at hr; cases hr
    refine ⟨ds, ?_, hl, ht.symm⟩
    unfold clsRun
    rw [if_neg]; simp
  | k + 1, done0, w :: todo, dd0, [], hl, ht, _, _, _, _, _ => by cases ht
  | k + 1, done0, w :: todo, dd0, d :: ds, hl, ht, ha, dn, dd, td, hr => by
    change (bif lt' (done0.length + (w :: todo).length) 17 then turnA kd (w :: done0) todo ds (Nat.succ d) w (fun todo ds => run kd k (w :: done0) (d :: dd0) todo ds) else (done0, dd0, w :: todo)) = _ at hr
    simp only [lt'_d] at hr
    by_cases h17 : done0.length + (w :: todo).length < 17
    · refine byGoal fun P9 k9 => ?_
      obtain ⟨t, e, kK, kC, kl⟩ := turn_eq (kd := kd) (p := p) hk (done0 := done0) (todo := todo) (dd0 := dd0) (ds := ds) (d := d) (w := w) (ha _ (by simp)) hl (by simpa using ht)
      refine k9 ?_
      clear k9 P9
      rw [decide_eq_true h17, cond_true, kK] at hr
      unfold clsRun
      rw [if_pos ⟨by simp, by simpa using h17⟩]
      have hall := clsTurn_all (rs := rsP kd p) (P := fun x => x.length = 5) (fun w p hp h => swap_len h hp) (st := (done0.reverse ++ w :: todo, dd0.reverse ++ d :: ds, done0.reverse)) (by simp) ha
      rw [kC] at hall ⊢
      have := run_eq (p := p) hk k (w :: done0) t (d :: dd0) e (by simp [hl]) kl (by simpa using hall) dn dd td hr
      simpa using this
    · rw [decide_eq_false h17, cond_false] at hr
      cases hr
      refine ⟨d :: ds, ?_, hl, ht.symm⟩
      unfold clsRun
      rw [if_neg]; simp at h17 ⊢; exact Mine.om239 h17
noncomputable def eqTr : Tr → Tr → Bool
  | .nil, .nil => true
  | .node a l r, .node b m q => Nat.beq a b && (eqTr l m && eqTr r q)
  | _, _ => false
theorem eqTr_d : ∀ {a b : Tr}, eqTr a b = true → a = b
  | .nil, .nil, _ => rfl
  | .nil, .node _ _ _, h => by cases h
  | .node _ _ _, .nil, h => by cases h
  | .node a l r, .node b m q, h => by
    change (Nat.beq a b && (eqTr l m && eqTr r q)) = true at h
    rw [Bool.and_eq_true, Bool.and_eq_true] at h
    rw [Nat.eq_of_beq_eq_true h.1, eqTr_d h.2.1, eqTr_d h.2.2]
noncomputable def eqL : List Nat → List Nat → Bool := eqW
noncomputable def pos (x : List Nat) (a : Nat) : List Nat := (List.range x.length).filter fun i => x.getD i 0 == a
noncomputable def posF (a : Nat) : List Nat → Nat → List Nat
  | [], _ => []
  | c :: r, i => bif Nat.beq c a then i :: posF a r (Nat.succ i) else posF a r (Nat.succ i)
noncomputable def plQ (x : List Nat) : List Nat := (List.range 5).flatMap fun j => posF (Nat.succ j) x 0
noncomputable def upS (q : List Nat) : List Bool := (List.range 4).map fun k => lt' (q.getD k 0) (q.getD (k + 1) 0)
noncomputable def shF (kd : Nat) : Nat → List Nat → Tr
  | 0, _ => .nil
  | _ + 1, [] => .nil
  | f + 1, c :: r => bif Nat.beq kd 0 then .node ((c :: r).getLastD 0) (shF kd f ((c :: r).dropLast.filter fun x => Nat.ble x ((c :: r).getLastD 0))) (shF kd f ((c :: r).dropLast.filter fun x => lt' ((c :: r).getLastD 0) x))
      else .node c (shF kd f (r.filter fun x => lt' x c)) (shF kd f (r.filter fun x => Nat.ble c x))
noncomputable def eqB : List Bool → List Bool → Bool
  | [], [] => true
  | a :: r, b :: q => (bif a then b else !b) && eqB r q
  | _, _ => false
theorem eqB_d : ∀ {a b : List Bool}, eqB a b = true → a = b
  | [], [], _ => rfl
  | [], _ :: _, h => by cases h
  | _ :: _, [], h => by cases h
  | a :: r, b :: q, h => by
    change ((bif a then b else !b) && eqB r q) = true at h
    rw [Bool.and_eq_true] at h
    rw [eqB_d h.2]
    cases a <;> cases b <;> simp at h ⊢
noncomputable def isS (o : Option Nat) (d : Nat) : Bool := match o with | some n => Nat.beq n d | none => false
theorem isS_d {o : Option Nat} {d : Nat} (h : isS o d = true) : o = some d := by
  cases o with
  | none => cases h
  | some n => rw [Nat.eq_of_beq_eq_true h]
noncomputable def okK (kd : Nat) (T : Tr) (B : List Bool) (w : List Nat) : Bool := match kd with | 2 => eqB (upS (plQ w)) B && Nat.beq (plQ w).length 5 | _ => eqTr (shF kd 6 w) T
noncomputable def okWD (kd : Nat) (v : List Nat) (T : Tr) (B : List Bool) : List (List Nat) → List Nat → Bool
  | [], [] => true
  | w :: r, d :: q => okK kd T B w && (isS (turnP v w (List.range 5) 0) d && okWD kd v T B r q)
  | _, _ => false
noncomputable def chk (kd : Nat) (v : List Nat) : Bool := match run kd 17 [] [] [v] [0] with
  | (dn, dd, []) => (match kd with | 2 => decide (zigP (upS (plQ v)) = (dn.length : Nat)) | _ => decide ((mixP (shF kd 6 v)).2 = (dn.length : Nat)) && okT (shF kd 6 v)) && okWD kd v (shF kd 6 v) (upS (plQ v)) dn dd
  | _ => false
noncomputable def five : List Nat := [1,2,3,4,5]
noncomputable def memN (x : Nat) : List Nat → Bool
  | [] => false
  | y :: r => Nat.beq x y || memN x r
/-- the letters are 1..k -/
noncomputable def dense (v : List Nat) : Bool := (bif memN 5 v then memN 4 v else true) && ((bif memN 4 v then memN 3 v else true) && ((bif memN 3 v then memN 2 v else true) && (bif memN 2 v then memN 1 v else true)))
noncomputable def allF (f : List Nat → Bool) (a : Nat) : Bool := five.all fun b => five.all fun c => five.all fun d => five.all fun e => f [a,b,c,d,e]
theorem posF_eq (x : List Nat) (a : Nat) : posF a x 0 = pos x a := by
  suffices ∀ (x : List Nat) (n : Nat), posF a x n = ((List.range x.length).filter fun i => x.getD i 0 == a).map (n + ·) by
    have := this x 0
    simpa [pos] using this
  intro x
  induction x with
  | nil => intro n; rfl
  | cons c r ih =>
    intro n
    unfold posF
    rw [ih, List.length_cons, List.range_succ_eq_map, List.filter_cons, beq_d]
    have e : (List.filter (fun i => (c :: r).getD i 0 == a) ((List.range r.length).map Nat.succ)) = (List.filter (fun i => r.getD i 0 == a) (List.range r.length)).map Nat.succ := by
      rw [List.filter_map]; rfl
    rw [e]
    by_cases h : c = a
    · simp [h, List.map_map, Function.comp_def]; intros; exact Mine.om128
    · simp [h, List.map_map, Function.comp_def]; intros; exact Mine.om128
theorem shF_eq (kd : Nat) : ∀ (n : Nat) (l : List Nat), shF kd n l = shP kd n l
  | 0, _ => rfl
  | n + 1, [] => rfl
  | n + 1, c :: r => by
    unfold shF shP
    rw [if_neg (by simp), beq_d]
    by_cases h : kd = 0
    · subst h; simp only [decide_true, cond_true, if_true, ble_d, lt'_d, shF_eq 0 n]
    · rw [decide_eq_false h, if_neg h]; simp only [cond_false, ble_d, lt'_d, shF_eq kd n]; rfl
noncomputable def alf : List Nat := [32, 34, 35, 92, 97]
noncomputable def dsF (l : List Nat) : List Nat := alf.filter fun c => l.contains c
noncomputable def fD (ds : List Nat) (x : Nat) : Nat := if x = 0 then 0 else match ds[x - 1]? with | some c => c | none => 97 + x
theorem fD_succ {ds : List Nat} {j : Nat} (h : j < ds.length) : fD ds (j + 1) = ds[j] := by
  unfold fD; rw [if_neg (Nat.succ_ne_zero _), Nat.add_sub_cancel, List.getElem?_eq_getElem h]
theorem fD_mono {ds : List Nat} (hp : ds.Pairwise (· < ·)) (h0 : ∀ c ∈ ds, 0 < c ∧ c ≤ 97) : Mono (fD ds) := by
  refine ⟨rfl, fun a b h => ?_⟩
  obtain ⟨b, rfl⟩ : ∃ b', b = b' + 1 := ⟨b - 1, by exact Mine.om240 h⟩
  by_cases hb : b < ds.length
  · rw [fD_succ hb]
    match a with
    | 0 => exact (h0 _ (List.getElem_mem hb)).1
    | a + 1 =>
      rw [fD_succ (by exact Mine.om241 hb h)]
      exact List.pairwise_iff_getElem.mp hp a b _ _ (by exact Mine.om242 h)
  · have e : fD ds (b + 1) = 97 + (b + 1) := by
      unfold fD; rw [if_neg (Nat.succ_ne_zero _), Nat.add_sub_cancel, List.getElem?_eq_none (by exact Mine.om13 hb)]
    rw [e]
    match a with
    | 0 => show 0 < _; exact Mine.om243
    | a + 1 =>
      by_cases ha : a < ds.length
      · rw [fD_succ ha]; have := (h0 _ (List.getElem_mem ha)).2; exact Mine.om244 this
      · have e : fD ds (a + 1) = 97 + (a + 1) := by
          unfold fD; rw [if_neg (Nat.succ_ne_zero _), Nat.add_sub_cancel, List.getElem?_eq_none (by exact Mine.om13 ha)]
        rw [e]; exact Mine.om245 h
theorem dsF_pair (l : List Nat) : (dsF l).Pairwise (· < ·) := List.Pairwise.filter _ (by decide)
theorem dsF_mem {l : List Nat} {c : Nat} : c ∈ dsF l ↔ c ∈ alf ∧ c ∈ l := by
  unfold dsF; rw [List.mem_filter, List.contains_iff_mem]
theorem dsF_le (l : List Nat) : (dsF l).length ≤ 5 := List.length_filter_le _ _
theorem alf_b : ∀ c ∈ alf, 0 < c ∧ c ≤ 97 := by decide
theorem dsF_mono (l : List Nat) : Mono (fD (dsF l)) := fD_mono (dsF_pair l) fun c h => alf_b c (dsF_mem.mp h).1
noncomputable def rank (l : List Nat) : List Nat := l.map fun c => (dsF l).idxOf c + 1
theorem idx_at {ds : List Nat} {c : Nat} (h : c ∈ ds) : ∃ hj : ds.idxOf c < ds.length, ds[ds.idxOf c] = c := ⟨List.idxOf_lt_length_iff.mpr h, List.getElem_idxOf _⟩
theorem rank_back {l : List Nat} (h : ∀ c ∈ l, c ∈ alf) : (rank l).map (fD (dsF l)) = l := by
  unfold rank
  rw [List.map_map]
  conv => rhs; rw [← List.map_id l]
  refine List.map_congr_left fun c hc => ?_
  obtain ⟨hj, e⟩ := idx_at (dsF_mem.mpr ⟨h c hc, hc⟩)
  show fD (dsF l) ((dsF l).idxOf c + 1) = c
  rw [fD_succ hj, e]
theorem rank_mem {l : List Nat} (h : ∀ c ∈ l, c ∈ alf) {x : Nat} (hx : x ∈ rank l) : ∃ j, x = j + 1 ∧ j < (dsF l).length := by
  refine byGoal fun P9 k9 => ?_
  obtain ⟨c, hc, rfl⟩ := List.mem_map.mp hx
  refine k9 ?_
  clear k9 P9
  obtain ⟨hj, _⟩ := idx_at (dsF_mem.mpr ⟨h c hc, hc⟩)
  exact ⟨_, rfl, hj⟩
theorem rank_has {l : List Nat} {j : Nat} (hj : j < (dsF l).length) : j + 1 ∈ rank l := by
  refine List.mem_map.mpr ⟨(dsF l)[j], (dsF_mem.mp (List.getElem_mem hj)).2, ?_⟩
  have nd : (dsF l).Nodup := (dsF_pair l).imp fun h => Nat.ne_of_lt h
  rw [nd.idxOf_getElem j hj]
theorem memN_d (x : Nat) : ∀ L : List Nat, memN x L = decide (x ∈ L)
  | [] => by show false = _; simp
  | y :: r => by
    show (Nat.beq x y || memN x r) = _
    rw [beq_d, memN_d x r]; simp
theorem rank_dense {l : List Nat} (h : ∀ c ∈ l, c ∈ alf) : dense (rank l) = true := by
  have q : ∀ j, (bif memN (j + 2) (rank l) then memN (j + 1) (rank l) else true) = true := fun j => by
    rw [memN_d, memN_d]
    by_cases hm : j + 2 ∈ rank l
    · refine byGoal fun P9 k9 => ?_
      obtain ⟨i, e, hi⟩ := rank_mem h hm
      refine k9 ?_
      clear k9 P9
      rw [decide_eq_true hm, cond_true, decide_eq_true]
      exact rank_has (by exact Mine.om246 e hi)
    · rw [decide_eq_false hm]; rfl
  unfold dense
  rw [q 3, q 2, q 1, q 0]; rfl
theorem flat_filter {α β : Type} (p : α → Bool) (g : α → List β) : ∀ (A : List α), (∀ a ∈ A, p a = false → g a = []) → A.flatMap g = (A.filter p).flatMap g
  | [], _ => rfl
  | a :: A, h => by
    rw [List.flatMap_cons, flat_filter p g A fun b hb => h b (.tail _ hb), List.filter_cons]
    cases e : p a with
    | true => rw [if_pos rfl, List.flatMap_cons]
    | false => rw [h a (.head _) e, if_neg (by decide)]; rfl
theorem list_map_idx (ds : List Nat) : ds = (List.range ds.length).map fun j => fD ds (j + 1) := by
  refine List.ext_getElem (by simp) fun i h1 h2 => ?_
  simp only [List.getElem_map, List.getElem_range]
  rw [fD_succ h1]
theorem plP_map {l x : List Nat} (hx : ∀ a ∈ x, ∃ j, a = j + 1 ∧ j < (dsF l).length) : plP (x.map (fD (dsF l))) = plQ x := by
  have F := dsF_mono l
  have hin : ∀ i, i < x.length → fD (dsF l) (x.getD i 0) ∈ dsF l := fun i hi => by
    rw [List.getD_eq_getElem?_getD, List.getElem?_eq_getElem hi]
    refine byGoal fun P9 k9 => ?_
    obtain ⟨j, e, hj⟩ := hx _ (List.getElem_mem hi)
    refine k9 ?_
    clear k9 P9
    show fD (dsF l) x[i] ∈ _
    rw [e, fD_succ hj]
    exact List.getElem_mem _
  have e1 : plP (x.map (fD (dsF l))) = alf.flatMap fun a => (List.range x.length).filter fun i => fD (dsF l) (x.getD i 0) == a := by
    unfold plP alf; simp only [List.length_map, F.get]
  rw [e1, flat_filter (fun c => l.contains c)]
  · have e2 : (alf.filter fun c => l.contains c) = dsF l := rfl
    rw [e2]
    conv => lhs; rw [list_map_idx (dsF l)]
    rw [List.flatMap_map]
    have e3 : ∀ j, (List.filter (fun i => fD ((List.range (dsF l).length).map fun j => fD (dsF l) (j + 1)) (x.getD i 0) == fD (dsF l) (j + 1)) (List.range x.length)) = pos x (j + 1) := fun j => by
      rw [← list_map_idx]
      unfold pos
      simp only [F.beq]
    have e3' : ∀ j, (List.filter (fun i => fD (dsF l) (x.getD i 0) == fD (dsF l) (j + 1)) (List.range x.length)) = pos x (j + 1) := fun j => by
      unfold pos
      simp only [F.beq]
    simp only [← list_map_idx, e3']
    unfold plQ
    simp only [posF_eq]
    obtain ⟨q, hq⟩ : ∃ q, 5 = (dsF l).length + q := ⟨5 - (dsF l).length, by have := dsF_le l; exact Mine.om247 this⟩
    rw [hq, List.range_add, List.flatMap_append, List.flatMap_map]
    have : (List.range q).flatMap (fun a => pos x ((dsF l).length + a).succ) = [] := by
      rw [List.flatMap_eq_nil_iff]
      intro a _
      unfold pos
      rw [List.filter_eq_nil_iff]
      intro i hi hh
      have hi : i < x.length := List.mem_range.mp hi
      rw [List.getD_eq_getElem?_getD, List.getElem?_eq_getElem hi] at hh
      refine byGoal fun P9 k9 => ?_
      obtain ⟨j, e, hj⟩ := hx _ (List.getElem_mem hi)
      refine k9 ?_
      clear k9 P9
      have : x[i] = (dsF l).length + a + 1 := by simpa using hh
      exact Mine.om248 e hj this
    rw [this, List.append_nil]
  · intro a ha hf
    rw [List.filter_eq_nil_iff]
    intro i hi hh
    have := hin i (List.mem_range.mp hi)
    rw [beq_iff_eq] at hh
    rw [hh] at this
    have := (dsF_mem.mp this).2
    rw [← List.contains_iff_mem] at this
    rw [hf] at this; cases this
theorem ev0_1 : allF (fun v => !dense v || chk 0 v) 1 = true := by decide +kernel
theorem ev0_2 : allF (fun v => !dense v || chk 0 v) 2 = true := by decide +kernel
theorem ev0_3 : allF (fun v => !dense v || chk 0 v) 3 = true := by decide +kernel
theorem ev0_4 : allF (fun v => !dense v || chk 0 v) 4 = true := by decide +kernel
theorem ev0_5 : allF (fun v => !dense v || chk 0 v) 5 = true := by decide +kernel
theorem ev1_1 : allF (fun v => !dense v || chk 1 v) 1 = true := by decide +kernel
theorem ev1_2 : allF (fun v => !dense v || chk 1 v) 2 = true := by decide +kernel
theorem ev1_3 : allF (fun v => !dense v || chk 1 v) 3 = true := by decide +kernel
theorem ev1_4 : allF (fun v => !dense v || chk 1 v) 4 = true := by decide +kernel
theorem ev1_5 : allF (fun v => !dense v || chk 1 v) 5 = true := by decide +kernel
theorem ev2_1 : allF (fun v => !dense v || chk 2 v) 1 = true := by decide +kernel
theorem ev2_2 : allF (fun v => !dense v || chk 2 v) 2 = true := by decide +kernel
theorem ev2_3 : allF (fun v => !dense v || chk 2 v) 3 = true := by decide +kernel
theorem ev2_4 : allF (fun v => !dense v || chk 2 v) 4 = true := by decide +kernel
theorem ev2_5 : allF (fun v => !dense v || chk 2 v) 5 = true := by decide +kernel
theorem allF_at {f : List Nat → Bool} {a b c d e : Nat} (h : allF f a = true) (hb : b ∈ five) (hc : c ∈ five) (hd : d ∈ five) (he : e ∈ five) : f [a,b,c,d,e] = true := by
  unfold allF at h
  rw [List.all_eq_true] at h; have h := h b hb
  rw [List.all_eq_true] at h; have h := h c hc
  rw [List.all_eq_true] at h; have h := h d hd
  rw [List.all_eq_true] at h; exact h e he
theorem ev_all {kd : Nat} (hk : kd < 3) {v : List Nat} (hl : v.length = 5) (hv : ∀ x ∈ v, x ∈ five) (hd : dense v = true) : chk kd v = true := by
  match v, hl with
  | [a, b, c, d, e], _ =>
    have ha := hv a (by simp)
    have hb := hv b (by simp)
    have hc := hv c (by simp)
    have hd' := hv d (by simp)
    have he := hv e (by simp)
    have key : ∀ {k : Nat}, allF (fun v => !dense v || chk k v) a = true → chk k [a,b,c,d,e] = true := fun {k} h => by
      have := allF_at h hb hc hd' he
      rw [hd] at this; exact this
    simp only [five, List.mem_cons, List.not_mem_nil, or_false] at ha
    match kd, hk with
    | 0, _ =>
      rcases ha with rfl | rfl | rfl | rfl | rfl
      · exact key ev0_1
      · exact key ev0_2
      · exact key ev0_3
      · exact key ev0_4
      · exact key ev0_5
    | 1, _ =>
      rcases ha with rfl | rfl | rfl | rfl | rfl
      · exact key ev1_1
      · exact key ev1_2
      · exact key ev1_3
      · exact key ev1_4
      · exact key ev1_5
    | 2, _ =>
      rcases ha with rfl | rfl | rfl | rfl | rfl
      · exact key ev2_1
      · exact key ev2_2
      · exact key ev2_3
      · exact key ev2_4
      · exact key ev2_5
theorem okWD_d {kd : Nat} {v : List Nat} {T : Tr} {B : List Bool} : ∀ {ws : WS} {ds : List Nat}, okWD kd v T B ws ds = true → ws.length = ds.length ∧ ∀ (i : Nat) (w : List Nat) (d : Nat), ws[i]? = some w → ds[i]? = some d →
    turnP v w (List.range 5) 0 = some d ∧ (kd = 2 → upS (plQ w) = B ∧ (plQ w).length = 5) ∧ (kd ≠ 2 → shP kd 6 w = T)
  | [], [], _ => ⟨rfl, fun i w d h => by simp at h⟩
  | [], _ :: _, h => by cases h
  | _ :: _, [], h => by cases h
  | w :: r, d :: q, h => by
    change (okK kd T B w && (isS (turnP v w (List.range 5) 0) d && okWD kd v T B r q)) = true at h
    rw [Bool.and_eq_true, Bool.and_eq_true] at h
    refine byGoal fun P9 k9 => ?_
    obtain ⟨h1, h2, h3⟩ := h
    refine k9 ?_
    clear k9 P9
    obtain ⟨hl, hr⟩ := okWD_d h3
    refine ⟨by simp [hl], fun i w' d' e1 e2 => ?_⟩
    cases i with
    | succ i => exact hr i w' d' (by simpa using e1) (by simpa using e2)
    | zero =>
      cases e1; cases e2
      refine ⟨isS_d h2, fun hk => ?_, fun hk => ?_⟩
      · subst hk
        have h1 : (eqB (upS (plQ w)) B && Nat.beq (plQ w).length 5) = true := h1
        rw [Bool.and_eq_true] at h1
        exact ⟨eqB_d h1.1, Nat.eq_of_beq_eq_true h1.2⟩
      · unfold okK at h1
        split at h1
        · exact absurd rfl hk
        · rw [← shF_eq]; exact eqTr_d h1
theorem chk_d {kd : Nat} {v : List Nat} (h : chk kd v = true) : ∃ dn dd, run kd 17 [] [] [v] [0] = (dn, dd, []) ∧ okWD kd v (shF kd 6 v) (upS (plQ v)) dn dd = true ∧ (kd = 2 → zigP (upS (plQ v)) = (dn.length : Nat)) ∧ (kd ≠ 2 → (mixP (shP kd 6 v)).2 = (dn.length : Nat) ∧ okT (shP kd 6 v) = true) := by
  unfold chk at h
  generalize run kd 17 [] [] [v] [0] = r at h ⊢
  refine byGoal fun P9 k9 => ?_
  obtain ⟨dn, dd, td⟩ := r
  refine k9 ?_
  clear k9 P9
  cases td with
  | cons _ _ => cases h
  | nil =>
    simp only [Bool.and_eq_true] at h
    refine ⟨dn, dd, rfl, h.2, fun hk => ?_, fun hk => ?_⟩
    · subst hk
      have := h.1
      exact of_decide_eq_true this
    · have h1 := h.1
      split at h1
      · exact absurd rfl hk
      · rw [Bool.and_eq_true, shF_eq] at h1
        exact ⟨of_decide_eq_true h1.1, h1.2⟩
theorem swap_perm {w : List Nat} {p : Nat} (h : w.length = 5) (hp : p < 4) : (swapAt w p).Perm w := by
  match w, h with
  | [a, b, c, d, e], _ =>
    match p, hp with
    | 0, _ => exact .swap _ _ _
    | 1, _ => exact .cons _ (.swap _ _ _)
    | 2, _ => exact .cons _ (.cons _ (.swap _ _ _))
    | 3, _ => exact .cons _ (.cons _ (.cons _ (.swap _ _ _)))
theorem clsRun_all {rs : List RuleP} {P : List Nat → Prop} (hP : ∀ w p, p < 4 → P w → P (swapAt w p)) : ∀ (k : Nat) {st : WS × List Nat × WS}, (∀ x ∈ st.1, P x) → ∀ x ∈ (clsRun rs k st).1, P x
  | 0, _, h => h
  | k + 1, st, h => by
    unfold clsRun
    split
    · rename_i q
      exact clsRun_all hP k (clsTurn_all hP q.1 h)
    · exact h
theorem clsFold_nd {rs : List RuleP} {got : WS} {w : List Nat} : ∀ (ps : List Nat) {st : WS × List Nat}, st.1.Nodup → (ps.foldl (clsStep rs got w) st).1.Nodup
  | [], _, h => h
  | p :: ps, st, h => by
    rw [List.foldl_cons]
    refine clsFold_nd ps ?_
    unfold clsStep
    split
    · rename_i q
      refine List.nodup_append.mpr ⟨h, by simp, fun a ha b hb => ?_⟩
      rw [List.mem_singleton.mp hb]
      intro e
      exact q.1 (List.mem_append_right _ (e ▸ ha))
    · exact h
theorem clsRun_nd {rs : List RuleP} : ∀ (k : Nat) {st : WS × List Nat × WS}, st.1.Nodup → (clsRun rs k st).1.Nodup
  | 0, _, h => h
  | k + 1, st, h => by
    unfold clsRun
    split
    · exact clsRun_nd k (clsFold_nd _ h)
    · exact h
theorem shP_hgt (kd : Nat) : ∀ (n : Nat) (l : List Nat), (shP kd n l).hgt ≤ n
  | 0, _ => Nat.le_refl _
  | n + 1, l => by
    unfold shP
    split
    · exact Nat.zero_le _
    · split <;> exact Nat.succ_le_succ (Nat.max_le.mpr ⟨shP_hgt kd n _, shP_hgt kd n _⟩)
theorem shP_size (kd : Nat) : ∀ (n : Nat) (l : List Nat), (shP kd n l).size + 1 ≤ 2 ^ n
  | 0, _ => Nat.le_refl _
  | n + 1, l => by
    unfold shP
    have e : 2 ^ (n + 1) = 2 ^ n + 2 ^ n := by rw [Nat.pow_succ]; exact Mine.om249
    split
    · show 0 + 1 ≤ _; have := Nat.two_pow_pos n; omega
    · split
      · have h1 := shP_size kd n (l.dropLast.filter fun c => decide (c ≤ l.getLastD 0))
        have h2 := shP_size kd n (l.dropLast.filter fun c => decide (l.getLastD 0 < c))
        show _ + _ + 1 + 1 ≤ _; omega
      · have h1 := shP_size kd n (l.tail.filter fun c => decide (c < l.headD 0))
        have h2 := shP_size kd n (l.tail.filter fun c => decide (l.headD 0 ≤ c))
        show _ + _ + 1 + 1 ≤ _; omega
theorem upS_eq {l : List Nat} (h : (plP l).length = 5) : shB l = upS (plP l) := by
  unfold shB upS
  rw [h]
  simp only [lt'_d]
/-- what the search answers, for every start -/
structure Plain (kd : Nat) (l : List Nat) (got : WS) (away : List Nat) : Prop where
  len : away.length = got.length
  nd : got.Nodup
  five : ∀ w ∈ got, w.length = 5
  perm : ∀ w ∈ got, w.Perm l
  turn : ∀ (i : Nat) (w : List Nat) (d : Nat), got[i]? = some w → away[i]? = some d → turnP l w (List.range 5) 0 = some d
  pl : kd = 2 → (plP l).length = 5 ∧ ∀ w ∈ got, (plP w).length = 5 ∧ shB w = shB l
  zig : kd = 2 → zigP (shB l) = (got.length : Nat)
  sh : kd ≠ 2 → ∀ w ∈ got, shP kd 6 w = shP kd 6 l
  mix : kd ≠ 2 → (mixP (shP kd 6 l)).2 = (got.length : Nat) ∧ okT (shP kd 6 l) = true
theorem plain {kd p : Nat} (hk : kd < 3) {l : List Nat} (hl : l.length = 5) (hA : ∀ c ∈ l, c ∈ alf) : ∃ got away, clsRun (rsP kd p) 17 ([l], [0], []) = (got, away, got) ∧ Plain kd l got away := by
  have F := dsF_mono l
  have hb := rank_back hA
  have rl : (rank l).length = 5 := by unfold rank; rw [List.length_map]; exact hl
  have hv : ∀ x ∈ rank l, x ∈ Mine.five := fun x hx => by
    refine byGoal fun P9 k9 => ?_
    obtain ⟨j, rfl, hj⟩ := rank_mem hA hx
    refine k9 ?_
    clear k9 P9
    have := dsF_le l
    have : j = 0 ∨ j = 1 ∨ j = 2 ∨ j = 3 ∨ j = 4 := by exact Mine.om250 hj this
    rcases this with rfl | rfl | rfl | rfl | rfl <;> decide
  refine byGoal fun P9 k9 => ?_
  obtain ⟨dn, dd, hr, hwd, hz, hm⟩ := chk_d (ev_all hk rl hv (rank_dense hA))
  refine k9 ?_
  clear k9 P9
  refine byGoal fun P9 k9 => ?_
  obtain ⟨e, hc, hdl, hel⟩ := run_eq (p := p) hk 17 [] [rank l] [] [0] rfl rfl (by simpa using rl) _ _ _ hr
  refine k9 ?_
  clear k9 P9
  obtain rfl : e = [] := List.length_eq_zero_iff.mp hel
  simp only [List.append_nil, List.reverse_nil, List.nil_append] at hc
  have hmap := clsRun_map F (rsP kd p) 17 ([rank l], [0], [])
  rw [hc] at hmap
  simp only [m3, List.map_cons, List.map_nil, hb] at hmap
  obtain ⟨hlen, hall⟩ := okWD_d hwd
  have hperm := clsRun_all (rs := rsP kd p) (P := fun x => x.length = 5 ∧ x.Perm (rank l)) (fun w p hp h => ⟨swap_len h.1 hp, (swap_perm h.1 hp).trans h.2⟩) 17 (st := ([rank l], [0], [])) (by simpa using rl)
  have hnd := clsRun_nd (rs := rsP kd p) 17 (st := ([l], [0], [])) (by simp)
  rw [hc] at hperm
  rw [hmap] at hnd
  have hx : ∀ x ∈ dn.reverse, x.length = 5 ∧ x.Perm (rank l) := hperm
  have hpl : ∀ x ∈ dn.reverse, plP (x.map (fD (dsF l))) = plQ x := fun x h => plP_map fun a ha => rank_mem hA ((hx x h).2.mem_iff.mp ha)
  have hpl0 : plP l = plQ (rank l) := by
    conv => lhs; rw [← hb]
    exact plP_map fun a ha => rank_mem hA ha
  have hidx : ∀ x ∈ dn.reverse, ∃ i d, dn[i]? = some x ∧ dd[i]? = some d := fun x h => by
    refine byGoal fun P9 k9 => ?_
    obtain ⟨i, hi, e⟩ := List.getElem_of_mem (List.mem_reverse.mp h)
    refine k9 ?_
    clear k9 P9
    exact ⟨i, dd[i]'(by exact Mine.om251 hdl hi), by rw [List.getElem?_eq_getElem hi, e], List.getElem?_eq_getElem _⟩
  have hself : rank l ∈ dn.reverse := by
    have : ∀ (k : Nat) (st : WS × List Nat × WS), rank l ∈ st.1 → rank l ∈ (clsRun (rsP kd p) k st).1 := by
      intro k
      induction k with
      | zero => intro st h; exact h
      | succ k ih =>
        intro st h
        unfold clsRun
        split
        · refine ih _ ?_
          unfold clsTurn
          have : ∀ (got : WS) (w : List Nat) (ps : List Nat) (z : WS × List Nat), rank l ∈ z.1 → rank l ∈ (ps.foldl (clsStep (rsP kd p) got w) z).1 := by
            intro got w ps
            induction ps with
            | nil => intro z h; exact h
            | cons q ps ihp =>
              intro z h
              rw [List.foldl_cons]
              refine ihp _ ?_
              unfold clsStep
              split
              · exact List.mem_append_left _ h
              · exact h
          exact this _ _ _ _ h
        · exact h
    have := this 17 ([rank l], [0], []) (by simp)
    rw [hc] at this; exact this
  have hB : kd = 2 → (plP l).length = 5 := fun hk2 => by
    refine byGoal fun P9 k9 => ?_
    obtain ⟨i, d, e1, e2⟩ := hidx _ hself
    refine k9 ?_
    clear k9 P9
    rw [hpl0]
    exact (((hall i _ d e1 e2).2.1 hk2).2)
  refine ⟨dn.reverse.map (List.map (fD (dsF l))), dd.reverse, hmap, by simp [hdl], hnd, ?_, ?_, ?_, ?_, ?_, ?_, ?_⟩
  · intro w hw
    refine byGoal fun P9 k9 => ?_
    obtain ⟨x, h, rfl⟩ := List.mem_map.mp hw
    refine k9 ?_
    clear k9 P9
    rw [List.length_map]; exact (hx x h).1
  · intro w hw
    refine byGoal fun P9 k9 => ?_
    obtain ⟨x, h, rfl⟩ := List.mem_map.mp hw
    refine k9 ?_
    clear k9 P9
    have := (hx x h).2.map (fD (dsF l))
    rwa [hb] at this
  · intro i w d h1 h2
    rw [List.getElem?_map] at h1
    refine byGoal fun P9 k9 => ?_
    obtain ⟨x, hx1, rfl⟩ := Option.map_eq_some_iff.mp h1
    refine k9 ?_
    clear k9 P9
    have e := turnP_map F (rank l) x (List.range 5) 0
    rw [hb] at e
    rw [e]
    have hi : i < dn.length := by
      have := (List.getElem?_eq_some_iff.mp hx1).1; simpa using this
    rw [List.getElem?_reverse hi] at hx1
    rw [List.getElem?_reverse (by exact Mine.om251 hdl hi), hdl] at h2
    exact (hall _ x d hx1 h2).1
  · intro hk2
    refine ⟨hB hk2, fun w hw => ?_⟩
    refine byGoal fun P9 k9 => ?_
    obtain ⟨x, h, rfl⟩ := List.mem_map.mp hw
    refine k9 ?_
    clear k9 P9
    refine byGoal fun P9 k9 => ?_
    obtain ⟨i, d, e1, e2⟩ := hidx _ h
    refine k9 ?_
    clear k9 P9
    have q := (hall i _ d e1 e2).2.1 hk2
    have q5 : (plP (x.map (fD (dsF l)))).length = 5 := by rw [hpl x h]; exact q.2
    refine ⟨q5, ?_⟩
    rw [upS_eq q5, upS_eq (hB hk2), hpl x h, hpl0]; exact q.1
  · intro hk2
    rw [upS_eq (hB hk2), hpl0, hz hk2]; simp
  · intro hk2 w hw
    refine byGoal fun P9 k9 => ?_
    obtain ⟨x, h, rfl⟩ := List.mem_map.mp hw
    refine k9 ?_
    clear k9 P9
    refine byGoal fun P9 k9 => ?_
    obtain ⟨i, d, e1, e2⟩ := hidx _ h
    refine k9 ?_
    clear k9 P9
    have q := (hall i _ d e1 e2).2.2 hk2
    rw [shF_eq] at q
    conv => rhs; rw [← hb]
    rw [shP_map F, shP_map F, q]
  · intro hk2
    have := hm hk2
    have e : shP kd 6 l = (shP kd 6 (rank l)).map (fD (dsF l)) := by
      conv => lhs; rw [← hb]
      exact shP_map F _ _ _
    rw [e, mixP_map, okT_map]
    simpa using this
end Mine
end
section
set_option maxHeartbeats 1000000
namespace Mine
theorem nl_count (c n : Nat) (r : List Nat) : nl c n + r.count 10 = n + (c :: r).count 10 := by
  unfold nl; rw [List.count_cons]; split <;> simp [*] <;> exact Mine.om128
theorem lexQ_count : ∀ (b : Bool) (acc : List Nat) (n : Nat) (l : List Nat), (lexQ b acc n l).2.2 + (lexQ b acc n l).2.1.count 10 = n + l.count 10
  | true, acc, n, [] => by simp [lexQ]
  | false, acc, n, [] => by simp [lexQ]
  | true, acc, n, c :: r => by unfold lexQ; rw [lexQ_count, nl_count]
  | false, acc, n, c :: r => by
    unfold lexQ
    split
    · rename_i h; subst h; simp
    · split
      · rename_i h; subst h; rw [lexQ_count]; simp
      · rw [lexQ_count, nl_count]
theorem lexB_count : ∀ (b : Bool) (acc : List Nat) (n : Nat) (l : List Nat), (lexB b acc n l).2.2 + (lexB b acc n l).2.1.count 10 = n + l.count 10
  | true, acc, n, [] => by simp [lexB]
  | false, acc, n, [] => by simp [lexB]
  | true, acc, n, c :: r => by unfold lexB; rw [lexB_count, nl_count]
  | false, acc, n, c :: r => by
    unfold lexB
    split
    · exact nl_count _ _ _
    · split
      · rename_i h; subst h; rw [lexB_count]; simp
      · rw [lexB_count, nl_count]
theorem lexA_count : ∀ (n : Nat) (l : List Nat), (lexA n l).2.2 + (lexA n l).2.1.count 10 = n + l.count 10
  | n, [] => by simp [lexA]
  | n, c :: r => by
    unfold lexA
    split
    · rw [lexA_count, nl_count]
    · split
      · rename_i h; subst h; rw [lexQ_count]; simp
      · split
        · rename_i h; subst h; rw [lexB_count]; simp
        · rename_i h _ _
          rw [lexB_count]
          have : c ≠ 10 := fun q => h (by simp [q])
          simp [this]
def isW (c : Nat) : Prop := c ∈ [10, 9, 13, 32]
theorem lexA_junk {j : List Nat} (hj : ∀ c ∈ j, isW c) (rest : List Nat) : ∀ n, ∃ n', lexA n (j ++ rest) = lexA n' rest := by
  induction j with
  | nil => exact fun n => ⟨n, rfl⟩
  | cons c j ih =>
    intro n
    obtain ⟨n', e⟩ := ih (fun d hd => hj d (.tail _ hd)) (nl c n)
    refine ⟨n', ?_⟩
    rw [List.cons_append]
    conv => lhs; unfold lexA
    rw [if_pos (show c ∈ [10, 9, 13, 32] from hj c (.head _)), e]
/-- letters that a word may hold -/
def good (l : List Nat) : Prop := ∀ c ∈ l, c ≠ 10 ∧ c ≠ 9 ∧ c ≠ 13
theorem lexB0 (rest : List Nat) : ∀ (l acc : List Nat) (n : Nat), ∃ n', lexB false acc n (l.flatMap (fun c => [92, c]) ++ 10 :: rest) = (acc ++ l, rest, n')
  | [], acc, n => ⟨nl 10 n, by show lexB false acc n (10 :: rest) = _; unfold lexB; simp⟩
  | c :: l, acc, n => by
    obtain ⟨n', e⟩ := lexB0 rest l (acc ++ [c]) (nl c n)
    refine ⟨n', ?_⟩
    show lexB false acc n (92 :: c :: (l.flatMap (fun c => [92, c]) ++ 10 :: rest)) = _
    rw [show ∀ x, lexB false acc n (92 :: x) = lexB true acc n x from fun x => by conv => lhs; unfold lexB; simp]
    rw [show ∀ x, lexB true acc n (c :: x) = lexB false (acc ++ [c]) (nl c n) x from fun x => rfl, e]
    simp
theorem lexQ1 (rest : List Nat) : ∀ (l acc : List Nat) (n : Nat), ∃ n', lexQ false acc n (l.flatMap (fun c => if c = 34 ∨ c = 92 then [92, c] else [c]) ++ 34 :: rest) = (acc ++ l, rest, n')
  | [], acc, n => ⟨n, by show lexQ false acc n (34 :: rest) = _; unfold lexQ; simp⟩
  | c :: l, acc, n => by
    obtain ⟨n', e⟩ := lexQ1 rest l (acc ++ [c]) (nl c n)
    refine ⟨n', ?_⟩
    rw [List.flatMap_cons]
    by_cases h : c = 34 ∨ c = 92
    · rw [if_pos h]
      show lexQ false acc n (92 :: c :: (l.flatMap _ ++ 34 :: rest)) = _
      rw [show ∀ x, lexQ false acc n (92 :: x) = lexQ true acc n x from fun x => by conv => lhs; unfold lexQ; simp]
      rw [show ∀ x, lexQ true acc n (c :: x) = lexQ false (acc ++ [c]) (nl c n) x from fun x => rfl, e]
      simp
    · rw [if_neg h]
      show lexQ false acc n (c :: (l.flatMap _ ++ 34 :: rest)) = _
      rw [show ∀ x, lexQ false acc n (c :: x) = lexQ false (acc ++ [c]) (nl c n) x from fun x => by conv => lhs; unfold lexQ; simp [not_or.mp h], e]
      simp
theorem lexB2 (rest : List Nat) : ∀ (l acc : List Nat) (n : Nat), good l → ∃ n', lexB false acc n (l.flatMap (fun c => if c = 92 ∨ c = 32 then [92, c] else [c]) ++ 9 :: rest) = (acc ++ l, rest, n')
  | [], acc, n, _ => ⟨nl 9 n, by show lexB false acc n (9 :: rest) = _; unfold lexB; simp⟩
  | c :: l, acc, n, hg => by
    obtain ⟨n', e⟩ := lexB2 rest l (acc ++ [c]) (nl c n) fun d hd => hg d (.tail _ hd)
    refine ⟨n', ?_⟩
    rw [List.flatMap_cons]
    by_cases h : c = 92 ∨ c = 32
    · rw [if_pos h]
      show lexB false acc n (92 :: c :: (l.flatMap _ ++ 9 :: rest)) = _
      rw [show ∀ x, lexB false acc n (92 :: x) = lexB true acc n x from fun x => by conv => lhs; unfold lexB; simp]
      rw [show ∀ x, lexB true acc n (c :: x) = lexB false (acc ++ [c]) (nl c n) x from fun x => rfl, e]
      simp
    · rw [if_neg h]
      show lexB false acc n (c :: (l.flatMap _ ++ 9 :: rest)) = _
      have g := hg c (.head _)
      rw [show ∀ x, lexB false acc n (c :: x) = lexB false (acc ++ [c]) (nl c n) x from fun x => by conv => lhs; unfold lexB; simp [not_or.mp h, g], e]
      simp
theorem lexA_rd {v : Int} {w j : List Nat} (rest : List Nat) (hw : good w) (hne : w ≠ []) (hj : ∀ c ∈ j, isW c) : ∃ j' n', (∀ c ∈ j', isW c) ∧ lexA 0 (j ++ (esc v w ++ rest)) = (w, j' ++ rest, n') := by
  obtain ⟨n0, e0⟩ := lexA_junk hj (esc v w ++ rest) 0
  rw [e0]
  refine byGoal fun P9 k9 => ?_
  obtain ⟨c, l, rfl⟩ : ∃ c l, w = c :: l := by cases w with | nil => exact absurd rfl hne | cons c l => exact ⟨c, l, rfl⟩
  refine k9 ?_
  clear k9 P9
  have g := hw c (.head _)
  have gl : good l := fun d hd => hw d (.tail _ hd)
  unfold esc
  split
  · obtain ⟨n', e⟩ := lexB0 ([32, 13] ++ rest) l [c] (nl c n0)
    refine ⟨[32, 13], n', by simp [isW], ?_⟩
    show lexA n0 (92 :: c :: (l.flatMap (fun c => [92, c]) ++ [10, 32, 13] ++ rest)) = _
    rw [show ∀ x, lexA n0 (92 :: x) = lexB true [] n0 x from fun x => by unfold lexA; simp]
    rw [show ∀ x, lexB true [] n0 (c :: x) = lexB false [c] (nl c n0) x from fun x => rfl]
    rw [List.append_assoc]
    exact e
  · split
    · obtain ⟨n', e⟩ := lexQ1 rest (c :: l) [] n0
      refine ⟨[], n', by simp, ?_⟩
      show lexA n0 (34 :: ((c :: l).flatMap _ ++ [34] ++ rest)) = _
      rw [show ∀ x, lexA n0 (34 :: x) = lexQ false [] n0 x from fun x => by unfold lexA; simp]
      rw [List.append_assoc]
      exact e
    · obtain ⟨n1, e1⟩ := lexB2 rest l [c] (nl c n0) gl
      obtain ⟨n2, e2⟩ := lexB2 rest l [c] n0 gl
      rw [List.flatMap_cons]
      by_cases h34 : c = 34
      · refine ⟨[], n1, by simp, ?_⟩
        rw [if_pos (by simp [h34]), if_neg (by exact Mine.om252 h34)]
        show lexA n0 (92 :: c :: (l.flatMap _ ++ [9] ++ rest)) = _
        rw [show ∀ x, lexA n0 (92 :: x) = lexB true [] n0 x from fun x => by unfold lexA; simp]
        rw [show ∀ x, lexB true [] n0 (c :: x) = lexB false [c] (nl c n0) x from fun x => rfl, List.append_assoc]
        exact e1
      · rw [if_neg (by simp [h34])]
        by_cases h : c = 92 ∨ c = 32
        · refine ⟨[], n1, by simp, ?_⟩
          rw [if_pos h]
          show lexA n0 (92 :: c :: (l.flatMap _ ++ [9] ++ rest)) = _
          rw [show ∀ x, lexA n0 (92 :: x) = lexB true [] n0 x from fun x => by unfold lexA; simp]
          rw [show ∀ x, lexB true [] n0 (c :: x) = lexB false [c] (nl c n0) x from fun x => rfl, List.append_assoc]
          exact e1
        · refine ⟨[], n2, by simp, ?_⟩
          rw [if_neg h]
          show lexA n0 (c :: (l.flatMap _ ++ [9] ++ rest)) = _
          rw [show ∀ x, lexA n0 (c :: x) = lexB false [c] n0 x from fun x => by unfold lexA; simp [g, h34, not_or.mp h], List.append_assoc]
          exact e2
theorem lexA_dots {j : List Nat} (hj : ∀ c ∈ j, isW c) : ∃ n', lexA 0 (j ++ [46, 46, 46]) = ([46, 46, 46], [], n') := by
  obtain ⟨n0, e0⟩ := lexA_junk hj [46, 46, 46] 0
  exact ⟨n0, by rw [e0]; simp [lexA, lexB, nl]⟩
end Mine
end
section
set_option maxHeartbeats 1000000
namespace Mine
theorem ne_of_lts {D : Addr} {ld : List (Addr × Obj)} (h : ∀ p ∈ ld, p.1 < D) : ∀ p ∈ ld, @Ne Nat p.1 D := fun p hp => Nat.ne_of_lt (h p hp)
noncomputable def letter (c0 : Int) (i : Nat) : Nat := alf.getD ((c0.fdiv (5 ^ i)).fmod 5).toNat 0
noncomputable def startP (c0 : Int) : List Nat := (List.range 5).map (letter c0)
theorem p5 {i : Nat} (h : i < 5) : ∃ q : Int, (5 : Int) ^ i = q ∧ 1 ≤ q ∧ q ≤ 625 :=
  ⟨_, rfl, (by decide : ∀ i, i < 5 → 1 ≤ (5 : Int) ^ i ∧ (5 : Int) ^ i ≤ 625) i h⟩
theorem fmodN (a : Int) {b : Nat} (hb : 0 < b) : ∃ j : Nat, a.fmod b = (j : Int) ∧ j < b := by
  have h1 := Int.fmod_nonneg_of_pos a (b := (b : Int)) (by exact Mine.om178 hb)
  have h2 := Int.fmod_lt_of_pos a (b := (b : Int)) (by exact Mine.om178 hb)
  exact ⟨(a.fmod b).toNat, by exact Mine.om179 h1, by exact Mine.om180 h1 h2⟩
theorem letter_at {c0 : Int} {i j : Nat} (h : (c0.fdiv (5 ^ i)).fmod 5 = (j : Int)) (hj : j < 5) : alf[j]? = some (letter c0 i) := by
  unfold letter
  rw [h, Int.toNat_natCast, List.getD_eq_getElem?_getD]
  have : j < alf.length := hj
  rw [List.getElem?_eq_getElem this]; rfl
theorem startP_len (c0 : Int) : (startP c0).length = 5 := by unfold startP; rw [List.length_map, List.length_range]
theorem startP_alf (c0 : Int) : ∀ c ∈ startP c0, c ∈ alf := by
  intro c hc
  (try k_fold)
  refine byGoal fun P9 k9 => ?_
  obtain ⟨i, _, rfl⟩ := List.mem_map.mp hc
  refine k9 ?_
  clear k9 P9
  (try k_fold)
  refine byGoal fun P9 k9 => ?_
  obtain ⟨j, e, hj⟩ := fmodN (c0.fdiv (5 ^ i)) (b := 5) (by decide)
  refine k9 ?_
  clear k9 P9
  exact List.mem_of_getElem? (letter_at e hj)
theorem strs_of_each {n : Nat} {ys : List Value} {f : Nat → List Nat} (hl : ys.length = n) (h : ∀ (j : Nat) (y : Value), ys[j]? = some y → ∃ t, y = Value.str (S (f j)) t) : StrsAre ys ((List.range n).map fun i => S (f i)) := by
  subst hl
  exact strsAre_of rfl h
noncomputable def nmL : List Nat := [36, 63, 96, 39, 34, 32, 36, 63, 96, 39, 34, 32]
noncomputable def wordsL (p q a b c : Nat) : List (List Nat) :=
  if p = 1 then
    if q = 0 then [[a, c, 46, 46, 46, b], [c, 62, b, 62, 61, a]]
    else if q = 1 then [[b, 46, 46, 46, a, c], [c, 62, 61, b, 62, a]]
    else [[a, c, 46, 46, 46, b], [c, 62, b, 62, 61, a], [b, 46, 46, 46, a, c], [c, 62, 61, b, 62, a]]
  else
    if q = 0 then [[a, c, 46, 46, 46, b], [a, 60, 61, b, 60, c]]
    else if q = 1 then [[b, 46, 46, 46, a, c], [a, 60, b, 60, 61, c]]
    else [[a, c, 46, 46, 46, b], [a, 60, 61, b, 60, c], [b, 46, 46, 46, a, c], [a, 60, b, 60, 61, c]]
theorem wordsP_S {p q : Int} {pn qn : Nat} (hp : p = (pn : Int)) (hq : q = (qn : Int)) (a b c : Nat) : wordsP p q (S [a]) (S [b]) (S [c]) = (wordsL pn qn a b c).map S := by
  subst hp; subst hq
  unfold wordsP wordsL
  have e1 : ((pn : Int) = 1) = (pn = 1) := propext ⟨fun h => by exact Mine.om181 h, fun h => by exact Mine.om182 h⟩
  have e2 : ((qn : Int) = 0) = (qn = 0) := propext ⟨fun h => by exact Mine.om183 h, fun h => by exact Mine.om184 h⟩
  have e3 : ((qn : Int) = 1) = (qn = 1) := propext ⟨fun h => by exact Mine.om181 h, fun h => by exact Mine.om182 h⟩
  have d : Str.ofString "..." = S [46, 46, 46] := by decide
  have d1 : Str.ofString "<" = S [60] := by decide
  have d2 : Str.ofString "<=" = S [60, 61] := by decide
  have d3 : Str.ofString ">" = S [62] := by decide
  have d4 : Str.ofString ">=" = S [62, 61] := by decide
  simp only [e1, e2, e3, d, d1, d2, d3, d4, S_append, List.cons_append, List.nil_append]
  split <;> split <;> (try split) <;> rfl
theorem p3 {i : Nat} (h : i < 5) : ∃ q : Int, (3 : Int) ^ i = q ∧ 1 ≤ q ∧ q ≤ 625 :=
  ⟨_, rfl, (by decide : ∀ i, i < 5 → 1 ≤ (3 : Int) ^ i ∧ (3 : Int) ^ i ≤ 625) i h⟩
noncomputable def vL (c : Int) (i : Nat) : Int := (c.fdiv (3 ^ i)).fmod 3
theorem vL_3 (c : Int) (i : Nat) : vL c i = 0 ∨ vL c i = 1 ∨ vL c i = 2 := by
  (try k_fold)
  refine byGoal fun P9 k9 => ?_
  obtain ⟨j, e, h⟩ : ∃ j : Nat, vL c i = (j : Int) ∧ j < 3 := fmodN (c.fdiv (3 ^ i)) (b := 3) (by decide)
  refine k9 ?_
  clear k9 P9
  exact Mine.om185 e h
def okW (l : List Nat) : Prop := 1 ≤ l.length ∧ l.length ≤ 6 ∧ good l ∧ ∀ c ∈ l, c < 128
theorem good_of {l : List Nat} (h : (l.all fun c => !(c == 10) && (!(c == 9) && !(c == 13))) = true) : good l := by
  intro c hc
  have := List.all_eq_true.mp h c hc
  simp only [Bool.and_eq_true, Bool.not_eq_true', beq_eq_false_iff_ne] at this
  exact this
theorem okW_of {l : List Nat} (h : (Nat.ble 1 l.length && Nat.ble l.length 6 && (l.all fun c => !(c == 10) && (!(c == 9) && !(c == 13))) && l.all fun c => Nat.blt c 128) = true) : okW l := by
  have h := Bool.and_eq_true_iff.mp h
  have h1 := Bool.and_eq_true_iff.mp h.1
  have h2 := Bool.and_eq_true_iff.mp h1.1
  exact ⟨Nat.le_of_ble_eq_true h2.1, Nat.le_of_ble_eq_true h2.2, good_of h1.2, fun c hc => Nat.le_of_ble_eq_true (List.all_eq_true.mp h.2 c hc)⟩
theorem wordsJ_ok {p q j : Nat} (hp : p < 2) (hq : q < 3) (hj : j < 6) : ∀ l ∈ wordsL p q (nmL.getD (j + 0) 0) (nmL.getD (j + 1) 0) (nmL.getD (j + 2) 0), okW l := fun l hl =>
  okW_of (List.all_eq_true.mp ((by decide +kernel : ∀ p, p < 2 → ∀ q, q < 3 → ∀ j, j < 6 → ((wordsL p q (nmL.getD (j + 0) 0) (nmL.getD (j + 1) 0) (nmL.getD (j + 2) 0)).all fun l => (Nat.ble 1 l.length && Nat.ble l.length 6 && (l.all fun c => !(c == 10) && (!(c == 9) && !(c == 13))) && l.all fun c => Nat.blt c 128)) = true) p hp q hq j hj) l hl)
theorem alf_ok {l : List Nat} (hl : l.length = 5) (h : ∀ c ∈ l, c ∈ alf) : okW l := by
  have key : ∀ c ∈ alf, (c ≠ 10 ∧ c ≠ 9 ∧ c ≠ 13) ∧ c < 128 := by decide
  exact ⟨by rw [hl]; decide, by rw [hl]; decide, fun c hc => (key c (h c hc)).1, fun c hc => (key c (h c hc)).2⟩
theorem esc_len (v : Int) {l : List Nat} (h : l.length ≤ 6) : (esc v l).length ≤ 15 := by
  have key : ∀ (f : Nat → List Nat), (∀ c, (f c).length ≤ 2) → (l.flatMap f).length ≤ 12 := fun f hf => by
    have : ∀ z : List Nat, (z.flatMap f).length ≤ 2 * z.length := fun z => by
      induction z with
      | nil => simp
      | cons a r ih => rw [List.flatMap_cons, List.length_append, List.length_cons]; have := hf a; exact Mine.om76 ih this
    have := this l; exact Mine.om188 h this
  unfold esc
  split
  · have := key (fun c => [92, c]) fun c => Nat.le_refl _
    rw [List.length_append]; simp only [List.length_cons, List.length_nil]; exact Mine.om189 this
  · split
    · have := key (fun c => if c = 34 ∨ c = 92 then [92, c] else [c]) fun c => by split <;> simp
      rw [List.length_append, List.length_cons]; simp only [List.length_cons, List.length_nil]; exact Mine.om190 this
    · have := key (fun c => if c = 92 ∨ c = 32 then [92, c] else [c]) fun c => by split <;> simp
      rw [List.length_append, List.length_append]; simp only [List.length_cons, List.length_nil]
      split <;> simp only [List.length_cons, List.length_nil] <;> omega
/-- what is still to be read -/
noncomputable def tailT (f : Nat → List Nat) (n i : Nat) : List Nat := ((List.range n).drop i).flatMap f ++ [46, 46, 46]
theorem tailT_step {f : Nat → List Nat} {n i : Nat} (h : i < n) : tailT f n i = f i ++ tailT f n (i + 1) := by
  unfold tailT
  rw [List.drop_eq_getElem_cons (by simpa using h), List.flatMap_cons, List.append_assoc, List.getElem_range]
theorem tailT_end (f : Nat → List Nat) (n : Nat) : tailT f n n = [46, 46, 46] := by
  unfold tailT
  rw [List.drop_eq_nil_of_le (by simp)]; rfl
theorem flat_cps (f : Nat → List Nat) (n : Nat) : ((List.range n).map fun i => S (f i)).flatMap (fun y => y.cps.toList) = (List.range n).flatMap f := by
  rw [List.flatMap_map]
theorem flat_len15 {f : Nat → List Nat} {n : Nat} (h : ∀ i, i < n → (f i).length ≤ 15) : ((List.range n).flatMap f).length ≤ 15 * n ∧ (((List.range n).map fun i => S (f i)).map (·.length)).sum ≤ 15 * n := by
  induction n with
  | zero => simp
  | succ n ih =>
    have := ih fun i hi => h i (by exact Mine.om191 hi)
    have h2 := h n (by exact Mine.om192)
    rw [List.range_succ]
    simp only [List.flatMap_append, List.flatMap_cons, List.flatMap_nil, List.length_append, List.append_nil, List.map_append, List.map_cons, List.map_nil, List.sum_append, List.sum_cons, List.sum_nil, S_len, List.map_map] at this ⊢
    exact Mine.om193 h2 this.1 this.2
theorem news_last {g h h' : Heap} {L b : Addr} {o o' : Obj} {m : Str → Option Value} {ld : List (Addr × Obj)} (F : Fr g L h m) (N : News g L h (ld ++ [(b, o)])) (ne : ∀ p ∈ ld, @Ne Nat p.1 b)
    (k : ∀ c q, h.get? c = some q → c ≠ b → h'.get? c = some q) (hb : h'.get? b = some o') : Fr g L h' m ∧ News g L h' (ld ++ [(b, o')]) := by
  refine news_frame (sk := [b]) F N (fun c q e hc => k c q e (fun z => hc (z ▸ .head _))) (fun c hc => ?_) (by simp) fun p hp => ?_
  · rw [List.mem_singleton.mp hc]; simp
  · rcases List.mem_append.mp hp with q | q
    · exact k _ _ (N p (List.mem_append_left _ q)).1 (ne p q)
    · rw [List.mem_singleton.mp q]; exact hb
theorem news_d1 {g h : Heap} {L : Addr} {a b : Addr × Obj} {ld : List (Addr × Obj)} (N : News g L h (a :: b :: ld)) : News g L h (a :: ld) := news_sub N fun p hp => by
  rcases List.mem_cons.mp hp with q | q
  · exact q ▸ .head _
  · exact .tail _ (.tail _ q)
theorem news_d2 {g h : Heap} {L : Addr} {a b c : Addr × Obj} {ld : List (Addr × Obj)} (N : News g L h (a :: b :: c :: ld)) : News g L h (a :: ld) := news_d1 (news_d1 N)
theorem news_d0 {g h : Heap} {L : Addr} {a : Addr × Obj} {ld : List (Addr × Obj)} (N : News g L h (a :: ld)) : News g L h ld := news_sub N fun p hp => .tail _ hp
theorem ne_map {ld rest : List (Addr × Obj)} {b : Addr} (e : rest.map (·.1) = ld.map (·.1)) (h : ∀ p ∈ ld, @Ne Nat p.1 b) : ∀ p ∈ rest, @Ne Nat p.1 b := fun p hp => by
  have : p.1 ∈ ld.map (·.1) := e ▸ List.mem_map_of_mem hp
  (try k_fold)
  refine byGoal fun P9 k9 => ?_
  obtain ⟨q, hq, e'⟩ := List.mem_map.mp this
  refine k9 ?_
  clear k9 P9
  exact e' ▸ h q hq
theorem ne_map2 {ld rest : List (Addr × Obj)} {b c : Addr} (h : ∀ p ∈ ld, @Ne Nat p.1 b) (h2 : ∀ p ∈ ld, @Ne Nat p.1 c) (e : rest.map (·.1) = ld.map (·.1)) : ∀ p ∈ rest, @Ne Nat p.1 b ∧ @Ne Nat p.1 c := fun p hp => ⟨ne_map e h p hp, ne_map e h2 p hp⟩
theorem ne_app {l1 own : List (Addr × Obj)} {A : Addr → Prop} (h1 : ∀ p ∈ l1, A p.1) (h2 : ∀ p ∈ own, A p.1) : ∀ p ∈ l1 ++ own, A p.1 := fun p hp => (List.mem_append.mp hp).elim (h1 p) (h2 p)
theorem strs_carried : ∀ {vs : List Value} {l : List Str}, StrsAre vs l → CarriedAll vs (l.map PyData.str)
  | _, _, .nil => .nil
  | _, _, .cons _ t r => .cons (.str _ t) (strs_carried r)
theorem sh_strs0 : ∀ l : List Str, (∀ x ∈ l, PyData.strOk x = true) → PyData.canLayAll0 (l.map PyData.str) = true
  | [], _ => rfl
  | x :: r, h => by simp [PyData.canLayAll0, PyData.canLay0, sh_strs0 r (fun y hy => h y (.tail _ hy)), h x (.head _)]
theorem sh_strs1 : ∀ l : List Str, PyData.depthAll (l.map PyData.str) = 0
  | [] => rfl
  | _ :: r => by simp [PyData.depthAll, PyData.depth, sh_strs1 r]
theorem sh_strs (l : List Str) (h : ∀ x ∈ l, PyData.strOk x = true) : SeqAt.shaped (.list (l.map PyData.str)) = true := by
  simp [SeqAt.shaped, PyData.canLay0, PyData.depth, sh_strs0 l h, sh_strs1]
theorem strOk_S {l : List Nat} (h : ∀ c ∈ l, c < 128) : PyData.strOk (S l) = true := by
  unfold PyData.strOk
  simp only [List.all_toArray, List.all_eq_true]
  intro c hc
  have := h c hc
  simp; exact Mine.om194 this
theorem ne_same {prog : Program} {w : World} {A : Around} {E : Value → Shared → Prop} {s : Shared} {Q : Value → Shared → Prop} {a b : Value} {d : PyData} {as bs : List Addr} (ra : Reads s.heap a d as) (rb : Reads s.heap b d bs) (sh : SeqAt.shaped d = true) (hu : A.units + 64 < cLine)
    (h : Q (.bool false) s) : wpAny (model prog w) A (compareOp .NotEq a b) Q E s :=
  SeqAt.compareNe_shaped ra rb sh sh hu (by rw [SeqAt.eqv_refl d (SeqAt.canLay_of_shaped sh)]; exact h)
theorem eq_same {prog : Program} {w : World} {A : Around} {E : Value → Shared → Prop} {s : Shared} {Q : Value → Shared → Prop} {a b : Value} {d : PyData} {as bs : List Addr} (ra : Reads s.heap a d as) (rb : Reads s.heap b d bs) (sh : SeqAt.shaped d = true) (hu : A.units + 64 < cLine)
    (h : Q (.bool true) s) : wpAny (model prog w) A (compareOp .Eq a b) Q E s :=
  SeqAt.compareEq_shaped ra rb sh sh hu (by rw [SeqAt.eqv_refl d (SeqAt.canLay_of_shaped sh)]; exact h)
theorem slicePick_init (l : List Value) : slicePick l.toArray none (some (-1)) none = l.dropLast.toArray := by
  rw [slicePick_plain]
  have : clipAt l.toArray.size (-1) = l.length - 1 := by
    have := clipAt_neg l.toArray.size 1 (Nat.le_refl _)
    simpa using this
  simp only [Option.elim, this, List.drop_zero, Nat.sub_zero]
  rw [List.dropLast_eq_take]
theorem hideL {g h : Heap} {L : Addr} {ld : List (Addr × Obj)} (N : News g L h ld) {P : Prop} (k : ∀ BB, BB = ld → News g L h BB → P) : P := k ld rfl N
noncomputable def lexLd (P : Params) (a : Lx) (ys : List Value) (n np : Nat) (ln : Int) (tl : Tok) : List (Addr × Obj) :=
  [(a.x2, instObj 108 a.dx2), (a.dx2, a.lnD P ln tl), (a.pb2, listOf #[] np), (a.D, listOf ys.reverse.toArray n), (a.cl, a.o9), (a.f, giveObj a.cl a.dc a.pm a.c a.ct), (a.c, a.oc), (a.x1, instObj 108 a.dx1), (a.dx1, dictOf (lexD P a.z1 (.int 1 a.t1) .none a.pb1 ++ [⟨PyData.keyHash P "read", .str "read" a.tr, .ref a.f⟩]) 5)]
theorem lexLd_upd {P : Params} {g h h' : Heap} {L : Addr} {m : Str → Option Value} {a : Lx} {ys ys' : List Value} {n n' np : Nat} {ln ln' : Int} {tl tl' : Tok} {rest : List (Addr × Obj)}
    (F : Fr g L h m) (N : News g L h (lexLd P a ys n np ln tl ++ rest)) (ok : a.Ok) (ne : ∀ p ∈ rest, @Ne Nat p.1 a.D ∧ @Ne Nat p.1 a.dx2)
    (k : ∀ b o, h.get? b = some o → b ∉ [a.D, a.dx2] → h'.get? b = some o) (hD : h'.get? a.D = some (listOf ys'.reverse.toArray n')) (hd : h'.get? a.dx2 = some (a.lnD P ln' tl')) :
    Fr g L h' m ∧ News g L h' (lexLd P a ys' n' np ln' tl' ++ rest) := by
  have M : ∀ {p}, p ∈ lexLd P a ys n np ln tl → h.get? p.1 = some p.2 := fun hp => (N _ (List.mem_append_left _ hp)).1
  have eD := M (p := (a.D, listOf ys.reverse.toArray n)) (by k_mem)
  have ed := M (p := (a.dx2, a.lnD P ln tl)) (by k_mem)
  have ep := M (p := (a.pb2, listOf #[] np)) (by k_mem)
  have e1 := M (p := (a.x2, instObj 108 a.dx2)) (by k_mem)
  have e2 := M (p := (a.cl, a.o9)) (by k_mem)
  have e3 := M (p := (a.f, giveObj a.cl a.dc a.pm a.c a.ct)) (by k_mem)
  have e4 := M (p := (a.c, a.oc)) (by k_mem)
  have e5 := M (p := (a.x1, instObj 108 a.dx1)) (by k_mem)
  have e6 := M (p := (a.dx1, dictOf (lexD P a.z1 (.int 1 a.t1) .none a.pb1 ++ [⟨PyData.keyHash P "read", .str "read" a.tr, .ref a.f⟩]) 5)) (by k_mem)
  have o9 := ok.o9
  have oc := ok.oc
  have n2 : ∀ {b : Addr}, @Ne Nat b a.D → @Ne Nat b a.dx2 → b ∉ [a.D, a.dx2] := fun h1 h2 q => by
    rcases List.mem_cons.mp q with q | q
    · exact h1 q
    · exact h2 (List.mem_singleton.mp q)
  have c1 : ∀ (v : Data), (∀ x, v ≠ .cell x) → a.o9.data ≠ v := fun v hv e => hv _ (e.symm.trans o9)
  have c2 : ∀ (v : Data), (∀ x, v ≠ .fields x) → a.oc.data ≠ v := fun v hv e => hv _ (e.symm.trans oc)
  refine news_frame (sk := [a.D, a.dx2]) F N k (fun b hb => ?_) (by simp [lexLd]) fun p hp => ?_
  · rcases List.mem_cons.mp hb with rfl | hb
    · simp [lexLd]
    · rw [List.mem_singleton.mp hb]; simp [lexLd]
  · rcases List.mem_append.mp hp with q | q
    · revert p
      have key : ∀ p ∈ lexLd P a ys' n' np ln' tl', h'.get? p.1 = some p.2 := by
        unfold lexLd
        refine fmc (k _ _ e1 (n2 (obj_ne e1 eD (by simp [W.listOf, instObj])) (obj_ne e1 ed (by simp [instObj, dictOf, Lx.lnD])))) (fmc hd (fmc (k _ _ ep (n2 (Ne.symm ok.ne) (obj_ne ep ed (by simp [W.listOf, dictOf, Lx.lnD])))) (fmc hD ?_)))
        refine fmc (k _ _ e2 (n2 (obj_ne e2 eD (c1 _ fun x => by simp [W.listOf, dictOf, Lx.lnD])) (obj_ne e2 ed (c1 _ fun x => by simp [W.listOf, dictOf, Lx.lnD])))) ?_
        refine fmc (k _ _ e3 (n2 (obj_ne e3 eD (by simp [giveObj, W.listOf])) (obj_ne e3 ed (by simp [giveObj, dictOf, Lx.lnD])))) ?_
        refine fmc (k _ _ e4 (n2 (obj_ne e4 eD (c2 _ fun x => by simp [W.listOf, dictOf, Lx.lnD])) (obj_ne e4 ed (c2 _ fun x => by simp [W.listOf, dictOf, Lx.lnD])))) ?_
        refine fmc (k _ _ e5 (n2 (obj_ne e5 eD (by simp [W.listOf, instObj])) (obj_ne e5 ed (by simp [instObj, dictOf, Lx.lnD])))) ?_
        exact fmc (k _ _ e6 (n2 (obj_ne e6 eD (by simp [W.listOf, dictOf])) (obj_ne e6 ed (by simp [dictOf, Lx.lnD, lexD])))) fmn
      exact fun p _ q => key p q
    · exact k _ _ (N p (List.mem_append_right _ q)).1 (n2 (ne p q).1 (ne p q).2)
theorem ne_inc {ld rest : List (Addr × Obj)} {b : Addr} (h : ∀ p ∈ ld, @Ne Nat p.1 b) (hs : ∀ a ∈ rest.map (·.1), a ∈ ld.map (·.1)) : ∀ p ∈ rest, @Ne Nat p.1 b := fun p hp => by
  (try k_fold)
  refine byGoal fun P9 k9 => ?_
  obtain ⟨q, hq, e'⟩ := List.mem_map.mp (hs _ (List.mem_map_of_mem hp))
  refine k9 ?_
  clear k9 P9
  exact e' ▸ h q hq
theorem join1' {prog : Program} {w : World} {A : Around} {E : Value → Shared → Prop} {s : Shared} {Q : Value → Shared → Prop} {D : Addr} {items : Array Value} {lf : List Nat} {t : Tok} (hl : s.heap.IsList D items) (hi : StrsAre items.toList (lf.map fun a => S [a])) (hb : lf.length ≤ 1000) (h2 : 2 ≤ lf.length)
    (h : ∀ t' k, s.toks ≤ t' ∧ t' < k → Q (.str (S lf) t') { s with toks := k }) : wpAny (model prog w) A (call (.builtin "str.join") [.str (Str.ofString "") t, .ref D]) Q E s := by
  have e1 : ∀ l : List Nat, ((l.map fun a => S [a]).flatMap fun y => y.cps.toList) = l := fun l => by
    induction l with
    | nil => rfl
    | cons a l ih => rw [List.map_cons, List.flatMap_cons, ih]; rfl
  have e2 : ∀ l : List Nat, ((l.map fun a => S [a]).map (·.length)).sum = l.length := fun l => by
    induction l with
    | nil => rfl
    | cons a l ih => rw [List.map_cons, List.map_cons, List.sum_cons, ih, List.length_cons, S_len]; simp; exact Mine.om63
  refine joinS hl hi (by rw [e2]; exact Mine.om64 hb) fun t' k h1 h3 => ?_
  rw [e1]
  exact h t' k (h3 (by rw [List.length_map]; exact h2))
theorem not3 {b x y z : Addr} (h1 : @Ne Nat b x) (h2 : @Ne Nat b y) (h3 : @Ne Nat b z) : b ∉ [x, y, z] := fun q => by
  simp only [List.mem_cons, List.not_mem_nil, or_false] at q
  rcases q with q | q | q
  · exact h1 q
  · exact h2 q
  · exact h3 q
theorem lexLd_pb {P : Params} {g h h' : Heap} {L : Addr} {m : Str → Option Value} {a : Lx} {ys : List Value} {n np np' : Nat} {ln : Int} {tl : Tok} {rest : List (Addr × Obj)}
    (F : Fr g L h m) (N : News g L h (lexLd P a ys n np ln tl ++ rest)) (ok : a.Ok) (ne : ∀ p ∈ rest, @Ne Nat p.1 a.pb2)
    (k : ∀ b o, h.get? b = some o → b ≠ a.pb2 → h'.get? b = some o) (hp : h'.get? a.pb2 = some (listOf #[] np')) :
    Fr g L h' m ∧ News g L h' (lexLd P a ys n np' ln tl ++ rest) := by
  have M : ∀ {p}, p ∈ lexLd P a ys n np ln tl → h.get? p.1 = some p.2 := fun hp => (N _ (List.mem_append_left _ hp)).1
  have eD := M (p := (a.D, listOf ys.reverse.toArray n)) (by k_mem)
  have ed := M (p := (a.dx2, a.lnD P ln tl)) (by k_mem)
  have ep := M (p := (a.pb2, listOf #[] np)) (by k_mem)
  have e1 := M (p := (a.x2, instObj 108 a.dx2)) (by k_mem)
  have e2 := M (p := (a.cl, a.o9)) (by k_mem)
  have e3 := M (p := (a.f, giveObj a.cl a.dc a.pm a.c a.ct)) (by k_mem)
  have e4 := M (p := (a.c, a.oc)) (by k_mem)
  have e5 := M (p := (a.x1, instObj 108 a.dx1)) (by k_mem)
  have e6 := M (p := (a.dx1, dictOf (lexD P a.z1 (.int 1 a.t1) .none a.pb1 ++ [⟨PyData.keyHash P "read", .str "read" a.tr, .ref a.f⟩]) 5)) (by k_mem)
  have o9 := ok.o9
  have oc := ok.oc
  have c1 : ∀ (v : Data), (∀ x, v ≠ .cell x) → a.o9.data ≠ v := fun v hv e => hv _ (e.symm.trans o9)
  have c2 : ∀ (v : Data), (∀ x, v ≠ .fields x) → a.oc.data ≠ v := fun v hv e => hv _ (e.symm.trans oc)
  refine news_frame (sk := [a.pb2]) F N (fun b o e hb => k b o e fun q => hb (q ▸ .head _)) (fun b hb => ?_) (by simp [lexLd]) fun p hp => ?_
  · rw [List.mem_singleton.mp hb]; simp [lexLd]
  · rcases List.mem_append.mp hp with q | q
    · revert p
      have key : ∀ p ∈ lexLd P a ys n np' ln tl, h'.get? p.1 = some p.2 := by
        unfold lexLd
        refine fmc (k _ _ e1 (obj_ne e1 ep (by simp [W.listOf, instObj]))) (fmc (k _ _ ed (obj_ne ed ep (by simp [W.listOf, dictOf, Lx.lnD]))) (fmc hp (fmc (k _ _ eD ok.ne) ?_)))
        refine fmc (k _ _ e2 (obj_ne e2 ep (c1 _ fun x => by simp [W.listOf]))) ?_
        refine fmc (k _ _ e3 (obj_ne e3 ep (by simp [giveObj, W.listOf]))) ?_
        refine fmc (k _ _ e4 (obj_ne e4 ep (c2 _ fun x => by simp [W.listOf]))) ?_
        refine fmc (k _ _ e5 (obj_ne e5 ep (by simp [W.listOf, instObj]))) ?_
        exact fmc (k _ _ e6 (obj_ne e6 ep (by simp [W.listOf, dictOf]))) fmn
      exact fun p _ q => key p q
    · exact k _ _ (N p (List.mem_append_right _ q)).1 (ne p q)
theorem lex_tok {w : World} {A : Around} {E : Value → Shared → Prop} {s : Shared} {Q : Value → Shared → Prop} {k : Nat} {g : Heap} {L : Addr} {m : Str → Option Value} {a : Lx} {ys : List Value} {n np : Nat} {ln : Int} {tl : Tok} {rest : List (Addr × Obj)} {txt : List Nat}
    (G : G0 w g) (F : Fr g L s.heap m) (N : News g L s.heap (lexLd w.params a ys n np ln tl ++ rest)) (R : Rm A (k + 5)) (ok : a.Ok) (ne : ∀ p ∈ rest, @Ne Nat p.1 a.D ∧ @Ne Nat p.1 a.dx2)
    (hys : StrsAre ys (txt.map fun c => S [c])) (hlen : ys.length ≤ 1000)
    (h : ∀ h' tk t' tl' ys' n', Fr g L h' m → News g L h' (lexLd w.params a ys' n' np (ln + (lexA 0 txt).2.2) tl' ++ rest) → StrsAre ys' ((lexA 0 txt).2.1.map fun c => S [c]) → ys'.length ≤ 1000 → Q (.str (S (lexA 0 txt).1) t') { s with heap := h', toks := tk }) :
    wpAny (model PG w) A (call (.ref 98) [.ref a.x2]) Q E s := by
  have M : ∀ {p}, p ∈ lexLd w.params a ys n np ln tl → s.heap.get? p.1 = some p.2 ∧ g.get? p.1 = none := fun hp => ⟨(N _ (List.mem_append_left _ hp)).1, (N _ (List.mem_append_left _ hp)).2.2⟩
  have eD := M (p := (a.D, listOf ys.reverse.toArray n)) (by k_mem)
  have ed := M (p := (a.dx2, a.lnD w.params ln tl)) (by k_mem)
  have ep := M (p := (a.pb2, listOf #[] np)) (by k_mem)
  refine c_getRead G (Fr.keep F) R ok (fmc (M (p := (a.cl, _)) (by k_mem)) (fmc (M (p := (a.f, _)) (by k_mem)) (fmc (M (p := (a.c, _)) (by k_mem)) (fmc (M (p := (a.x2, _)) (by k_mem)) (fmc (M (p := (a.x1, _)) (by k_mem)) (fmc (M (p := (a.dx1, _)) (by k_mem)) fmn)))))) eD.1 ed.1 ep.1 eD.2 ed.2 ep.2 hys hlen ?_
  intro h' tk t' tl' ys' n' k' hD hd hys' hl'
  have FN := lexLd_upd F N ok ne k' hD hd
  exact h h' tk t' tl' ys' n' FN.1 FN.2 hys' hl'
theorem wordsL_len (p q a b c : Nat) : (wordsL p q a b c).length ≤ 4 := by
  unfold wordsL
  split <;> split <;> (try split) <;> simp only [List.length_cons, List.length_nil] <;> omega
end Mine
end
section
set_option maxHeartbeats 1000000
namespace Mine
def Apart (cs base : List (Addr × Obj)) : Prop := ∀ p ∈ cs, ∀ q ∈ base, @Ne Nat p.1 q.1
theorem news_ins {g h : Heap} {L : Addr} {x : Addr × Obj} {b cs own : List (Addr × Obj)} (N : News g L h (x :: (b ++ cs ++ own))) : News g L h (b ++ (cs ++ [x]) ++ own) := news_sub N fun p hp => by
  simp only [List.mem_append, List.mem_cons, List.not_mem_nil, or_false] at hp ⊢
  rcases hp with (q | q | q) | q
  · exact .inr (.inl (.inl q))
  · exact .inr (.inl (.inr q))
  · exact .inl q
  · exact .inr (.inr q)
theorem ownOff_ins {b cs own : List (Addr × Obj)} {h : Heap} {r : Addr} {o : Obj} (ho : OwnOff own ((b ++ cs).map (·.1))) (hr : h.get? r = none) (N : ∀ p ∈ own, h.get? p.1 = some p.2) : OwnOff own ((b ++ (cs ++ [(r, o)])).map (·.1)) := by
  intro p hp a ha
  rw [← List.append_assoc, List.map_append] at ha
  rcases List.mem_append.mp ha with q | q
  · exact ho p hp a q
  · rw [List.mem_singleton.mp q]
    intro e
    have := N p hp
    rw [show p.1 = r from e, hr] at this; cases this
theorem apart_ins {b cs : List (Addr × Obj)} {h : Heap} {r : Addr} {o : Obj} (ha : Apart cs b) (hr : h.get? r = none) (N : ∀ p ∈ b, h.get? p.1 = some p.2) : Apart (cs ++ [(r, o)]) b := by
  intro p hp q hq
  rcases List.mem_append.mp hp with z | z
  · exact ha p z q hq
  · rw [List.mem_singleton.mp z]
    intro e
    have := N q hq
    rw [← show r = q.1 from e, hr] at this; cases this
inductive CutAt (ld : List (Addr × Obj)) (lo hi : Nat) (v : Value) (c : List Int) : Prop
  | mk (r : Addr) (ws : List Value) (n : Nat) (e : v = .ref r) (hm : (r, listOf (List.toArray ws) n) ∈ ld) (hi' : IntsAre ws c) (t : ∀ y u, Value.int y u ∈ ws → @Ne Nat u 0 ∧ (256 ≤ y → @LE.le Nat _ lo u ∧ @LT.lt Nat _ u hi))
noncomputable def Cuts (ld : List (Addr × Obj)) : Nat → List Value → List (List Int) → Nat → Prop
  | lo, [], [], hi => lo ≤ hi
  | lo, v :: vs, c :: cs, hi => ∃ mid, lo ≤ mid ∧ CutAt ld lo mid v c ∧ Cuts ld mid vs cs hi
  | _, _, _, _ => False
theorem CutAt.mono {ld ld' : List (Addr × Obj)} (k : ∀ p ∈ ld, p ∈ ld') {lo hi : Nat} {v : Value} {c : List Int} (q : CutAt ld lo hi v c) : CutAt ld' lo hi v c := by
  cases q with | mk r ws n e h i t => exact ⟨r, ws, n, e, k _ h, i, t⟩
theorem Cuts.snoc {ld ld' : List (Addr × Obj)} (k : ∀ p ∈ ld, p ∈ ld') {m1 m2 hi : Nat} {v : Value} {c : List Int} (h1 : m1 ≤ m2) (h2 : m2 ≤ hi) (hc : CutAt ld' m2 hi v c) :
    ∀ {lo : Nat} {vs : List Value} {cs : List (List Int)}, Cuts ld lo vs cs m1 → Cuts ld' lo (vs ++ [v]) (cs ++ [c]) hi
  | lo, [], [], q => by
    have q : lo ≤ m1 := q
    (try k_fold)
    refine byGoal fun P9 k9 => ?_
    obtain ⟨r, ws, n, e, hm, hi', t⟩ := hc
    refine k9 ?_
    clear k9 P9
    refine ⟨hi, by exact Mine.om195 h1 h2 q, ⟨r, ws, n, e, hm, hi', fun y u hy => ⟨(t y u hy).1, fun hb => ?_⟩⟩, Nat.le_refl _⟩
    have := (t y u hy).2 hb
    exact ⟨by exact Mine.om196 h1 q this.1, this.2⟩
  | _, _ :: _, _ :: _, ⟨mid, a, b, q⟩ => ⟨mid, a, b.mono k, q.snoc k h1 h2 hc⟩
  | _, [], _ :: _, q => q.elim
  | _, _ :: _, [], q => q.elim
theorem Cuts.len {ld : List (Addr × Obj)} : ∀ {lo hi : Nat} {vs : List Value} {cs : List (List Int)}, Cuts ld lo vs cs hi → vs.length = cs.length
  | _, _, [], [], _ => rfl
  | _, _, _ :: _, _ :: _, ⟨_, _, _, q⟩ => by rw [List.length_cons, List.length_cons, q.len]
  | _, _, [], _ :: _, q => q.elim
  | _, _, _ :: _, [], q => q.elim
noncomputable def cutsW (p q : Nat) : List (List Int) :=
  let f := if p = 1 then [[256, 258, 52, 257], [258, 21, 257, 30, 256]] else [[256, 258, 52, 257], [256, 29, 257, 20, 258]]
  let l := if p = 1 then [[257, 52, 256, 258], [258, 30, 257, 21, 256]] else [[257, 52, 256, 258], [256, 20, 257, 29, 258]]
  if q = 0 then f else if q = 1 then l else f ++ l
noncomputable def nmAt (j : Nat) : List (List Nat) := [[nmL.getD (j + 0) 0], [nmL.getD (j + 1) 0], [nmL.getD (j + 2) 0]]
noncomputable def wAt (p q j : Nat) : List (List Nat) := wordsL p q (nmL.getD (j + 0) 0) (nmL.getD (j + 1) 0) (nmL.getD (j + 2) 0)
theorem cut_all0 : ∀ p < 2, ∀ q < 3, ∀ j < 6, (wAt p q j).map (fun l => cutP (nmAt j) l l.length 0) = cutsW p q ∧ (wAt p q j).all (fun l => cutOk (nmAt j) l l.length 0) = true := by
  decide +kernel
theorem cut_at {p q j i : Nat} {l : List Nat} (hp : p < 2) (hq : q < 3) (hj : j < 6) (h : (wAt p q j)[i]? = some l) : (cutsW p q)[i]? = some (cutP (nmAt j) l l.length 0) ∧ cutOk (nmAt j) l l.length 0 = true := by
  obtain ⟨h1, h2⟩ := cut_all0 p hp q hq j hj
  refine ⟨?_, List.all_eq_true.mp h2 l (List.mem_of_getElem? h)⟩
  rw [← h1, List.getElem?_map, h]; rfl
theorem cutsW_len {p q j : Nat} (hp : p < 2) (hq : q < 3) (hj : j < 6) : (cutsW p q).length = (wAt p q j).length := by
  rw [← (cut_all0 p hp q hq j hj).1, List.length_map]
/-- a rule whose objects lie in the ledger -/
inductive RuleIn (ld : List (Addr × Obj)) (v : Value) (r : RuleP) : Prop
  | mk (a o : Addr) (tg ta tb tc : Tok) (n : Nat) (e : v = .ref a) (h1 : (a, tupObj #[.int (r.gap : Nat) tg, .ref o, .ref r.f1, .ref r.f2]) ∈ ld) (h2 : (o, listOf #[.int (r.a : Nat) ta, .int (r.b : Nat) tb, .int (r.c : Nat) tc] n) ∈ ld) (ok : r.Ok)
theorem RuleIn.mono {ld ld' : List (Addr × Obj)} (k : ∀ p ∈ ld, p ∈ ld') {v : Value} {r : RuleP} (q : RuleIn ld v r) : RuleIn ld' v r := by
  cases q with | mk a o tg ta tb tc n e h1 h2 ok => exact ⟨a, o, tg, ta, tb, tc, n, e, k _ h1, k _ h2, ok⟩
theorem RuleIn.at {ld : List (Addr × Obj)} {h : Heap} (k : ∀ p ∈ ld, h.get? p.1 = some p.2) {v : Value} {r : RuleP} (q : RuleIn ld v r) : RuleAt h v r := by
  cases q with | mk a o tg ta tb tc n e h1 h2 ok => exact ⟨a, o, tg, ta, tb, tc, n, e, k _ h1, k _ h2, ok⟩
theorem ints_cons {ws : List Value} {a : Int} {l : List Int} (h : IntsAre ws (a :: l)) : ∃ t ws', ws = .int a t :: ws' ∧ IntsAre ws' l := by
  cases h with | cons _ t h => exact ⟨t, _, rfl, h⟩
theorem ints_nil {ws : List Value} (h : IntsAre ws []) : ws = [] := by cases h; rfl
theorem ints_three {ws : List Value} {a b c : Int} (h : IntsAre ws [a, b, c]) : ∃ t0 t1 t2, ws = [.int a t0, .int b t1, .int c t2] := by
  obtain ⟨t0, w1, e1, h1⟩ := ints_cons h
  obtain ⟨t1, w2, e2, h2⟩ := ints_cons h1
  obtain ⟨t2, w3, e3, h3⟩ := ints_cons h2
  exact ⟨t0, t1, t2, by rw [e1, e2, e3, ints_nil h3]⟩
theorem ints_four {ws : List Value} {a b c d : Int} (h : IntsAre ws [a, b, c, d]) : ∃ t0 t1 t2 t3, ws = [.int a t0, .int b t1, .int c t2, .int d t3] := by
  obtain ⟨t, w1, e1, h1⟩ := ints_cons h
  obtain ⟨t0, t1, t2, e⟩ := ints_three h1
  exact ⟨t, t0, t1, t2, by rw [e1, e]⟩
theorem ints_five {ws : List Value} {a b c d e : Int} (h : IntsAre ws [a, b, c, d, e]) : ∃ t0 t1 t2 t3 t4, ws = [.int a t0, .int b t1, .int c t2, .int d t3, .int e t4] := by
  obtain ⟨t, w1, e1, h1⟩ := ints_cons h
  obtain ⟨t0, t1, t2, t3, e⟩ := ints_four h1
  exact ⟨t, t0, t1, t2, t3, by rw [e1, e]⟩
theorem CutAt.ref {ld : List (Addr × Obj)} {lo hi : Nat} {v : Value} {c : List Int} (h : CutAt ld lo hi v c) : ∃ a, v = .ref a := by cases h with | mk r _ _ e => exact ⟨r, e⟩
theorem Cuts.le {ld : List (Addr × Obj)} : ∀ {lo hi : Nat} {vs : List Value} {cs : List (List Int)}, Cuts ld lo vs cs hi → lo ≤ hi
  | _, _, [], [], h => h
  | _, _, _ :: _, _ :: _, ⟨_, h, _, q⟩ => Nat.le_trans h q.le
  | _, _, [], _ :: _, q => q.elim
  | _, _, _ :: _, [], q => q.elim
theorem cutsW_two (p : Nat) {kd : Nat} (h : kd < 2) : ∃ c1 c2, cutsW p kd = [c1, c2] := by
  have : kd = 0 ∨ kd = 1 := by exact Mine.om197 h
  unfold cutsW
  rcases this with rfl | rfl <;> by_cases hp : p = 1 <;> simp [hp]
theorem cutsW_all (p : Nat) : cutsW p 2 = cutsW p 0 ++ cutsW p 1 := by unfold cutsW; simp
theorem cuts_two {cs : List (Addr × Obj)} {lo hi : Nat} {ys : List Value} {c1 c2 : List Int} {r : List (List Int)} (h : Cuts cs lo ys (c1 :: c2 :: r) hi) :
    ∃ v1 v2 ys' m1 m2, ys = v1 :: v2 :: ys' ∧ CutAt cs lo m1 v1 c1 ∧ CutAt cs m1 m2 v2 c2 ∧ Cuts cs m2 ys' r hi ∧ m1 ≤ m2 := by
  match ys, h with
  | v1 :: v2 :: ys', ⟨m1, _, q1, m2, hm, q2, q⟩ => exact ⟨v1, v2, ys', m1, m2, rfl, q1, q2, q, hm⟩
inductive PairAt (cs : List (Addr × Obj)) (pn qn hi i : Nat) (ys : List Value) : Prop
  | mk (a1 a2 : Addr) (c1 c2 : List Int) (lo m1 m2 kd : Nat) (e1 : ys[2 * i]? = some (.ref a1)) (e2 : ys[2 * i + 1]? = some (.ref a2)) (q1 : CutAt cs lo m1 (.ref a1) c1) (q2 : CutAt cs m1 m2 (.ref a2) c2) (hm : m1 ≤ hi) (hk : kd < 2) (hc : cutsW pn kd = [c1, c2]) (hr : (rsP qn pn)[i]? = some (if kd = 0 then rA pn else rB pn))
inductive OneAt (cs : List (Addr × Obj)) (pn hi lo kd : Nat) (r : List (List Int)) (zs : List Value) : Prop
  | mk (a1 a2 : Addr) (c1 c2 : List Int) (m1 m2 : Nat) (zs' : List Value) (e : zs = .ref a1 :: .ref a2 :: zs') (q1 : CutAt cs lo m1 (.ref a1) c1) (q2 : CutAt cs m1 m2 (.ref a2) c2) (hm : m1 ≤ hi) (hc : cutsW pn kd = [c1, c2]) (q : Cuts cs m2 zs' r hi)
theorem pair_of {cs : List (Addr × Obj)} {pn qn hi i : Nat} {ys : List Value} (hq : qn < 3) (h : Cuts cs 0 ys (cutsW pn qn) hi) (hi' : i < (rsP qn pn).length) : PairAt cs pn qn hi i ys := by
  have one : ∀ {lo : Nat} {zs : List Value} {kd : Nat} {r : List (List Int)}, kd < 2 → Cuts cs lo zs (cutsW pn kd ++ r) hi → OneAt cs pn hi lo kd r zs := by
    intro lo zs kd r hk hz
    (try k_fold)
    refine byGoal fun P9 k9 => ?_
    obtain ⟨c1, c2, e⟩ := cutsW_two pn hk
    refine k9 ?_
    clear k9 P9
    rw [e] at hz
    (try k_fold)
    refine byGoal fun P9 k9 => ?_
    obtain ⟨v1, v2, ys', m1, m2, rfl, q1, q2, q, hm⟩ := cuts_two hz
    refine k9 ?_
    clear k9 P9
    obtain ⟨a1, rfl⟩ := q1.ref
    obtain ⟨a2, rfl⟩ := q2.ref
    exact ⟨a1, a2, c1, c2, m1, m2, ys', rfl, q1, q2, Nat.le_trans hm q.le, e, q⟩
  have hk : qn = 0 ∨ qn = 1 ∨ qn = 2 := by exact Mine.om141 hq
  rcases hk with rfl | rfl | rfl
  · have : i = 0 := by have : (rsP 0 pn).length = 1 := rfl; exact Mine.om198 hi' this
    subst this
    obtain ⟨a1, a2, c1, c2, m1, m2, zs', rfl, q1, q2, hm, e, _⟩ := one (kd := 0) (r := []) (by decide) (by rw [List.append_nil]; exact h)
    exact ⟨a1, a2, c1, c2, _, m1, m2, 0, rfl, rfl, q1, q2, hm, by decide, e, rfl⟩
  · have : i = 0 := by have : (rsP 1 pn).length = 1 := rfl; exact Mine.om198 hi' this
    subst this
    obtain ⟨a1, a2, c1, c2, m1, m2, zs', rfl, q1, q2, hm, e, _⟩ := one (kd := 1) (r := []) (by decide) (by rw [List.append_nil]; exact h)
    exact ⟨a1, a2, c1, c2, _, m1, m2, 1, rfl, rfl, q1, q2, hm, by decide, e, rfl⟩
  · rw [cutsW_all] at h
    (try k_fold)
    refine byGoal fun P9 k9 => ?_
    obtain ⟨a1, a2, c1, c2, m1, m2, zs', rfl, q1, q2, hm, e, q⟩ := one (kd := 0) (by decide) h
    refine k9 ?_
    clear k9 P9
    have : i = 0 ∨ i = 1 := by have : (rsP 2 pn).length = 2 := rfl; exact Mine.om199 hi' this
    rcases this with rfl | rfl
    · exact ⟨a1, a2, c1, c2, _, m1, m2, 0, rfl, rfl, q1, q2, hm, by decide, e, rfl⟩
    · obtain ⟨a3, a4, c3, c4, m3, m4, zs2, rfl, q3, q4, hm2, e2, _⟩ := one (kd := 1) (r := []) (by decide) (by rw [List.append_nil]; exact q)
      exact ⟨a3, a4, c3, c4, _, m3, m4, 1, rfl, rfl, q3, q4, hm2, by decide, e2, rfl⟩
section
variable {w : World} {base : Heap} {A : Around} {E : Value → Shared → Prop} {s : Shared} {Q : Value → Shared → Prop} {k : Nat} {t : Tok}
/-- one rule of a pattern and a claim that were cut -/
theorem c_rule {a b : Addr} {v1 v2 : Value} {ld : List (Addr × Obj)} {lo m1 m2 hi kd p : Nat} {c1 c2 : List Int} (G : G0 w base) (st : base.StaysIn s.heap) (R : Rm A (k + 4))
   (N : ∀ p ∈ ld, s.heap.get? p.1 = some p.2) (q1 : CutAt ld lo m1 (.ref a) c1) (hm : m1 ≤ m2) (q2 : CutAt ld m2 hi (.ref b) c2) (hh : m1 ≤ s.toks) (hkd : kd < 2) (hp : p < 2) (hc : cutsW p kd = [c1, c2])
   (h : ∀ r o h' tk ta to_, s.heap.StaysIn h' → Fresh s.heap h' r ta → Fresh s.heap h' o to_ → RuleIn [(r, ta), (o, to_)] (.ref r) (if kd = 0 then rA p else rB p) → Q (.ref r) { s with heap := h', toks := tk }) :
   wpAny (model PG w) A (call (.ref 160) [.ref a, .ref b]) Q E s := by
  (try k_fold)
  refine byGoal fun P9 k9 => ?_
  obtain ⟨r1, w1, n1, e1, i1, j1, t1⟩ := q1
  refine k9 ?_
  clear k9 P9
  (try k_fold)
  refine byGoal fun P9 k9 => ?_
  obtain ⟨r2, w2, n2, e2, i2, j2, t2⟩ := q2
  refine k9 ?_
  clear k9 P9
  cases e1; cases e2
  have g1 := N _ i1
  have g2 := N _ i2
  have key : ∀ (x0 x1 x2 x3 x4 : Int) {u0 u1 u2 u3 u4 : Tok}, (256 ≤ x0 ∧ 256 ≤ x2 ∧ 256 ≤ x4) → (∀ y u, Value.int y u ∈ [Value.int x0 u0, Value.int x1 u1, Value.int x2 u2, Value.int x3 u3, Value.int x4 u4] → @Ne Nat u 0 ∧ (256 ≤ y → @LE.le Nat _ m2 u ∧ @LT.lt Nat _ u hi)) →
      (m1 ≤ u0 ∧ m1 ≤ u2 ∧ m1 ≤ u4) ∧ (u0 ≠ 0 ∧ u2 ≠ 0 ∧ u4 ≠ 0) := fun x0 x1 x2 x3 x4 u0 u1 u2 u3 u4 hx ht =>
    ⟨⟨Nat.le_trans hm ((ht x0 u0 (by simp)).2 hx.1).1, Nat.le_trans hm ((ht x2 u2 (by simp)).2 hx.2.1).1, Nat.le_trans hm ((ht x4 u4 (by simp)).2 hx.2.2).1⟩, (ht x0 u0 (by simp)).1, (ht x2 u2 (by simp)).1, (ht x4 u4 (by simp)).1⟩
  have fin : ∀ {v1 v3 : Value} {gap : Nat} {idx : List Int} {rr : RuleP}, idx = [(rr.a : Int), (rr.b : Int), (rr.c : Int)] → rr.gap = gap → v1 = .ref rr.f1 → v3 = .ref rr.f2 → rr.Ok → (if kd = 0 then rA p else rB p) = rr →
      ∀ r o h' tk ys n tg, s.heap.StaysIn h' → Fresh s.heap h' r { cls := .type "tuple", data := .seq #[.int (gap : Nat) tg, .ref o, v1, v3] } → Fresh s.heap h' o (listOf ys n) → IntsAre ys.toList idx → Q (.ref r) { s with heap := h', toks := tk } := by
    intro v1 v3 gap idx rr e1 e2 e3 e4 ok er r o h' tk ys n tg kk f1 f2 hi
    subst e1 e2 e3 e4
    (try k_fold)
    refine byGoal fun P9 k9 => ?_
    obtain ⟨ta, tb, tc, ey⟩ := ints_three hi
    refine k9 ?_
    clear k9 P9
    have ey : ys = #[.int (rr.a : Nat) ta, .int (rr.b : Nat) tb, .int (rr.c : Nat) tc] := by rw [← Array.toList_inj, ey]
    subst ey
    exact h r o h' tk _ _ kk f1 f2 (by rw [er]; exact ⟨r, o, tg, ta, tb, tc, n, rfl, .head _, .tail _ (.head _), ok⟩)
  have hk : kd = 0 ∨ kd = 1 := by exact Mine.om197 hkd
  have hpp : p = 0 ∨ p = 1 := by exact Mine.om197 hp
  rcases hk with rfl | rfl <;> rcases hpp with rfl | rfl
  · obtain ⟨rfl, rfl⟩ : c1 = [256, 258, 52, 257] ∧ c2 = [256, 29, 257, 20, 258] := by
      have : cutsW 0 0 = [[256, 258, 52, 257], [256, 29, 257, 20, 258]] := by decide
      rw [this] at hc; injection hc with a b; injection b with b; exact ⟨a.symm, b.symm⟩
    (try k_fold)
    refine byGoal fun P9 k9 => ?_
    obtain ⟨t0, t1', t2', t3, rfl⟩ := ints_four j1
    refine k9 ?_
    clear k9 P9
    (try k_fold)
    refine byGoal fun P9 k9 => ?_
    obtain ⟨u0, u1, u2, u3, u4, rfl⟩ := ints_five j2
    refine k9 ?_
    clear k9 P9
    obtain ⟨ku, ku'⟩ := key _ _ _ _ _ (by decide) t2
    refine c_ruleA G st R ⟨_, g1, rfl, n1, rfl⟩ ⟨_, g2, rfl, n2, rfl⟩ m1 hh ⟨⟨(t1 256 t0 (by simp)).1, (t1 258 t1' (by simp)).1, (t1 52 t2' (by simp)).1, (t1 257 t3 (by simp)).1⟩, ((t1 256 t0 (by simp)).2 (by decide)).2, ((t1 258 t1' (by simp)).2 (by decide)).2, ((t1 257 t3 (by simp)).2 (by decide)).2⟩ ku ku' (by decide) rfl rfl (fin (rr := rA 0) (by decide) rfl rfl rfl ⟨by decide, by decide, by decide, .inr (.inl rfl), .inl rfl⟩ rfl)
  · obtain ⟨rfl, rfl⟩ : c1 = [256, 258, 52, 257] ∧ c2 = [258, 21, 257, 30, 256] := by
      have : cutsW 1 0 = [[256, 258, 52, 257], [258, 21, 257, 30, 256]] := by decide
      rw [this] at hc; injection hc with a b; injection b with b; exact ⟨a.symm, b.symm⟩
    (try k_fold)
    refine byGoal fun P9 k9 => ?_
    obtain ⟨t0, t1', t2', t3, rfl⟩ := ints_four j1
    refine k9 ?_
    clear k9 P9
    (try k_fold)
    refine byGoal fun P9 k9 => ?_
    obtain ⟨u0, u1, u2, u3, u4, rfl⟩ := ints_five j2
    refine k9 ?_
    clear k9 P9
    obtain ⟨ku, ku'⟩ := key _ _ _ _ _ (by decide) t2
    refine c_ruleA G st R ⟨_, g1, rfl, n1, rfl⟩ ⟨_, g2, rfl, n2, rfl⟩ m1 hh ⟨⟨(t1 256 t0 (by simp)).1, (t1 258 t1' (by simp)).1, (t1 52 t2' (by simp)).1, (t1 257 t3 (by simp)).1⟩, ((t1 256 t0 (by simp)).2 (by decide)).2, ((t1 258 t1' (by simp)).2 (by decide)).2, ((t1 257 t3 (by simp)).2 (by decide)).2⟩ ku ku' (by decide) rfl rfl (fin (rr := rA 1) (by decide) rfl rfl rfl ⟨by decide, by decide, by decide, .inr (.inr (.inr rfl)), .inr (.inr (.inl rfl))⟩ rfl)
  · obtain ⟨rfl, rfl⟩ : c1 = [257, 52, 256, 258] ∧ c2 = [256, 20, 257, 29, 258] := by
      have : cutsW 0 1 = [[257, 52, 256, 258], [256, 20, 257, 29, 258]] := by decide
      rw [this] at hc; injection hc with a b; injection b with b; exact ⟨a.symm, b.symm⟩
    (try k_fold)
    refine byGoal fun P9 k9 => ?_
    obtain ⟨t0, t1', t2', t3, rfl⟩ := ints_four j1
    refine k9 ?_
    clear k9 P9
    (try k_fold)
    refine byGoal fun P9 k9 => ?_
    obtain ⟨u0, u1, u2, u3, u4, rfl⟩ := ints_five j2
    refine k9 ?_
    clear k9 P9
    obtain ⟨ku, ku'⟩ := key _ _ _ _ _ (by decide) t2
    refine c_ruleB G st R ⟨_, g1, rfl, n1, rfl⟩ ⟨_, g2, rfl, n2, rfl⟩ m1 hh ⟨⟨(t1 257 t0 (by simp)).1, (t1 52 t1' (by simp)).1, (t1 256 t2' (by simp)).1, (t1 258 t3 (by simp)).1⟩, ((t1 257 t0 (by simp)).2 (by decide)).2, ((t1 256 t2' (by simp)).2 (by decide)).2, ((t1 258 t3 (by simp)).2 (by decide)).2⟩ ku ku' (by decide) rfl rfl (fin (rr := rB 0) (by decide) rfl rfl rfl ⟨by decide, by decide, by decide, .inl rfl, .inr (.inl rfl)⟩ rfl)
  · obtain ⟨rfl, rfl⟩ : c1 = [257, 52, 256, 258] ∧ c2 = [258, 30, 257, 21, 256] := by
      have : cutsW 1 1 = [[257, 52, 256, 258], [258, 30, 257, 21, 256]] := by decide
      rw [this] at hc; injection hc with a b; injection b with b; exact ⟨a.symm, b.symm⟩
    (try k_fold)
    refine byGoal fun P9 k9 => ?_
    obtain ⟨t0, t1', t2', t3, rfl⟩ := ints_four j1
    refine k9 ?_
    clear k9 P9
    (try k_fold)
    refine byGoal fun P9 k9 => ?_
    obtain ⟨u0, u1, u2, u3, u4, rfl⟩ := ints_five j2
    refine k9 ?_
    clear k9 P9
    obtain ⟨ku, ku'⟩ := key _ _ _ _ _ (by decide) t2
    refine c_ruleB G st R ⟨_, g1, rfl, n1, rfl⟩ ⟨_, g2, rfl, n2, rfl⟩ m1 hh ⟨⟨(t1 257 t0 (by simp)).1, (t1 52 t1' (by simp)).1, (t1 256 t2' (by simp)).1, (t1 258 t3 (by simp)).1⟩, ((t1 257 t0 (by simp)).2 (by decide)).2, ((t1 256 t2' (by simp)).2 (by decide)).2, ((t1 258 t3 (by simp)).2 (by decide)).2⟩ ku ku' (by decide) rfl rfl (fin (rr := rB 1) (by decide) rfl rfl rfl ⟨by decide, by decide, by decide, .inr (.inr (.inl rfl)), .inr (.inr (.inr rfl))⟩ rfl)
end
end Mine
end
section
set_option maxHeartbeats 1000000
namespace Mine
theorem rising_le : ∀ (cs : List Nat) (a : Nat), risingS (S [a]) (cs.map fun c => S [c]) = true → (a :: cs).Pairwise (· ≤ ·)
  | [], a, _ => by simp
  | c :: cs, a, h => by
    have h : (!ltCps (S [c]).cps.toList (S [a]).cps.toList && risingS (S [c]) (cs.map fun c => S [c])) = true := h
    rw [Bool.and_eq_true] at h
    have h2 := rising_le cs c h.2
    have h1 : a ≤ c := by
      have := h.1
      simp [ltCps] at this
      exact Mine.om43 this
    refine List.pairwise_cons.mpr ⟨fun x hx => ?_, h2⟩
    rcases List.mem_cons.mp hx with rfl | hx
    · exact h1
    · exact Nat.le_trans h1 ((List.pairwise_cons.mp h2).1 x hx)
theorem sorted_le {cs : List Nat} (h : sortedS (cs.map fun c => S [c]) = true) : cs.Pairwise (· ≤ ·) := by
  cases cs with
  | nil => exact .nil
  | cons c cs => exact rising_le cs c h
theorem perm_map_back {ss : List Str} {l : List Nat} (h : ss.Perm (l.map fun c => S [c])) : ∃ cs : List Nat, ss = cs.map (fun c => S [c]) ∧ cs.Perm l := by
  refine ⟨ss.map fun x => x.cps.toList.headD 0, ?_, ?_⟩
  · rw [List.map_map]
    conv => lhs; rw [← List.map_id ss]
    refine List.map_congr_left fun x hx => ?_
    (try k_fold)
    refine byGoal fun P9 k9 => ?_
    obtain ⟨c, _, rfl⟩ := List.mem_map.mp (h.mem_iff.mp hx)
    refine k9 ?_
    clear k9 P9
    rfl
  · have := h.map fun x => x.cps.toList.headD 0
    rw [List.map_map] at this
    have e : (l.map ((fun x : Str => x.cps.toList.headD 0) ∘ fun c => S [c])) = l := by
      conv => rhs; rw [← List.map_id l]
      exact List.map_congr_left fun c _ => rfl
    rwa [e] at this
section
variable {w : World} {A : Around} {E : Value → Shared → Prop} {s : Shared} {Q : Value → Shared → Prop} {t : Tok}
theorem c_sorted {l : List Nat} (hh : A.handled = none) (hz : l.length < 64)
    (h : ∀ D h' tk vs e (cs : List Nat), s.heap.StaysIn h' → Fresh s.heap h' D (listOf (List.toArray vs) e) → StrsAre vs (cs.map fun c => S [c]) → cs.Perm l → cs.Pairwise (· ≤ ·) → Q (.ref D) { s with heap := h', toks := tk }) :
    wpAny (model PG w) A (call (.builtin "sorted") [.str (S l) t]) Q E s := by
  refine Calls.call_function_entry kind_sorted plain_sorted entry_sorted (args_sorted1 _) ?_
  unfold Builtin.«sorted»
  refine wpAny_bind (m := checkCount "sorted" 1 1 _) (wpAny_pure ?_)
  refine wpAny_bind (wpAny_collect_str (A := A.in1) (show A.in1.handled = none from hh) (S l) t (fun s' acc kf e1 e2 e3 I => ?_) (by rw [show (S l).cps.size = l.length by simp]; have : sizeLine = 16777216 := rfl; exact Mine.om200 hz this))
  have hn : acc.size = l.length := by rw [I.1]; simp
  refine wpAny_bind (wpAny_newList ?_ (by rw [Array.length_toList, hn]; have : sizeLine = 16777216 := rfl; exact Mine.om200 hz this))
  have hS : StrsAre acc.toList (l.map fun c => S [c]) := by
    have : (l.map fun c => S [c]) = (List.range l.length).map fun i => S [l.getD i 0] := by
      refine List.ext_getElem (by simp) fun i h1 h2 => ?_
      have : i < l.length := by simpa using h1
      simp [List.getElem?_eq_getElem this]
    rw [this]
    refine strsAre_of (f := fun i => S [l.getD i 0]) (by simpa using hn) fun j y e => ?_
    (try k_fold)
    refine byGoal fun P9 k9 => ?_
    obtain ⟨c, u, hc, rfl⟩ := I.2 j y (by simpa using e)
    refine k9 ?_
    clear k9 P9
    have hc : l[j]? = some c := by simpa using hc
    exact ⟨u, by rw [List.getD_eq_getElem?_getD, hc]; rfl⟩
  (try k_fold)
  refine byGoal fun P9 k9 => ?_
  obtain ⟨h0, g0, d0, t0, p0⟩ := s'
  refine k9 ?_
  clear k9 P9
  simp only at kf e1 e2 e3
  subst e1 e2 e3
  have hoL : (h0.push (seqObj "list" acc.toList.toArray 0)).get? h0.objs.size = some (seqObj "list" acc.toList.toArray 0) := Heap.get?_push_size _ rfl
  show wpAny _ _ _ _ _ { s with heap := h0.push (seqObj "list" acc.toList.toArray 0), toks := t0 }
  refine wpAny_bind (wpAny_holding (wpAny_call_entry slot_list_sort ⟨_, hoL, rfl⟩ entry_list_sort (list_sort_treeK (s := { s with heap := h0.push (seqObj "list" acc.toList.toArray 0), toks := t0 }) strKind_oneLt hoL hS.keysOf (fun v₁ v₂ rest e => keyKind_strs (by rw [← e]; exact hS)) (by simpa [hn] using hz) fun st' a1 a2 => ⟨_, rfl, ?_⟩) (args_list_sort _)))
  refine wpAny_pure ⟨_, rfl, ?_⟩
  (try k_fold)
  refine byGoal fun P9 k9 => ?_
  obtain ⟨ss', b1, b2, b3⟩ := sorted_out_str hS a1 a2
  refine k9 ?_
  clear k9 P9
  (try k_fold)
  refine byGoal fun P9 k9 => ?_
  obtain ⟨cs, rfl, hp⟩ := perm_map_back b2
  refine k9 ?_
  clear k9 P9
  obtain ⟨e, he⟩ := sortedHeap_at (vs := acc.toList) (out := (arrOf st').map (·.2)) hoL
  refine h h0.objs.size _ t0 ((arrOf st').map (·.2)).toList e cs ?_ ⟨?_, he⟩ b1 hp (sorted_le b3)
  · intro b o hb
    have hb0 := kf b o hb
    have hlt := Heap.lt_size hb0
    rw [sortedHeap_old (Nat.ne_of_lt hlt) (by rw [size_push']; exact Nat.lt_succ_of_lt hlt), Heap.get?_push_ne _ _ _ (Nat.ne_of_lt hlt)]
    exact hb0
  · cases q : s.heap.get? h0.objs.size with
    | none => rfl
    | some o => exact absurd (Heap.lt_size (kf _ _ q)) (Nat.lt_irrefl _)
end
end Mine
end
section
set_option maxHeartbeats 1000000
namespace Mine
noncomputable def trD : Tr → PyData
  | .nil => .list []
  | .node c l r => .list [.str (S [c]), trD l, trD r]
noncomputable def okL : Tr → Prop
  | .nil => True
  | .node c l r => c < 128 ∧ okL l ∧ okL r
theorem trD_lay : ∀ {T : Tr}, okL T → PyData.canLay0 (trD T) = true
  | .nil, _ => rfl
  | .node c l r, ⟨h, hl, hr⟩ => by
    have : PyData.strOk (S [c]) = true := strOk_S (by simpa using h)
    simp [trD, PyData.canLay0, PyData.canLayAll0, this, trD_lay hl, trD_lay hr]
theorem trD_depth : ∀ T : Tr, PyData.depth (trD T) ≤ T.hgt + 1
  | .nil => by simp [trD, PyData.depth, PyData.depthAll]
  | .node c l r => by
    have h1 := trD_depth l
    have h2 := trD_depth r
    have : (Tr.node c l r).hgt = max l.hgt r.hgt + 1 := rfl
    simp only [trD, PyData.depth, PyData.depthAll]
    exact Mine.om201 h1 h2 this
theorem shP_okL (kd : Nat) : ∀ (n : Nat) (l : List Nat), (∀ c ∈ l, c < 128) → okL (shP kd n l)
  | 0, _, _ => trivial
  | n + 1, l, h => by
    unfold shP
    split
    · trivial
    · rename_i hne
      split
      · refine ⟨?_, shP_okL kd n _ fun c hc => h c ((List.dropLast_subset _) (List.mem_filter.mp hc).1), shP_okL kd n _ fun c hc => h c ((List.dropLast_subset _) (List.mem_filter.mp hc).1)⟩
        rw [List.getLastD_eq_getLast?, List.getLast?_eq_some_getLast hne]
        exact h _ (List.getLast_mem hne)
      · refine ⟨?_, shP_okL kd n _ fun c hc => h c (List.mem_of_mem_tail (List.mem_filter.mp hc).1), shP_okL kd n _ fun c hc => h c (List.mem_of_mem_tail (List.mem_filter.mp hc).1)⟩
        cases l with
        | nil => exact absurd rfl hne
        | cons a r => exact h a (.head _)
theorem trD_reads {h : Heap} : ∀ {T : Tr} {v : Value}, TreeAt h T v → ∃ as, Reads h v (trD T) as
  | .nil, _, ⟨a, n, rfl, g⟩ => ⟨_, .list g rfl rfl .nil⟩
  | .node c l r, _, ⟨a, n, vl, vr, t, rfl, g, hl, hr⟩ => by
    obtain ⟨as, q1⟩ := trD_reads hl
    obtain ⟨bs, q2⟩ := trD_reads hr
    exact ⟨_, .list g rfl rfl (.cons (.str _ t) (.cons q1 (.cons q2 .nil)))⟩
/-- the shape's data -/
noncomputable def shD (kd : Nat) (l : List Nat) : PyData := if kd = 2 then .list ((shB l).map PyData.bool) else trD (shP kd 6 l)
def ShIn (objs : List (Addr × Obj)) (kd : Nat) (l : List Nat) (v : Value) : Prop :=
  if kd = 2 then ∃ a n, v = .ref a ∧ (a, listOf ((shB l).map Value.bool).toArray n) ∈ objs else TreeIn objs (shP kd 6 l) v
theorem bools_carried : ∀ bs : List Bool, CarriedAll (bs.map Value.bool) (bs.map PyData.bool)
  | [] => .nil
  | b :: r => .cons (.bool b) (bools_carried r)
theorem bools_lay : ∀ bs : List Bool, PyData.canLayAll0 (bs.map PyData.bool) = true
  | [] => rfl
  | b :: r => by simp [PyData.canLayAll0, PyData.canLay0, bools_lay r]
theorem bools_depth : ∀ bs : List Bool, PyData.depthAll (bs.map PyData.bool) = 0
  | [] => rfl
  | b :: r => by simp [PyData.depthAll, PyData.depth, bools_depth r]
theorem shD_shaped {kd : Nat} {l : List Nat} (h : ∀ c ∈ l, c < 128) : SeqAt.shaped (shD kd l) = true := by
  unfold shD
  split
  · simp [SeqAt.shaped, PyData.canLay0, PyData.depth, bools_lay, bools_depth]
  · have h1 := trD_depth (shP kd 6 l)
    have h2 := shP_hgt kd 6 l
    simp [SeqAt.shaped, trD_lay (shP_okL kd 6 l h)]
    exact Mine.om202 h1 h2
theorem ShIn.reads {objs : List (Addr × Obj)} {h : Heap} (k : ∀ p ∈ objs, h.get? p.1 = some p.2) {kd : Nat} {l : List Nat} {v : Value} (q : ShIn objs kd l v) : ∃ as, Reads h v (shD kd l) as := by
  unfold ShIn at q
  unfold shD
  split at q
  · rename_i e
    rw [if_pos e]
    (try k_fold)
    refine byGoal fun P9 k9 => ?_
    obtain ⟨a, n, rfl, m⟩ := q
    refine k9 ?_
    clear k9 P9
    exact ⟨_, reads_newData ⟨_, k _ m, rfl, n, rfl⟩ (bools_carried _)⟩
  · rename_i e
    rw [if_neg e]
    exact trD_reads (q.at k)
theorem ShIn.ref {objs : List (Addr × Obj)} {kd : Nat} {l : List Nat} {v : Value} (q : ShIn objs kd l v) : ∃ a, v = .ref a := by
  unfold ShIn at q
  split at q
  · obtain ⟨a, n, rfl, _⟩ := q; exact ⟨a, rfl⟩
  · generalize shP kd 6 l = T at q
    cases T with
    | nil => obtain ⟨a, n, rfl, _⟩ := q; exact ⟨a, rfl⟩
    | node c x y => obtain ⟨a, n, vl, vr, t, rfl, _⟩ := q; exact ⟨a, rfl⟩
theorem clsFold_len {rs : List RuleP} {got : WS} {w : List Nat} : ∀ (ps : List Nat) (st : WS × List Nat), (ps.foldl (clsStep rs got w) st).1.length ≤ st.1.length + ps.length
  | [], _ => Nat.le_refl _
  | p :: ps, st => by
    rw [List.foldl_cons]
    refine Nat.le_trans (clsFold_len ps _) ?_
    have : (clsStep rs got w st p).1.length ≤ st.1.length + 1 := by
      unfold clsStep
      split
      · rw [List.length_append]; exact Nat.le_refl _
      · exact Mine.om131
    rw [List.length_cons]; exact Mine.om203 this
theorem clsRun_len {rs : List RuleP} : ∀ (k : Nat) (st : WS × List Nat × WS), st.1.length ≤ 20 → (clsRun rs k st).1.length ≤ 20
  | 0, _, h => h
  | k + 1, st, h => by
    unfold clsRun
    split
    · rename_i q
      refine clsRun_len k _ ?_
      have := clsFold_len (rs := rs) (got := st.2.2 ++ [st.1.getD st.2.2.length []]) (w := st.1.getD st.2.2.length []) (List.range 4) (st.1, st.2.1)
      have e : (clsTurn rs st).1 = ((List.range 4).foldl (clsStep rs (st.2.2 ++ [st.1.getD st.2.2.length []]) (st.1.getD st.2.2.length [])) (st.1, st.2.1)).1 := rfl
      rw [e]
      rw [List.length_range] at this
      have q2 := q.2
      simp only at this
      exact Mine.om204 q.2 this
    · exact h
theorem shD_eq {kd : Nat} {l w : List Nat} {got : WS} {away : List Nat} (P : Plain kd l got away) (hw : w ∈ got) : shD kd w = shD kd l := by
  unfold shD
  split
  · rename_i e
    rw [((P.pl e).2 w hw).2]
  · rename_i e
    rw [P.sh e w hw]
theorem count_two {got : WS} {w : List Nat} (nd : got.Nodup) (hw : w ∈ got) : ((got.map S) ++ [S w]).count (S w) = 2 := by
  have nd' : (got.map S).Nodup := List.Pairwise.map S (fun a b h e => h (S_inj e)) nd
  rw [List.count_append, nd'.count, if_pos (List.mem_map_of_mem hw)]
  simp
theorem sorted_same {cs ds l : List Nat} {w : List Nat} (h1 : cs.Perm w) (h2 : ds.Perm l) (h : w.Perm l) (s1 : cs.Pairwise (· ≤ ·)) (s2 : ds.Pairwise (· ≤ ·)) : cs = ds :=
  List.Perm.eq_of_pairwise (fun _ _ _ _ a b => Nat.le_antisymm a b) s1 s2 (h1.trans (h.trans h2.symm))
section
variable {w : World} {base : Heap} {A : Around} {E : Value → Shared → Prop} {s : Shared} {Q : Value → Shared → Prop} {k : Nat} {t u : Tok}
theorem c_shape {kd : Nat} {l : List Nat} (hk : kd < 3) (G : G0 w base) (st : base.StaysIn s.heap) (R : Rm A (k + 16)) (hl : l.length = 5) (hpl : kd = 2 → (plP l).length = 5)
   (h : ∀ v h' tk objs, s.heap.StaysIn h' → (∀ p ∈ objs, Fresh s.heap h' p.1 p.2) → ShIn objs kd l v → Q v { s with heap := h', toks := tk }) :
   wpAny (model PG w) A (call (.ref 177) [.str (S l) t, .int (kd : Nat) u]) Q E s := by
  have hk' : kd = 0 ∨ kd = 1 ∨ kd = 2 := by exact Mine.om141 hk
  rcases hk' with rfl | rfl | rfl
  · refine c_shape0 6 G st (k := k) (R.le (by exact Mine.om205)) (by exact Mine.om206 hl) (by exact Mine.om207) ?_
    intro v h' tk objs k1 k2 k3
    exact h v h' tk objs k1 k2 k3
  · refine c_shape1 6 G st (k := k) (R.le (by exact Mine.om205)) (by exact Mine.om206 hl) (by exact Mine.om207) ?_
    intro v h' tk objs k1 k2 k3
    exact h v h' tk objs k1 k2 k3
  · refine c_shape2 (k := k) G st (R.le (by exact Mine.om208)) hl (hpl rfl) ?_
    intro r h' tk n k1 k2
    exact h _ h' tk [(r, listOf ((shB l).map Value.bool).toArray n)] k1 (by simpa using k2) ⟨r, n, rfl, .head _⟩
end
end Mine
end
section
set_option maxHeartbeats 40000000
namespace Mine
example : True := by
  k_with_none
  (k_with "STOPS" => (first | (with_reducible first | show wpAny _ _ (pyIter _) _ _ _ | show wpAny _ _ (exec (Stmt.While _ _ _ _) _) _ _ _ | show wpAny _ _ (exec (Stmt.For _ _ _ _ _) _) _ _ _ | show wpAny _ _ (call (Value.builtin "str.join") _ _) _ _ _ | show EachEnd _ _ _ _ _ _ _ | show TurnEnd _ _ _ _ _ _ _ _ _ | show TurnEndT _ _ _ _ _ _ _ _ _ | show WhileEnd _ _ _ _ _ _ _ _ | show EltEnd _ _ _ _ _ _ _ _ | show EnumEnd _ _ _ _ _ _ _ _) | fail "row"))
  (k_with "SZ" => (first | (first | decide | exact Nat.le_trans (by assumption) (by decide) | exact Nat.le_trans (Nat.le_of_eq (by assumption)) (by decide) | (show 1 ≤ _; decide) | (simp only [str_len_add, *]; first | done | decide | omega)) | fail "row"))
  (k_with "eval Name" => (first | ((k_dflt (((with_reducible refine' ldEp (by k_dflt (with_reducible assumption)) (by k_dflt (rfl)) (by k_dflt (rfl)) (by k_dflt (rfl)) (by k_dflt (decide)) (by k_dflt (first | rfl | assumption)) ?_)); k_whole))) | fail "row"))
  (k_with "loadName" => (first | ((k_dflt (((with_reducible refine' ldnEp (by k_dflt (with_reducible assumption)) (by k_dflt (rfl)) (by k_dflt (rfl)) (by k_dflt (rfl)) (by k_dflt (first | rfl | assumption)) ?_)); k_whole))) | fail "row"))
  (k_with "eval Name" => (first | ((k_dflt (((with_reducible refine' ldKp (by k_dflt (with_reducible assumption)) (by k_dflt (rfl)) (by k_dflt (rfl)) (by k_dflt (rfl)) (by k_dflt (decide)) (by k_dflt (k_mem)) (by k_dflt (assumption)) ?_)); k_whole))) | fail "row"))
  (k_with "eval ListComp" => (first | ((k_dflt ((with_reducible refine' comp_rule (by k_dflt (exact rfl)) ?_ (by k_dflt (rfl)) (by k_dflt (decide)) (by k_dflt (intro _; rfl)))))) | fail "row"))
  (k_with "binaryOp Add str str" => (first | ((k_dflt ((with_reducible refine addSN (by k_dflt (k_extra "SZ")) (by k_dflt (k_extra "SZ")) ?_); intro t9 tk9; revert t9 tk9; intro _ _))) | fail "row"))
  (k_with "compareOp In str str" => (first | (((with_reducible refine inC ?_))) | fail "row"))
  (k_with "KS" => (first | (repeat' (first | ((with_reducible show wpAny _ _ (execs _ _) _ _ _); k_fold) | (k_unfold; (try dsimp only)) | ((fail_if_success (k_extra "STOPS")); walk1) | dsimp only)) | fail "row"))
  (k_with "ite" => (first | ((k_dflt first | (k_closed; first | ((with_reducible refine ite_pos (by k_dflt (decide)) ?_)) | ((with_reducible refine ite_neg (by k_dflt (decide)) ?_))) | ((with_reducible refine split_decN ?_ ?_) <;> intro _))) | fail "row"))
  (k_with "LATS" => (first | (repeat (rename (Later _ _) => la9; have lb9 := leN la9.1; clear la9; (try simp only at lb9))) | fail "row"))
  (k_with "eval Dict" => (first | ((k_dflt ((refine' kdn_int (by k_dflt (rfl)) (by k_dflt (k_asm)) (by k_dflt (first | k_asm | exact News.nil)) (by k_dflt (exact TopRead.nolimit (by k_asm))) (by k_dflt (rfl)) (by k_dflt (rfl)) (by k_dflt (exact List.cons_ne_nil _ _)) (by k_dflt (exact Nat.le_of_ble_eq_true rfl)) ?_); intro d' h' o' F' N' l1 lo' hd'; (try k_lt l1); revert d' h' o' F' N' l1 lo' hd'; intro _ _ _ _ _ _ _ _))) | fail "row"))
  (k_with "binaryOp Add ref ref" => (first | ((k_dflt ((with_reducible refine' addL (by k_dflt (assumption)) (by k_dflt (assumption)) (by k_dflt (is_list)) (by k_dflt (is_list)) (by k_dflt ((simp only [List.length_append, List.length_cons, List.length_nil, sizeLine]; omega))) ?_); intro D9 h9 F9 N9 l9; (try k_lt l9); revert D9 h9 F9 N9 l9; intro _ _ _ _ _))) | fail "row"))
  (k_with "storeName" => (first | ((k_dflt (((with_reducible refine' stKp (by k_dflt (with_reducible assumption)) (by k_dflt (with_reducible assumption)) (by k_dflt (rfl)) (by k_dflt (rfl)) (by k_dflt (rfl)) (by k_dflt (k_updF)) (by k_dflt (assumption)) ?_)); k_whole; intro h9 o9 F9 N9 d9; (try dsimp only at N9); revert h9 o9 F9 N9 d9; intro _ _ _ _ _))) | fail "row"))
  (k_with "JUNK" => (first | (repeat (first | (with_reducible show Str; exact Str.ofString "") | (with_reducible show Value; exact Value.none) | (with_reducible show List (Str × Addr); exact []) | (with_reducible show Addr; exact 0))) | fail "row"))
  (k_with "exec Assign cons ListComp" => (first | ((k_dflt ((with_reducible refine' comp_assign (by k_dflt (exact rfl)) (by k_dflt (rfl)) (by k_dflt (rfl)) (by k_dflt (rfl)) ?_ (by k_dflt (rfl)) (by k_dflt (decide)) (by k_dflt (intro _; rfl)))))) | fail "row"))
  (k_with "SUBL" => (first | (((with_reducible show wpAny _ _ (subscriptTail _ _ (Value.ref _) (Value.int _ _)) _ _ _); k_dflt ((with_reducible refine' subL (by k_dflt (is_list)) (by k_dflt (first | exact rfl | exact (rfl : (0:Int) = ((0:Nat):Int)) | exact (rfl : (1:Int) = ((1:Nat):Int)) | exact (rfl : (2:Int) = ((2:Nat):Int)) | exact (rfl : (3:Int) = ((3:Nat):Int)))) (by k_dflt (first | assumption | rfl)) (by k_dflt (first | decide | omega)) ?_ (by k_dflt (with_unfolding_all rfl)))))) | fail "row"))
  (k_with "subscriptTail" => (first | ((k_extra "SUBL")) | fail "row"))
  (k_with "subscriptTail Name Name ref int" => (first | ((k_extra "SUBL")) | fail "row"))
  (k_with "subscriptTail Name Constant ref int" => (first | ((k_extra "SUBL")) | fail "row"))
  (k_with "subscriptTail" => (first | (((with_reducible show wpAny _ _ (subscriptTail _ _ (Value.ref _) (Value.int _ _)) _ _ _); k_dflt ((with_reducible refine' getI (by k_dflt (with_reducible assumption)) (by k_dflt (k_mem)) (by k_dflt (assumption)) (by k_dflt (assumption)) ?_ (by k_dflt (with_unfolding_all rfl)))))) | fail "row"))
  trivial
example : True := by
  (k_with "PJ" => (first | ((first | exact hC.1 | exact hC.2.1 | exact hC.2.2.1 | exact hC.2.2.2.1 | exact hC.2.2.2.2.1 | exact hC.2.2.2.2.2.1 | exact hC.2.2.2.2.2.2.1 | exact hC.2.2.2.2.2.2.2.1 | exact hC.2.2.2.2.2.2.2.2.1 | exact hC.2.2.2.2.2.2.2.2.2.1 | exact hC.2.2.2.2.2.2.2.2.2.2.1 | exact hC.2.2.2.2.2.2.2.2.2.2.2.1 | exact hC.2.2.2.2.2.2.2.2.2.2.2.2.1 | exact hC.2.2.2.2.2.2.2.2.2.2.2.2.2.1 | exact hC.2 | exact hC.2.2 | exact hC.2.2.2 | exact hC.2.2.2.2 | exact hC.2.2.2.2.2 | exact hC.2.2.2.2.2.2 | exact hC.2.2.2.2.2.2.2 | exact hC.2.2.2.2.2.2.2.2 | exact hC.2.2.2.2.2.2.2.2.2 | exact hC.2.2.2.2.2.2.2.2.2.2 | exact hC.2.2.2.2.2.2.2.2.2.2.2 | exact hC.2.2.2.2.2.2.2.2.2.2.2.2 | exact hC.2.2.2.2.2.2.2.2.2.2.2.2.2)) | fail "row"))
  (k_with "LT" => (first | (((repeat (first | exact Nat.lt_succ_self _ | (with_reducible assumption) | refine Nat.lt_succ_of_lt ?_)); done)) | fail "row"))
  (k_with "NE" => (first | ((refine neN ?_; (try dsimp only); first | exact Hold.out (by assumption) | exact Nat.ne_of_lt (by assumption) | exact Nat.ne_of_gt (by assumption) | (refine Nat.ne_of_lt ?_; k_extra "LT"; done) | (refine Nat.ne_of_gt ?_; k_extra "LT"; done) | exact Nat.ne_of_gt (lt2 (by assumption) (fun hC => by k_extra "PJ")) | exact Nat.ne_of_lt (lt2 (by assumption) (fun hC => by k_extra "PJ")) | exact ne2 (by assumption) (fun hC => by k_extra "PJ") | exact Ne.symm (ne2 (by assumption) (fun hC => by k_extra "PJ")) | exact Nat.ne_of_gt (ltM (by assumption) (by k_mem)) | exact Nat.ne_of_gt (ltM (Hold.out (by assumption)) (by k_mem)))) | fail "row"))
  trivial

example : True := by
  (k_with "STOPS" => (first | (with_reducible first | show wpAny _ _ (call (Value.ref _) _ _) _ _ _ | show wpAny _ _ (compareOp _ (Value.ref _) (Value.ref _)) _ _ _ | show wpAny _ _ (execs (_ :: _) _) _ _ _ | show wpAny _ _ (call (Value.builtin "sorted") _) _ _ _ | show wpAny _ _ (eval (Expr.IfExp _ _ _ _) _) _ _ _ | show TurnEndK _ _ _ _ _ _ _ _ _ | show wpAny _ _ (subscriptTail _ (Expr.Slice _ _ _ _) _ _) _ _ _) | fail "row"))
  (k_with "call builtin:len" => (first | (((with_reducible show wpAny _ _ (call (Value.builtin "len") [Value.ref _]) _ _ _); k_dflt ((refine' call_len_list (by k_dflt (is_list)) (by k_dflt (omega)) ?_)))) | fail "row"))
  (k_with "KQ" => (first | (((with_reducible refine execs_consL ?_); (repeat (first | (k_unfold; (try dsimp only)) | ((fail_if_success (k_extra "STOPS")); (fail_if_success (with_reducible show wpAny _ _ (call (Value.type "range") _) _ _ _)); walk1) | dsimp only)))) | fail "row"))
  (k_with "assign" => (first | ((k_dflt ((with_reducible refine' unpackT (by k_dflt (assumption)) (by k_dflt (assumption)) (by k_dflt (exact Rm.h (Rm.deeper (by assumption) _))) (by k_dflt (assumption)) (by k_dflt (rfl)) (by k_dflt (rfl)) ?_); k_whole; intro h9 F9 N9 k9; revert h9 F9 N9 k9; intro _ _ _ _))) | fail "row"))
  (k_with "KR" => (first | (repeat (first | (k_unfold; (try dsimp only)) | ((fail_if_success (k_extra "STOPS")); (fail_if_success (with_reducible show wpAny _ _ (subscriptTail _ _ (Value.ref _) (Value.int _ _)) _ _ _)); walk1) | dsimp only)) | fail "row"))
  (k_with "KC" => (first | (repeat (first | (k_unfold; (try dsimp only)) | ((fail_if_success (k_extra "STOPS")); (fail_if_success (with_reducible show wpAny _ _ (subscriptTail _ _ (Value.ref _) (Value.int _ _)) _ _ _)); (fail_if_success (with_reducible show wpAny _ _ (eval (Expr.Name (Str.ofString "cut") _) _) _ _ _)); walk1) | dsimp only)) | fail "row"))
  (k_with "callWith ref" => (first | (((with_reducible show wpAny _ _ (callWith _ (Value.ref _) _ (backTo _ (starEach [] _)) []) _ _ _); k_dflt (refine' callWith_K0 (by k_dflt (exact Frag.In.keeps (by with_reducible assumption) (Fr.keep (by with_reducible assumption)))) (by k_dflt (k_is)) ?_; k_whole))) | fail "row"))
  (k_with "callWith ref" => (first | (((with_reducible show wpAny _ _ (callWith _ (Value.ref _) _ (backTo _ (starEach (_ :: _) _)) []) _ _ _); k_dflt (refine' callWith_K (by k_dflt (with_reducible assumption)) (by k_dflt (k_is)) ?_; k_whole))) | fail "row"))
  (k_with "KZ" => (first | (repeat (first | (k_unfold; (try dsimp only)) | ((fail_if_success (with_reducible show (Flow.ret _ = _) ∧ _)); walk1) | dsimp only)) | fail "row"))
  (k_with "KX" => (first | (((with_reducible refine execs_consL ?_); k_extra "KS")) | fail "row"))
  (k_with "binaryOp Add str str" => (first | ((k_dflt ((with_reducible refine addSl (by k_dflt (k_extra "SZ")) (by k_dflt (k_extra "SZ")) ?_); intro t9 tk9 l9; revert t9 tk9 l9; intro _ _ _))) | fail "row"))
  (k_with "UPD" => (first | (first | k_updF | (refine' UpdF.app (by k_dflt (k_extra "UPD")) (by k_dflt ((intro p hp; refine ((by k_dflt (assumption)) : OwnOff _ _) p hp _ (by k_dflt (simp))))))) | fail "row"))
  (k_with "storeName" => (first | ((k_dflt (((with_reducible refine' stKp (by k_dflt (with_reducible assumption)) (by k_dflt (with_reducible assumption)) (by k_dflt (rfl)) (by k_dflt (rfl)) (by k_dflt (rfl)) (by k_dflt (k_extra "UPD")) (by k_dflt (assumption)) ?_)); k_whole; intro h9 o9 F9 N9 d9; (try dsimp only at N9); revert h9 o9 F9 N9 d9; intro _ _ _ _ _))) | fail "row"))
  (k_with "binaryOp Add ref ref" => (first | ((k_dflt ((with_reducible refine' addL (by k_dflt (assumption)) (by k_dflt (assumption)) (by k_dflt (is_list)) (by k_dflt (is_list)) (by k_dflt ((simp only [List.length_append, List.length_cons, List.length_nil, sizeLine]; omega))) ?_); intro D9 h9 F9 N9 l9; revert D9 h9 F9 N9 l9; intro _ _ _ _ _))) | fail "row"))
  trivial
theorem news_ne {g h h' : Heap} {L a : Addr} {o : Obj} {ld : List (Addr × Obj)} (N : News g L h ld) (f : Fresh h h' a o) : ∀ p ∈ ld, @Ne Nat p.1 a := fun p hp q => by
  have q : p.1 = a := q
  have e := (N p hp).1
  rw [q, f.new] at e; cases e
theorem ne_ints {prog : Program} {w : World} {A : Around} {E : Value → Shared → Prop} {s : Shared} {a b : Addr} {xs ys : List Value} {ns : List Int} {Q : Value → Shared → Prop} (ha : s.heap.IsList a xs.toArray) (hb : s.heap.IsList b ys.toArray) (hi : IntsAre xs ns) (hj : IntsAre ys ns) (hu : A.units + 64 < cLine) (h : Q (.bool false) s) :
    wpAny (model prog w) A (compareOp .NotEq (.ref a) (.ref b)) Q E s := ke_ne_ints ha hb hi hj hu (by rw [decide_eq_true rfl]; exact h)
theorem withMem {x : Addr × Obj} {l : List (Addr × Obj)} {P : Prop} {Q : Addr × Obj → Prop} (_ : ∀ p ∈ l, Q p) (h : x ∈ l) (k : x ∈ l → P) : P := k h
theorem lt3 {q : Nat} (h : q < 3) : q = 0 ∨ q = 1 ∨ q = 2 := by exact Mine.om141 h
theorem nt3 {a b c : Str} {u0 u1 u2 : Tok} {tk : Nat} (h0 : u0 ≠ 0 ∧ u0 < tk) (h1 : u1 ≠ 0 ∧ u1 < tk) (h2 : u2 ≠ 0 ∧ u2 < tk) : ∀ y u, Value.str y u ∈ [Value.str a u0, Value.str b u1, Value.str c u2] → u ≠ 0 ∧ u < tk := fun y u hu => by
  simp only [List.mem_cons, List.not_mem_nil, or_false, Value.str.injEq] at hu
  rcases hu with ⟨-, rfl⟩ | ⟨-, rfl⟩ | ⟨-, rfl⟩
  · exact h0
  · exact h1
  · exact h2
inductive Names3 (f : Nat → Nat) (tk : Nat) (ys : List Value) : Prop
  | mk (u0 u1 u2 : Tok) (e : ys = [.str (S [f 0]) u0, .str (S [f 1]) u1, .str (S [f 2]) u2]) (n0 : @Ne Nat u0 0) (t0 : @LT.lt Nat _ u0 tk) (n1 : @Ne Nat u1 0) (t1 : @LT.lt Nat _ u1 tk) (n2 : @Ne Nat u2 0) (t2 : @LT.lt Nat _ u2 tk)
theorem names3 {f : Nat → Nat} {tk : Nat} {ys : List Value} (hl : ys.length = 3) (hR : ∀ (i : Nat) (y : Value), ys[i]? = some y → ∃ t, y = .str (S [f i]) t ∧ @Ne Nat t 0 ∧ @LT.lt Nat _ t tk) : Names3 f tk ys :=
  list3 hl fun a b c e => by
    subst e
    obtain ⟨u0, rfl, p0, q0⟩ := hR 0 _ rfl
    obtain ⟨u1, rfl, p1, q1⟩ := hR 1 _ rfl
    obtain ⟨u2, rfl, p2, q2⟩ := hR 2 _ rfl
    exact ⟨u0, u1, u2, rfl, p0, q0, p1, q1, p2, q2⟩
inductive LexJ (P : Params) (a : Lx) (rest : List (Addr × Obj)) (f : Nat → List Nat) (c : Nat) (z : Int) (W2 : List (List Nat)) (i : Nat) (ys : List Value) (ld : List (Addr × Obj)) : Prop
  | mk (ysD : List Value) (nD : Nat) (ln : Int) (tl : Tok) (txt jk : List Nat) (e : ld = lexLd P a ysD nD 0 ln tl ++ rest) (q1 : StrsAre ysD (txt.map fun c => S [c])) (q2 : ysD.length ≤ 1000) (q3 : ∀ c ∈ jk, isW c) (q4 : txt = jk ++ tailT f c i) (q5 : ln + (txt.count 10 : Nat) = z) (q6 : StrsAre ys ((W2.take i).map S))
theorem law_holds : PySem.Challenge.rw_to0019_01.Holds := Mine.hd (by
  k_go0
  (all_goals try k_fold)
  rename_i w s₀ s₁ mg mb GG YY fa oo pm cd doc ho hcd hgens XX VV TT BB TE TW ns hs1 hs2 hs3 hs4 hs5 wa1 wa2 sl vs wa3 hsl hra hwell hreads hints hra2 hlen htrue hD h₁ tk₁ o1 o2 o3 o4 o5 o6 d1 d2 d3 d4 d5 d6 XC X T K F N l0
  have hlen63 : ns.length ≤ 63 := by exact Mine.om142 hlen
  clear hD XC ho hcd hT8 hT9 GG YY XX VV TT BB TE TW hs1 hs2 hs3 hs4 hs5 hra hwell hreads hra2 hsl htrue hlen
  change o1.data = .cell none at d1
  change o2.data = .cell none at d2
  change o3.data = .cell none at d3
  change o4.data = .cell none at d4
  change o5.data = .cell none at d5
  change o6.data = .cell none at d6
  generalize ghostOf s₁.heap [(128, 124)] = g at *
  generalize s₁.heap.objs.size = L at *
  have G' : G0 w g := ⟨X, _, _, _, _, topRead_of T⟩
  have T' := topRead_of T
  have hK : Below callerA g [] g ∧ True := ⟨K, trivial⟩
  clear K
  have R : Rm callerA 60 := ⟨by decide, by decide, rfl⟩
  have R' := R.deeper
  have hU := R.units
  have TK : Top _ _ _ _ _ g ∧ True := ⟨T, trivial⟩
  clear T
  have X' := X
  have hns : IntsAre vs ns ∧ True := ⟨hints, trivial⟩
  have zvs : vs.length ≤ 63 := by rw [intsAre_len hints]; exact hlen63
  clear hints
  have hsl : g.IsList sl vs.toArray := by assumption
  refine wpAny_mono (Q := fun fl s' => fl = .ret (.bool true) ∧ ∃ h' tk ps, s' = { s₁ with heap := h', toks := tk } ∧ (∀ b o, g.get? b = some o → h'.get? b = some o) ∧ h'.get? 124 = some (tabObj ps)) (E := NoE) ?_ ?_ (fun _ _ x => x.elim)
  · k_extra "KX"
    rename (News _ _ _ _) => N1
    rename (Fr _ _ _ _) => F1
    refine c_cells G' (Fr.keep F1) (k := 0) ((R.deeper _).le (by exact Mine.om143)) (isList_keep hsl (Fr.keep F1)) hns.1 zvs ?_
    intro cA h2 tk2 c0 c1 c2 t0 t1 t2 nC k2 f2
    have ne2 := news_ne N1 f2
    have wc1 : Hold (@Ne Nat cA (L + 1)) := ⟨Ne.symm (ne2 (L + 1, _) (by k_mem))⟩
    have wc2 : Hold (@Ne Nat cA (L + 1 + 1)) := ⟨Ne.symm (ne2 (L + 1 + 1, _) (by k_mem))⟩
    have wc3 : Hold (@Ne Nat cA (L + 1 + 1 + 1)) := ⟨Ne.symm (ne2 (L + 1 + 1 + 1, _) (by k_mem))⟩
    have wc4 : Hold (@Ne Nat cA (L + 1 + 1 + 1 + 1)) := ⟨Ne.symm (ne2 (L + 1 + 1 + 1 + 1, _) (by k_mem))⟩
    have wc5 : Hold (@Ne Nat cA (L + 1 + 1 + 1 + 1 + 1)) := ⟨Ne.symm (ne2 (L + 1 + 1 + 1 + 1 + 1, _) (by k_mem))⟩
    have wc6 : Hold (@Ne Nat cA (L + 1 + 1 + 1 + 1 + 1 + 1)) := ⟨Ne.symm (ne2 (L + 1 + 1 + 1 + 1 + 1 + 1, _) (by k_mem))⟩
    have F2 := fr_stays F1 k2
    have N2 := news_cons (news_stays N1 k2) F1 f2.new f2.at_
    k_extra "KS"
    rename Obj => oC
    rename (_ = Data.cell (some (Value.ref cA))) => dC
    k_extra "KQ"
    refine later ?_
    k_extra "KS"
    k_extra "LATS"
    rename (Fr _ _ _ _) => F3
    rename (News _ _ _ _) => N3
    rename (IsRange _ _ _ _ _ _ _ _) => hir
    refine comp_range (n := 5) (fun i tk y => ∃ t, y = .str (S [letter c0 i]) t) (fun _ _ _ _ _ h => h) (Rm.h (Rm.deeper (by assumption) _)) hir (by decide) F3 N3 ?_ ?_
    · intro i ti h4 tk4 own C m hi htk F4 N4
      (try k_fold)
      refine byGoal fun P9 k9 => ?_
      obtain ⟨q, hq, hq1, hq2⟩ := p5 hi
      refine k9 ?_
      clear k9 P9
      k_extra "KS"
      rw [Int.toNat_natCast, hq]
      refine PyProof.Rows.floordiv_int (a := c0) (by exact Mine.om144 hq1) ?_ (.inl (PyProof.noPylong_small (by exact Mine.om292 hq1 hq2)))
      (try k_fold)
      refine byGoal fun P9 k9 => ?_
      obtain ⟨j, hj, hj5⟩ : ∃ j : Nat, (c0.fdiv q).fmod 5 = (j : Int) ∧ j < 5 := fmodN (c0.fdiv q) (b := 5) (by decide)
      refine k9 ?_
      clear k9 P9
      k_extra "KS"
      refine ⟨_, _, _, rfl, by assumption, by assumption, tk4 + 1 + 1 + 1 + 1 + 1 + 1 + 1, ?_⟩
      rw [hj, show Str.ofString " \"#\\a" = S alf by decide, item_S (letter_at (by rw [hq]; exact hj) hj5)]
    · intro D ys h4 tk4 k4 htk F4 N4 hlt hlen hR
      have hys : StrsAre ys ((startP c0).map fun a => S [a]) := by
        unfold startP; rw [List.map_map]; exact strs_of_each hlen hR
      k_extra "KS"
      refine join1' (News.isList N4 (.head _)) hys (by rw [startP_len]; decide) (by rw [startP_len]; decide) fun tS tk5 hk5 => ?_
      have tS0 : @Ne Nat tS 0 := by
        have h1 := leN hk5.1
        have h2 := leN htk
        simp only at h1 h2
        exact Mine.om145 (by assumption) h1 h2
      have tSl := ltN hk5.2
      have hls := startP_len c0
      have hla := startP_alf c0
      generalize startP c0 = ls at hls hla ⊢
      have N5 := news_sub N4 (fun p hp => List.Mem.tail _ hp)
      clear hR hys N4 hlt hlen
      k_extra "KS"
      rename Obj => oS
      rename (_ = Data.cell (some (Value.str (S ls) tS))) => dS
      k_extra "KX"
      clear F3 N3 hir
      rename (Fr _ _ _ _) => F6
      rename (News _ _ _ _) => N6
      rename (IsRange _ _ _ _ _ _ _ _) => hir
      (try k_fold)
      refine byGoal fun P9 k9 => ?_
      obtain ⟨j, hj, hj6⟩ : ∃ j : Nat, (c1.fdiv 6).fmod 6 = (j : Int) ∧ j < 6 := fmodN (c1.fdiv 6) (b := 6) (by decide)
      refine k9 ?_
      clear k9 P9
      refine comp_range (n := 3) (fun i tk y => ∃ t, y = .str (S [nmL.getD (j + i) 0]) t ∧ @Ne Nat t 0 ∧ @LT.lt Nat _ t tk) (fun _ _ _ _ hab ⟨t, e, h0, hlt⟩ => ⟨t, e, h0, Nat.lt_of_lt_of_le hlt hab⟩) (Rm.h (Rm.deeper (by assumption) _)) hir (by decide) F6 N6 ?_ ?_
      · intro i ti h4 tk4 own C m hi htk F4 N4
        k_extra "KS"
        refine PyProof.Rows.floordiv_int (a := c1) (by decide) ?_ (.inl (PyProof.noPylong_small (by decide)))
        k_extra "KS"
        rw [hj]
        have hjl : j + i < nmL.length := by show _ < 12; exact Mine.om146 hj6 hi
        exact ⟨_, _, _, rfl, by assumption, by assumption, _, by rw [show Txt.mul (Str.ofString "$?`'\" ") 2 = S nmL by decide, ← Int.natCast_add, item_S (c := nmL.getD (j + i) 0) (by rw [List.getD_eq_getElem?_getD, List.getElem?_eq_getElem hjl]; rfl)], Nat.succ_ne_zero _, Nat.lt_succ_self _⟩
      · intro D ys h4 tk4 kM htk F4 N4 hlt hlen hR
        have nlt := ne_of_lts hlt
        have wd3 : Hold (@Ne Nat D (L + 1 + 1 + 1)) := ⟨Ne.symm (nlt (L + 1 + 1 + 1, _) (by k_mem))⟩
        have wd4 : Hold (@Ne Nat D (L + 1 + 1 + 1 + 1)) := ⟨Ne.symm (nlt (L + 1 + 1 + 1 + 1, _) (by k_mem))⟩
        have wd5 : Hold (@Ne Nat D (L + 1 + 1 + 1 + 1 + 1)) := ⟨Ne.symm (nlt (L + 1 + 1 + 1 + 1 + 1, _) (by k_mem))⟩
        have wd6 : Hold (@Ne Nat D (L + 1 + 1 + 1 + 1 + 1 + 1)) := ⟨Ne.symm (nlt (L + 1 + 1 + 1 + 1 + 1 + 1, _) (by k_mem))⟩
        (try k_fold)
        refine byGoal fun P9 k9 => ?_
        obtain ⟨u0, u1, u2, rfl, un0, ut0, un1, ut1, un2, ut2⟩ := names3 (f := fun i => nmL.getD (j + i) 0) hlen hR
        refine k9 ?_
        clear k9 P9
        (try dsimp only at F4 N4 ⊢)
        clear hR hlt
        k_sweep
        rename (Fr _ _ _ _) => F4
        rename (News _ _ _ _) => N4
        repeat (rename (IsRange _ _ _ _ _ _ _ _) => q; clear q)
        repeat (rename (Heap.StaysIn _ _) => q; clear q)
        repeat (rename (Fresh _ _ _ _) => q; clear q)
        k_extra "KS"
        rename Obj => oM
        rename (_ = Data.cell (some (Value.ref D))) => dM
        k_extra "KX"
        k_sweep
        rename (Fr _ _ _ _) => F5
        rename (News _ _ _ _) => N5
        repeat (rename (IsRange _ _ _ _ _ _ _ _) => q; clear q)
        repeat (rename (Heap.StaysIn _ _) => q; clear q)
        repeat (rename (Fresh _ _ _ _) => q; clear q)
        refine later ?_
        refine c_words (c := c1) (tc := t1) G' (Fr.keep F5) (k := 0) ((R.deeper _).le (by exact Mine.om147)) (News.isList N5 (.head _)) rfl rfl rfl ?_
        intro wA hA tkA wv wn kA fA hwv latA
        obtain ⟨wv, rfl⟩ : ∃ l : List Value, wv = l.toArray := ⟨wv.toList, rfl⟩
        replace hwv : StrsAre wv _ := hwv
        (try k_fold)
        refine byGoal fun P9 k9 => ?_
        obtain ⟨pn, hpn, hp2⟩ : ∃ j : Nat, (c1.fdiv 3).fmod 2 = (j : Int) ∧ j < 2 := fmodN (c1.fdiv 3) (b := 2) (by decide)
        refine k9 ?_
        clear k9 P9
        (try k_fold)
        refine byGoal fun P9 k9 => ?_
        obtain ⟨qn, hqn, hq3⟩ : ∃ j : Nat, c1.fmod 3 = (j : Int) ∧ j < 3 := fmodN c1 (b := 3) (by decide)
        refine k9 ?_
        clear k9 P9
        rw [wordsP_S hpn hqn] at hwv
        have hwl : wv.length ≤ 4 := by
          rw [strsAre_length hwv, List.length_map]; exact wordsL_len _ _ _ _ _
        generalize hWS : wordsL pn qn (nmL.getD (j + 0) 0) (nmL.getD (j + 1) 0) (nmL.getD (j + 2) 0) = WL at hwv
        have neA := news_ne N5 fA
        have wa4 : Hold (@Ne Nat wA (L + 1 + 1 + 1 + 1)) := ⟨Ne.symm (neA (L + 1 + 1 + 1 + 1, _) (by k_mem))⟩
        clear neA
        have FA := fr_stays F5 kA
        have NA := news_cons (news_stays N5 kA) F5 fA.new fA.at_
        k_sweep
        rename (Fr _ _ _ _) => FA
        rename (News _ _ _ _) => NA
        repeat (rename (IsRange _ _ _ _ _ _ _ _) => q; clear q)
        repeat (rename (Heap.StaysIn _ _) => q; clear q)
        repeat (rename (Fresh _ _ _ _) => q; clear q)
        k_extra "KS"
        k_sweep
        rename (Fr _ _ _ _) => FB
        rename (News _ _ _ _) => NB
        repeat (rename (IsRange _ _ _ _ _ _ _ _) => q; clear q)
        repeat (rename (Heap.StaysIn _ _) => q; clear q)
        repeat (rename (Fresh _ _ _ _) => q; clear q)
        rename Obj => oW
        rename_i wB _ lB hB dW latW
        k_extra "LATS"
        replace NB := news_d2 NB
        generalize hw2 : wv ++ [Value.str (S ls) tS] = wv2 at NB
        have hst : StrsAre wv2 ((WL ++ [ls]).map S) := by rw [← hw2, List.map_append]; exact strsAre_append hwv (.cons _ _ .nil)
        have hwl2 : wv2.length ≤ 5 := by rw [← hw2, List.length_append]; simp only [List.length_cons, List.length_nil]; exact Mine.om148 hwl
        have zw2 : wv2.toArray.size = wv2.length := rfl
        k_extra "KX"
        rename (IsRange _ _ _ _ _ _ _ _) => hir
        rename (Fr _ _ _ _) => F7
        rename (News _ _ _ _) => N7
        have hwok : ∀ l ∈ WL ++ [ls], okW l := fun l hl => by
          rcases List.mem_append.mp hl with q | q
          · rw [← hWS] at q
            exact wordsJ_ok hp2 hq3 hj6 l q
          · rw [List.mem_singleton.mp q]; exact alf_ok hls hla
        generalize hW2 : WL ++ [ls] = W2 at hst hwok
        refine comp_range (n := wv2.toArray.size) (fun i tk y => ∃ t, y = .str (S (esc (vL c2 i) (W2.getD i []))) t) (fun _ _ _ _ _ h => h) (Rm.h (Rm.deeper (by assumption) _)) hir (by have : sizeLine = 16777216 := rfl; exact Mine.om152 hwl2 zw2 this) F7 N7 ?_ ?_
        · intro i ti h4 tk4 own C m hi htk F4 N4
          (try k_fold)
          refine byGoal fun P9 k9 => ?_
          obtain ⟨q, hq, hq1, hq2⟩ := p3 (i := i) (by exact Mine.om153 hwl2 zw2 hi)
          refine k9 ?_
          clear k9 P9
          (try k_fold)
          refine byGoal fun P9 k9 => ?_
          obtain ⟨y, ty, hy1, hy2⟩ := strsAre_get hst (List.getElem?_eq_getElem (show i < wv2.length from hi))
          refine k9 ?_
          clear k9 P9
          rw [List.getElem?_map] at hy1
          (try k_fold)
          refine byGoal fun P9 k9 => ?_
          obtain ⟨wl, hwl1, rfl⟩ := Option.map_eq_some_iff.mp hy1
          refine k9 ?_
          clear k9 P9
          have hv : wv2.toArray[i]? = some (.str (S wl) ty) := by rw [← hy2]; simpa using List.getElem?_eq_getElem (show i < wv2.length from hi)
          have e3 : vL c2 i = (c2.fdiv q).fmod 3 := by unfold vL; rw [hq]
          have e4 : W2.getD i [] = wl := by rw [List.getD_eq_getElem?_getD, hwl1]; rfl
          have hok := hwok wl (List.mem_of_getElem? hwl1)
          k_extra "KS"
          rw [Int.toNat_natCast, hq]
          refine PyProof.Rows.floordiv_int (a := c2) (by exact Mine.om144 hq1) ?_ (.inl (PyProof.noPylong_small (by exact Mine.om292 hq1 hq2)))
          k_extra "KS"
          rename (Fr _ _ _ _) => F6
          rename (News _ _ _ _) => N6
          refine c_written G' (Fr.keep F6) (k := 0) ((R.deeper _).le (by exact Mine.om147)) (by have := hok.2.1; exact Mine.om154 this) (fun q => by have := hok.1; rw [q] at this; exact absurd this (by decide)) (e3 ▸ vL_3 c2 i) ?_
          intro h6 tk6 t6 k6
          exact fun _ => ⟨_, _, _, rfl, fr_stays F6 k6, news_stays N6 k6, _, by rw [e4, e3]⟩
        · intro D3 ys h4 tk4 k4 htk F4 N4 hlt hlen hR
          have hys := strs_of_each (f := fun i => esc (vL c2 i) (W2.getD i [])) hlen hR
          have h15 : ∀ i, i < wv2.toArray.size → ((fun i => esc (vL c2 i) (W2.getD i [])) i).length ≤ 15 := fun i hi => by
            have e : W2.length = wv2.length := by have := strsAre_length hst; rw [List.length_map] at this; exact this.symm
            refine esc_len _ (hwok _ ?_).2.1
            rw [List.getD_eq_getElem?_getD, List.getElem?_eq_getElem (by exact Mine.om155 zw2 hi e)]
            exact List.getElem_mem _
          obtain ⟨hz1, hz2⟩ := flat_len15 h15
          k_extra "KS"
          refine joinS (News.isList N4 (.head _)) hys (by exact Mine.om156 hwl2 zw2 hz2) fun tT tk5 hk5 _ => ?_
          rw [flat_cps]
          replace N4 := news_d0 N4
          have hz3 : (S ((List.range wv2.toArray.size).flatMap fun i => esc (vL c2 i) (W2.getD i []))).length ≤ 75 := by rw [S_len]; exact Mine.om157 hwl2 zw2 hz1
          generalize hTX : ((List.range wv2.toArray.size).flatMap fun i => esc (vL c2 i) (W2.getD i [])) = TX at hz3 ⊢
          have hWn : W2.length = wv2.toArray.size := by have := strsAre_length hst; rw [List.length_map] at this; exact this.symm
          clear hys hR hz1 hz2 hlt hlen h15
          k_sweep
          rename (Fr _ _ _ _) => F4
          rename (News _ _ _ _) => N4
          repeat (rename (IsRange _ _ _ _ _ _ _ _) => q; clear q)
          repeat (rename (Heap.StaysIn _ _) => q; clear q)
          repeat (rename (Fresh _ _ _ _) => q; clear q)
          k_extra "KS"
          k_sweep
          rename (Fr _ _ _ _) => F6
          rename (News _ _ _ _) => N6
          repeat (rename (IsRange _ _ _ _ _ _ _ _) => q; clear q)
          repeat (rename (Heap.StaysIn _ _) => q; clear q)
          repeat (rename (Fresh _ _ _ _) => q; clear q)
          k_extra "LATS"
          have eT : S TX ++ Str.ofString "..." = S (TX ++ [46, 46, 46]) := by rw [show Str.ofString "..." = S [46, 46, 46] by decide, S_append]
          rw [eT] at F6
          have hz4 : (TX ++ [46, 46, 46]).length ≤ 1000 := by rw [List.length_append]; rw [S_len] at hz3; simp only [List.length_cons, List.length_nil]; exact Mine.om158 hz3
          k_extra "KX"
          refine later ?_
          refine c_lexer G' TK.1 (Fr.keep F6) (k := 0) ((R.deeper _).le (by exact Mine.om143)) hz4 (N6 (124, tabObj #[]) (by k_mem)).1 (N6 (124, tabObj #[]) (by k_mem)).2.2 ?_
          intro a hL tkL tl ysL nL ps124 kL okL fixL hysL hDL nDL hdL ndL hpL npL h124 latL
          obtain ⟨o124, ho124⟩ : ∃ o : Obj, o = tabObj ps124 := ⟨_, rfl⟩
          rw [← ho124] at h124
          have z124 : ∀ k, @Ne Nat (L + k) 124 := fun k => Nat.ne_of_gt (Nat.lt_of_lt_of_le l0 (Nat.le_add_right L k))
          obtain ⟨FL, NL⟩ := news_last (ld := [_, _, _, _, _, _, _, _, _]) F6 N6 (fmc (Nat.ne_of_gt (lB (124, _) (by k_mem))) (fmc (Ne.symm (nlt (124, _) (by k_mem))) (fmc (Ne.symm (ne2 (124, _) (by k_mem))) (fmc (z124 6) (fmc (z124 5) (fmc (z124 4) (fmc (z124 3) (fmc (z124 2) (fmc (z124 1) fmn))))))))) kL h124
          have hn1 := fixP fixL (b := a.cl) (o := a.o9) (by k_mem)
          have hn2 := fixP fixL (b := a.f) (o := giveObj a.cl a.dc a.pm a.c a.ct) (by k_mem)
          have hn3 := fixP fixL (b := a.c) (o := a.oc) (by k_mem)
          have hn4 := fixP fixL (b := a.x2) (o := instObj 108 a.dx2) (by k_mem)
          have hn5 := fixP fixL (b := a.x1) (o := instObj 108 a.dx1) (by k_mem)
          have hn6 := fixP fixL (b := a.dx1) (o := _) (by k_mem)
          have x1 := hn1.1
          have y1 := hn1.2
          have x2 := hn2.1
          have y2 := hn2.2
          have x3 := hn3.1
          have y3 := hn3.2
          have x4 := hn4.1
          have y4 := hn4.2
          have x5 := hn5.1
          have y5 := hn5.2
          have x6 := hn6.1
          have y6 := hn6.2
          clear hn1 hn2 hn3 hn4 hn5 hn6 fixL
          have E1 := news_ne N6 ⟨y1, x1⟩
          have E2 := news_ne N6 ⟨y2, x2⟩
          have E3 := news_ne N6 ⟨y3, x3⟩
          have E4 := news_ne N6 ⟨y4, x4⟩
          have E5 := news_ne N6 ⟨y5, x5⟩
          have E6 := news_ne N6 ⟨y6, x6⟩
          have E7 := news_ne N6 ⟨nDL, hDL⟩
          have E8 := news_ne N6 ⟨ndL, hdL⟩
          have E9 := news_ne N6 ⟨npL, hpL⟩
          have NX := news_cons (news_cons (news_cons (news_cons (news_cons (news_cons (news_cons (news_cons (news_cons NL F6 y6 x6) F6 y5 x5) F6 y3 x3) F6 y2 x2) F6 y1 x1) F6 nDL hDL) F6 npL hpL) F6 ndL hdL) F6 y4 x4
          dsimp only [List.cons_append, List.nil_append] at NX
          clear y1 y2 y3 y4 y5 y6 x1 x2 x3 x4 x5 x6 nDL hDL ndL hdL npL hpL h124 kL NL F6 N6
          have w5 : Hold (@Ne Nat wB (L + 1 + 1 + 1 + 1 + 1)) := ⟨Nat.ne_of_gt (lB (L + 1 + 1 + 1 + 1 + 1, _) (by k_mem))⟩
          have GG : (∀ b ∈ [cA, D, wB, 124], @Ne Nat b (L + 1 + 1 + 1 + 1 + 1 + 1)) := fmc wc6.out (fmc wd6.out (fmc (Nat.ne_of_gt (lB (L + 1 + 1 + 1 + 1 + 1 + 1, _) (by k_mem))) (fmc (Ne.symm (z124 6)) fmn)))
          clear ne2 nlt lB
          refine' stK FL NX rfl ?U ?d ?_ rfl rfl
          case U =>
            refine withMem (x := (L + 1 + 1 + 1 + 1 + 1, o2)) E4 (by k_mem) fun hm => ?_
            exact .tail (Ne.symm (E4 (L + 1 + 1 + 1 + 1 + 1, o2) hm)) (.tail (Ne.symm (E8 _ hm)) (.tail (Ne.symm (E9 _ hm)) (.tail (Ne.symm (E7 _ hm)) (.tail (Ne.symm (E1 _ hm)) (.tail (Ne.symm (E2 _ hm)) (.tail (Ne.symm (E3 _ hm)) (.tail (Ne.symm (E5 _ hm)) (.tail (Ne.symm (E6 _ hm)) (.tail w5.out (.tail wd5.out (.tail wc5.out (.tail (by k_ne) (.head (fmc (by k_ne) (fmc (by k_ne) (fmc (by k_ne) (fmc (by k_ne) (fmc (Ne.symm (z124 5)) fmn))))))))))))))))))
          case d => assumption
          clear w5 wd5 wc5 wd6 wc6 wd4 wd3 wc1 wc2 wc3 wc4 wa4
          intro hX oX FX NX' dX
          clear NX FL
          k_sweep
          rename (Fr _ _ _ _) => F7
          rename (News _ _ _ _) => N7
          repeat (rename (IsRange _ _ _ _ _ _ _ _) => q; clear q)
          repeat (rename (Heap.StaysIn _ _) => q; clear q)
          repeat (rename (Fresh _ _ _ _) => q; clear q)
          k_extra "KS"
          k_extra "LATS"
          k_extra "KX"
          rename (Fr _ _ _ _) => F8
          rename (News _ _ _ _) => N8
          have hT0 : TX ++ [46, 46, 46] = tailT (fun i => esc (vL c2 i) (W2.getD i [])) wv2.toArray.size 0 := by rw [← hTX]; rfl
          refine comp_listJ (vs := wv2) (fun i tk ys ld => LexJ w.params a [(wB, W.listOf wv2.toArray 0), (D, { cls := Value.type "list", data := Data.seq #[Value.str (S [nmL.getD (j + 0) 0]) u0, Value.str (S [nmL.getD (j + 1) 0]) u1, Value.str (S [nmL.getD (j + 2) 0]) u2] kM }), (cA, W.listOf #[Value.int c0 t0, Value.int c1 t1, Value.int c2 t2] nC), (L + 1 + 1 + 1 + 1 + 1 + 1, o1), (L + 1 + 1 + 1 + 1 + 1, oX), (L + 1 + 1 + 1 + 1, oW), (L + 1 + 1 + 1, oM), (L + 1 + 1, oS), (L + 1, oC), (124, o124)] (fun i => esc (vL c2 i) (W2.getD i [])) wv2.toArray.size (1 + ((TX ++ [46, 46, 46]).count 10 : Nat)) W2 i ys ld)
            (Rm.h (Rm.deeper (by assumption) _)) ⟨_, (N8 (wB, W.listOf wv2.toArray 0) (by k_mem)).1, rfl, 0, rfl⟩ (N8 (wB, W.listOf wv2.toArray 0) (by k_mem)).2.1 (by have : sizeLine = 16777216 := rfl; exact Mine.om159 hwl2 this) F8 N8 ⟨ysL, nL, 1, tl, TX ++ [46, 46, 46], [], rfl, hysL, ?_, (fun c h => nomatch h), hT0, rfl, .nil⟩ ?_ ?_
          · have := strsAre_length hysL; rw [List.length_map] at this; exact Mine.om160 hz4 this
          · intro i v ys ld h5 tk5 tk6 own C m hv htk1 htk2 hJa had hoff F9 N9
            (try k_fold)
            refine byGoal fun P9 k9 => ?_
            obtain ⟨ysD, nD, ln, tl', txt, jk, rfl, q1, q2, q3, q4, q5, q6⟩ := hJa
            refine k9 ?_
            clear k9 P9
            dsimp only [lexLd, List.cons_append, List.nil_append] at N9
            k_extra "KS"
            rename (Fr _ _ _ _) => F10
            rename (News _ _ _ _) => N10
            have hiW : i < wv2.toArray.size := (List.getElem?_eq_some_iff.mp hv).1
            rw [tailT_step hiW] at q4
            have hW2 : W2[i]? = some (W2.getD i []) := by rw [List.getD_eq_getElem?_getD, List.getElem?_eq_getElem (hWn ▸ hiW)]; rfl
            have hok := hwok (W2.getD i []) (List.mem_of_getElem? hW2)
            obtain ⟨j', n', hj', hlx⟩ := lexA_rd (v := vL c2 i) (w := W2.getD i []) (tailT (fun i => esc (vL c2 i) (W2.getD i [])) wv2.toArray.size (i + 1)) hok.2.2.1 (fun q => by have := hok.1; rw [q] at this; exact absurd this (by decide)) q3
            replace q4 : txt = jk ++ (esc (vL c2 i) (W2.getD i []) ++ tailT (fun i => esc (vL c2 i) (W2.getD i [])) wv2.toArray.size (i + 1)) := q4
            rw [← q4] at hlx
            have hcnt := lexA_count 0 txt
            rw [hlx] at hcnt
            have oD : ∀ p ∈ own, @Ne Nat p.1 a.D ∧ @Ne Nat p.1 a.dx2 := fun p hp => ⟨hoff p hp a.D (by k_mem) (Ne.symm (E7 (wB, _) (.head _))), hoff p hp a.dx2 (by k_mem) (Ne.symm (E8 (wB, _) (.head _)))⟩
            refine lex_tok (a := a) (ys := ysD) (n := nD) (np := 0) (ln := ln) (tl := tl') (txt := txt) (k := 0) G' F10 N10 ((R.deeper _).le (by exact Mine.om161)) okL (ne_app (l1 := [_, _, _, _, _, _, _, _, _, _]) (A := fun b => @Ne Nat b a.D ∧ @Ne Nat b a.dx2) (ne_map2 E7 E8 rfl) oD) q1 q2 ?_
            intro h7 tk7 t7 tl7 ys7 n7 F11 N11 hys7 hl7
            rw [hlx] at hys7 N11 ⊢
            dsimp only at hys7 hcnt
            exact fun _ => ⟨h7, tk7, _, lexLd w.params a ys7 n7 0 (ln + (n' : Nat)) tl7 ++ [_, _, _, _, _, _, _, _, _, _], rfl, F11, N11, rfl, ⟨ys7, n7, _, tl7, _, j', rfl, hys7, hl7, hj', rfl, by exact Mine.om162 q5 hcnt, by rw [take_succ_of hW2, List.map_append]; exact strsAre_append q6 (.cons _ _ .nil)⟩⟩
          · intro DR ys ld h5 tk5 tk6 kR htk1 htk2 hJa F9 N9 hlt
            (try k_fold)
            refine byGoal fun P9 k9 => ?_
            obtain ⟨ysD, nD, ln, tl', txt, jk, rfl, q1, q2, q3, q4, q5, q6⟩ := hJa
            refine k9 ?_
            clear k9 P9
            dsimp only [lexLd, List.cons_append, List.nil_append] at N9
            have q7 : StrsAre ys (W2.map S) ∧ True := by
              rw [List.take_of_length_le (by rw [hWn]; exact Nat.le_refl _)] at q6
              exact ⟨q6, trivial⟩
            have q1' : StrsAre ysD (txt.map fun c => S [c]) ∧ True := ⟨q1, trivial⟩
            have hst' : StrsAre wv2 (W2.map S) ∧ True := ⟨hst, trivial⟩
            clear q6 q1 hst
            k_extra "KS"
            k_extra "LATS"
            k_extra "KX"
            rename (Fr _ _ _ _) => F10
            rename (News _ _ _ _) => N10
            have hso : ∀ x ∈ W2.map S, PyData.strOk x = true := fun x hx => by
              (try k_fold)
              refine byGoal fun P9 k9 => ?_
              obtain ⟨l, hl, rfl⟩ := List.mem_map.mp hx
              refine k9 ?_
              clear k9 P9
              exact strOk_S (hwok l hl).2.2.2
            refine ne_same (d := .list ((W2.map S).map PyData.str)) (reads_newData ⟨_, (N10 _ (.head _)).1, rfl, kR, rfl⟩ (strs_carried q7.1)) (reads_newData ⟨_, (N10 (wB, W.listOf wv2.toArray 0) (by k_mem)).1, rfl, 0, rfl⟩ (strs_carried hst'.1)) (sh_strs _ hso) (by ke_room) ?_
            replace N10 := news_d0 N10
            k_sweep
            rename (Fr _ _ _ _) => F10
            rename (News _ _ _ _) => N10
            repeat (rename (IsRange _ _ _ _ _ _ _ _) => q; clear q)
            repeat (rename (Heap.StaysIn _ _) => q; clear q)
            repeat (rename (Fresh _ _ _ _) => q; clear q)
            k_extra "KS"
            k_extra "LATS"
            k_extra "KX"
            rename (Fr _ _ _ _) => F11
            rename (News _ _ _ _) => N11
            have hIs : Heap.IsList h5 wB wv2.toArray := ⟨_, (N11 (wB, W.listOf wv2.toArray 0) (by k_mem)).1, rfl, 0, rfl⟩
            have hIz : wv2.toArray.size ≤ sizeLine := Nat.le_trans hwl2 (by decide)
            refine slice_list (s := ⟨h5, s₁.gens, s₁.drawn, _, s₁.os⟩) F11 N11 hIs .none (.int _ _) ?_ (by with_unfolding_all rfl) (by intro _; with_unfolding_all rfl) hIz
            intro h12 F12 N12
            rw [slicePick_init, show wv2.dropLast = wv by rw [← hw2, List.dropLast_concat]] at N12
            have hsl2 := N12 _ (.head _)
            have hnt := nt3 (a := S [nmL.getD (j + 0) 0]) (b := S [nmL.getD (j + 1) 0]) (c := S [nmL.getD (j + 2) 0]) (tk := tk5) ⟨un0, by have := ltN ut0; refine Nat.lt_of_lt_of_le this ?_; exact Mine.om163 (by assumption) (by assumption) (by assumption) (by assumption)⟩ ⟨un1, by have := ltN ut1; refine Nat.lt_of_lt_of_le this ?_; exact Mine.om163 (by assumption) (by assumption) (by assumption) (by assumption)⟩ ⟨un2, by have := ltN ut2; refine Nat.lt_of_lt_of_le this ?_; exact Mine.om163 (by assumption) (by assumption) (by assumption) (by assumption)⟩
            clear un0 un1 un2
            refine hideL (news_d0 N12) fun BB eB NB => ?_
            have hCl : (cutsW pn qn).length = wv.length := by
              rw [cutsW_len hp2 hq3 hj6, strsAre_length hwv, List.length_map, ← hWS]; rfl
            refine comp_listV (vs := wv) (fun i tk ys ld => ∃ cs, ld = BB ++ cs ∧ Cuts cs 0 ys ((cutsW pn qn).take i) tk ∧ Apart cs BB) (Rm.h (Rm.deeper (by assumption) _)) ⟨_, hsl2.1, rfl, 0, rfl⟩ hsl2.2.1 (fun q hq e => ?_) (by have : sizeLine = 16777216 := rfl; exact Mine.om164 hwl this) F12 NB ⟨[], (List.append_nil _).symm, Nat.zero_le _, fun p hp => nomatch hp⟩ ?_ ?_
            · have z : q.1 < h5.objs.size := Heap.lt_size (N11 q (by rw [eB] at hq; exact hq)).1
              have e : q.1 = h5.objs.size + 1 := e
              rw [e] at z
              exact Nat.not_lt_of_le (Nat.le_succ _) z
            · intro i v ys ld h13 tk13 tk0 own C m hv h1 h2 hoff hJa F13 N13
              (try k_fold)
              refine byGoal fun P9 k9 => ?_
              obtain ⟨cs, rfl, hC, hA⟩ := hJa
              refine k9 ?_
              clear k9 P9
              rw [eB] at N13
              simp only [List.cons_append, List.nil_append] at N13
              (try k_fold)
              refine byGoal fun P9 k9 => ?_
              obtain ⟨y, ty, hy1, hy2⟩ := strsAre_get hwv hv
              refine k9 ?_
              clear k9 P9
              rw [List.getElem?_map] at hy1
              (try k_fold)
              refine byGoal fun P9 k9 => ?_
              obtain ⟨wl, hwl1, rfl⟩ := Option.map_eq_some_iff.mp hy1
              refine k9 ?_
              clear k9 P9
              subst hy2
              have hwl2 := hwok wl (hW2 ▸ List.mem_append_left _ (List.mem_of_getElem? hwl1))
              obtain ⟨hc1, hc2⟩ := cut_at hp2 hq3 hj6 (show (wAt pn qn j)[i]? = some wl by rw [← hWS] at hwl1; exact hwl1)
              k_extra "KS"
              rename (Fr _ _ _ _) => F14
              rename (News _ _ _ _) => N14
              have N14' : News g C h13 (BB ++ cs ++ own) := by rw [eB]; exact N14
              have h1' := leN h1
              simp only at h1'
              refine later ?_
              refine c_cut (nv := [Value.str (S [nmL.getD (j + 0) 0]) u0, Value.str (S [nmL.getD (j + 1) 0]) u1, Value.str (S [nmL.getD (j + 2) 0]) u2]) (nm := nmAt j) (k := 0) G' (Fr.keep F14) ((R.deeper _).le (by exact Mine.om143)) (by have := hwl2.2.1; exact Mine.om154 this) ⟨_, (N14 (D, { cls := Value.type "list", data := Data.seq #[Value.str (S [nmL.getD (j + 0) 0]) u0, Value.str (S [nmL.getD (j + 1) 0]) u1, Value.str (S [nmL.getD (j + 2) 0]) u2] kM }) (by k_mem)).1, rfl, kM, rfl⟩ (.cons _ _ (.cons _ _ (.cons _ _ .nil))) (fun y u hu => ⟨(hnt y u hu).1, ?_⟩) ?_ hc2 ?_
              · have := ltN (hnt y u hu).2
                refine Nat.lt_of_lt_of_le this ?_
                show _ ≤ _
                simp only
                exact Mine.om165 h2 h1'
              · show 0 < _
                simp only
                exact Mine.om166 h2 h1'
              · intro r h14 tk14 vsA n14 kk14 fr14 hI hT lat
                have lat := leN lat.1
                simp only at lat
                obtain ⟨ws, rfl⟩ : ∃ l : List Value, vsA = l.toArray := ⟨vsA.toList, rfl⟩
                exact fun _ => ⟨h14, tk14, _, BB ++ (cs ++ [(r, listOf ws.toArray n14)]), rfl, fr_stays F14 kk14, news_ins (news_cons (news_stays N14' kk14) F14 fr14.new fr14.at_), ownOff_ins hoff fr14.new (fun p hp => (N14' p (List.mem_append_right _ hp)).1), cs ++ [(r, listOf ws.toArray n14)], rfl,
                  by rw [take_succ_of hc1]; exact Cuts.snoc (fun p hp => List.mem_append_left _ hp) (by exact Mine.om43 h2) lat ⟨r, ws, n14, rfl, List.mem_append_right _ (.head _), hI, hT⟩ hC, apart_ins hA fr14.new (fun p hp => (N14' p (List.mem_append_left _ (List.mem_append_left _ hp))).1)⟩
            · intro D5 ys ld h13 tk13 tk0 k13 ht1 ht2 hJa F13 N13 hne
              (try k_fold)
              refine byGoal fun P9 k9 => ?_
              obtain ⟨cs, rfl, hC, hA⟩ := hJa
              refine k9 ?_
              clear k9 P9
              rw [List.take_of_length_le (by exact Mine.om122 hCl)] at hC
              have hne6 := hne (L + 1 + 1 + 1 + 1 + 1 + 1, o1) (List.mem_append_left _ (mem_of_eq eB (by k_mem)))
              have hA6 : ∀ p ∈ cs, p.1 ≠ L + 1 + 1 + 1 + 1 + 1 + 1 := fun p hp => hA p hp (L + 1 + 1 + 1 + 1 + 1 + 1, o1) (mem_of_eq eB (by k_mem))
              rw [eB] at N13
              simp only [List.cons_append, List.nil_append] at N13
              refine' stK F13 N13 rfl ?U ?d ?_ rfl rfl
              case U =>
                refine withMem (x := (L + 1 + 1 + 1 + 1 + 1 + 1, o1)) E4 (by k_mem) fun hm => ?_
                exact .tail (Ne.symm hne6) (.tail (Ne.symm (E4 (L + 1 + 1 + 1 + 1 + 1 + 1, o1) hm)) (.tail (Ne.symm (E8 _ hm)) (.tail (Ne.symm (E9 _ hm)) (.tail (Ne.symm (E7 _ hm)) (.tail (Ne.symm (E1 _ hm)) (.tail (Ne.symm (E2 _ hm)) (.tail (Ne.symm (E3 _ hm)) (.tail (Ne.symm (E5 _ hm)) (.tail (Ne.symm (E6 _ hm)) (.tail (GG wB (.tail _ (.tail _ (.head _)))) (.tail (GG D (.tail _ (.head _))) (.tail (GG cA (.head _)) (.head (fmc (by k_ne) (fmc (by k_ne) (fmc (by k_ne) (fmc (by k_ne) (fmc (by k_ne) (fmc (Ne.symm (z124 6)) hA6)))))))))))))))))))
              case d => assumption
              intro h15 oK F15 N15 dK
              clear hne6 hA6
              have hyl : ys.length = wv.length := by rw [hC.len, hCl]
              have zy : ys.toArray.size = ys.length := rfl
              k_sweep
              rename (Fr _ _ _ _) => F15
              rename (News _ _ _ _) => N15
              repeat (rename (IsRange _ _ _ _ _ _ _ _) => q; clear q)
              repeat (rename (Heap.StaysIn _ _) => q; clear q)
              repeat (rename (Fresh _ _ _ _) => q; clear q)
              k_extra "KS"
              k_extra "LATS"
              with_reducible refine execs_consL ?_
              repeat (first | (k_unfold; (try dsimp only)) | ((fail_if_success (k_extra "STOPS")); (fail_if_success (with_reducible show wpAny _ _ (call (Value.type "range") _) _ _ _)); walk1) | dsimp only)
              refine later ?_
              k_extra "KS"
              rename (Fr _ _ _ _) => F16
              rename (News _ _ _ _) => N16
              rename (IsRange _ _ _ _ _ _ _ _) => hir
              k_extra "LATS"
              have hyn : ys.toArray.size = 2 * (rsP qn pn).length := by
                rw [zy, hyl, ← hCl]
                have : qn = 0 ∨ qn = 1 ∨ qn = 2 := lt3 hq3
                unfold cutsW rsP
                rcases this with rfl | rfl | rfl <;> split <;> rfl
              have hrl : (rsP qn pn).length ≤ 2 := by
                have : qn = 0 ∨ qn = 1 ∨ qn = 2 := lt3 hq3
                rcases this with rfl | rfl | rfl <;> (unfold rsP; simp)
              refine hideL N16 fun BC eC NC => ?_
              have mcs : ∀ p ∈ cs, p ∈ BC := fun p hp => mem_of_eq eC (by repeat (first | exact hp | refine List.Mem.tail _ ?_))
              refine comp_range2V (n := (rsP qn pn).length) (fun i tk ys' ld => ∃ rs, ld = BC ++ rs ∧ All2 (RuleIn rs) ys' ((rsP qn pn).take i) ∧ Apart rs BC) (Rm.h (Rm.deeper (by assumption) _)) hir hyn (by exact Mine.om167 hwl hyl zy hyn) F16 NC ⟨[], (List.append_nil _).symm, .nil, fun p hp => nomatch hp⟩ ?_ ?_
              · intro i ti ys' ld h17 tk17 tk0' own C m hi h1 h2 hoff hJa F17 N17
                (try k_fold)
                refine byGoal fun P9 k9 => ?_
                obtain ⟨rs, rfl, hRS, hRA⟩ := hJa
                refine k9 ?_
                clear k9 P9
                (try k_fold)
                refine byGoal fun P9 k9 => ?_
                obtain ⟨a1, a2, k1, k2, lo, m1, m2, kd, z1, z2, z3, z4, z5, z6, z7, z8⟩ := pair_of hq3 hC hi
                refine k9 ?_
                clear k9 P9
                have hv1 : ys.toArray[2 * i]? = some (.ref a1) ∧ True := ⟨by simpa using z1, trivial⟩
                have hv2 : ys.toArray[2 * i + 1]? = some (.ref a2) ∧ True := ⟨by simpa using z2, trivial⟩
                have z3' : CutAt cs lo m1 (.ref a1) k1 ∧ True := ⟨z3, trivial⟩
                have z4' : CutAt cs m1 m2 (.ref a2) k2 ∧ True := ⟨z4, trivial⟩
                have z78 := And.intro z7 z8
                have hi2 : i < 2 := Nat.lt_of_lt_of_le hi hrl
                have h1' := leN h1
                simp only at h1'
                have hoff' : OwnOff own ((BC ++ rs).map (·.1)) ∧ True := ⟨hoff, trivial⟩
                clear z1 z2 z7 z8 z3 z4 hoff
                (try clear hns); (try clear E1); (try clear E2); (try clear E3); (try clear E4); (try clear E5); (try clear E6); (try clear E7); (try clear E8); (try clear E9)
                have mD5 : ∃ o, (D5, o) ∈ BC ∧ o.cls = .type "list" ∧ o.data = Data.seq ys.toArray k13 := ⟨_, by rw [eC]; exact .head _, rfl, rfl⟩
                (try k_fold)
                refine byGoal fun P9 k9 => ?_
                obtain ⟨oD5, mD5, cD5, dD5⟩ := mD5
                refine k9 ?_
                clear k9 P9
                have mK : (L + 1 + 1 + 1 + 1 + 1 + 1, oK) ∈ BC := mem_of_eq eC (by k_mem)
                (try clear eC); (try clear eB); (try clear NB); (try clear NC); (try clear N16); (try clear F16)
                have hD5 : Heap.IsList h17 D5 ys.toArray ∧ True := ⟨⟨oD5, (N17 _ (List.mem_append_left _ (List.mem_append_left _ mD5))).1, cD5, k13, dD5⟩, trivial⟩

                k_extra "KC"

                refine ldK (c := L + 1 + 1 + 1 + 1 + 1 + 1) (o := oK) (v := .ref D5) N17 rfl (List.mem_append_left _ (List.mem_append_left _ mK)) dK ?_ rfl rfl (by decide)

                k_extra "KR"

                refine subL (l := D5) (items := ys.toArray) (j := 2 * i) hD5.1 rfl hv1.1 (by exact Mine.om294 hi2) ?_

                k_extra "KC"

                refine ldK (c := L + 1 + 1 + 1 + 1 + 1 + 1) (o := oK) (v := .ref D5) N17 rfl (List.mem_append_left _ (List.mem_append_left _ mK)) dK ?_ rfl rfl (by decide)

                k_extra "KR"

                refine subL (l := D5) (items := ys.toArray) (j := 2 * i + 1) hD5.1 (natSucc _) hv2.1 (by exact Mine.om295 hi2) ?_

                k_extra "KS"

                rename (Fr _ _ _ _) => F19
                refine c_rule (v1 := .none) (v2 := .none) (ld := cs) (kd := kd) (p := pn) (k := 0) G' (Fr.keep F19) ((R.deeper _).le (by exact Mine.om143)) (fun p hp => (N17 p (List.mem_append_left _ (List.mem_append_left _ (mcs p hp)))).1) z3'.1 (Nat.le_refl _) z4'.1 (by have := leN z5; simp only; exact Mine.om168 ht2 lb9 h2 z5 h1') z6 hp2 z78.1 ?_

                intro rr oo' h20 tk20 ta to_ kk f1 f2 hRI
                have n1 := news_ins (news_cons (news_stays N17 kk) F19 f1.new f1.at_)
                have n2 := news_ins (news_cons n1 F19 f2.new f2.at_)
                exact fun _ => ⟨h20, tk20, _, BC ++ (rs ++ [(rr, ta)] ++ [(oo', to_)]), rfl, fr_stays F19 kk, n2, ownOff_ins (ownOff_ins hoff'.1 f1.new (fun p hp => (N17 p (List.mem_append_right _ hp)).1)) f2.new (fun p hp => (N17 p (List.mem_append_right _ hp)).1), rs ++ [(rr, ta)] ++ [(oo', to_)], rfl,
                  by rw [take_succ_of z78.2]; exact (hRS.mono fun v r q => q.mono fun p hp => List.mem_append_left _ (List.mem_append_left _ hp)).snoc (hRI.mono fun p hp => by simp only [List.mem_cons, List.not_mem_nil, or_false] at hp; rcases hp with rfl | rfl <;> simp),
                  apart_ins (apart_ins hRA f1.new (fun p hp => (N17 p (List.mem_append_left _ (List.mem_append_left _ hp))).1)) f2.new (fun p hp => (N17 p (List.mem_append_left _ (List.mem_append_left _ hp))).1)⟩
              · intro D6 ys' ld h17 tk17 tk0' k17 ht1' ht2' hJa F17 N17 hne
                (try k_fold)
                refine byGoal fun P9 k9 => ?_
                obtain ⟨rs, rfl, hRS, hRA⟩ := hJa
                refine k9 ?_
                clear k9 P9
                rw [List.take_of_length_le (Nat.le_refl _)] at hRS
                have hneC := fun (q : Addr × Obj) hq => hne q (List.mem_append_left rs hq)
                have N17' := N17
                rw [eC] at N17
                simp only [List.cons_append, List.nil_append] at N17
                have M : ∀ p ∈ BC, h17.get? p.1 = some p.2 ∧ g.get? p.1 = none := fun p hp => ⟨(N17' p (.tail _ (List.mem_append_left _ hp))).1, (N17' p (.tail _ (List.mem_append_left _ hp))).2.2⟩
                have b1 : (a.pb2, W.listOf #[] 0) ∈ BC := by rw [eC]; exact .tail _ (.tail _ (.tail _ (.head _)))
                have b2 : (a.x2, instObj 108 a.dx2) ∈ BC := by rw [eC]; exact .tail _ (.head _)
                have b3 : (a.dx2, a.lnD w.params ln tl') ∈ BC := by rw [eC]; exact .tail _ (.tail _ (.head _))
                have hneP : (∀ q ∈ BC, @Ne Nat q.1 D6) ∧ True := ⟨hneC, trivial⟩
                have hsub : ∀ p ∈ lexLd w.params a ysD nD 0 ln tl' ++ [(cA, W.listOf #[Value.int c0 t0, Value.int c1 t1, Value.int c2 t2] nC), (L + 1 + 1 + 1 + 1 + 1, oX), (L + 1 + 1, oS), (L + 1, oC), (124, o124)], p ∈ BC := by
                  unfold lexLd
                  rw [eC]
                  simp only [List.cons_append, List.nil_append]
                  refine fmc (.tail _ (.head _)) (fmc (.tail _ (.tail _ (.head _))) (fmc (.tail _ (.tail _ (.tail _ (.head _)))) ?_))
                  iterate 11 (refine fmc (by k_mem) ?_)
                  exact fmn
                k_extra "KS"
                have ht1' := leN ht1'
                simp only at ht1'
                (try k_fold)
                refine byGoal fun P9 k9 => ?_
                obtain ⟨got, away, hrun, PL⟩ := plain (p := pn) hq3 hls hla
                refine k9 ?_
                clear k9 P9
                have hgl20 : got.length ≤ 20 := by
                  have := clsRun_len (rs := rsP qn pn) 17 ([ls], [0], []) (by simp)
                  rw [hrun] at this; exact this
                refine later ?_
                refine c_class (x2 := a.x2) (dx2 := a.dx2) (pb2 := a.pb2) (rl := D6) (z := a.z2) (ln := .int ln tl') (inst := .ref a.x1) (l0 := ls) (rv := ys') (rs := rsP qn pn) (np := 0) (nd := 4) (k := 0) G' (Fr.keep F17) ((R.deeper _).le (by exact Mine.om169)) (M _ b2).1 (M _ b3).1 (M _ b1).1 (M _ b2).2 (M _ b3).2 (M _ b1).2
                  (fun h kf => ⟨⟨_, kf D6 _ (N17' _ (.head _)).1 (not3 (Ne.symm (hneP.1 _ b1)) (Ne.symm (hneP.1 _ b2)) (Ne.symm (hneP.1 _ b3))), rfl, k17, rfl⟩, hRS.mono fun v r q => q.at fun p hp => kf _ _ (N17' p (.tail _ (List.mem_append_right _ hp))).1 (not3 (hRA p hp _ b1) (hRA p hp _ b2) (hRA p hp _ b3))⟩) hls ⟨tS0, by show _ < _; simp only; omega⟩ ?_
                intro r lA aA gA vl va vg nl na ng pend np' h18 tk18 laid away' got' hr kf hpb hpd fr frl fra frg hvl hva hvg hTk lat18
                rw [hrun] at hr
                obtain ⟨rfl, rfl, rfl⟩ : got = laid ∧ away = away' ∧ got = got' := by injection hr with a b; injection b with b c; exact ⟨a, b, c⟩
                obtain rfl : pend = #[] := by
                  rw [List.drop_length] at hpd
                  have : pend.toList = [] := by cases hq : pend.toList with | nil => rfl | cons v r => rw [hq] at hpd; cases hpd
                  exact Array.toList_eq_nil_iff.mp this
                obtain ⟨F18, N18⟩ := lexLd_pb F17 (news_sub N17' fun p hp => .tail _ (List.mem_append_left _ (hsub p hp))) okL (ne_inc E9 (by repeat (first | exact fmn | refine fmc (by k_mem) ?_))) kf hpb
                obtain ⟨vl, rfl⟩ : ∃ l : List Value, vl = l.toArray := ⟨vl.toList, rfl⟩
                obtain ⟨va, rfl⟩ : ∃ l : List Value, va = l.toArray := ⟨va.toList, rfl⟩
                obtain ⟨vg, rfl⟩ : ∃ l : List Value, vg = l.toArray := ⟨vg.toList, rfl⟩
                have N19 := news_cons (news_cons (news_cons (news_cons N18 F17 fra.new fra.at_) F17 frl.new frl.at_) F17 frg.new frg.at_) F17 fr.new fr.at_
                have hIT : h18.IsTuple r #[.ref lA, .ref gA, .ref aA] := ⟨_, fr.at_, rfl, 0, rfl⟩
                have lat18 := leN lat18.1
                simp only at lat18
                have hvl' : StrsAre vl (got.map S) ∧ True := ⟨hvl, trivial⟩
                have hva' : IntsAre va (intsN away) ∧ True := ⟨hva, trivial⟩
                have hvg' : StrsAre vg (got.map S) ∧ True := ⟨hvg, trivial⟩
                have zvg : vg.length = got.length := by have := strsAre_length hvg; rw [List.length_map] at this; exact this
                clear hvl hva hvg hpd kf hpb N17 N17' hRS hRA hneC hsub M b1 b2 b3 hneP mcs NC N18
                dsimp only [lexLd, List.cons_append, List.nil_append] at N19
                k_sweep
                rename (Fr _ _ _ _) => F18
                rename (News _ _ _ _) => N19
                repeat (rename (IsRange _ _ _ _ _ _ _ _) => q; clear q)
                repeat (rename (Heap.StaysIn _ _) => q; clear q)
                repeat (rename (Fresh _ _ _ _) => q; clear q)
                k_extra "KS"
                k_extra "LATS"
                k_extra "KX"
                change wpAny _ _ (binaryOp Operator.Mod (Value.int c1 t1) _) _ _ _
                k_extra "KS"
                k_extra "LATS"
                k_sweep
                rename (Fr _ _ _ _) => F20
                rename (News _ _ _ _) => N20
                repeat (rename (IsRange _ _ _ _ _ _ _ _) => q; clear q)
                repeat (rename (Heap.StaysIn _ _) => q; clear q)
                repeat (rename (Fresh _ _ _ _) => q; clear q)
                rw [hqn] at F20
                k_extra "KX"
                refine c_shape (kd := qn) (l := ls) hq3 G' (Fr.keep F20) (k := 0) ((R.deeper _).le (by exact Mine.om170)) hls (fun e => (PL.pl e).1) ?_
                intro vS h21 tk21 objs kS fS hSh
                obtain ⟨aS, rfl⟩ := hSh.ref
                have F21 := fr_stays F20 kS
                have N21 := news_freshL (news_stays N20 kS) F20 fS
                simp only [List.cons_append, List.nil_append] at N21
                k_sweep
                rename (Fr _ _ _ _) => F21
                rename (News _ _ _ _) => N21
                repeat (rename (IsRange _ _ _ _ _ _ _ _) => q; clear q)
                repeat (rename (Heap.StaysIn _ _) => q; clear q)
                repeat (rename (Fresh _ _ _ _) => q; clear q)
                k_extra "KS"
                k_extra "LATS"
                with_reducible refine execs_consL ?_
                refine for_rule ?_
                k_extra "KS"
                rename (Fr _ _ _ _) => F22
                rename (News _ _ _ _) => N22
                refine hideL N22 fun BF eF NF => ?_
                have mO : ∀ p ∈ objs, p ∈ BF := fun p hp => mem_of_eq eF (by repeat (first | exact hp | refine List.Mem.tail _ ?_))
                have mG : (gA, W.listOf vg.toArray ng) ∈ BF := by rw [eF]; exact .tail _ (.head _)
                have gL : gA ≠ L := (NF _ mG).2.1
                refine for_listK (vs := vg) (fun i m => m "got" = some (.ref gA) ∧ m "laid" = some (.ref lA) ∧ m "away" = some (.ref aA) ∧ (∃ tK, m "kind" = some (.int (qn : Nat) tK)) ∧ m "shape" = some (.ref aS) ∧ ∃ tt, m "text" = some (.str (S (TX ++ [46, 46, 46])) tt)) (Rm.h (Rm.deeper (by assumption) _)) ⟨_, (NF _ mG).1, rfl, ng, rfl⟩ gL F22 NF ⟨rfl, rfl, rfl, ⟨_, rfl⟩, rfl, ⟨_, rfl⟩⟩ ?_ ?_
                · intro i v m h23 tk23 own hv htk23 hJa F23 N23
                  (try k_fold)
                  refine byGoal fun P9 k9 => ?_
                  obtain ⟨e1, e2, e3, ⟨tK, e4⟩, e5, ⟨tt, e6⟩⟩ := hJa
                  refine k9 ?_
                  clear k9 P9
                  (try k_fold)
                  refine byGoal fun P9 k9 => ?_
                  obtain ⟨y, u, hy1, hy2⟩ := strsAre_get hvg'.1 hv
                  refine k9 ?_
                  clear k9 P9
                  rw [List.getElem?_map] at hy1
                  (try k_fold)
                  refine byGoal fun P9 k9 => ?_
                  obtain ⟨wd, hwd, rfl⟩ := Option.map_eq_some_iff.mp hy1
                  refine k9 ?_
                  clear k9 P9
                  subst hy2
                  have hmem := List.mem_of_getElem? hwd
                  have hw5 := PL.five wd hmem
                  have hwp := PL.perm wd hmem
                  have l128 : ∀ c ∈ ls, c < 128 := (alf_ok hls hla).2.2.2
                  have w128 : ∀ c ∈ wd, c < 128 := fun c hc => l128 c (hwp.mem_iff.mp hc)
                  rw [eF] at N23
                  simp only [List.cons_append, List.nil_append] at N23
                  k_extra "KS"
                  k_extra "KX"
                  rename (Fr _ _ _ _) => F24
                  rename (News _ _ _ _) => N24
                  refine c_sorted (Rm.h (Rm.deeper (by assumption) _)) (by exact Mine.om171 hw5) ?_
                  intro D1 h25 tk25 vs1 n1 cs1 k1 f1 z1 p1 z2
                  have F25 := fr_stays F24 k1
                  have N25 := news_cons (news_stays N24 k1) F24 f1.new f1.at_
                  k_extra "KS"
                  rename (Fr _ _ _ _) => F26
                  rename (News _ _ _ _) => N26
                  refine c_sorted (Rm.h (Rm.deeper (by assumption) _)) (by exact Mine.om171 hls) ?_
                  intro D2 h27 tk27 vs2 n2 cs2 k2 f2 z3 p2 z4
                  have F27 := fr_stays F26 k2
                  have N27 := news_cons (news_stays N26 k2) F26 f2.new f2.at_
                  obtain rfl := sorted_same p1 p2 hwp z2 z4
                  k_extra "KS"
                  rename (Fr _ _ _ _) => F28
                  rename (News _ _ _ _) => N28
                  have hso1 : ∀ x ∈ cs1.map (fun c => S [c]), PyData.strOk x = true := fun x hx => by
                    (try k_fold)
                    refine byGoal fun P9 k9 => ?_
                    obtain ⟨c, hc, rfl⟩ := List.mem_map.mp hx
                    refine k9 ?_
                    clear k9 P9
                    exact strOk_S (by have := w128 c (p1.mem_iff.mp hc); simpa using this)
                  refine ne_same (d := .list ((cs1.map fun c => S [c]).map PyData.str)) (reads_newData ⟨_, (N28 _ (.tail _ (.head _))).1, rfl, n1, rfl⟩ (strs_carried z1)) (reads_newData ⟨_, (N28 _ (.head _)).1, rfl, n2, rfl⟩ (strs_carried z3)) (sh_strs _ hso1) (by ke_room) ?_
                  replace N28 := news_d0 (news_d0 N28)
                  k_extra "KS"
                  rename (Fr _ _ _ _) => F29
                  rename (News _ _ _ _) => N29
                  refine c_shape (kd := qn) (l := wd) hq3 G' (Fr.keep F29) (k := 0) ((R.deeper _).le (by exact Mine.om170)) hw5 (fun e => ((PL.pl e).2 wd hmem).1) ?_
                  intro vS2 h30 tk30 objs2 kS2 fS2 hSh2
                  obtain ⟨aS2, rfl⟩ := hSh2.ref
                  have F30 := fr_stays F29 kS2
                  have N30 := news_stays N29 kS2
                  k_extra "KS"
                  obtain ⟨as1, R1⟩ := ShIn.reads (h := h30) (fun p hp => (N30 p (by simp [hp])).1) hSh
                  obtain ⟨as2, R2⟩ := ShIn.reads (h := h30) (fun p hp => (fS2 p hp).at_) hSh2
                  rw [shD_eq PL hmem] at R2
                  refine ne_same (d := shD qn ls) R2 R1 (shD_shaped l128) (by ke_room) ?_
                  k_extra "KS"
                  rename (Fr _ _ _ _) => F31
                  rename (News _ _ _ _) => N31
                  obtain ⟨hiT, hTk'⟩ := hTk
                  have hvm : Value.str (S wd) u ∈ vg := List.mem_of_getElem? hv
                  refine c_countOf (vs := vg ++ [Value.str (S wd) u]) (ys := got.map S ++ [S wd]) (k := 0) G' (Fr.keep F31) ((R.deeper _).le (by exact Mine.om147)) ⟨_, (N31 _ (.head _)).1, rfl, 0, rfl⟩ (strsAre_append hvg'.1 (.cons _ _ .nil)) (hTk'.1 _ _ hvm).1 (fun y u' hy => ?_) ?_
                  · rcases List.mem_append.mp hy with hy | hy
                    · exact ⟨(hTk'.1 _ _ hy).1, fun e => hTk'.2 _ _ _ _ hy hvm e⟩
                    · have := List.mem_singleton.mp hy
                      injection this with a b
                      subst a b
                      exact ⟨(hTk'.1 _ _ hvm).1, fun _ => rfl⟩
                  · intro h32 tk32 tr32 k32
                    rw [count_two PL.nd hmem]
                    have F32 := fr_stays F31 k32
                    have N32 := news_sub (news_stays N31 k32) (ld' := BF ++ own) (fun p hp => by
                      rw [eF] at hp
                      simp only [List.cons_append, List.nil_append] at hp
                      exact .tail _ (.tail _ hp))
                    k_extra "KS"
                    exact ⟨_, _, _, rfl, F32, N32, e1, e2, e3, ⟨_, e4⟩, e5, ⟨_, e6⟩⟩
                · intro m h23 tk23 htk23 hJa F23 N23
                  (try k_fold)
                  refine byGoal fun P9 k9 => ?_
                  obtain ⟨e1, e2, e3, ⟨tK, e4⟩, e5, ⟨tt, e6⟩⟩ := hJa
                  refine k9 ?_
                  clear k9 P9
                  have NB23 := N23
                  rw [eF] at N23
                  have zvg2 : vg.toArray.size ≤ 20 := by show vg.length ≤ 20; exact Mine.om172 hgl20 zvg
                  have zvg3 : vg.toArray.size = got.length := zvg
                  k_extra "KS"
                  k_extra "KX"
                  refine wpAny_mono (Q := fun v s' => ∃ h' tk t, v = .int (vg.toArray.size : Nat) t ∧ s' = { s₁ with heap := h', toks := tk } ∧ h23.StaysIn h') (E := NoE) ?_ ?_ (fun _ _ x => x.elim)
                  · have hObj : ∀ p ∈ objs, h23.get? p.1 = some p.2 := fun p hp => (NB23 p (mO p hp)).1
                    have hq' : qn = 0 ∨ qn = 1 ∨ qn = 2 := lt3 hq3
                    rcases hq' with rfl | rfl | rfl
                    · have ht := TreeIn.at hObj hSh
                      have hs1 := shP_size 0 6 ls
                      have hs2 := shP_hgt 0 6 ls
                      have hmx := PL.mix (by decide)
                      walk1
                      k_extra "KS"
                      refine c_mixed trivial (shP 0 6 ls) (k := 0) G' (Fr.keep F23) ((R.deeper _).le (by exact Mine.om173 hs2)) ht (by exact Mine.om296 hs1) hmx.2 ?_
                      intro r9 h9 tk9 u0 u1 k9 f9
                      k_extra "KR"
                      refine item_tupleT (l := [Value.int ((mixP (shP 0 6 ls)).1 : Nat) u0, Value.int (mixP (shP 0 6 ls)).2 u1]) (j := 1) ⟨_, f9.at_, rfl, 0, rfl⟩ (by decide) (by decide) rfl rfl ?_
                      exact ⟨_, _, _, by rw [hmx.1, zvg3], rfl, k9⟩
                    · have ht := TreeIn.at hObj hSh
                      have hs1 := shP_size 1 6 ls
                      have hs2 := shP_hgt 1 6 ls
                      have hmx := PL.mix (by decide)
                      walk1
                      k_extra "KS"
                      refine c_mixed trivial (shP 1 6 ls) (k := 0) G' (Fr.keep F23) ((R.deeper _).le (by exact Mine.om173 hs2)) ht (by exact Mine.om296 hs1) hmx.2 ?_
                      intro r9 h9 tk9 u0 u1 k9 f9
                      k_extra "KR"
                      refine item_tupleT (l := [Value.int ((mixP (shP 1 6 ls)).1 : Nat) u0, Value.int (mixP (shP 1 6 ls)).2 u1]) (j := 1) ⟨_, f9.at_, rfl, 0, rfl⟩ (by decide) (by decide) rfl rfl ?_
                      exact ⟨_, _, _, by rw [hmx.1, zvg3], rfl, k9⟩
                    · unfold ShIn at hSh
                      rw [if_pos rfl] at hSh
                      (try k_fold)
                      refine byGoal fun P9 k9 => ?_
                      obtain ⟨aS', nS, eS, mS⟩ := hSh
                      refine k9 ?_
                      clear k9 P9
                      injection eS with eS
                      subst eS
                      have hz := PL.zig rfl
                      have hpl := (PL.pl rfl).1
                      walk1
                      k_extra "KS"
                      refine c_zig (bs := shB ls) (k := 0) G' (Fr.keep F23) ((R.deeper _).le (by exact Mine.om143)) ⟨_, hObj _ mS, rfl, nS, rfl⟩ (by unfold shB; rw [List.length_map, List.length_range, hpl]; decide) ?_
                      intro h9 tk9 u9 k9
                      rw [hz]
                      exact ⟨_, _, _, by rw [zvg3], rfl, k9⟩
                  · intro v s' hJa
                    (try k_fold)
                    refine byGoal fun P9 k9 => ?_
                    obtain ⟨h24, tk24, t24, rfl, rfl, k24⟩ := hJa
                    refine k9 ?_
                    clear k9 P9
                    have F24 := fr_stays F23 k24
                    have N24 := news_stays N23 k24
                    clear F23 N23 NB23 NF mG mO eF
                    k_extra "KS"
                    · rename (_ = true) => q9
                      simp [zvg3] at q9
                    k_extra "LATS"
                    k_extra "KX"
                    rename (Fr _ _ _ _) => F25
                    rename (News _ _ _ _) => N25
                    have hsg : ∀ x ∈ got.map S, PyData.strOk x = true := fun x hx => by
                      (try k_fold)
                      refine byGoal fun P9 k9 => ?_
                      obtain ⟨l, hl, rfl⟩ := List.mem_map.mp hx
                      refine k9 ?_
                      clear k9 P9
                      exact strOk_S fun c hc => by have := (alf_ok hls hla).2.2.2 c ((PL.perm l hl).mem_iff.mp hc); simpa using this
                    refine ne_same (d := .list ((got.map S).map PyData.str)) (reads_newData ⟨_, (N25 _ (.tail _ (.head _))).1, rfl, ng, rfl⟩ (strs_carried hvg'.1)) (reads_newData ⟨_, (N25 _ (.tail _ (.tail _ (.head _)))).1, rfl, nl, rfl⟩ (strs_carried hvl'.1)) (sh_strs _ hsg) (by ke_room) ?_
                    k_extra "KS"
                    rename (Fr _ _ _ _) => F26
                    rename (News _ _ _ _) => N26
                    refine hideL N26 fun BG eG NG => ?_
                    have mG : (gA, W.listOf vg.toArray ng) ∈ BG := by rw [eG]; exact .tail _ (.head _)
                    refine comp_listJ (vs := vg) (fun i tk ys ld => ld = BG ∧ IntsAre ys (intsN (away.take i))) (Rm.h (Rm.deeper (by assumption) _)) ⟨_, (NG _ mG).1, rfl, ng, rfl⟩ gL (by have : sizeLine = 16777216 := rfl; exact Mine.om174 zvg zvg2 zvg3 this) F26 NG ⟨rfl, .nil⟩ ?_ ?_
                    · rintro i v ys ld h27 tk27 tk28 own C m27 hv htk1 htk2 ⟨rfl, q6⟩ had hoff F27 N27
                      (try k_fold)
                      refine byGoal fun P9 k9 => ?_
                      obtain ⟨y, u, hy1, hy2⟩ := strsAre_get hvg'.1 hv
                      refine k9 ?_
                      clear k9 P9
                      rw [List.getElem?_map] at hy1
                      (try k_fold)
                      refine byGoal fun P9 k9 => ?_
                      obtain ⟨wd, hwd, rfl⟩ := Option.map_eq_some_iff.mp hy1
                      refine k9 ?_
                      clear k9 P9
                      subst hy2
                      have hmem := List.mem_of_getElem? hwd
                      have w128 : ∀ c ∈ wd, c < 128 := fun c hc => (alf_ok hls hla).2.2.2 c ((PL.perm wd hmem).mem_iff.mp hc)
                      have hia : i < away.length := by rw [PL.len]; exact (List.getElem?_eq_some_iff.mp hwd).1
                      have had' : away[i]? = some away[i] := List.getElem?_eq_getElem hia
                      have htn := PL.turn i wd _ hwd had'
                      rw [eG] at N27
                      simp only [List.cons_append, List.nil_append] at N27
                      k_extra "KS"
                      rename (Fr _ _ _ _) => F28
                      rename (News _ _ _ _) => N28
                      refine c_turned (start := ls) (word := wd) (res := away[i]) (k := 0) G' (Fr.keep F28) ((R.deeper _).le (by exact Mine.om143)) (by exact Mine.om175 hls) (all128 w128) (by rw [hls]; exact htn) ?_
                      intro h29 tk29 t29 k29
                      exact fun _ => ⟨h29, tk29, _, ld, rfl, fr_stays F28 k29, (by rw [eG]; exact news_stays N28 k29), rfl, rfl, by rw [take_succ_of had', intsN, List.map_append]; exact intsAre_append q6 (.cons _ _ .nil)⟩
                    · rintro DR ys ld h27 tk27 tk28 kR htk1 htk2 ⟨rfl, q6⟩ F27 N27 hlt
                      rw [List.take_of_length_le (by have := PL.len; exact Mine.om176 zvg this)] at q6
                      have q6' : IntsAre ys (intsN away) ∧ True := ⟨q6, trivial⟩
                      clear q6
                      rw [eG] at N27
                      k_extra "KS"
                      rename (Fr _ _ _ _) => F28
                      rename (News _ _ _ _) => N28

                      have ha1 : Heap.IsList h27 DR ys.toArray := ⟨_, (N28 _ (.head _)).1, rfl, kR, rfl⟩

                      have ha2 : Heap.IsList h27 aA va.toArray := ⟨_, (N28 _ (.tail _ (.tail _ (.tail _ (.tail _ (.head _)))))).1, rfl, na, rfl⟩

                      refine ne_ints (xs := ys) (ys := va) (ns := intsN away) ha1 ha2 q6'.1 hva'.1 ?_ ?_
                      · skip

                        ke_room

                      k_extra "KS"
                      k_extra "LATS"

                      k_sweep
                      rename (Fr _ _ _ _) => F29
                      rename (News _ _ _ _) => N29
                      repeat (rename (IsRange _ _ _ _ _ _ _ _) => q; clear q)
                      repeat (rename (Heap.StaysIn _ _) => q; clear q)
                      repeat (rename (Fresh _ _ _ _) => q; clear q)
                      obtain ⟨n', hdots⟩ := lexA_dots q3
                      have hlx : lexA 0 txt = ([46, 46, 46], [], n') := by rw [q4, show wv2.length = wv2.toArray.size from rfl, tailT_end]; exact hdots
                      have hcnt := lexA_count 0 txt
                      rw [hlx] at hcnt
                      replace hcnt : n' + 0 = 0 + txt.count 10 := hcnt
                      k_extra "KX"
                      rename (Fr _ _ _ _) => F30
                      rename (News _ _ _ _) => N30

                      have NL : News g L h27 (lexLd w.params a ysD nD np' ln tl' ++ [(L + 1 + 1 + 1 + 1 + 1, oX), (124, o124)]) := by
                        refine news_sub (ld := lexLd w.params a ysD nD np' ln tl' ++ ((cA, W.listOf #[Value.int c0 t0, Value.int c1 t1, Value.int c2 t2] nC) :: (L + 1 + 1 + 1 + 1 + 1, oX) :: (L + 1 + 1, oS) :: (L + 1, oC) :: (124, o124) :: objs)) (news_d0 (news_d0 (news_d0 (news_d0 (news_d0 N30))))) fun p hp => ?_
                        rcases List.mem_append.mp hp with q | q
                        · exact List.mem_append_left _ q
                        · refine List.mem_append_right _ ?_
                          rcases List.mem_cons.mp q with q | q
                          · exact .tail _ (q ▸ .head _)
                          · exact .tail _ (.tail _ (.tail _ (.tail _ (List.mem_singleton.mp q ▸ .head _))))

                      have ne2 : ∀ p ∈ [(L + 1 + 1 + 1 + 1 + 1, oX), (124, o124)], @Ne Nat p.1 a.D ∧ @Ne Nat p.1 a.dx2 := by
                        refine fmc (P := fun p : Addr × Obj => @Ne Nat p.1 a.D ∧ @Ne Nat p.1 a.dx2) ⟨E7 (L + 1 + 1 + 1 + 1 + 1, o2) (by k_mem), E8 (L + 1 + 1 + 1 + 1 + 1, o2) (by k_mem)⟩ (fmc ⟨E7 (124, tabObj #[]) (by k_mem), E8 (124, tabObj #[]) (by k_mem)⟩ fmn)
                      clear N30

                      refine lex_tok (a := a) (ys := ysD) (n := nD) (np := np') (ln := ln) (tl := tl') (txt := txt) (k := 0) G' F30 NL ((R.deeper _).le (by exact Mine.om161)) okL ne2 q1'.1 q2 ?_

                      intro h31 tk31 t31 tl31 ys31 n31 F31 N31 hys31 hl31
                      rw [hlx] at hys31 N31 ⊢
                      dsimp only at hys31 N31 ⊢
                      dsimp only [lexLd, Lx.lnD, lexD, List.cons_append, List.nil_append] at N31
                      k_extra "KS"
                      rename (Fr _ _ _ _) => F32
                      rename (News _ _ _ _) => N32

                      refine lex_tok (a := a) (ys := ys31) (n := n31) (np := np') (ln := ln + (n' : Nat)) (tl := tl31) (txt := []) (rest := [_, _]) (k := 0) G' F32 N32 ((R.deeper _).le (by exact Mine.om161)) okL ne2 hys31 hl31 ?_

                      intro h33 tk33 t33 tl33 ys33 n33 F33 N33 hys33 hl33
                      rw [show lexA 0 [] = ([], [], 0) from rfl] at hys33 N33 ⊢
                      dsimp only at hys33 N33 ⊢
                      dsimp only [lexLd, Lx.lnD, lexD, List.cons_append, List.nil_append] at N33
                      k_extra "KS"
                      rename (Fr _ _ _ _) => F34
                      rename (News _ _ _ _) => N34
                      rw [show Str.ofString "..." = S [46, 46, 46] by decide, show Str.ofString "" = S [] by decide] at N34
                      refine eq_same (d := .list [.str (S [46, 46, 46]), .str (S [])]) (reads_newData ⟨_, (N34 _ (.tail _ (.head _))).1, rfl, 0, rfl⟩ (.cons (.str _ _) (.cons (.str _ _) .nil))) (reads_newData ⟨_, (N34 _ (.head _)).1, rfl, 0, rfl⟩ (.cons (.str _ _) (.cons (.str _ _) .nil))) (sh_strs [S [46, 46, 46], S []] (fmc (strOk_S (by decide)) (fmc (strOk_S (by decide)) fmn))) (by ke_room) ?_
                      replace N34 := news_d0 (news_d0 N34)

                      k_extra "KZ"

                      rename (Fr _ _ _ _) => F35
                      rename (News _ _ _ _) => N35
                      have hln : ln + (n' : Nat) + ((0 : Nat) : Int) = 1 + (((TX ++ [46, 46, 46]).count 10 : Nat) : Int) := by
                        rw [← q5, show n' = txt.count 10 by exact Mine.om177 hcnt]; exact Int.add_zero _
                      refine ⟨?_, _, _, ps124, rfl, Fr.keep F35, ?_⟩
                      · rw [count_nl, ← hln, beq_self_eq_true]
                      · rw [← ho124]
                        exact (N35 (124, o124) (by k_mem)).1
  · intro fl s' hJa
    (try k_fold)
    refine byGoal fun P9 k9 => ?_
    obtain ⟨rfl, h', tk, ps, rfl, hk, hps⟩ := hJa
    refine k9 ?_
    clear k9 P9
    exact ⟨⟨.inl ⟨.bool true, .bool true, [], rfl, fun _ => rfl, .bool _, postW_of (X := true) (by rfl) (by kernel_rfl) rfl, fun _ => ⟨.nil, fun _ h => nomatch h⟩⟩, hk, rfl, hgens⟩, ⟨ps, hps⟩, trivial⟩)
end Mine
end
theorem PySem.Challenge.cw_to0019_01_holds : PySem.Challenge.rw_to0019_01.Holds := by
  exact Mine.law_holds
