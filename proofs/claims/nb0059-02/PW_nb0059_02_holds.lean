import PyProof.Rows.All
import Wide.All
import OpenK.AllK
import Wide.FinOn
import PySem.Challenge.RW_nb0059_02
open PySem PySem.W PyProof.Rows PySem.Calls
set_option Elab.async false
set_option maxRecDepth 100000
set_option maxHeartbeats 8000000
set_option linter.unusedVariables false
set_option linter.unusedSimpArgs false
set_option genSizeOf false
set_option genInjectivity false
namespace Mine
open_top hd for PySem.Challenge.rw_nb0059_02
/-! small facts about numbers -/
theorem h_m4 (a : Nat) : min a 4 + (4 - a) = 4 := (Nat.le_total a 4).elim (fun h => by rw [Nat.min_eq_left h, Nat.add_sub_cancel' h]) (fun h => by rw [Nat.min_eq_right h, Nat.sub_eq_zero_of_le h])
theorem h_lo {x y z : Nat} (k : Nat) (hk : k ∣ 256) (h : (x * 256 + y) % 65536 = z) : z % k = y % k := by
  rw [← h, Nat.mod_mod_of_dvd _ (Nat.dvd_trans hk (by decide : 256 ∣ 65536)), ← Nat.mod_mod_of_dvd (x * 256 + y) hk, Nat.mul_add_mod', Nat.mod_mod_of_dvd _ hk]
theorem h_hi {x y z : Nat} (k : Nat) (hk : 256 * k ∣ 65536) (hy : y < 256) (h : (x * 256 + y) % 65536 = z) : z % (256 * k) = y + 256 * (x % k) := by
  rw [← h, Nat.mod_mod_of_dvd _ hk, Nat.mod_mul, Nat.mul_comm x 256, Nat.mul_add_mod, Nat.mul_add_div (by decide), Nat.div_eq_of_lt hy, Nat.mod_eq_of_lt hy, Nat.add_zero]
theorem h_r3 (n : Nat) : 2 * n % 6 = 2 * (n % 3) := Nat.mul_mod_mul_left 2 n 3
theorem h_pad (n r : Nat) (h : 2 * n % 6 = 2 * r) : n % 3 = r := Nat.eq_of_mul_eq_mul_left (by decide) ((h_r3 n).symm.trans h)
theorem h_16 {a y : Nat} (h : a / 4 * 4 + (a % 4 * 16 + y) / 16 = a) : y < 16 := by
  rw [Nat.mul_comm (a % 4) 16, Nat.mul_add_div (by decide), ← Nat.add_assoc, Nat.div_add_mod'] at h
  exact (Nat.div_eq_zero_iff_lt (by decide)).mp (Nat.add_left_cancel h)
theorem h_dv {a k y : Nat} (hk : 0 < k) (hy : y < k) : (a * k + y) / k = a := by
  rw [Nat.mul_comm a k, Nat.mul_add_div hk, Nat.div_eq_of_lt hy, Nat.add_zero]
theorem h_md {a k y : Nat} (hy : y < k) : (a * k + y) % k = y := by rw [Nat.mul_add_mod', Nat.mod_eq_of_lt hy]
theorem om_0 : ∀ (a0 : Nat) (a1 : Nat), ((a0 + a1) < (900 : Nat)) → (a0 < (1000 : Nat)) := fun a0 a1 h => Nat.lt_of_le_of_lt (Nat.le_add_right _ _) (Nat.lt_trans h (by decide))
theorem om_2 : ∀ (a0 : Nat) (a1 : Nat), ((a0 + (a1 + (1 : Nat))) < (900 : Nat)) → (((a0 + (1 : Nat)) + a1) < (900 : Nat)) := by intros; lia
theorem om_3 : ∀ (a0 : Nat) (a1 : Nat), ((a0 + ((8 : Nat) * (a1 + (1 : Nat)))) < (9000 : Nat)) → (((a0 + (3 : Nat)) + ((8 : Nat) * a1)) < (9000 : Nat)) := by intros; lia
theorem om_6 : ∀ (a0 : Nat) (a1 : Nat) (a2 : Nat), ((a0 + (2 : Nat)) ≤ a1) → ((a2 + a1) < (900 : Nat)) → ((a2 + a0) < (900 : Nat)) := by intros; lia
theorem om_7 : ∀ (a0 : Nat) (a1 : Nat) (a2 : Nat), ((a0 + (2 : Nat)) ≤ a1) → ((a2 + ((8 : Nat) * a1)) < (9000 : Nat)) → (((a2 + (1 : Nat)) + ((8 : Nat) * a0)) < (9000 : Nat)) := by intros; lia
theorem om_8 : ∀ (a0 : Nat) (a1 : Nat) (a2 : Nat), (a0 ≤ a1) → ((a2 + a1) < (900 : Nat)) → ((a2 + a0) < (900 : Nat)) := by intros; lia
theorem om_9 : ∀ (a0 : Nat) (a1 : Nat) (a2 : Nat), (a0 ≤ a1) → ((a2 + ((8 : Nat) * a1)) < (9000 : Nat)) → ((a2 + ((8 : Nat) * a0)) < (9000 : Nat)) := by intros; lia
theorem om_10 : ∀ (a0 : Nat), (a0 ≤ (1048576 : Nat)) → (a0 ≤ ((2 : Nat) ^ (24 : Nat))) := by intros; lia
theorem om_13 : ∀ (a0 : Nat) (a1 : Nat), (a0 ≤ a1) → (a1 = (16777216 : Nat)) → (((a0 : Nat) : Int) < ((2 : Int) ^ (63 : Nat))) := by intros; lia
theorem om_14 : ∀ (a0 : Nat) (a1 : Nat) (a2 : Nat), ((a0 + (2 : Nat)) ≤ a1) → ((a2 + a1) < (900 : Nat)) → (((a2 + (1 : Nat)) + a0) < (900 : Nat)) := by intros; lia
theorem om_16 : ∀ (a0 : Nat) (a1 : Nat), (a0 ≤ a1) → (a0 ≤ a1) := by intros; assumption
theorem om_17 : ∀ (a0 : Nat) (a1 : Nat), ((min (min a0 a1) a1) = (min a0 a1)) := fun a0 a1 => by rw [Nat.min_assoc, Nat.min_self]
theorem om_18 : ∀ (a0 : Nat) (a1 : Nat), (¬ (a0 ≤ a1)) → (a1 ≤ a0) := by intros; lia
theorem om_19 : ∀ (a0 : Nat) (a1 : Nat) (a2 : Nat), ((min ((min a0 a1) - a2) (a1 - a2)) = (min (a0 - a2) (a1 - a2))) := fun a0 a1 a2 => by rw [Nat.sub_min_sub_right, Nat.sub_min_sub_right, Nat.min_assoc, Nat.min_self]
theorem om_21 : ∀ (a0 : Nat) (a1 : Int) (a2 : Nat), (((a0 : Nat) : Int) = (max (0 : Int) (min a1 ((a2 : Nat) : Int)))) → (a0 ≤ a2) := fun a0 a1 a2 h => Int.ofNat_le.mp (h ▸ Int.max_le.mpr ⟨Int.natCast_nonneg _, Int.min_le_right _ _⟩)
theorem om_22 : ∀ (a0 : Nat) (a1 : Nat) (a2 : Nat), (a0 ≤ a1) → ((a0 - a2) = a1) → (¬ (a2 = (0 : Nat))) → (a1 = (0 : Nat)) := by intros; lia
theorem om_23 : ∀ (a0 : Nat), (¬ (((a0 : Nat) : Int) < (0 : Int))) := by intros; lia
theorem om_24 : ∀ (a0 : Nat), (a0 < ((2 : Nat) ^ (60 : Nat))) → (((a0 : Nat) : Int) < (9223372036854775808 : Int)) := by intros; lia
theorem om_25 : ∀ (a0 : Nat), (((a0 : Nat) : Int) < ((2 : Int) ^ (63 : Nat))) → (¬ (((a0 : Nat) : Int) ≥ ((2 : Int) ^ (63 : Nat)))) := by intros; lia
theorem om_26 : ∀ (a0 : Nat), (a0 < (256 : Nat)) → (((a0 : Nat) : Int) ≤ (1114111 : Int)) := by intros; lia
theorem om_27 : ∀ (a0 : Nat) (a1 : Nat) (a2 : Nat), ((a0 + (a1 + (1 : Nat))) ≤ a2) → (a0 < a2) := by intros; lia
theorem om_28 : ∀ (a0 : Nat) (a1 : Nat) (a2 : Nat), ((a0 + (a1 + (1 : Nat))) ≤ a2) → (((a0 + (1 : Nat)) + a1) ≤ a2) := by intros; lia
theorem om_29 : ∀ (a0 : Nat) (a1 : Nat), ((a0 + (a1 + (1 : Nat))) = ((a0 + (1 : Nat)) + a1)) := by intros; lia
theorem om_30 : ∀ (a0 : Nat), ((1 : Int) ≤ (((a0 : Nat) : Int) + (1 : Int))) := by intros; lia
theorem om_31 : ∀ (a0 : Nat), ((Int.toNat ((-(1 : Int)) + (((a0 : Nat) : Int) + (1 : Int)))) = a0) := by intros; lia
theorem om_32 : ∀ (a0 : Nat) (a1 : Nat), ((a0 + (0 : Nat)) = a1) → (a0 = a1) := by intros; lia
theorem om_33 : ∀ (a0 : Nat) (a1 : Nat) (a2 : Nat), ((a0 + (a1 + (1 : Nat))) = a2) → (a0 < a2) := by intros; lia
theorem om_34 : ∀ (a0 : Nat) (a1 : Nat) (a2 : Nat) (a3 : Nat), (a0 ≤ (1048576 : Nat)) → ((a1 + (a2 + (1 : Nat))) = a0) → (a3 = a1) → (a3 ≤ (1048576 : Nat)) := by intros; lia
theorem om_35 : ∀ (a0 : Nat) (a1 : Nat) (a2 : Nat), ((a0 + (a1 + (1 : Nat))) = a2) → (((a0 + (1 : Nat)) + a1) = a2) := by intros; lia
theorem om_36 : ∀ (a0 : Nat), (((0 : Nat) + a0) = a0) := by intros; lia
theorem om_38 : ∀ (a0 : Nat), (((a0 : Nat) : Int) = (1 : Int)) → (a0 = (1 : Nat)) := by intros; lia
theorem om_45 : ∀ (a0 : Nat) (a1 : Nat), ((a0 + (0 : Nat)) = (a1 + (1 : Nat))) → (a1 ≤ a0) := by intros; lia
theorem om_46 : ∀ (a0 : Nat) (a1 : Nat) (a2 : Nat) (a3 : Nat), ((a0 + (a1 + (1 : Nat))) = (a2 + (1 : Nat))) → ((a3 + (a1 + (1 : Nat))) < (a2 + (3 : Nat))) → (a0 < a2) → (a3 < (a2 + (1 : Nat))) := by intros; lia
theorem om_47 : ∀ (a0 : Nat) (a1 : Nat) (a2 : Nat), ((a0 + (a1 + (1 : Nat))) = (a2 + (1 : Nat))) → (((a0 + (1 : Nat)) + a1) = (a2 + (1 : Nat))) := by intros; lia
theorem om_48 : ∀ (a0 : Nat) (a1 : Nat) (a2 : Nat), ((a0 + (a1 + (1 : Nat))) < (a2 + (3 : Nat))) → (((a0 + (1 : Nat)) + a1) < (a2 + (3 : Nat))) := by intros; lia
theorem om_49 : ∀ (a0 : Nat) (a1 : Nat), (((a0 + (1 : Nat)) + a1) = (a0 + (a1 + (1 : Nat)))) := by intros; lia
theorem om_50 : ∀ (a0 : Nat) (a1 : Nat), (a0 ≤ a1) → (a0 ≤ (a1 + (1 : Nat))) := by intros; lia
theorem om_51 : ∀ (a0 : Nat) (a1 : Nat) (a2 : Nat), ((a0 + (a1 + (1 : Nat))) < (a2 + (3 : Nat))) → ((a0 + a1) < (a2 + (3 : Nat))) := by intros; lia
theorem om_52 : ∀ (a0 : Nat) (a1 : Nat), (¬ (a0 < a1)) → (a1 ≤ (a0 + (1 : Nat))) := by intros; lia
theorem om_53 : ∀ (a0 : Nat) (a1 : Nat), (¬ (a0 < a1)) → (a1 ≤ a0) := by intros; lia
theorem om_54 : ∀ (a0 : Nat), (((0 : Nat) + (a0 + (1 : Nat))) = (a0 + (1 : Nat))) := by intros; lia
theorem om_55 : ∀ (a0 : Nat), ((0 : Int) ≤ ((a0 : Nat) : Int)) := by intros; lia
theorem om_56 : ∀ (a0 : Nat), (a0 < (1000000 : Nat)) → (((a0 : Nat) : Int) < ((2 : Int) ^ (63 : Nat))) := by intros; lia
theorem om_57 : ∀ (a0 : Nat) (a1 : Nat), (((a0 : Nat) : Int) < ((a1 : Nat) : Int)) → (a0 < a1) := by intros; lia
theorem om_58 : ∀ (a0 : Nat) (a1 : Nat), (a0 < a1) → (a1 < (1000000 : Nat)) → (((a0 : Nat) : Int) < ((2 : Int) ^ (63 : Nat))) := by intros; lia
theorem om_59 : ∀ (a0 : Nat) (a1 : Nat), (a0 < a1) → (a0 < a1) := by intros; lia
theorem om_60 : ∀ (a0 : Nat), ((Int.toNat ((a0 : Nat) : Int)) = a0) := by intros; lia
theorem om_61 : ∀ (a0 : Nat), (a0 < (1000000 : Nat)) → (a0 ≤ (1048575 : Nat)) := fun _ h => Nat.le_trans (Nat.le_of_lt h) (by decide)
theorem om_62 : ∀ (a0 : Nat), ((-((2 : Int) ^ (63 : Nat))) ≤ ((a0 : Nat) : Int)) := by intros; lia
theorem om_63 : ∀ (a0 : Nat), (a0 ≤ (1000000 : Nat)) → (((a0 : Nat) : Int) < ((2 : Int) ^ (63 : Nat))) := by intros; lia
theorem om_64 : ∀ (a0 : Nat), (a0 ≤ (1000000 : Nat)) → (a0 ≤ (16777216 : Nat)) := fun _ h => Nat.le_trans h (by decide)
theorem om_65 : ∀ (a0 : Nat) (a1 : Nat), ((a0 + ((8 : Nat) * a1)) < (9000 : Nat)) → ((a0 + (64 : Nat)) < (9900 : Nat)) := by intros; lia
theorem om_66 : ∀ (a0 : Int) (a1 : Nat), (((a0 + (1 : Int)) + ((a1 : Nat) : Int)) = (a0 + (((a1 : Nat) : Int) + (1 : Int)))) := by intros; lia
theorem om_67 : ∀ (a0 : Nat), (a0 ≤ (1000000 : Nat)) → ((a0 + (1 : Nat)) ≤ (1048576 : Nat)) := by intros; lia
theorem om_68 : ∀ (a0 : Nat), ((5 : Nat) ≤ a0) → (((3 : Nat) + (2 : Nat)) ≤ a0) := by intros; assumption
theorem om_69 : ∀ (a0 : Nat), ((3 : Nat) ≤ a0) → ((3 : Nat) ≤ a0) := by intros; assumption
theorem om_70 : ∀ (a0 : Nat), ((a0 + (1 : Nat)) ≤ (1000000 : Nat)) → (a0 ≤ (1000000 : Nat)) := fun _ h => Nat.le_trans (Nat.le_sub_of_add_le h) (by decide)
theorem om_71 : ∀ (a0 : Nat) (a1 : Nat), ((a0 + (a1 + (1 : Nat))) ≤ (1000000 : Nat)) → (((a0 + ((0 : Nat) + (1 : Nat))) + a1) ≤ (1000000 : Nat)) := by intros; lia
theorem om_72 : ∀ (a0 : Nat) (a1 : Nat), ((a0 + a1) ≤ (1000000 : Nat)) → ((a0 + (0 : Nat)) ≤ (1048576 : Nat)) := by intros; lia
theorem om_73 : ∀ (a0 : Nat) (a1 : Nat) (a2 : Nat) (a3 : Nat), ((a0 + a1) ≤ (1000000 : Nat)) → (a1 = a2) → (a3 < a2) → ((a0 + a3) ≤ (1000000 : Nat)) := by intros; lia
theorem om_74 : ∀ (a0 : Nat) (a1 : Nat), ((a0 + ((a1 + (1 : Nat)) + (1 : Nat))) ≤ (1000000 : Nat)) → (((a0 + ((0 : Nat) + (1 : Nat))) + a1) ≤ (1000000 : Nat)) := by intros; lia
theorem om_75 : ∀ (a0 : Nat) (a1 : Nat), ((a0 + a1) ≤ (1000000 : Nat)) → (a0 ≤ (1048576 : Nat)) := fun _ _ h => Nat.le_trans (Nat.le_add_right _ _) (Nat.le_trans h (by decide))
theorem om_76 : ∀ (a0 : Nat) (a1 : Nat), (((a0 + (1 : Nat)) + (1 : Nat)) = a1) → (a0 < a1) := by intros; lia
theorem om_77 : ∀ (a0 : Nat) (a1 : Nat), (a0 ≤ (1000000 : Nat)) → (a1 ≤ (1 : Nat)) → ((a1 + a0) ≤ (1000001 : Nat)) := by intros; lia
theorem om_78 : ∀ (a0 : Nat) (a1 : Nat), ((a0 + (a1 + (1 : Nat))) ≤ (1000001 : Nat)) → (((a0 + ((0 : Nat) + (1 : Nat))) + a1) ≤ (1000001 : Nat)) := by intros; lia
theorem om_79 : ∀ (a0 : Nat) (a1 : Nat), ((a0 + a1) ≤ (1000001 : Nat)) → ((a0 + (0 : Nat)) ≤ (1048576 : Nat)) := by intros; lia
theorem om_80 : ∀ (a0 : Nat) (a1 : Nat) (a2 : Nat) (a3 : Nat), ((a0 + a1) ≤ (1000001 : Nat)) → (a1 = a2) → (a3 < a2) → ((a0 + a3) ≤ (1000001 : Nat)) := by intros; lia
theorem om_81 : ∀ (a0 : Nat) (a1 : Nat), ((a0 + ((a1 + (1 : Nat)) + (1 : Nat))) ≤ (1000001 : Nat)) → (((a0 + ((0 : Nat) + (1 : Nat))) + a1) ≤ (1000001 : Nat)) := by intros; lia
theorem om_82 : ∀ (a0 : Nat) (a1 : Nat), ((a0 + a1) ≤ (1000001 : Nat)) → (a0 ≤ (1048576 : Nat)) := fun _ _ h => Nat.le_trans (Nat.le_add_right _ _) (Nat.le_trans h (by decide))
theorem om_83 : ∀ (a0 : Nat), (a0 ≤ (1000000 : Nat)) → (a0 ≤ (1048575 : Nat)) := fun _ h => Nat.le_trans h (by decide)
theorem om_84 : ∀ (a0 : Nat), (a0 ≤ (1000000 : Nat)) → (a0 ≤ (1048576 : Nat)) := fun _ h => Nat.le_trans h (by decide)
theorem om_85 : ∀ (a0 : Nat), (¬ ((0 : Int) ≤ ((-((a0 : Nat) : Int)) - (1 : Int)))) := by intros; lia
theorem om_86 : ∀ (a0 : Nat), ((Int.toNat ((-((-((a0 : Nat) : Int)) - (1 : Int))) - (1 : Int))) = a0) := by intros; lia
theorem om_87 : ∀ (a0 : Nat), (((-((-((a0 : Nat) : Int)) - (1 : Int))) - (1 : Int)) = ((a0 : Nat) : Int)) := by intros; lia
theorem om_88 : ∀ (a0 : Nat), (¬ (a0 < (64 : Nat))) → ((64 : Nat) ≤ a0) := by intros; lia
theorem om_89 : ∀ (a0 : Nat) (a1 : Nat), ((a0 - a1) = (0 : Nat)) → (a1 ≤ a0) → (a1 = a0) := by intros; lia
theorem om_90 : ∀ (a0 : Nat) (a1 : Nat) (a2 : Nat), (a0 ≤ (300000 : Nat)) → (a1 ≤ ((3 : Nat) * a2)) → (a2 = a0) → ((a1 + (10 : Nat)) ≤ (1048576 : Nat)) := by intros; lia
theorem om_91 : ∀ (a0 : Nat), (((a0 : Nat) : Int) = (2 : Int)) → (a0 = (2 : Nat)) := by intros; lia
theorem om_92 : ∀ (a0 : Nat) (a1 : Nat) (a2 : Nat), (a0 = (((2 : Nat) * a1) % (6 : Nat))) → (a1 = a2) → (a0 = (2 : Nat)) → ((((3 : Nat) - (a2 % (3 : Nat))) % (3 : Nat)) = (2 : Nat)) := fun a0 a1 a2 h e h2 => by subst e; rw [h_pad a1 1 (h.symm.trans h2)]
theorem om_93 : ∀ (a0 : Nat), (((((a0 : Nat) : Int) % (4 : Int)) * (16 : Int)) = ((((a0 % (4 : Nat)) * (16 : Nat)) : Nat) : Int)) := by intros; lia
theorem om_94 : ∀ (a0 : Nat), ((0 : Int) ≤ ((((a0 % (4 : Nat)) * (16 : Nat)) : Nat) : Int)) := by intros; lia
theorem om_95 : ∀ (a0 : Nat), (((((a0 % (4 : Nat)) * (16 : Nat)) : Nat) : Int) < (64 : Int)) := by intros; lia
theorem om_96 : ∀ (a0 : Nat), ((a0 + (10 : Nat)) ≤ (1048576 : Nat)) → (a0 ≤ (1048576 : Nat)) := fun _ h => Nat.le_trans (Nat.le_sub_of_add_le h) (by decide)
theorem om_97 : ∀ (a0 : Nat), ((a0 + (10 : Nat)) ≤ (1048576 : Nat)) → (a0 ≤ (1048575 : Nat)) := fun _ h => Nat.le_trans (Nat.le_sub_of_add_le h) (by decide)
theorem om_98 : ∀ (a0 : Nat), ((a0 + (10 : Nat)) ≤ (1048576 : Nat)) → (a0 ≤ (1048574 : Nat)) := fun _ h => Nat.le_trans (Nat.le_sub_of_add_le h) (by decide)
theorem om_99 : ∀ (a0 : Nat), ((a0 + (10 : Nat)) ≤ (1048576 : Nat)) → (a0 ≤ (1048573 : Nat)) := fun _ h => Nat.le_trans (Nat.le_sub_of_add_le h) (by decide)
theorem om_100 : ∀ (a0 : Nat), (((a0 : Nat) : Int) = (4 : Int)) → (a0 = (4 : Nat)) := by intros; lia
theorem om_101 : ∀ (a0 : Nat) (a1 : Nat) (a2 : Nat), (a0 = (((2 : Nat) * a1) % (6 : Nat))) → (a1 = a2) → (a0 = (4 : Nat)) → ((((3 : Nat) - (a2 % (3 : Nat))) % (3 : Nat)) = (1 : Nat)) := fun a0 a1 a2 h e h2 => by subst e; rw [h_pad a1 2 (h.symm.trans h2)]
theorem om_102 : ∀ (a0 : Nat), (((((a0 : Nat) : Int) % (16 : Int)) * (4 : Int)) = ((((a0 % (16 : Nat)) * (4 : Nat)) : Nat) : Int)) := by intros; lia
theorem om_103 : ∀ (a0 : Nat), ((0 : Int) ≤ ((((a0 % (16 : Nat)) * (4 : Nat)) : Nat) : Int)) := by intros; lia
theorem om_104 : ∀ (a0 : Nat), (((((a0 % (16 : Nat)) * (4 : Nat)) : Nat) : Int) < (64 : Int)) := by intros; lia
theorem om_105 : ∀ (a0 : Nat) (a1 : Nat) (a2 : Nat), (a0 = (((2 : Nat) * a1) % (6 : Nat))) → (a1 = a2) → (a0 ≠ (2 : Nat)) → (a0 ≠ (4 : Nat)) → ((((3 : Nat) - (a2 % (3 : Nat))) % (3 : Nat)) = (0 : Nat)) := fun a0 a1 a2 h e h2 h4 => by subst e; rw [h_r3] at h; have hl := Nat.mod_lt a1 (show 3 > 0 by decide); generalize a1 % 3 = r at h hl; exact match r, h, hl with | 0, _, _ => rfl | 1, h, _ => absurd h h2 | 2, h, _ => absurd h h4 | n + 3, _, hl => absurd hl (Nat.not_lt.mpr (Nat.le_add_left 3 n))
theorem om_106 : ∀ (a0 : Nat) (a1 : Nat) (a2 : Nat), ((a0 - a1) = (a2 + (1 : Nat))) → (a1 < a0) := fun a0 a1 a2 h => Nat.lt_of_sub_eq_succ h
theorem om_107 : ∀ (a0 : Nat), (a0 < (((6 : Nat) * (0 : Nat)) + (6 : Nat))) → (¬ (((a0 : Nat) : Int) ≥ (6 : Int))) := by intros; lia
theorem om_108 : ∀ (a0 : Nat) (a1 : Nat) (a2 : Nat), ((a0 - a1) = (a2 + (1 : Nat))) → ((a0 - (a1 + (1 : Nat))) = a2) := fun a0 a1 a2 h => (Nat.sub_succ a0 a1).trans (congrArg Nat.pred h)
theorem om_109 : ∀ (a0 : Nat) (a1 : Nat), (a0 < a1) → ((a0 + (1 : Nat)) ≤ a1) := fun _ _ h => h
theorem om_110 : ∀ (a0 : Nat) (a1 : Nat), ((a0 + (0 : Nat)) ≤ (((3 : Nat) * a1) + (3 : Nat))) → (a0 ≤ ((3 : Nat) * (a1 + (1 : Nat)))) := by intros; assumption
theorem om_111 : ∀ (a0 : Nat) (a1 : Nat) (a2 : Nat), (a0 = (((2 : Nat) * a1) % (6 : Nat))) → (a2 < (((6 : Nat) * (0 : Nat)) + (6 : Nat))) → ((a2 % (6 : Nat)) = ((a0 + (2 : Nat)) % (6 : Nat))) → (a2 = (((2 : Nat) * (a1 + (1 : Nat))) % (6 : Nat))) := by intros; omega
theorem om_112 : ∀ (a0 : Nat), (a0 < (((6 : Nat) * (0 : Nat)) + (6 : Nat))) → (¬ ((6 : Nat) ≤ a0)) := by intros; lia
theorem om_113 : ∀ (a0 : Nat) (a1 : Nat), (a0 < (((6 : Nat) * (0 : Nat)) + (6 : Nat))) → ((a0 % (6 : Nat)) = ((a1 + (2 : Nat)) % (6 : Nat))) → (a0 = ((a1 + (2 : Nat)) % (6 : Nat))) := fun a0 a1 h1 h2 => (Nat.mod_eq_of_lt h1).symm.trans h2
theorem om_114 : ∀ (a0 : Nat) (a1 : Nat) (a2 : Nat) (a3 : Nat), (a0 ≤ (300000 : Nat)) → (a1 < a0) → ((a2 + (a3 + (1 : Nat))) ≤ (((3 : Nat) * a1) + (3 : Nat))) → ((a2 + (10 : Nat)) ≤ (1048576 : Nat)) := by intros; lia
theorem om_115 : ∀ (a0 : Nat), (((a0 : Nat) : Int) ≥ (6 : Int)) → ((0 : Int) ≤ (((a0 : Nat) : Int) - (6 : Int))) := by intros; lia
theorem om_116 : ∀ (a0 : Nat), ((Int.toNat (((a0 : Nat) : Int) - (6 : Int))) = (a0 - (6 : Nat))) := fun a0 => Int.toNat_sub a0 6
theorem om_117 : ∀ (a0 : Nat), ((0 : Int) ≤ (((a0 % (64 : Nat)) : Nat) : Int)) := by intros; lia
theorem om_118 : ∀ (a0 : Nat), ((((a0 % (64 : Nat)) : Nat) : Int) < (64 : Int)) := by intros; lia
theorem om_119 : ∀ (a0 : Nat), (((a0 : Nat) : Int) ≥ (6 : Int)) → ((((a0 : Nat) : Int) - (6 : Int)) = (((a0 - (6 : Nat)) : Nat) : Int)) := fun a0 h => (Int.ofNat_sub (Int.ofNat_le.mp h)).symm
theorem om_120 : ∀ (a0 : Nat) (a1 : Nat), (a0 < (((6 : Nat) * (a1 + (1 : Nat))) + (6 : Nat))) → ((a0 - (6 : Nat)) < (((6 : Nat) * a1) + (6 : Nat))) := fun a0 a1 H => (Nat.lt_or_ge a0 6).elim (fun h => by rw [Nat.sub_eq_zero_of_le (Nat.le_of_lt h)]; exact Nat.succ_pos _) (fun h => Nat.sub_lt_right_of_lt_add h H)
theorem om_121 : ∀ (a0 : Nat) (a1 : Nat) (a2 : Nat), ((a0 + (a1 + (1 : Nat))) ≤ (((3 : Nat) * a2) + (3 : Nat))) → (((a0 + (1 : Nat)) + a1) ≤ (((3 : Nat) * a2) + (3 : Nat))) := by intros; lia
theorem om_122 : ∀ (a0 : Nat) (a1 : Nat), ((a0 % (6 : Nat)) = ((a1 + (2 : Nat)) % (6 : Nat))) → (((a0 : Nat) : Int) ≥ (6 : Int)) → (((a0 - (6 : Nat)) % (6 : Nat)) = ((a1 + (2 : Nat)) % (6 : Nat))) := fun a0 a1 h h3 => (Nat.mod_eq_sub_mod (Int.ofNat_le.mp h3)).symm.trans h
theorem om_123 : ∀ (a0 : Nat), (((a0 : Nat) : Int) ≥ (6 : Int)) → ((6 : Nat) ≤ a0) := by intros; lia
theorem om_124 : ∀ (a0 : Nat) (a1 : Nat) (a2 : Nat), ((a0 + (a1 + (1 : Nat))) ≤ (((3 : Nat) * a2) + (3 : Nat))) → (a0 ≤ ((3 : Nat) * (a2 + (1 : Nat)))) := by intros; lia
theorem om_125 : ∀ (a0 : Nat) (a1 : Nat) (a2 : Nat), (a0 = (((2 : Nat) * a1) % (6 : Nat))) → ((a2 % (6 : Nat)) = ((a0 + (2 : Nat)) % (6 : Nat))) → (¬ (((a2 : Nat) : Int) ≥ (6 : Int))) → (a2 = (((2 : Nat) * (a1 + (1 : Nat))) % (6 : Nat))) := fun a0 a1 a2 h1 h2 h3 => (Nat.mod_eq_of_lt (Int.ofNat_lt.mp (Int.not_le.mp h3))).symm.trans (h2.trans (by rw [h1, Nat.mod_add_mod]; rfl))
theorem om_126 : ∀ (a0 : Nat), (¬ (((a0 : Nat) : Int) ≥ (6 : Int))) → (¬ ((6 : Nat) ≤ a0)) := by intros; lia
theorem om_127 : ∀ (a0 : Nat) (a1 : Nat), ((a0 % (6 : Nat)) = ((a1 + (2 : Nat)) % (6 : Nat))) → (¬ (((a0 : Nat) : Int) ≥ (6 : Int))) → (a0 = ((a1 + (2 : Nat)) % (6 : Nat))) := fun a0 a1 h h3 => (Nat.mod_eq_of_lt (Int.ofNat_lt.mp (Int.not_le.mp h3))).symm.trans h
theorem om_128 : ∀ (a0 : Nat), ((((a0 : Nat) : Int) + (8 : Int)) = (((a0 + (8 : Nat)) : Nat) : Int)) := by intros; lia
theorem om_129 : ∀ (a0 : Nat) (a1 : Nat), (a0 = (((2 : Nat) * a1) % (6 : Nat))) → ((a0 + (8 : Nat)) < (((6 : Nat) * (2 : Nat)) + (6 : Nat))) := by intros; lia
theorem om_130 : ∀ (a0 : Nat) (a1 : Nat), (a0 ≤ ((3 : Nat) * a1)) → ((a0 + (2 : Nat)) ≤ (((3 : Nat) * a1) + (3 : Nat))) := by intros; lia
theorem om_131 : ∀ (a0 : Nat), (((a0 + (8 : Nat)) % (6 : Nat)) = ((a0 + (2 : Nat)) % (6 : Nat))) := fun a0 => Nat.add_mod_right (a0 + 2) 6
theorem om_132 : ∀ (a0 : Nat), ((a0 - (0 : Nat)) = a0) := fun _ => rfl
theorem om_133 : ∀ (a0 : Nat), ((0 : Nat) ≤ a0) := fun _ => Nat.zero_le _
theorem om_134 : ∀ (a0 : Nat) (a1 : Nat), (a0 = a1) → (a0 = a1) := by intros; assumption
theorem om_135 : ∀ (a0 : Nat) (a1 : Nat), (a0 = ((2 : Nat) * a1)) → (((((0 : Nat) + (1 : Nat)) + (1 : Nat)) + a0) = ((2 : Nat) * (a1 + (1 : Nat)))) := by intros; lia
theorem om_136 : ∀ (a0 : Nat) (a1 : Nat) (a2 : Nat), (a0 ≤ ((2 : Nat) * a1)) → (a2 ≤ (2 : Nat)) → ((a2 + a0) ≤ ((2 : Nat) * (a1 + (1 : Nat)))) := by intros; lia
theorem om_137 : ∀ (a0 : Nat) (a1 : Nat), (a0 = ((2 : Nat) * a1)) → (a0 ≤ (((2 : Nat) * a1) + (2 : Nat))) := by intros; lia
theorem om_138 : ∀ (a0 : Nat) (a1 : Nat), (a0 ≤ ((2 : Nat) * a1)) → (((((0 : Nat) + (1 : Nat)) + a0) + ((0 : Nat) + (1 : Nat))) ≤ (((2 : Nat) * a1) + (2 : Nat))) := by intros; lia
theorem om_139 : ∀ (a0 : Nat) (a1 : Nat), (a0 ≤ ((2 : Nat) * a1)) → (a0 ≤ (((2 : Nat) * a1) + (2 : Nat))) := by intros; lia
theorem om_140 : ∀ (a0 : Nat), (a0 ≤ (300000 : Nat)) → (a0 ≤ (1048576 : Nat)) := fun _ h => Nat.le_trans h (by decide)
theorem om_141 : ∀ (a0 : Nat), (a0 ≤ (300000 : Nat)) → ((((2 : Nat) * a0) + a0) ≤ (1048576 : Nat)) := by intros; lia
theorem om_142 : ∀ (a0 : Nat) (a1 : Nat), (a0 ≤ (300000 : Nat)) → (a1 ≤ ((2 : Nat) * a0)) → ((a1 + a0) ≤ (1048576 : Nat)) := by intros; lia
theorem om_143 : ∀ (a0 : Nat) (a1 : Nat), (a0 ≤ (300000 : Nat)) → (a1 ≤ ((2 : Nat) * a0)) → ((((0 : Nat) + (1 : Nat)) + a1) ≤ (1048576 : Nat)) := by intros; lia
theorem om_144 : ∀ (a0 : Nat) (a1 : Nat), (a0 ≤ (300000 : Nat)) → (a1 ≤ ((2 : Nat) * a0)) → (((((0 : Nat) + (1 : Nat)) + a1) + ((0 : Nat) + (1 : Nat))) ≤ (1048576 : Nat)) := by intros; lia
theorem om_145 : ∀ (a0 : Nat), (a0 ≤ (1000 : Nat)) → (a0 ≤ (1048576 : Nat)) := fun _ h => Nat.le_trans h (by decide)
theorem om_146 : ∀ (a0 : Nat), (a0 ≤ (200000 : Nat)) → (a0 ≤ (300000 : Nat)) := fun _ h => Nat.le_trans h (by decide)
theorem om_147 : ∀ (a0 : Nat) (a1 : Nat) (a2 : Nat) (a3 : Nat), (a0 ≤ (200000 : Nat)) → ((a1 + a2) ≤ (300000 : Nat)) → (a3 ≤ (((2 : Nat) * a0) + (2 : Nat))) → ((a2 + a3) ≤ (1048576 : Nat)) := by intros; lia
theorem om_148 : ∀ (a0 : Nat) (a1 : Nat) (a2 : Nat) (a3 : Nat), (a0 ≤ (200000 : Nat)) → ((a1 + a2) ≤ (300000 : Nat)) → (a3 ≤ (((2 : Nat) * a0) + (2 : Nat))) → ((a1 + (a2 + a3)) ≤ (1048576 : Nat)) := by intros; lia
theorem om_149 : ∀ (a0 : Nat) (a1 : Nat) (a2 : Nat) (a3 : Nat), (a0 ≤ (200000 : Nat)) → ((a1 + a2) ≤ (300000 : Nat)) → (a3 ≤ (((2 : Nat) * a0) + (2 : Nat))) → (((a1 + a2) + a3) ≤ (800000 : Nat)) := by intros; lia
theorem om_150 : ∀ (a0 : Nat), (a0 ≤ (800000 : Nat)) → (a0 ≤ (1048576 : Nat)) := fun _ h => Nat.le_trans h (by decide)
theorem om_151 : ∀ (a0 : Nat) (a1 : Nat), ((((a0 : Nat) : Int) + ((a1 : Nat) : Int)) = (((a0 + a1) : Nat) : Int)) := by intros; lia
theorem om_152 : ∀ (a0 : Nat), (a0 < (256 : Nat)) → (a0 < (256 : Nat)) := fun _ h => Nat.lt_of_lt_of_le h (by decide)
theorem om_153 : ∀ (a0 : Int), (((0 : Int) ≤ a0) ∧ (a0 < (256 : Int))) → ((((Int.toNat a0) : Nat) : Int) = a0) := fun a0 h => Int.toNat_of_nonneg h.1
theorem om_154 : ∀ (a0 : Int), (((0 : Int) ≤ a0) ∧ (a0 < (256 : Int))) → ((Int.toNat a0) < (256 : Nat)) := fun a0 h => (Int.toNat_lt h.1).mpr h.2
theorem om_155 : ∀ (a0 : Nat), (a0 = (2 : Nat)) → ((1 : Nat) ≤ a0) := by intros; lia
theorem om_156 : ∀ (a0 : Nat), (a0 = (4 : Nat)) → ((1 : Nat) ≤ a0) := by intros; lia
theorem om_157 : ∀ (a0 : Nat), ((6 : Nat) ≤ (a0 + (8 : Nat))) := by intros; lia
theorem om_158 : ∀ (a0 : Nat), ((4 : Nat) ≤ a0) → ((6 : Nat) ≤ ((a0 + (8 : Nat)) - (6 : Nat))) := by intros; lia
theorem om_159 : ∀ (a0 : Nat), (a0 < (6 : Nat)) → (¬ ((6 : Nat) ≤ (((a0 + (8 : Nat)) - (6 : Nat)) - (6 : Nat)))) := fun a0 h => Nat.not_le.mpr (Nat.lt_of_le_of_lt (show a0 + 8 - 6 - 6 ≤ a0 from Nat.sub_le a0 4) h)
theorem om_160 : ∀ (a0 : Nat), (a0 < (6 : Nat)) → ((4 : Nat) ≤ a0) → ((((((0 : Nat) + (1 : Nat)) + (1 : Nat)) * (6 : Nat)) + ((a0 + (2 : Nat)) % (6 : Nat))) = (a0 + (8 : Nat))) := by decide
theorem om_161 : ∀ (a0 : Nat), (¬ ((4 : Nat) ≤ a0)) → (¬ ((6 : Nat) ≤ ((a0 + (8 : Nat)) - (6 : Nat)))) := by intros; lia
theorem om_162 : ∀ (a0 : Nat), (¬ ((4 : Nat) ≤ a0)) → (((((0 : Nat) + (1 : Nat)) * (6 : Nat)) + ((a0 + (2 : Nat)) % (6 : Nat))) = (a0 + (8 : Nat))) := fun a0 h => (by decide : ∀ a, a < 4 → (0 + 1) * 6 + (a + 2) % 6 = a + 8) a0 (Nat.not_le.mp h)
theorem om_163 : ∀ (a0 : Nat) (a1 : Nat) (a2 : Nat) (a3 : Nat), ((a0 * (6 : Nat)) ≤ (((a1 * (8 : Nat)) + ((a2 + (2 : Nat)) % (6 : Nat))) + (5 : Nat))) → (((a3 * (6 : Nat)) + ((a2 + (2 : Nat)) % (6 : Nat))) = (a2 + (8 : Nat))) → (((a3 + a0) * (6 : Nat)) ≤ ((((a1 + (1 : Nat)) * (8 : Nat)) + a2) + (5 : Nat))) := by intros; lia
theorem om_164 : ∀ (a0 : Nat) (a1 : Nat), ((a0 * (6 : Nat)) ≤ (((a1 * (8 : Nat)) + (0 : Nat)) + (5 : Nat))) → ((a0 + (((3 : Nat) - (a1 % (3 : Nat))) % (3 : Nat))) ≤ (((2 : Nat) * a1) + (3 : Nat))) := by intros; lia
theorem om_165 : ∀ (a0 : Nat) (a1 : Nat), (a0 = a1) → ((((0 : Nat) + (1 : Nat)) + a0) = (a1 + (1 : Nat))) := by intros; lia
theorem om_166 : ∀ (a0 : Nat), (a0 ≤ (1000 : Nat)) → ((a0 + (1 : Nat)) < (1000000 : Nat)) := by intros; lia
theorem om_167 : ∀ (a0 : Nat), (a0 ≤ (1000 : Nat)) → (a0 < (1000000 : Nat)) := fun _ h => Nat.lt_of_le_of_lt h (by decide)
theorem om_168 : ∀ (a0 : Nat), (a0 ≤ (90000 : Nat)) → (a0 ≤ (1048576 : Nat)) := fun _ h => Nat.le_trans h (by decide)
theorem om_169 : ∀ (a0 : Nat), (a0 < (256 : Nat)) → (((0 : Int) ≤ ((a0 : Nat) : Int)) ∧ (((a0 : Nat) : Int) < (256 : Int))) := by intros; lia
theorem om_170 : ∀ (a0 : Nat) (a1 : Nat), (a0 ≤ (90000 : Nat)) → (a1 = a0) → (a1 ≤ (1048576 : Nat)) := fun _ _ h e => Nat.le_trans (Nat.le_of_eq e) (Nat.le_trans h (by decide))
theorem om_171 : ∀ (a0 : Nat), (a0 ≤ (90000 : Nat)) → (a0 ≤ (300000 : Nat)) := fun _ h => Nat.le_trans h (by decide)
theorem om_172 : ∀ (a0 : Nat) (a1 : Nat) (a2 : Nat), (a0 ≤ (90000 : Nat)) → (a1 ≤ (((2 : Nat) * a0) + (3 : Nat))) → (a2 = a1) → (a2 ≤ (1048576 : Nat)) := by intros; lia
theorem om_173 : ∀ (a0 : Nat) (a1 : Nat), (a0 ≤ (90000 : Nat)) → (a1 ≤ (((2 : Nat) * a0) + (3 : Nat))) → ((a1 + a1) ≤ (1048576 : Nat)) := by intros; lia
theorem om_174 : ∀ (a0 : Nat) (a1 : Nat), (a0 ≤ (90000 : Nat)) → (a1 ≤ (((2 : Nat) * a0) + (3 : Nat))) → (a1 ≤ (1048575 : Nat)) := by intros; lia
theorem om_175 : ∀ (a0 : Nat) (a1 : Nat), (a0 ≤ (90000 : Nat)) → (a1 ≤ (((2 : Nat) * a0) + (3 : Nat))) → (a1 ≤ (199999 : Nat)) := by intros; lia
theorem om_176 : ∀ (a0 : Nat) (a1 : Nat) (a2 : Nat), ((a0 + (a1 + a2)) = ((a0 + a1) + a2)) := by intros; lia
theorem om_177 : ∀ (a0 : Nat) (a1 : Nat) (a2 : Nat), (a0 ≤ a1) → ((1 : Nat) ≤ a2) → ((a0 + (1 : Nat)) ≤ (a2 + a1)) := by intros; lia
theorem om_178 : ∀ (a0 : Nat) (a1 : Nat) (a2 : Nat) (a3 : Nat) (a4 : Nat) (a5 : Nat), ((((((a0 + a1) + a2) + a3) + a4) + a5) = (((a0 + ((a1 + a2) + a3)) + a4) + a5)) := by intros; lia
theorem om_179 : ∀ (a0 : Nat), ((a0 = (10 : Nat)) ∨ ((a0 = (9 : Nat)) ∨ ((a0 = (13 : Nat)) ∨ (a0 = (32 : Nat))))) → (a0 < (256 : Nat)) := by intros; lia
theorem om_180 : ∀ (a0 : Nat) (a1 : Nat), (a0 < (256 : Nat)) → ((a1 = (92 : Nat)) ∨ (a1 = a0)) → (a1 < (256 : Nat)) := by intros; lia
theorem om_181 : ∀ (a0 : Nat) (a1 : Nat), (a0 < (256 : Nat)) → (a1 = a0) → (a1 < (256 : Nat)) := by intros; lia
theorem om_182 : ∀ (a0 : Nat), (a0 = (34 : Nat)) → (a0 < (256 : Nat)) := fun _ h => by rw [h]; decide
theorem om_183 : ∀ (a0 : Nat) (a1 : Nat) (a2 : Nat), (a0 ≤ (3 : Nat)) → (((a1 + a0) + a2) ≤ ((a1 + (3 : Nat)) + a2)) := by intros; lia
theorem om_184 : ∀ (a0 : Nat) (a1 : Nat) (a2 : Nat), (a0 = a1) → (a1 ≤ a2) → (a0 ≤ a2) := by intros; lia
theorem om_185 : ∀ (a0 : Nat) (a1 : Nat), (a0 ≤ ((a0 + (1 : Nat)) + a1)) := by intros; lia
theorem om_186 : ∀ (a0 : Nat) (a1 : Nat) (a2 : Nat), (a0 ≤ (13 : Nat)) → ((a1 + a2) ≤ a0) → (a1 ≤ (13 : Nat)) := by intros; lia
theorem om_187 : ∀ (a0 : Nat), ((a0 * (2 : Nat)) = ((2 : Nat) * a0)) := by intros; lia
theorem om_188 : ∀ (a0 : Nat), (a0 ≤ (3 : Nat)) → (a0 ≤ (200000 : Nat)) := fun _ h => Nat.le_trans h (by decide)
theorem om_189 : ∀ (a0 : Nat) (a1 : Nat) (a2 : Nat) (a3 : Nat), (a0 ≤ (8192 : Nat)) → ((a1 + (13 : Nat)) ≤ ((13 : Nat) * a0)) → (a2 ≤ (3 : Nat)) → (a3 = a1) → ((a3 + a2) ≤ (300000 : Nat)) := by intros; lia
theorem om_190 : ∀ (a0 : Nat) (a1 : Nat) (a2 : Nat), (a0 ≤ (13 : Nat)) → (a1 ≤ a0) → (a2 ≤ a1) → (a2 ≤ (1000 : Nat)) := by intros; lia
theorem om_191 : ∀ (a0 : Nat) (a1 : Nat) (a2 : Nat) (a3 : Nat), (a0 = (1 : Nat)) → (a1 ≤ a2) → (a3 = (a1 + a0)) → (a3 ≤ (a2 + (1 : Nat))) := by intros; lia
theorem om_192 : ∀ (a0 : Nat) (a1 : Nat) (a2 : Nat) (a3 : Nat) (a4 : Nat), (a0 ≤ (8192 : Nat)) → (((a1 + a2) + (13 : Nat)) ≤ ((13 : Nat) * a0)) → (a3 ≤ (3 : Nat)) → (a4 = a1) → ((a4 + a3) ≤ (300000 : Nat)) := by intros; lia
theorem om_193 : ∀ (a0 : Nat) (a1 : Nat) (a2 : Nat) (a3 : Nat), (a0 ≤ (13 : Nat)) → (((a1 + (1 : Nat)) + a2) ≤ a0) → (a3 ≤ a1) → (a3 ≤ (1000 : Nat)) := by intros; lia
theorem om_194 : ∀ (a0 : Nat) (a1 : Nat) (a2 : Nat), ((a0 + (a1 + (1 : Nat))) ≤ a2) → (((a0 + (1 : Nat)) + (a1 + (1 : Nat))) ≤ (a2 + (1 : Nat))) := by intros; lia
theorem om_195 : ∀ (a0 : Nat) (a1 : Nat) (a2 : Nat) (a3 : Nat) (a4 : Nat), (a0 = (1 : Nat)) → (((a1 + (1 : Nat)) + a2) ≤ a3) → (a4 = (a1 + a0)) → (((a4 + (1 : Nat)) + a2) ≤ (a3 + (1 : Nat))) := by intros; lia
theorem om_196 : ∀ (a0 : Nat) (a1 : Nat) (a2 : Nat), (a0 ≤ (13 : Nat)) → ((a1 + (a2 + (1 : Nat))) ≤ a0) → (a1 ≤ (12 : Nat)) := by intros; lia
theorem om_197 : ∀ (a0 : Nat), ((a0 * ((2 : Nat) ^ (2 : Nat))) = ((4 : Nat) * a0)) := by intros; lia
theorem om_198 : ∀ (a0 : Nat) (a1 : Nat) (a2 : Nat) (a3 : Nat) (a4 : Nat), (a0 ≤ (4096 : Nat)) → (((a1 + a2) + (13 : Nat)) ≤ ((13 : Nat) * a0)) → (a3 ≤ (3 : Nat)) → (a4 = a2) → ((a4 + a3) ≤ (300000 : Nat)) := by intros; lia
theorem om_199 : ∀ (a0 : Nat) (a1 : Nat) (a2 : Nat) (a3 : Nat), (a0 ≤ (13 : Nat)) → (((a1 + (1 : Nat)) + a2) ≤ a0) → (a3 ≤ a2) → (a3 ≤ (1000 : Nat)) := by intros; lia
theorem om_200 : ∀ (a0 : Nat) (a1 : Nat) (a2 : Nat) (a3 : Nat), (a0 ≤ (4096 : Nat)) → (a1 = a2) → (((a2 + a3) + (13 : Nat)) ≤ ((13 : Nat) * a0)) → (a1 ≤ (90000 : Nat)) := by intros; lia
theorem om_201 : ∀ (a0 : Nat) (a1 : Nat) (a2 : Nat) (a3 : Nat) (a4 : Nat) (a5 : Nat) (a6 : Nat) (a7 : Nat), (a0 = ((4 : Nat) * a1)) → (a2 = a3) → (a4 ≤ (((2 : Nat) * a2) + (3 : Nat))) → (a5 ≤ (((2 : Nat) * (a4 + (1 : Nat))) + (2 : Nat))) → (((a3 + a6) + (13 : Nat)) ≤ ((13 : Nat) * a1)) → (a7 ≤ ((a6 + (3 : Nat)) + a5)) → ((a7 + (13 : Nat)) ≤ ((13 : Nat) * a0)) := by intros; lia
theorem om_202 : ∀ (a0 : Nat) (a1 : Nat) (a2 : Nat), ((a0 + (a1 + (1 : Nat))) ≤ a2) → (((a0 + (2 : Nat)) + (0 : Nat)) ≤ (a2 + (1 : Nat))) := by intros; lia
theorem om_203 : ∀ (a0 : Nat) (a1 : Nat) (a2 : Nat) (a3 : Nat) (a4 : Nat), (a0 = ((1 : Nat) + a1)) → (((a1 + (1 : Nat)) + a2) ≤ a3) → (a4 = (a2 + a0)) → (a4 ≤ (a3 + (1 : Nat))) := by intros; lia
theorem om_204 : ∀ (a0 : Nat) (a1 : Nat) (a2 : Nat) (a3 : Nat) (a4 : Nat) (a5 : Nat), (a0 ≤ (4096 : Nat)) → (((a1 + (a2 + a3)) + (13 : Nat)) ≤ ((13 : Nat) * a0)) → (a4 ≤ (3 : Nat)) → (a5 = a2) → ((a5 + a4) ≤ (300000 : Nat)) := by intros; lia
theorem om_205 : ∀ (a0 : Nat) (a1 : Nat) (a2 : Nat) (a3 : Nat) (a4 : Nat), (a0 ≤ (13 : Nat)) → (((a1 + (1 : Nat)) + ((a2 + (1 : Nat)) + a3)) ≤ a0) → (a4 ≤ a2) → (a4 ≤ (1000 : Nat)) := by intros; lia
theorem om_206 : ∀ (a0 : Nat) (a1 : Nat) (a2 : Nat), (a0 ≤ (13 : Nat)) → ((a1 + ((a2 + (1 : Nat)) + (1 : Nat))) ≤ a0) → ((a2 + (1 : Nat)) ≤ (1000 : Nat)) := by intros; lia
theorem om_207 : ∀ (a0 : Nat) (a1 : Nat) (a2 : Nat), (a0 ≤ (13 : Nat)) → ((a1 + ((a2 + (1 : Nat)) + (1 : Nat))) ≤ a0) → (a2 ≤ (999 : Nat)) := by intros; lia
theorem om_208 : ∀ (a0 : Nat) (a1 : Nat) (a2 : Nat) (a3 : Nat) (a4 : Nat), (a0 ≤ (4096 : Nat)) → (a1 = a2) → (((a2 + (a3 + a4)) + (13 : Nat)) ≤ ((13 : Nat) * a0)) → (a1 ≤ (90000 : Nat)) := by intros; lia
theorem om_209 : ∀ (a0 : Nat) (a1 : Nat) (a2 : Nat) (a3 : Nat) (a4 : Nat) (a5 : Nat) (a6 : Nat) (a7 : Nat) (a8 : Nat), (a0 = ((4 : Nat) * a1)) → (a2 = a3) → (a4 ≤ (((2 : Nat) * a2) + (3 : Nat))) → (a5 ≤ (((2 : Nat) * (a4 + (1 : Nat))) + (2 : Nat))) → (((a3 + (a6 + a7)) + (13 : Nat)) ≤ ((13 : Nat) * a1)) → (a8 ≤ ((a6 + (3 : Nat)) + a5)) → (((a8 + a7) + (13 : Nat)) ≤ ((13 : Nat) * a0)) := by intros; lia
theorem om_210 : ∀ (a0 : Nat) (a1 : Nat) (a2 : Nat), ((a0 + ((a1 + (1 : Nat)) + (1 : Nat))) ≤ a2) → (((a0 + (2 : Nat)) + (a1 + (1 : Nat))) ≤ (a2 + (1 : Nat))) := by intros; lia
theorem om_211 : ∀ (a0 : Nat) (a1 : Nat) (a2 : Nat) (a3 : Nat) (a4 : Nat) (a5 : Nat), (a0 = ((1 : Nat) + a1)) → (((a1 + (1 : Nat)) + ((a2 + (1 : Nat)) + a3)) ≤ a4) → (a5 = (a2 + a0)) → (((a5 + (1 : Nat)) + a3) ≤ (a4 + (1 : Nat))) := by intros; lia
theorem om_212 : ∀ (a0 : Nat), ((0 : Nat) < a0) → ((0 : Int) < ((a0 : Nat) : Int)) := by intros; lia
theorem om_213 : ∀ (a0 : Int), ((0 : Int) ≤ a0) → (a0 = (((Int.toNat a0) : Nat) : Int)) := by intros; lia
theorem om_214 : ∀ (a0 : Int) (a1 : Nat), ((0 : Int) ≤ a0) → (a0 < ((a1 : Nat) : Int)) → ((Int.toNat a0) < a1) := fun a0 a1 h h' => (Int.toNat_lt h).mpr h'
theorem om_215 : ∀ (a0 : Nat), (a0 < (4 : Nat)) → ((a0 = (0 : Nat)) ∨ ((a0 = (1 : Nat)) ∨ ((a0 = (2 : Nat)) ∨ (a0 = (3 : Nat))))) := by intros; lia
theorem om_216 : ∀ (a0 : Nat), (a0 < (8 : Nat)) → ((a0 = (0 : Nat)) ∨ ((a0 = (1 : Nat)) ∨ ((a0 = (2 : Nat)) ∨ ((a0 = (3 : Nat)) ∨ ((a0 = (4 : Nat)) ∨ ((a0 = (5 : Nat)) ∨ ((a0 = (6 : Nat)) ∨ (a0 = (7 : Nat))))))))) := by decide
theorem om_217 : ∀ (a0 : Nat) (a1 : Nat), (a0 ≤ (14 : Nat)) → (a1 ≤ a0) → (a1 ≤ (14 : Nat)) := fun _ _ h h2 => Nat.le_trans h2 (Nat.le_trans h (by decide))
theorem om_218 : ∀ (a0 : Nat) (a1 : Nat), ((a0 + (13 : Nat)) ≤ ((13 : Nat) * a1)) → (a1 ≤ (16384 : Nat)) → (a0 ≤ (213000 : Nat)) := by intros; lia
theorem om_219 : ∀ (a0 : Nat) (a1 : Nat), ((a0 + (a1 + (1 : Nat))) ≤ (14 : Nat)) → (a1 ≤ (1048575 : Nat)) := by intros; lia
theorem om_220 : ∀ (a0 : Nat) (a1 : Nat), ((a0 + (a1 + (1 : Nat))) ≤ (14 : Nat)) → (a0 ≤ (13 : Nat)) := by intros; lia
theorem om_221 : ∀ (a0 : Nat) (a1 : Nat) (a2 : Nat), ((a0 + (1 : Nat)) = (a1 + (1 : Nat))) → (a2 = a0) → (a2 = a1) := by intros; lia
theorem om_222 : ∀ (a0 : Nat) (a1 : Nat) (a2 : Nat), ((a0 + (a1 + (1 : Nat))) ≤ (14 : Nat)) → (a2 = a1) → (((a0 + (1 : Nat)) + a2) ≤ (14 : Nat)) := by intros; lia
theorem om_223 : ∀ (a0 : Nat) (a1 : Nat), (a0 ≤ (11 : Nat)) → (a1 ≤ (3 : Nat)) → ((a0 + a1) ≤ (14 : Nat)) := by intros; lia
theorem om_224 : ∀ (a0 : Nat) (a1 : Nat), ((a0 - a1) = (0 : Nat)) → (a0 ≤ a1) := fun a0 a1 h => Nat.le_of_sub_eq_zero h
theorem om_225 : ∀ (a0 : Nat) (a1 : Nat), (a0 ≤ (11 : Nat)) → (a1 ≤ a0) → (a1 ≤ (11 : Nat)) := fun _ _ h h2 => Nat.le_trans h2 (Nat.le_trans h (by decide))
theorem om_226 : ∀ (a0 : Nat) (a1 : Nat) (a2 : Nat) (a3 : Nat), (a0 = a1) → ((a1 - a2) = (a3 + (1 : Nat))) → (a2 < a0) := fun a0 a1 a2 a3 e h => e ▸ Nat.lt_of_sub_eq_succ h
theorem om_227 : ∀ (a0 : Nat), (a0 < (4 : Nat)) → (a0 < (4 : Nat)) := fun _ h => Nat.lt_of_lt_of_le h (by decide)
theorem om_228 : ∀ (a0 : Nat), (a0 < (4 : Nat)) → (a0 < (1000000 : Nat)) := fun _ h => Nat.lt_of_lt_of_le h (by decide)
theorem om_229 : ∀ (a0 : Nat), (a0 < (8 : Nat)) → (a0 < (8 : Nat)) := fun _ h => Nat.lt_of_lt_of_le h (by decide)
theorem om_230 : ∀ (a0 : Nat), (a0 < (8 : Nat)) → (a0 < (1000000 : Nat)) := fun _ h => Nat.lt_of_lt_of_le h (by decide)
theorem om_231 : ∀ (a0 : Nat) (a1 : Nat) (a2 : Nat), (a0 ≤ (11 : Nat)) → (a1 = a0) → (a2 < a1) → (a2 ≤ (13 : Nat)) := by intros; lia
theorem om_232 : ∀ (a0 : Nat) (a1 : Nat) (a2 : Nat), (a0 = a1) → (a2 < a0) → ((a2 + (1 : Nat)) ≤ a1) := fun _ _ _ e h => Nat.le_trans h (Nat.le_of_eq e)
theorem om_233 : ∀ (a0 : Nat) (a1 : Nat), (a0 ≤ (3 : Nat)) → (a1 = a0) → (a1 ≤ (3 : Nat)) := fun _ _ h e => Nat.le_trans (Nat.le_of_eq e) (Nat.le_trans h (by decide))
theorem om_234 : ∀ (a0 : Nat) (a1 : Nat) (a2 : Nat), ((a0 + a1) ≤ a2) → ((a0 + a1) ≤ (a2 + (1 : Nat))) := by intros; lia
theorem om_235 : ∀ (a0 : Nat), (a0 ≤ (3 : Nat)) → (a0 ≤ (1048576 : Nat)) := fun _ h => Nat.le_trans h (by decide)
theorem om_236 : ∀ (a0 : Nat), (((a0 : Nat) : Int) < (3 : Int)) → (a0 < (3 : Nat)) := by intros; lia
theorem om_237 : ∀ (a0 : Nat), (a0 < (3 : Nat)) → ((a0 + (1 : Nat)) ≤ (1048576 : Nat)) := by intros; lia
theorem om_238 : ∀ (a0 : Nat), (a0 < (3 : Nat)) → (a0 ≤ (1048576 : Nat)) := fun _ h => Nat.le_trans (Nat.le_of_lt h) (by decide)
theorem om_239 : ∀ (a0 : Nat), (a0 < (2 : Nat)) → (a0 < (3 : Nat)) := fun _ h => Nat.lt_of_lt_of_le h (by decide)
theorem om_240 : ∀ (a0 : Nat) (a1 : Nat), ((a0 + (13 : Nat)) ≤ ((13 : Nat) * a1)) → ((((0 : Nat) + a0) + (13 : Nat)) ≤ ((13 : Nat) * a1)) := by intros; lia
theorem om_241 : ∀ (a0 : Nat) (a1 : Nat) (a2 : Nat), ((a0 + a1) ≤ a2) → ((a0 + (a1 + (1 : Nat))) ≤ (a2 + (1 : Nat))) := by intros; lia
theorem om_242 : ∀ (a0 : Nat) (a1 : Nat), (a0 ≤ a1) → ((((0 : Nat) + (1 : Nat)) + a0) ≤ (a1 + (1 : Nat))) := by intros; lia
theorem om_243 : ∀ (a0 : Nat), (a0 < (3 : Nat)) → ((a0 + (1 : Nat)) ≤ (3 : Nat)) := by intros; assumption
theorem om_244 : ∀ (a0 : Nat), (a0 < (4 : Nat)) → (¬ (((a0 : Nat) : Int) < (2 : Int))) → (¬ (a0 = (2 : Nat))) → (a0 = (3 : Nat)) := by intros; lia
theorem om_245 : ∀ (a0 : Nat) (a1 : Nat), ((a0 + (1 : Nat)) ≤ (3 : Nat)) → (a1 = a0) → (a1 ≤ (3 : Nat)) := by intros; lia
theorem om_246 : ∀ (a0 : Nat) (a1 : Nat) (a2 : Nat), (a0 < (256 : Nat)) → ((((a1 * (256 : Nat)) + a0) % (65536 : Nat)) = a2) → (((a2 / (4 : Nat)) % (64 : Nat)) = (a0 / (4 : Nat))) := fun a0 a1 a2 hy h => by rw [← Nat.mod_mul_right_div_self a2 4 64]; show a2 % 256 / 4 = _; rw [h_lo 256 (by decide) h, Nat.mod_eq_of_lt hy]
theorem om_247 : ∀ (a0 : Nat) (a1 : Nat) (a2 : Nat) (a3 : Nat) (a4 : Nat), (a0 < (256 : Nat)) → ((((a1 * (256 : Nat)) + a2) % (65536 : Nat)) = a3) → ((((a3 * (256 : Nat)) + a0) % (65536 : Nat)) = a4) → (((a4 / (16 : Nat)) % (64 : Nat)) = (((a2 % (4 : Nat)) * (16 : Nat)) + (a0 / (16 : Nat)))) := fun a0 a1 a2 a3 a4 hy h h' => by rw [← Nat.mod_mul_right_div_self a4 16 64]; show a4 % (256 * 4) / 16 = _; rw [h_hi 4 (by decide) hy h', h_lo 4 (by decide) h, show 256 * (a2 % 4) = 16 * (a2 % 4 * 16) by rw [Nat.mul_comm (a2 % 4) 16, ← Nat.mul_assoc], Nat.add_mul_div_left _ _ (by decide), Nat.add_comm]
theorem om_248 : ∀ (a0 : Nat) (a1 : Nat) (a2 : Nat) (a3 : Nat) (a4 : Nat), (a0 < (256 : Nat)) → ((((a1 * (256 : Nat)) + a2) % (65536 : Nat)) = a3) → ((((a3 * (256 : Nat)) + a0) % (65536 : Nat)) = a4) → (((a4 / (64 : Nat)) % (64 : Nat)) = (((a2 % (16 : Nat)) * (4 : Nat)) + (a0 / (64 : Nat)))) := fun a0 a1 a2 a3 a4 hy h h' => by rw [← Nat.mod_mul_right_div_self a4 64 64]; show a4 % (256 * 16) / 64 = _; rw [h_hi 16 (by decide) hy h', h_lo 16 (by decide) h, show 256 * (a2 % 16) = 64 * (a2 % 16 * 4) by rw [Nat.mul_comm (a2 % 16) 4, ← Nat.mul_assoc], Nat.add_mul_div_left _ _ (by decide), Nat.add_comm]
theorem om_249 : ∀ (a0 : Nat) (a1 : Nat) (a2 : Nat), ((((a0 * (256 : Nat)) + a1) % (65536 : Nat)) = a2) → ((a2 % (64 : Nat)) = (a1 % (64 : Nat))) := fun a0 a1 a2 h => h_lo 64 (by decide) h
theorem om_250 : ∀ (a0 : Nat) (a1 : Nat) (a2 : Nat), ((((a0 * (256 : Nat)) + a1) % (65536 : Nat)) = a2) → (((a2 % (16 : Nat)) * (4 : Nat)) = ((a1 % (16 : Nat)) * (4 : Nat))) := fun a0 a1 a2 h => congrArg (· * 4) (h_lo 16 (by decide) h)
theorem om_251 : ∀ (a0 : Nat) (a1 : Nat) (a2 : Nat), ((((a0 * (256 : Nat)) + a1) % (65536 : Nat)) = a2) → (((a2 % (4 : Nat)) * (16 : Nat)) = ((a1 % (4 : Nat)) * (16 : Nat))) := fun a0 a1 a2 h => congrArg (· * 16) (h_lo 4 (by decide) h)
theorem om_252 : ∀ (a0 : Nat), (a0 < (256 : Nat)) → ((a0 / (4 : Nat)) < (64 : Nat)) := by intros; lia
theorem om_253 : ∀ (a0 : Nat) (a1 : Nat), (a0 < (256 : Nat)) → ((((a1 % (4 : Nat)) * (16 : Nat)) + (a0 / (16 : Nat))) < (64 : Nat)) := by intros; lia
theorem om_254 : ∀ (a0 : Nat) (a1 : Nat), (a0 < (256 : Nat)) → ((((a1 % (16 : Nat)) * (4 : Nat)) + (a0 / (64 : Nat))) < (64 : Nat)) := by intros; lia
theorem om_255 : ∀ (a0 : Nat), ((a0 % (64 : Nat)) < (64 : Nat)) := by intros; lia
theorem om_256 : ∀ (a0 : Nat), (((4 : Nat) < (4 : Nat)) → (a0 < (3 : Nat))) := by intros; lia
theorem om_257 : ∀ (a0 : Nat), ((((3 : Nat) - ((((a0 + (1 : Nat)) + (1 : Nat)) + (1 : Nat)) % (3 : Nat))) % (3 : Nat)) = (((3 : Nat) - (a0 % (3 : Nat))) % (3 : Nat))) := fun a0 => by rw [show a0 + 1 + 1 + 1 = a0 + 3 from rfl, Nat.add_mod_right]
theorem om_258 : ∀ (a0 : Nat) (a1 : Nat), (a0 < (256 : Nat)) → ((((a1 / (4 : Nat)) * (4 : Nat)) + ((((a1 % (4 : Nat)) * (16 : Nat)) + (a0 / (16 : Nat))) / (16 : Nat))) = a1) := fun a0 a1 h => by rw [h_dv (by decide) (Nat.div_lt_of_lt_mul h), Nat.div_add_mod']
theorem om_259 : ∀ (a0 : Nat) (a1 : Nat) (a2 : Nat), (a0 < (256 : Nat)) → ((((a1 / (4 : Nat)) * (4 : Nat)) + ((((a1 % (4 : Nat)) * (16 : Nat)) + (a2 / (16 : Nat))) / (16 : Nat))) = a1) → (((((((a1 % (4 : Nat)) * (16 : Nat)) + (a2 / (16 : Nat))) % (16 : Nat)) * (16 : Nat)) + ((((a2 % (16 : Nat)) * (4 : Nat)) + (a0 / (64 : Nat))) / (4 : Nat))) = a2) := fun a0 a1 a2 h h' => by rw [h_md (h_16 h'), h_dv (by decide) (Nat.div_lt_of_lt_mul h), Nat.div_add_mod']
theorem om_260 : ∀ (a0 : Nat) (a1 : Nat) (a2 : Nat), ((((a0 / (4 : Nat)) * (4 : Nat)) + ((((a0 % (4 : Nat)) * (16 : Nat)) + (a1 / (16 : Nat))) / (16 : Nat))) = a0) → (((((((a0 % (4 : Nat)) * (16 : Nat)) + (a1 / (16 : Nat))) % (16 : Nat)) * (16 : Nat)) + ((((a1 % (16 : Nat)) * (4 : Nat)) + (a2 / (64 : Nat))) / (4 : Nat))) = a1) → (((((((a1 % (16 : Nat)) * (4 : Nat)) + (a2 / (64 : Nat))) % (4 : Nat)) * (64 : Nat)) + (a2 % (64 : Nat))) = a2) := by intros; lia
theorem om_261 : ∀ (a0 : Nat), (((a0 % (16 : Nat)) * (4 : Nat)) < (64 : Nat)) := by intros; lia
theorem om_262 : ((0 : Nat) < (64 : Nat)) := by decide
theorem om_263 : ∀ (a0 : Nat) (a1 : Nat), ((((a0 / (4 : Nat)) * (4 : Nat)) + ((((a0 % (4 : Nat)) * (16 : Nat)) + (a1 / (16 : Nat))) / (16 : Nat))) = a0) → (((((((a0 % (4 : Nat)) * (16 : Nat)) + (a1 / (16 : Nat))) % (16 : Nat)) * (16 : Nat)) + (((a1 % (16 : Nat)) * (4 : Nat)) / (4 : Nat))) = a1) := fun a0 a1 h => by rw [Nat.mul_div_cancel _ (by decide), h_md (h_16 h), Nat.div_add_mod']
theorem om_264 : ∀ (a0 : Nat), ((((((a0 % (16 : Nat)) * (4 : Nat)) % (4 : Nat)) * (64 : Nat)) + (0 : Nat)) = (0 : Nat)) := fun a0 => by rw [Nat.mul_mod_left]
theorem om_265 : ∀ (a0 : Nat), (((a0 % (4 : Nat)) * (16 : Nat)) < (64 : Nat)) := by intros; lia
theorem om_266 : ∀ (a0 : Nat), ((((a0 / (4 : Nat)) * (4 : Nat)) + (((a0 % (4 : Nat)) * (16 : Nat)) / (16 : Nat))) = a0) := by intros; lia
theorem om_267 : ∀ (a0 : Nat), ((((((a0 % (4 : Nat)) * (16 : Nat)) % (16 : Nat)) * (16 : Nat)) + ((0 : Nat) / (4 : Nat))) = (0 : Nat)) := fun a0 => by rw [Nat.mul_mod_left]
theorem om_268 : ∀ (a0 : Nat), (a0 ≤ (0 : Nat)) → (a0 = (0 : Nat)) := by intros; lia
theorem om_269 : ∀ (a0 : Nat) (a1 : Nat), (a0 ≤ (a1 + (1 : Nat))) → (a0 ≤ (a1 + (3 : Nat))) := by intros; lia
theorem om_270 : ∀ (a0 : Nat) (a1 : Nat), ((a0 % (4 : Nat)) = (0 : Nat)) → (((((min a1 (((((0 : Nat) + (1 : Nat)) + (1 : Nat)) + (1 : Nat)) + (1 : Nat))) + ((4 : Nat) - a1)) + a0) % (4 : Nat)) = (0 : Nat)) := fun a0 a1 h => by show (min a1 4 + (4 - a1) + a0) % 4 = 0; rw [h_m4, Nat.add_mod_left]; exact h
theorem om_271 : ∀ (a0 : Nat) (a1 : Nat), (a0 ≤ (250000 : Nat)) → (a1 ≤ (((2 : Nat) * a0) + (3 : Nat))) → (a1 ≤ (1048576 : Nat)) := by intros; lia
theorem om_272 : ∀ (a0 : Nat), ((a0 % (4 : Nat)) = (0 : Nat)) → (((((((a0 : Nat) : Int) - (0 : Int)) - (1 : Int)) / (4 : Int)) + (1 : Int)) = (((a0 / (4 : Nat)) : Nat) : Int)) := by intros; lia
theorem om_273 : ∀ (a0 : Nat), (¬ ((0 : Int) < ((a0 : Nat) : Int))) → ((0 : Int) = (((a0 / (4 : Nat)) : Nat) : Int)) := by intros; lia
theorem om_274 : ∀ (a0 : Nat) (a1 : Nat), (a0 ≤ (250000 : Nat)) → (a1 ≤ (((2 : Nat) * a0) + (3 : Nat))) → (((((a1 : Nat) : Int) < (9223372036854775808 : Int)) ∧ (((-(9223372036854775808 : Int)) ≤ (((a1 : Nat) : Int) / (4 : Int))) ∧ ((((a1 : Nat) : Int) / (4 : Int)) < (9223372036854775808 : Int)))) ∧ (((((a1 : Nat) : Int) / (4 : Int)) = (0 : Int)) ∨ (((-(9223372036854775808 : Int)) ≤ (((a1 : Nat) : Int) + (3 : Int))) ∧ ((((a1 : Nat) : Int) + (3 : Int)) < (9223372036854775808 : Int))))) := by intros; lia
theorem om_275 : ∀ (a0 : Nat) (a1 : Nat) (a2 : Nat), ((a0 % (4 : Nat)) = (0 : Nat)) → ((0 : Nat) = (a1 / (4 : Nat))) → (a0 = (((4 : Nat) * a2) + a1)) → (a1 ≤ (0 : Nat)) := by intros; lia
theorem om_276 : ∀ (a0 : Nat), ((0 : Int) < (((a0 + (1 : Nat)) : Nat) : Int)) := by intros; lia
theorem om_277 : ∀ (a0 : Nat), (((((a0 + (1 : Nat)) : Nat) : Int) - (1 : Int)) = ((a0 : Nat) : Int)) := by intros; lia
theorem om_278 : ∀ (a0 : Nat), ((((((4 : Nat) * a0) : Nat) : Int) + (4 : Int)) = ((((4 : Nat) * (a0 + (1 : Nat))) : Nat) : Int)) := by intros; lia
theorem om_279 : ∀ (a0 : Nat), (((min a0 (4 : Nat)) + ((4 : Nat) - a0)) = (4 : Nat)) := fun a0 => h_m4 a0
theorem om_280 : ∀ (a0 : Nat) (a1 : Nat), (((min a0 (4 : Nat)) + (((4 : Nat) - a0) + a1)) = ((4 : Nat) + a1)) := fun a0 a1 => by rw [← Nat.add_assoc, h_m4]
theorem om_281 : ∀ (a0 : Nat), (a0 ≤ (4 : Nat)) → ((min a0 (4 : Nat)) = a0) := by intros; lia
theorem om_282 : ∀ (a0 : Nat), ((((((4 : Nat) * a0) : Nat) : Int) + (4 : Int)) = (((((4 : Nat) * a0) + (4 : Nat)) : Nat) : Int)) := by intros; lia
theorem om_283 : ∀ (a0 : Nat), (((((4 : Nat) * a0) + (4 : Nat)) - ((4 : Nat) * a0)) = (4 : Nat)) := by intros; lia
theorem om_284 : ∀ (a0 : Nat), (((min a0 (4 : Nat)) + ((4 : Nat) - a0)) ≤ (1048576 : Nat)) := fun a0 => by rw [h_m4]; decide
theorem om_285 : ∀ (a0 : Nat), (a0 < (3 : Nat)) → (a0 ≤ (3 : Nat)) := fun _ h => Nat.le_trans (Nat.le_of_lt h) (by decide)
theorem om_286 : ∀ (a0 : Nat) (a1 : Nat), (a0 ≤ (4 : Nat)) → (a1 = a0) → (a1 ≤ (1048572 : Nat)) := fun _ _ h e => Nat.le_trans (Nat.le_of_eq e) (Nat.le_trans h (by decide))
theorem om_287 : ∀ (a0 : Nat) (a1 : Nat), (((((a0 : Nat) : Int) * (4 : Int)) + (((a1 / (16 : Nat)) : Nat) : Int)) = ((((a0 * (4 : Nat)) + (a1 / (16 : Nat))) : Nat) : Int)) := by intros; lia
theorem om_288 : ∀ (a0 : Nat) (a1 : Nat), ((((((a0 % (16 : Nat)) : Nat) : Int) * (16 : Int)) + (((a1 / (4 : Nat)) : Nat) : Int)) = (((((a0 % (16 : Nat)) * (16 : Nat)) + (a1 / (4 : Nat))) : Nat) : Int)) := by intros; lia
theorem om_289 : ∀ (a0 : Nat) (a1 : Nat), ((((((a0 % (4 : Nat)) : Nat) : Int) * (64 : Int)) + ((a1 : Nat) : Int)) = (((((a0 % (4 : Nat)) * (64 : Nat)) + a1) : Nat) : Int)) := by intros; lia
theorem om_290 : ∀ (a0 : Nat) (a1 : Nat), (a0 ≤ (4 : Nat)) → (a1 = a0) → (a1 ≤ (1048576 : Nat)) := fun _ _ h e => Nat.le_trans (Nat.le_of_eq e) (Nat.le_trans h (by decide))
theorem om_291 : ∀ (a0 : Nat), ((2 : Nat) ≤ a0) → (¬ (((a0 : Nat) : Int) < (2 : Int))) := by intros; lia
theorem om_292 : ∀ (a0 : Int), ((0 : Int) ≤ a0) → (¬ (a0 < (0 : Int))) := by intros; lia
theorem om_293 : ∀ (a0 : Nat), ((2 : Nat) ≤ a0) → ((((a0 : Nat) : Int) - (1 : Int)) = (((a0 - (1 : Nat)) : Nat) : Int)) := fun a0 h => (Int.ofNat_sub (Nat.le_of_succ_le h)).symm
theorem om_294 : ∀ (a0 : Nat), (a0 = (3 : Nat)) → (a0 ≤ (1048576 : Nat)) := fun _ h => by rw [h]; decide
theorem om_295 : ∀ (a0 : Nat), (a0 ≤ (4 : Nat)) → (((4 : Int) - ((a0 : Nat) : Int)) = ((((4 : Nat) - a0) : Nat) : Int)) := fun a0 h => (Int.ofNat_sub h).symm
theorem om_296 : ∀ (a0 : Nat), ((4 : Nat) ≤ ((1000000 : Nat) + a0)) := by intros; lia
theorem om_297 : ∀ (a0 : Nat), (((4 : Nat) - a0) ≤ (1000000 : Nat)) := fun a0 => Nat.le_trans (Nat.sub_le _ _) (by decide)
theorem om_298 : ∀ (a0 : Nat) (a1 : Nat), (a0 = (3 : Nat)) → ((min (a1 - (1 : Nat)) a0) ≤ (3 : Nat)) := by intros; lia
theorem om_299 : ∀ (a0 : Nat), (((min (3 : Nat) a0) + (min (3 : Nat) a0)) ≤ (1048576 : Nat)) := fun a0 => Nat.le_trans (Nat.add_le_add (Nat.min_le_left _ _) (Nat.min_le_left _ _)) (by decide)
theorem om_300 : ∀ (a0 : Nat) (a1 : Nat) (a2 : Nat), (a0 ≤ (250000 : Nat)) → ((a1 + a2) = a0) → ((a1 + (min (3 : Nat) a2)) ≤ (1048576 : Nat)) := by intros; lia
theorem om_301 : ∀ (a0 : Nat) (a1 : Nat) (a2 : Nat), ((a0 + (1 : Nat)) = (a1 / (4 : Nat))) → (a1 = ((4 : Nat) + a2)) → (a0 = (a2 / (4 : Nat))) := fun a0 a1 a2 h e => by subst e; exact Nat.succ.inj (h.trans (Nat.add_div_left a2 (by decide)))
theorem om_302 : ∀ (a0 : Nat) (a1 : Nat) (a2 : Nat) (a3 : Nat), (a0 = (((4 : Nat) * a1) + a2)) → (a2 = ((4 : Nat) + a3)) → (a0 = (((4 : Nat) * (a1 + (1 : Nat))) + a3)) := by intros; lia
theorem om_303 : ∀ (a0 : Nat), (((4 : Nat) * (a0 + (1 : Nat))) = (((4 : Nat) * a0) + (4 : Nat))) := by intros; lia
theorem om_304 : ∀ (a0 : Nat), (a0 = (((4 : Nat) * (0 : Nat)) + a0)) := by intros; lia
theorem om_305 : ∀ (a0 : Nat), ((¬ (a0 = (10 : Nat))) ∧ ((¬ (a0 = (9 : Nat))) ∧ ((¬ (a0 = (13 : Nat))) ∧ ((¬ (a0 = (32 : Nat))) ∧ (¬ (a0 = (92 : Nat))))))) → ((¬ (a0 = (10 : Nat))) ∧ ((¬ (a0 = (9 : Nat))) ∧ ((¬ (a0 = (13 : Nat))) ∧ (¬ (a0 = (32 : Nat)))))) := by intros; lia
theorem om_306 : ∀ (a0 : Nat), ((¬ (a0 = (10 : Nat))) ∧ ((¬ (a0 = (9 : Nat))) ∧ ((¬ (a0 = (13 : Nat))) ∧ ((¬ (a0 = (32 : Nat))) ∧ (¬ (a0 = (92 : Nat))))))) → (a0 ≠ (92 : Nat)) := by intros; lia
theorem om_307 : ∀ (a0 : Nat), ((¬ (a0 = (34 : Nat))) ∧ (¬ (a0 = (92 : Nat)))) → (a0 ≠ (34 : Nat)) := by intros; lia
theorem om_308 : ∀ (a0 : Nat), ((¬ (a0 = (34 : Nat))) ∧ (¬ (a0 = (92 : Nat)))) → (a0 ≠ (92 : Nat)) := by intros; lia
theorem om_309 : ∀ (a0 : Nat), (a0 < (3 : Nat)) → (a0 ≠ (1 : Nat)) → ((a0 = (0 : Nat)) ∨ (a0 = (2 : Nat))) := by intros; lia
theorem om_310 : ∀ (a0 : Nat), ((a0 = (46 : Nat)) ∨ (a0 = (58 : Nat))) → (a0 ≠ (34 : Nat)) := by intros; lia
theorem om_311 : ∀ (a0 : Nat), ((a0 = (46 : Nat)) ∨ (a0 = (58 : Nat))) → (a0 ≠ (92 : Nat)) := by intros; lia
theorem om_312 : ∀ (a0 : Nat) (a1 : Nat) (a2 : Nat) (a3 : Nat), ((((a0 + a1) + a2) + a3) = ((a0 + (a1 + a2)) + a3)) := by intros; lia
theorem om_313 : ∀ (a0 : Nat), (a0 ≤ (a0 + (1 : Nat))) := by intros; lia
theorem om_314 : ∀ (a0 : Nat), (a0 ≤ (1000 : Nat)) → (a0 ≤ (1000 : Nat)) := fun _ h => Nat.le_trans h (by decide)
theorem om_315 : ∀ (a0 : Nat) (a1 : Nat), (a0 ≤ (300000 : Nat)) → (a1 = a0) → (a1 ≤ (1000000 : Nat)) := fun _ _ h e => Nat.le_trans (Nat.le_of_eq e) (Nat.le_trans h (by decide))
theorem om_316 : ∀ (a0 : Nat) (a1 : Nat), (a0 ≤ (1000 : Nat)) → (a1 = a0) → (a1 ≤ (1000 : Nat)) := fun _ _ h e => Nat.le_trans (Nat.le_of_eq e) (Nat.le_trans h (by decide))
theorem om_317 : ∀ (a0 : Nat), (a0 ≤ (1000 : Nat)) → (a0 ≤ (1048575 : Nat)) := fun _ h => Nat.le_trans h (by decide)
theorem om_318 : ∀ (a0 : Nat) (a1 : Nat), (((a0 : Nat) : Int) = (max (0 : Int) (min ((-(1 : Int)) + (((a1 : Nat) : Int) + (1 : Int))) (((a1 : Nat) : Int) + (1 : Int))))) → (a0 = a1) := by intros; lia
theorem om_319 : ∀ (a0 : Nat) (a1 : Nat), (a0 ≤ (1000 : Nat)) → (a0 = (a1 + (1 : Nat))) → (a1 < (1000 : Nat)) := by intros; lia
theorem om_320 : ∀ (a0 : Nat), (a0 ≤ (300000 : Nat)) → (a0 ≤ (1000000 : Nat)) := fun _ h => Nat.le_trans h (by decide)
theorem om_321 : ∀ (a0 : Nat) (a1 : Nat), (a0 < (1000 : Nat)) → (a1 = a0) → (a1 ≤ (1048575 : Nat)) := by intros; lia
theorem om_322 : ∀ (a0 : Nat) (a1 : Nat) (a2 : Nat), (a0 ≤ (1000 : Nat)) → (a0 = (a1 + ((a2 + (1 : Nat)) + (1 : Nat)))) → (a1 < (1000 : Nat)) := by intros; lia
theorem om_323 : ∀ (a0 : Nat) (a1 : Nat) (a2 : Nat), (a0 ≤ (300000 : Nat)) → (a1 ≤ a0) → (a2 = a1) → (a2 ≤ (300000 : Nat)) := by intros; lia
theorem om_324 : ∀ (a0 : Nat) (a1 : Nat), ((((1 : Nat) + a0) + a1) = ((a1 + a0) + (1 : Nat))) := by intros; lia
theorem om_325 : ∀ (a0 : Nat) (a1 : Nat) (a2 : Nat) (a3 : Nat), ((a0 + a1) = a2) → (((a3 + a0) + (a1 + (1 : Nat))) = (((1 : Nat) + a3) + a2)) := by intros; lia
theorem om_326 : ∀ (a0 : Nat) (a1 : Nat) (a2 : Nat) (a3 : Int), (a0 = (a1 + a2)) → ((a3 + ((a2 : Nat) : Int)) = ((1 : Int) + ((a0 : Nat) : Int))) → (a3 = ((1 : Int) + ((a1 : Nat) : Int))) := by intros; lia
theorem om_327 : ∀ (a0 : Nat) (a1 : Nat), (a0 ≤ a1) → (a0 ≤ (a1 + (((3 : Nat) - (a0 % (3 : Nat))) % (3 : Nat)))) := by intros; lia
theorem om_328 : ∀ (a0 : Nat) (a1 : Nat) (a2 : Nat), ((1 : Nat) ≤ a0) → (a1 ≤ a2) → ((a1 + (1 : Nat)) ≤ (a0 + a2)) := by intros; lia
theorem om_329 : ∀ (a0 : Nat) (a1 : Nat), (a0 = ((2 : Nat) * a1)) → (a1 ≤ a0) := by intros; lia
theorem om_330 : ∀ (a0 : Nat) (a1 : Nat), (a0 ≤ a1) → (a0 ≤ ((((0 : Nat) + (1 : Nat)) + a1) + ((0 : Nat) + (1 : Nat)))) := by intros; lia
theorem om_331 : ∀ (a0 : Nat) (a1 : Nat) (a2 : Nat) (a3 : Nat), (a0 ≤ a1) → (a0 ≤ ((a2 + a1) + a3)) := by intros; lia
theorem om_332 : ∀ (a0 : Nat) (a1 : Nat) (a2 : Nat) (a3 : Nat), (a0 ≤ a1) → (a0 ≤ ((a2 + a3) + a1)) := by intros; lia
theorem om_333 : ∀ (a0 : Nat) (a1 : Nat) (a2 : Nat), ((a0 + (1 : Nat)) ≤ a1) → (a2 ≤ a0) → (a2 ≤ a1) := by intros; lia
theorem om_334 : ∀ (a0 : Nat) (a1 : Nat) (a2 : Nat) (a3 : Nat), ((a0 + (1 : Nat)) ≤ a1) → (a2 ≤ a0) → (a3 ≤ a2) → (a3 ≤ a1) := by intros; lia
theorem om_335 : ∀ (a0 : Nat) (a1 : Nat), (a0 ≤ (a0 + a1)) := by intros; lia
theorem om_336 : ∀ (a0 : Nat) (a1 : Nat) (a2 : Nat), (a0 ≤ a1) → (a0 ≤ (a2 + a1)) := by intros; lia
theorem om_337 : ∀ (a0 : Nat), (a0 ≤ (213000 : Nat)) → (a0 ≤ (1048576 : Nat)) := fun _ h => Nat.le_trans h (by decide)
theorem om_338 : ∀ (a0 : Nat) (a1 : Nat), (a0 ≤ (213000 : Nat)) → (a1 ≤ a0) → (a1 ≤ (213000 : Nat)) := fun _ _ h h2 => Nat.le_trans h2 (Nat.le_trans h (by decide))
theorem om_339 : ∀ (a0 : Nat) (a1 : Nat), (a0 ≤ (213000 : Nat)) → (a1 = a0) → (a1 ≤ (1000000 : Nat)) := fun _ _ h e => Nat.le_trans (Nat.le_of_eq e) (Nat.le_trans h (by decide))
theorem om_340 : ∀ (a0 : Nat) (a1 : Nat) (a2 : Nat) (a3 : Nat) (a4 : Nat) (a5 : Nat) (a6 : Nat) (a7 : Nat), ((a0 + (a1 + (1 : Nat))) ≤ (14 : Nat)) → ((a2 + a3) = (a1 + (1 : Nat))) → (a2 = (a4 + a5)) → (a4 = ((1 : Nat) + a6)) → (a7 ≤ a6) → (a7 ≤ (14 : Nat)) := by intros; lia
theorem om_341 : ∀ (a0 : Nat), (a0 ≤ (213000 : Nat)) → (a0 ≤ (250000 : Nat)) := fun _ h => Nat.le_trans h (by decide)
theorem om_342 : ∀ (a0 : Nat), (a0 ≤ (213000 : Nat)) → (a0 ≤ (300000 : Nat)) := fun _ h => Nat.le_trans h (by decide)
theorem om_343 : ∀ (a0 : Nat), (a0 ≤ (14 : Nat)) → (a0 ≤ (1000 : Nat)) := fun _ h => Nat.le_trans h (by decide)
theorem om_344 : ∀ (a0 : Nat) (a1 : Nat), (a0 = a1) → (a1 ≤ a0) := by intros; lia
theorem om_345 : ∀ (a0 : Nat) (a1 : Nat), (a0 ≤ (14 : Nat)) → (a1 = a0) → (a1 ≤ (1048576 : Nat)) := fun _ _ h e => Nat.le_trans (Nat.le_of_eq e) (Nat.le_trans h (by decide))
theorem om_346 : ∀ (a0 : Nat) (a1 : Nat) (a2 : Nat) (a3 : Nat) (a4 : Nat) (a5 : Nat) (a6 : Nat) (a7 : Nat) (a8 : Nat) (a9 : Nat), ((a0 + (a1 + (1 : Nat))) ≤ (14 : Nat)) → (a2 ≤ a3) → ((a4 + a5) = (a1 + (1 : Nat))) → (a4 = (a6 + a3)) → (a7 ≤ (14 : Nat)) → (a8 = (a2 + (min a9 a7))) → (a8 ≤ (1000 : Nat)) := by intros; lia
theorem om_347 : ∀ (a0 : Nat), (a0 ≤ (1000 : Nat)) → (a0 ≤ (1000000 : Nat)) := fun _ h => Nat.le_trans h (by decide)
theorem om_348 : ∀ (a0 : Nat) (a1 : Nat) (a2 : Nat), (a0 ≤ (213000 : Nat)) → (a1 = a2) → (a2 ≤ a0) → (a1 ≤ (1048576 : Nat)) := by intros; lia
theorem om_349 : ∀ (a0 : Nat) (a1 : Nat) (a2 : Nat), ((a0 + (a1 + (1 : Nat))) ≤ (14 : Nat)) → (a2 = a0) → (a2 ≤ (1048576 : Nat)) := by intros; lia
theorem om_350 : ∀ (a0 : Nat) (a1 : Nat) (a2 : Nat) (a3 : Nat) (a4 : Nat) (a5 : Nat), ((a0 + a1) = (a2 + (1 : Nat))) → (a0 = (a3 + a4)) → (a3 = ((1 : Nat) + a5)) → (((a4 + a5) + a1) = a2) := by intros; lia
theorem om_351 : ∀ (a0 : Nat) (a1 : Nat) (a2 : Nat), (a0 ≤ (213000 : Nat)) → (a1 = a2) → (a2 ≤ a0) → (a1 ≤ (1000000 : Nat)) := by intros; lia
theorem om_352 : ∀ (a0 : Int) (a1 : Nat) (a2 : Nat) (a3 : Int) (a4 : Nat), ((a0 + ((a1 : Nat) : Int)) = ((1 : Int) + ((a2 : Nat) : Int))) → ((a3 + ((a4 : Nat) : Int)) = (a0 + ((a1 : Nat) : Int))) → ((a3 + ((a4 : Nat) : Int)) = ((1 : Int) + ((a2 : Nat) : Int))) := fun a0 a1 a2 a3 a4 h1 h2 => h2.trans h1
theorem om_353 : ∀ (a0 : Nat) (a1 : Nat) (a2 : Nat), (((0 : Nat) + (a0 + a1)) = a2) → (((a0 + (0 : Nat)) + a1) = a2) := by intros; lia
theorem om_354 : ∀ (a0 : Nat) (a1 : Nat), ((a0 + (a1 + (1 : Nat))) ≤ (14 : Nat)) → (((a0 + ((0 : Nat) + (1 : Nat))) + a1) ≤ (14 : Nat)) := by intros; lia
theorem om_355 : ∀ (a0 : Nat) (a1 : Nat) (a2 : Nat) (a3 : Nat) (a4 : Nat) (a5 : Nat), ((a0 + (a1 + (1 : Nat))) ≤ (14 : Nat)) → ((a2 + a3) = a1) → ((a4 + (1 : Nat)) = (a5 + (1 : Nat))) → ((a5 + (1 : Nat)) ≤ a2) → (a4 ≤ (1000000 : Nat)) := by intros; lia
theorem om_356 : ∀ (a0 : Int) (a1 : Nat) (a2 : Nat), ((a0 + ((a1 : Nat) : Int)) = ((1 : Int) + ((a2 : Nat) : Int))) → ((a0 + ((a1 : Nat) : Int)) = ((1 : Int) + ((a2 : Nat) : Int))) := by intros; assumption
theorem om_357 : ∀ (a0 : Nat) (a1 : Nat), ((a0 + a1) ≤ (14 : Nat)) → (((0 : Nat) + ((a0 + (0 : Nat)) + a1)) ≤ (14 : Nat)) := by intros; lia
theorem om_358 : ∀ (a0 : Nat) (a1 : Nat) (a2 : Nat) (a3 : Nat) (a4 : Nat), (a0 ≤ a1) → (a2 ≤ a3) → (a3 = a4) → ((a2 + a0) ≤ (a4 + a1)) := by intros; lia
theorem om_359 : ∀ (a0 : Nat), (a0 < (256 : Nat)) → (a0 < (1114112 : Nat)) := fun _ h => Nat.lt_of_lt_of_le h (by decide)
theorem om_360 : ∀ (a0 : Nat) (a1 : Nat), (a0 ≤ (1 : Nat)) → (a1 = (1 : Nat)) → ((max a1 a0) ≤ (1 : Nat)) := by intros; lia
theorem om_361 : ∀ (a0 : Nat), (a0 ≤ (1 : Nat)) → ((a0 + (1 : Nat)) ≤ (64 : Nat)) := by intros; lia
theorem om_362 : ∀ (a0 : Nat) (a1 : Nat), (a0 ≤ (63 : Nat)) → (a1 = a0) → (a1 ≤ (1048576 : Nat)) := fun _ _ h e => Nat.le_trans (Nat.le_of_eq e) (Nat.le_trans h (by decide))
theorem om_363 : ∀ (a0 : Nat) (a1 : Nat), (a0 = (3 : Nat)) → ((a0 + (min (8 : Nat) a1)) ≤ (1048576 : Nat)) := fun a0 a1 h => by subst h; exact Nat.le_trans (Nat.add_le_add_left (Nat.min_le_left _ _) 3) (by decide)
theorem om_364 : ∀ (a0 : Nat), ((min (8 : Nat) a0) ≤ (8 : Nat)) := by intros; lia
theorem om_365 : ∀ (a0 : Nat) (a1 : Nat) (a2 : Nat) (a3 : Nat), (a0 = a1) → (a2 = a1) → ((a2 - a3) = (0 : Nat)) → (a0 ≤ a3) := by intros; lia
theorem om_366 : ∀ (a0 : Nat) (a1 : Nat) (a2 : Nat) (a3 : Nat), (a0 = a1) → (a2 = a1) → (a3 < a2) → (a3 < a0) := by intros; lia
theorem om_367 : ∀ (a0 : Nat) (a1 : Nat), (a0 ≤ (0 : Nat)) → (a1 ≤ a0) → (a1 = (0 : Nat)) := by intros; lia
theorem om_368 : ∀ (a0 : Nat) (a1 : Nat) (a2 : Nat) (a3 : Nat), (a0 ≤ (a1 + (1 : Nat))) → ((a1 + (1 : Nat)) ≤ (14 : Nat)) → (a2 = a3) → (a3 ≤ a0) → (a2 ≤ (1048576 : Nat)) := by intros; lia
theorem om_369 : ∀ (a0 : Nat) (a1 : Nat) (a2 : Nat) (a3 : Nat), (a0 ≤ (a1 + (1 : Nat))) → ((0 : Nat) < a2) → ((a3 + a2) = a0) → (a3 ≤ a1) := by intros; lia
theorem om_370 : ∀ (a0 : Nat), ((a0 + (1 : Nat)) ≤ (14 : Nat)) → (a0 ≤ (14 : Nat)) := fun _ h => Nat.le_trans (Nat.le_sub_of_add_le h) (by decide)
theorem om_371 : ∀ (a0 : Nat) (a1 : Nat) (a2 : Nat), (a0 = a1) → (a2 = a1) → (a0 ≤ a2) := by intros; lia
theorem om_372 : ∀ (a0 : Nat) (a1 : Nat) (a2 : Nat), (a0 = a1) → (a2 < a1) → (a2 < a0) := fun _ _ _ e h => Nat.lt_of_lt_of_eq h e.symm
theorem om_373 : ∀ (a0 : Nat) (a1 : Nat) (a2 : Nat), (a0 = (a1 + a2)) → (a1 ≤ a0) := by intros; lia
theorem om_374 : ∀ (a0 : Nat) (a1 : Nat) (a2 : Nat) (a3 : Nat) (a4 : Nat) (a5 : Nat), (a0 ≤ (a1 + (1 : Nat))) → ((a1 + (1 : Nat)) ≤ (14 : Nat)) → (a2 ≤ a3) → ((a3 + a4) = a5) → (a5 ≤ a0) → (a2 ≤ (14 : Nat)) := by intros; lia
theorem om_375 : ∀ (a0 : Nat) (a1 : Nat) (a2 : Nat), ((a0 + a1) ≤ (14 : Nat)) → (a2 = (a0 + a1)) → (a2 ≤ (14 : Nat)) := by intros; lia
theorem om_376 : ∀ (a0 : Nat) (a1 : Nat) (a2 : Nat) (a3 : Nat), ((a0 + a1) ≤ (14 : Nat)) → (a2 = (a0 + (min a3 a1))) → (a2 ≤ (1048576 : Nat)) := by intros; lia
theorem om_377 : ∀ (a0 : Nat) (a1 : Nat) (a2 : Nat), ((a0 - a1) = (a2 + (1 : Nat))) → ((a1 + (1 : Nat)) ≤ a0) := by intros; omega
theorem om_378 : ∀ (a0 : Nat) (a1 : Nat) (a2 : Nat), (a0 = a1) → ((a1 - a2) = (0 : Nat)) → (a0 ≤ a2) := fun a0 a1 a2 e h => e ▸ Nat.le_of_sub_eq_zero h
theorem om_379 : ∀ (a0 : Nat) (a1 : Nat) (a2 : Nat) (a3 : Nat) (a4 : Nat) (a5 : Nat), (a0 ≤ (14 : Nat)) → ((((a1 + a2) + a3) + (a4 + a5)) = a0) → (a1 ≤ (14 : Nat)) := by intros; lia
theorem om_380 : ∀ (a0 : Nat) (a1 : Nat), (a0 ≤ (a1 + (1 : Nat))) → ((a1 + (1 : Nat)) ≤ (14 : Nat)) → (a0 ≤ (14 : Nat)) := by intros; lia
theorem om_381 : ∀ (a0 : Nat) (a1 : Nat), (((1 : Nat) + a0) ≤ (14 : Nat)) → (a1 ≤ a0) → (a1 ≤ (14 : Nat)) := by intros; lia
theorem om_382 : ∀ (a0 : Nat) (a1 : Nat), (a0 = a1) → (a1 ≤ (14 : Nat)) → (a0 ≤ (1048576 : Nat)) := by intros; lia
theorem om_383 : ∀ (a0 : Nat) (a1 : Nat), (a0 ≤ (213000 : Nat)) → (a0 ≤ ((1048576 : Nat) + a1)) := by intros; lia
theorem om_384 : ∀ (a0 : Nat), (¬ ((((63 : Nat) : Nat) : Int) < ((a0 : Nat) : Int))) → (a0 ≤ (63 : Nat)) := by intros; lia
section

/-- the objects that the call has made and that are known -/
noncomputable abbrev Led := List (Addr × Obj)

/-- the ground: program, world, the written part of the heap as the top left it -/
structure Gr where
  prog : Program
  w : World
  K : Frag
  base : Heap
  p : Program
  loose : List Str
  mean : ExcName → Option Value
  mg : Str → Option Value
  mb : Str → Option Value
  os : OsState
  X : K.In base
  T : Top p loose mean mg mb base

noncomputable abbrev Gr.M (G : Gr) : Model := model G.prog G.w

structure Room (k : Nat) (A : Around) : Prop where
  depth : A.depth + k < 900
  units : A.units + 8 * k < 9000
  handled : A.handled = none

theorem Room.d {k A} (r : Room k A) : A.depth < recursionLimit := by
  have := r.depth; show A.depth < 1000; exact Mine.om_0 _ _ this
theorem Room.deeper {k A env} (r : Room (k + 1) A) : Room k (A.deeper env) :=
  ⟨by have := r.depth; show A.depth + 1 + k < 900; exact Mine.om_2 _ _ this, by have := r.units; show A.units + 3 + 8 * k < 9000; exact Mine.om_3 _ _ this, r.handled⟩
theorem Room.in1' {j k A} (r : Room k A) (h : j + 2 ≤ k) : Room j A.in1 :=
  ⟨by have := r.depth; show A.depth + j < 900; exact Mine.om_6 _ _ _ h this, by have := r.units; show A.units + 1 + 8 * j < 9000; exact Mine.om_7 _ _ _ h this, r.handled⟩
theorem Room.le {k j A} (r : Room k A) (h : j ≤ k) : Room j A :=
  ⟨by have := r.depth; exact Mine.om_8 _ _ _ h this, by have := r.units; exact Mine.om_9 _ _ _ h this, r.handled⟩

/-- what is known of the state: the ground is kept, the ledger stands -/
structure Hd (G : Gr) (l : Led) (s : Shared) : Prop where
  keep : ∀ b o, G.base.get? b = some o → s.heap.get? b = some o
  nd : (l.map (·.1)).Nodup
  led : ∀ p ∈ l, s.heap.get? p.1 = some p.2 ∧ G.base.get? p.1 = none
  gens : s.gens = #[]
  os : s.os = G.os

structure Fh (G : Gr) (L : Addr) (m : Str → Option Value) (l : Led) (s : Shared) : Prop extends Hd G l s where
  ns : s.heap.Ns L m
  above : G.base.objs.size ≤ L
  apart : L ∉ l.map (·.1)

theorem Fh.fr {G L m l s} (H : Fh G L m l s) : Fr G.base L s.heap m := ⟨H.ns, H.keep, H.above⟩
theorem Fh.news {G L m l s} (H : Fh G L m l s) : News G.base L s.heap l :=
  fun p hp => ⟨(H.led p hp).1, fun e => H.apart (e ▸ List.mem_map_of_mem hp), (H.led p hp).2⟩
theorem Fh.of {G L m l} {s : Shared} (F : Fr G.base L s.heap m) (N : News G.base L s.heap l) (nd : (l.map (·.1)).Nodup) (hg : s.gens = #[]) (ho : s.os = G.os) : Fh G L m l s :=
  { keep := F.keep, nd := nd, led := fun p hp => ⟨(N p hp).1, (N p hp).2.2⟩, gens := hg, os := ho, ns := F.ns, above := F.above,
    apart := fun e => by obtain ⟨p, hp, q⟩ := List.mem_map.mp e; exact (N p hp).2.1 q }
theorem Fh.toks {G L m l s} (H : Fh G L m l s) (n : Nat) : Fh G L m l { s with toks := n } :=
  { keep := H.keep, nd := H.nd, led := H.led, gens := H.gens, os := H.os, ns := H.ns, above := H.above, apart := H.apart }
/-- the values of the frame's names, by position -/
noncomputable def Loc (N : List Str) (vals : List (Option Value)) : Str → Option Value := fun y => ((N.zip vals).lookup y).join

/-- name x has value v -/
inductive GetAt : List Str → List (Option Value) → Str → Value → Prop
  | here {x N v r} : GetAt (x :: N) (some v :: r) x v
  | there {x y N u v r} : GetAt N r x v → GetAt (y :: N) (u :: r) x v
/-- name x is given value v -/
inductive PutAt : List Str → List (Option Value) → Str → Value → List (Option Value) → Prop
  | here {x N u v r} : PutAt (x :: N) (u :: r) x v (some v :: r)
  | there {x y N u v r r'} : PutAt N r x v r' → PutAt (y :: N) (u :: r) x v (u :: r')

theorem GetAt.mem {N r x v} (h : GetAt N r x v) : x ∈ N := by
  induction h with
  | here => exact List.mem_cons_self
  | there _ ih => exact List.mem_cons_of_mem _ ih
theorem PutAt.mem {N r x v r'} (h : PutAt N r x v r') : x ∈ N := by
  induction h with
  | here => exact List.mem_cons_self
  | there _ ih => exact List.mem_cons_of_mem _ ih
theorem PutAt.len {N r x v r'} (h : PutAt N r x v r') : r'.length = r.length := by
  induction h with
  | here => rfl
  | there _ ih => simp [ih]
theorem GetAt.loc {N r x v} (h : GetAt N r x v) (nd : N.Nodup) : Loc N r x = some v := by
  induction h with
  | here => simp [Loc, List.lookup]
  | there h ih =>
    have nd' := List.nodup_cons.mp nd
    rename_i x y N u v r
    have hne : (x == y) = false := beq_eq_false_iff_ne.mpr fun e => nd'.1 (e ▸ h.mem)
    have ih := ih nd'.2
    simp only [Loc, List.zip_cons_cons, List.lookup, hne] at ih ⊢
    exact ih
theorem PutAt.loc {N r x v r'} (h : PutAt N r x v r') (nd : N.Nodup) : (fun y => if y = x then some v else Loc N r y) = Loc N r' := by
  induction h with
  | here =>
    rename_i x N u v r
    funext y
    by_cases e : y = x
    · subst e; simp [Loc, List.lookup]
    · have : (y == x) = false := beq_eq_false_iff_ne.mpr e
      simp [Loc, List.lookup, e, this]
  | there h ih =>
    rename_i x z N u v r r'
    have nd' := List.nodup_cons.mp nd
    have hne : x ≠ z := fun e => nd'.1 (e ▸ h.mem)
    funext y
    have ihy := congrFun (ih nd'.2) y
    by_cases e : y = z
    · subst e
      have : y ≠ x := fun q => hne q.symm
      simp [Loc, List.lookup, this]
    · have b : (y == z) = false := beq_eq_false_iff_ne.mpr e
      simp only [Loc, List.zip_cons_cons, List.lookup, b] at ihy ⊢
      exact ihy

/-- the first names are bound, the others not yet -/
theorem loc_start : ∀ {binds : List (Str × Value)} {N' : List Str}, (binds.map (·.1) ++ N').Nodup →
    Loc (binds.map (·.1) ++ N') (binds.map (fun p => some p.2) ++ N'.map fun _ => none) = fun x => binds.reverse.lookup x := by
  intro binds N' nd
  have none_all : ∀ (N' : List Str) y, Loc N' (N'.map fun _ => none) y = none := by
    intro N' y
    induction N' with
    | nil => rfl
    | cons z N' ih =>
      simp only [Loc, List.map_cons, List.zip_cons_cons, List.lookup] at ih ⊢
      split
      · rfl
      · exact ih
  have look_none : ∀ (l : List (Str × Value)) y, y ∉ l.map (·.1) → l.lookup y = none := by
    intro l y
    induction l with
    | nil => intro _; rfl
    | cons p l ih =>
      intro hy
      simp only [List.map_cons, List.mem_cons, not_or] at hy
      simp only [List.lookup]
      rw [beq_eq_false_iff_ne.mpr hy.1]
      exact ih hy.2
  have look_app : ∀ (l l' : List (Str × Value)) y, (l ++ l').lookup y = (l.lookup y).or (l'.lookup y) := by
    intro l l' y
    induction l with
    | nil => simp
    | cons p l ih =>
      obtain ⟨a, b⟩ := p
      simp only [List.cons_append, List.lookup]
      split
      · rfl
      · exact ih
  funext y
  induction binds with
  | nil => exact none_all N' y
  | cons p binds ih =>
    obtain ⟨z, v⟩ := p
    simp only [List.map_cons, List.cons_append] at nd
    have nd' := List.nodup_cons.mp nd
    have ih := ih nd'.2
    rw [List.reverse_cons, look_app]
    by_cases e : y = z
    · subst e
      rw [look_none binds.reverse y (by
        intro hm
        rw [List.map_reverse, List.mem_reverse] at hm
        exact nd'.1 (List.mem_append_left _ hm))]
      simp [Loc, List.lookup]
    · have b : (y == z) = false := beq_eq_false_iff_ne.mpr e
      have : [(z, v)].lookup y = none := by simp [List.lookup, b]
      rw [this, Option.or_none, ← ih]
      simp only [Loc, List.map_cons, List.cons_append, List.zip_cons_cons, List.lookup, b]

noncomputable def Glb (G : Gr) (x : Str) (v : Value) : Prop := nsIn G.K mainGlobals x = some (some v) ∨ (nsIn G.K mainGlobals x = some none ∧ bootBuiltins x = some v ∧ x ≠ "__name__")

/-- a frame under way: its names, the globals that it reads, its cells -/
structure Fm0 (N : List Str) (Gs : List (Str × Value)) (Cs : List (Str × Addr)) (G : Gr) where
  env : Env
  nd : N.Nodup
  kind : env.scope.kind = .function
  loc : ∀ x ∈ N, env.scope.names.lookup x = some .local ∧ (x == ("__debug__" : Str)) = false
  glb : ∀ p ∈ Gs, env.scope.names.lookup p.1 = some .globalImplicit ∧ (p.1 == ("__debug__" : Str)) = false ∧ Glb G p.1 p.2
  globals : env.globals = mainGlobals
  builtins : env.builtins = builtinsNs
  cells : env.cells = Cs
noncomputable abbrev Fm (G : Gr) (N : List Str) (Gs : List (Str × Value)) (Cs : List (Str × Addr)) := Fm0 N Gs Cs G

section
variable {α β γ : Type} {N : List Str} {Gs : List (Str × Value)} {Cs : List (Str × Addr)} {k : Nat} {G : Gr}

structure St (fm : Fm G N Gs Cs) (vals : List (Option Value)) (l : Led) (s : Shared) : Prop where
  h : Fh G fm.env.locals (Loc N vals) l s
  len : vals.length = N.length

noncomputable abbrev Po (α : Type) := α → List (Option Value) → Led → Prop

/-- from such a state the tree ends in such a state, and never raises -/
structure T (fm : Fm G N Gs Cs) (k : Nat) (vals : List (Option Value)) (l : Led) (t : Sem α) (P : Po α) : Prop where
  go : ∀ A s, Room k A → St fm vals l s → wpAny G.M A t (fun a s' => ∃ vals' l', St fm vals' l' s' ∧ P a vals' l') (fun _ _ => False) s
/-- the same of a code (a loop) -/
structure C (fm : Fm G N Gs Cs) (k : Nat) (vals : List (Option Value)) (l : Led) (c : Code) (P : Po Flow) : Prop where
  go : ∀ A s, Room k A → St fm vals l s → codeAny G.M A c (fun r s' => ∃ f vals' l', r = .ok f ∧ St fm vals' l' s' ∧ P f vals' l') s

/-! what comes behind, in words without binders -/
noncomputable abbrev Pm (g : α → β) (P : Po β) : Po α := fun x v l => P (g x) v l
noncomputable abbrev Pn (b : β) (P : Po β) : Po α := fun _ v l => P b v l
noncomputable abbrev Th (fm : Fm G N Gs Cs) (k : Nat) (f : α → Sem β) (P : Po β) : Po α := fun x v l => T fm k v l (f x) P
noncomputable abbrev Tn (fm : Fm G N Gs Cs) (k : Nat) (t : Sem β) (P : Po β) : Po α := fun _ v l => T fm k v l t P
noncomputable abbrev T2 (fm : Fm G N Gs Cs) (k : Nat) (t : Sem β) (g : α → β → Sem γ) (P : Po γ) : Po α := fun x v l => T fm k v l t (Th fm k (g x) P)
noncomputable abbrev TP (fm : Fm G N Gs Cs) (k : Nat) (t : Sem β) (g : α → β → γ) (P : Po γ) : Po α := fun x v l => T fm k v l t (Pm (g x) P)

variable {fm : Fm G N Gs Cs} {vals : List (Option Value)} {l : Led}

theorem St.toks {s} (H : St fm vals l s) (n : Nat) : St fm vals l { s with toks := n } := ⟨H.h.toks n, H.len⟩

theorem T_pure {a : α} {P : Po α} (h : P a vals l) : T fm k vals l (pure a) P := .mk fun _ _ _ H => wpAny_pure ⟨vals, l, H, h⟩
theorem T_mono {t : Sem α} {P P' : Po α} (h : T fm k vals l t P) (hP : ∀ a v l, P a v l → P' a v l) : T fm k vals l t P' :=
  .mk fun A s r H => wpAny_mono (h.go A s r H) (fun a s' ⟨v, l, H', p⟩ => ⟨v, l, H', hP a v l p⟩) fun _ _ x => x
theorem T_bind {m : Sem α} {f : α → Sem β} {P : Po β} (h : T fm k vals l m fun a v l => T fm k v l (f a) P) : T fm k vals l (m >>= f) P :=
  .mk fun A s r H => wpAny_bind (wpAny_mono (h.go A s r H) (fun a s' ⟨_, _, H', p⟩ => p.go A s' r H') fun _ _ x => x)
theorem T_in {t : Sem α} {P : Po α} {A s} (h : T fm k vals l t P) (r : Room k A) (H : St fm vals l s) {Q : α → Shared → Prop} {E : Value → Shared → Prop} (hQ : ∀ a v l s', St fm v l s' → P a v l → Q a s') :
    wpAny G.M A t Q E s := wpAny_mono (h.go A s r H) (fun a s' ⟨v, l, H', p⟩ => hQ a v l s' H' p) fun _ _ x => x.elim

/-- what comes behind a statement -/
noncomputable def Kn (fm : Fm G N Gs Cs) (k : Nat) (rest : List Stmt) (P : Po Flow) : Po Flow := fun f vals l =>
  match f with
  | .next => T fm k vals l (execs rest fm.env) P
  | f => P f vals l
theorem K_next {rest P} (h : T fm k vals l (execs rest fm.env) P) : Kn fm k rest P .next vals l := h
theorem K_ret {rest P v} (h : P (.ret v) vals l) : Kn fm k rest P (.ret v) vals l := h
theorem K_cont {rest P} (h : P .cont vals l) : Kn fm k rest P .cont vals l := h
theorem T_nil {P : Po Flow} (h : P .next vals l) : T fm k vals l (execs [] fm.env) P := .mk fun _ _ _ H => wpAny_execs_nil ⟨vals, l, H, h⟩
theorem T_cons {st rest} {P : Po Flow} (h : T fm k vals l (exec st fm.env) (Kn fm k rest P)) : T fm k vals l (execs (st :: rest) fm.env) P :=
  .mk fun A s r H => wpAny_execs_cons (T_in h r H fun f v l' s' H' p => by
    cases f
    · exact p.go A s' r H'
    all_goals exact ⟨v, l', H', p⟩)

theorem T_BinOp {a op b pos} {P : Po Value} (h : T fm k vals l (eval a fm.env) (T2 fm k (eval b fm.env) (binaryOp op) P)) :
    T fm k vals l (eval (.BinOp a op b pos) fm.env) P := .mk fun A s r H =>
  wpAny_BinOp (T_in h r H fun x _ _ s₁ H₁ h₁ => T_in h₁ r H₁ fun y _ _ s₂ H₂ h₂ => h₂.go A s₂ r H₂)
theorem T_UnaryOp {op a pos} {P : Po Value} (h : T fm k vals l (eval a fm.env) (Th fm k (unaryOp op) P)) :
    T fm k vals l (eval (.UnaryOp op a pos) fm.env) P := .mk fun A s r H => wpAny_UnaryOp (T_in h r H fun x _ _ s₁ H₁ h₁ => h₁.go A s₁ r H₁)
theorem T_Compare {a op b pos} {P : Po Value} (hm : behindInMarks op b = false) (h : T fm k vals l (eval a fm.env) (T2 fm k (eval b fm.env) (compareOp op) P))
    : T fm k vals l (eval (.Compare a [op] [b] pos) fm.env) P := .mk fun A s r H =>
  wpAny_Compare1 (T_in h r H fun x _ _ s₁ H₁ h₁ => T_in h₁ r H₁ fun y _ _ s₂ H₂ h₂ => h₂.go A s₂ r H₂) hm
theorem T_isTrue_Compare {a op b pos whole} {P : Po Bool} (hm : behindInMarks op b = false)
    (h : T fm k vals l (eval a fm.env) (T2 fm k (eval b fm.env) (compareOp op) (Th fm k truthy P))) :
    T fm k vals l (isTrue (.Compare a [op] [b] pos) fm.env whole) P := .mk fun A s r H =>
  wpAny_isTrue_Compare1 (T_in h r H fun x _ _ s₁ H₁ h₁ => T_in h₁ r H₁ fun y _ _ s₂ H₂ h₂ => T_in h₂ r H₂ fun c _ _ s₃ H₃ h₃ => h₃.go A s₃ r H₃) hm
theorem T_isTrue_val {e whole} {P : Po Bool} (he : isTrue e fm.env whole = (do let v ← whole; standAt e.pos; holding [v] (truthy v))) (h : T fm k vals l whole (Th fm k truthy P))
     : T fm k vals l (isTrue e fm.env whole) P := .mk fun A s r H => wpAny_isTrue_value (T_in h r H fun x _ _ s₁ H₁ h₁ => h₁.go A s₁ r H₁) he
theorem T_isTrue_BoolOp {op vs pos whole} {P : Po Bool} (h : T fm k vals l (allTrue op vs fm.env) P) : T fm k vals l (isTrue (.BoolOp op vs pos) fm.env whole) P := .mk fun A s r H => wpAny_isTrue_BoolOp (h.go A s r H)
theorem T_and_nil {P : Po Bool} (h : P true vals l) : T fm k vals l (allTrue .And [] fm.env) P := .mk fun _ _ _ H => wpAny_allTrue_And_nil ⟨vals, l, H, h⟩
theorem T_or_nil {P : Po Bool} (h : P false vals l) : T fm k vals l (allTrue .Or [] fm.env) P := .mk fun _ _ _ H => wpAny_allTrue_Or_nil ⟨vals, l, H, h⟩

/-- two ways of a test -/
noncomputable def If2 (b : Bool) (X Y : Prop) : Prop := if b then X else Y
theorem If2.t {X Y : Prop} (h : X) : If2 true X Y := h
theorem If2.f {X Y : Prop} (h : Y) : If2 false X Y := h
theorem If2.both {b : Bool} {X Y : Prop} (h : b = true → X) (h' : b = false → Y) : If2 b X Y := by cases b; exact h' rfl; exact h rfl
theorem If2.pos {b : Bool} {X Y : Prop} (e : b = true) (h : X) : If2 b X Y := by rw [e]; exact h
theorem If2.neg {b : Bool} {X Y : Prop} (e : b = false) (h : Y) : If2 b X Y := by rw [e]; exact h
theorem If2.dec {p : Prop} [Decidable p] {X Y : Prop} (h : p → X) (h' : ¬ p → Y) : If2 (decide p) X Y := If2.both (fun e => h (of_decide_eq_true e)) fun e => h' (of_decide_eq_false e)

noncomputable abbrev AndK (fm : Fm G N Gs Cs) (k : Nat) (rest : List Expr) (P : Po Bool) : Po Bool := fun b v l => If2 b (T fm k v l (allTrue .And rest fm.env) P) (P false v l)
noncomputable abbrev OrK (fm : Fm G N Gs Cs) (k : Nat) (rest : List Expr) (P : Po Bool) : Po Bool := fun b v l => If2 b (P true v l) (T fm k v l (allTrue .Or rest fm.env) P)
noncomputable abbrev IfK (fm : Fm G N Gs Cs) (k : Nat) (a b : Sem α) (P : Po α) : Po Bool := fun t v l => If2 t (T fm k v l a P) (T fm k v l b P)
theorem T_and_cons {x rest} {P : Po Bool} (h : T fm k vals l (isTrue x fm.env (eval x fm.env)) (AndK fm k rest P)) :
    T fm k vals l (allTrue .And (x :: rest) fm.env) P := .mk fun A s r H => wpAny_allTrue_And_cons (T_in h r H fun b v l s₁ H₁ h₁ => by
      cases b
      · exact ⟨v, l, H₁, h₁⟩
      · exact h₁.go A s₁ r H₁)
theorem T_or_cons {x rest} {P : Po Bool} (h : T fm k vals l (isTrue x fm.env (eval x fm.env)) (OrK fm k rest P)) :
    T fm k vals l (allTrue .Or (x :: rest) fm.env) P := .mk fun A s r H => wpAny_allTrue_Or_cons (T_in h r H fun b v l s₁ H₁ h₁ => by
      cases b
      · exact h₁.go A s₁ r H₁
      · exact ⟨v, l, H₁, h₁⟩)
theorem T_IfExp {c a b pos} {P : Po Value} (h : T fm k vals l (isTrue c fm.env (eval c fm.env)) (IfK fm k (eval a fm.env) (eval b fm.env) P)) :
    T fm k vals l (eval (.IfExp c a b pos) fm.env) P := .mk fun A s r H => wpAny_IfExp (T_in h r H fun t _ _ s₁ H₁ h₁ => by cases t <;> exact h₁.go A s₁ r H₁)
theorem T_If {c a b pos} {P : Po Flow} (h : T fm k vals l (isTrue c fm.env (eval c fm.env)) (IfK fm k (execs a fm.env) (execs b fm.env) P)) :
    T fm k vals l (exec (.If c a b pos) fm.env) P := .mk fun A s r H => wpAny_If (T_in h r H fun t _ _ s₁ H₁ h₁ => by cases t <;> exact h₁.go A s₁ r H₁)
theorem T_Return {e pos} {P : Po Flow} (h : T fm k vals l (eval e fm.env) (Pm Flow.ret P)) : T fm k vals l (exec (.Return (some e) pos) fm.env) P := .mk fun A s r H =>
  wpAny_Return_some (h.go A s r H)
theorem T_Continue {pos} {P : Po Flow} (h : P .cont vals l) : T fm k vals l (exec (.Continue pos) fm.env) P := .mk fun A s r H => wpAny_Continue ⟨vals, l, H, h⟩
theorem T_Expr {e pos} {P : Po Flow} (hs : swapsWith e none pos.line fm.env = pure false) (h : T fm k vals l (eval e fm.env) (Pn Flow.next P)) : T fm k vals l (exec (.Expr e pos) fm.env) P := .mk fun A s r H =>
  wpAny_Expr_any (h.go A s r H) (by unfold interactive; rw [fm.kind]; rfl) hs

theorem plainScope (fm : Fm G N Gs Cs) : (fm.env.scope.kind == .class || (fm.env.scope.kind == .module && fm.env.locals != fm.env.globals)) = false := by rw [fm.kind]; rfl
theorem T_store {x v vals'} {P : Po Unit} (hx : PutAt N vals x v vals') (h : P () vals' l) : T fm k vals l (storeName fm.env x v) P := .mk fun A s r H => by
  refine wpAny_storeName_local (fm.loc x hx.mem).1 H.h.ns (fun h' hn hsb => ⟨vals', l, ⟨?_, hx.len.trans H.len⟩, h⟩) (plainScope fm)
  have F := H.h.fr.set hn hsb
  rw [hx.loc fm.nd] at F
  exact Fh.of F (H.h.news.set hsb) H.h.nd H.h.gens H.h.os
theorem T_Assign {x pos' e pos} {P : Po Flow} (hs : swapsWith e (some (.Name x pos')) pos.line fm.env = pure false)
    (h : T fm k vals l (eval e fm.env) (Th fm k (storeName fm.env x) (Pn Flow.next P))) : T fm k vals l (exec (.Assign [.Name x pos'] e pos) fm.env) P := .mk fun A s r H =>
  wpAny_Assign_Name (T_in h r H fun v vs l₁ s₁ H₁ h₁ => h₁.go A s₁ r H₁) hs
theorem T_loadName {x v} {P : Po Value} (hx : GetAt N vals x v) (h : P v vals l) : T fm k vals l (loadName fm.env x) P := .mk fun _ _ _ H =>
  wpAny_loadName_local fm.kind (fm.loc x hx.mem).1 H.h.ns (hx.loc fm.nd) ⟨vals, l, H, h⟩
theorem T_Aug {x pos' op e pos} {P : Po Flow} (h : T fm k vals l (loadName fm.env x) (T2 fm k (eval e fm.env) (inplaceOp op) (Th fm k (storeName fm.env x) (Pn Flow.next P)))) :
    T fm k vals l (exec (.AugAssign (.Name x pos') op e pos) fm.env) P := .mk fun A s r H =>
  wpAny_AugAssign_Name (T_in h r H fun _ _ _ s₁ H₁ h₁ => T_in h₁ r H₁ fun _ _ _ s₂ H₂ h₂ => T_in h₂ r H₂ fun _ _ _ s₃ H₃ h₃ => h₃.go A s₃ r H₃)

theorem T_local {x pos v} {P : Po Value} (hx : GetAt N vals x v) (h : P v vals l) : T fm k vals l (eval (.Name x pos) fm.env) P := .mk fun A s r H =>
  wpAny_Name ((T_loadName (k := k) hx h).go A s r H) (fm.loc x hx.mem).2

theorem T_glob {x pos v} {P : Po Value} (hx : (x, v) ∈ Gs) (h : P v vals l) : T fm k vals l (eval (.Name x pos) fm.env) P := .mk fun A s _ H => by
  obtain ⟨hk, hd, hg⟩ := fm.glb _ hx
  have hget : s.heap.Ns fm.env.globals G.mg := by rw [fm.globals]; exact G.T.g.keeps H.h.keep
  have hgb : s.heap.Ns fm.env.builtins G.mb := by rw [fm.builtins]; exact G.T.b.keeps H.h.keep
  rcases hg with hg | ⟨hg, hb, hn⟩
  · exact Name_function_global fm.kind hk (loadGlobal_global hget (mg_of G.X G.T.g hg) ⟨vals, l, H, h⟩) hd
  · exact Name_function_global fm.kind hk (loadGlobal_builtin hget (mg_none_of G.X G.T.g hg) hgb ((G.T.builtins x hn).trans hb) ⟨vals, l, H, h⟩) hd

theorem T_int {n j pos} {P : Po Value} (h : ∀ t, P (.int n t) vals l) : T fm k vals l (eval (.Constant (.int n) j pos) fm.env) P := .mk fun _ s _ H => wpAny_Constant_int ⟨vals, l, H.toks _, h _⟩
theorem T_str {n j pos} {P : Po Value} (h : ∀ t, P (.str n t) vals l) : T fm k vals l (eval (.Constant (.str n) j pos) fm.env) P := .mk fun _ s _ H => wpAny_Constant_str ⟨vals, l, H.toks _, h _⟩
theorem T_bool {n j pos} {P : Po Value} (h : P (.bool n) vals l) : T fm k vals l (eval (.Constant (.bool n) j pos) fm.env) P := .mk fun _ s _ H => wpAny_Constant_bool ⟨vals, l, H, h⟩
theorem T_none {j pos} {P : Po Value} (h : P .none vals l) : T fm k vals l (eval (.Constant .none j pos) fm.env) P := .mk fun _ s _ H => wpAny_Constant_none ⟨vals, l, H, h⟩

section
variable {a b : Int} {t u : Tok} {P : Po Value}
theorem T_add (h : ∀ t, P (.int (a + b) t) vals l) : T fm k vals l (binaryOp .Add (.int a t) (.int b u)) P := .mk fun _ _ _ H => add_int ⟨vals, l, H.toks _, h _⟩
theorem T_iadd (h : ∀ t, P (.int (a + b) t) vals l) : T fm k vals l (inplaceOp .Add (.int a t) (.int b u)) P := .mk fun _ _ _ H => iadd_int ⟨vals, l, H.toks _, h _⟩
theorem T_subi (h : ∀ t, P (.int (a - b) t) vals l) : T fm k vals l (binaryOp .Sub (.int a t) (.int b u)) P := .mk fun _ _ _ H => sub_int ⟨vals, l, H.toks _, h _⟩
theorem T_mod (hb : b ≠ 0) (h : ∀ t, P (.int (a.fmod b) t) vals l) : T fm k vals l (binaryOp .Mod (.int a t) (.int b u)) P := .mk fun _ _ _ H => mod_int' hb ⟨vals, l, H.toks _, h _⟩
theorem T_fdiv (hb : b ≠ 0) (hs : b.natAbs < 1073741824) (h : ∀ t, P (.int (a.fdiv b) t) vals l) : T fm k vals l (binaryOp .FloorDiv (.int a t) (.int b u)) P := .mk fun _ _ _ H =>
  floordiv_int hb ⟨vals, l, H.toks _, h _⟩ (.inl (PyProof.noPylong_small hs))
theorem T_ge (h : P (.bool (decide (a ≥ b))) vals l) : T fm k vals l (compareOp .GtE (.int a t) (.int b u)) P := .mk fun _ _ _ H => ge_int ⟨vals, l, H, h⟩
theorem T_lt (h : P (.bool (decide (a < b))) vals l) : T fm k vals l (compareOp .Lt (.int a t) (.int b u)) P := .mk fun _ _ _ H => lt_int ⟨vals, l, H, h⟩
theorem T_eqi (h : P (.bool (a == b)) vals l) : T fm k vals l (compareOp .Eq (.int a t) (.int b u)) P := .mk fun _ _ _ H => eq_int ⟨vals, l, H, h⟩
theorem T_truthy_bool {b : Bool} {P : Po Bool} (h : P b vals l) : T fm k vals l (truthy (.bool b)) P := .mk fun _ _ _ H => wpAny_truthy_bool ⟨vals, l, H, h⟩
end
end

/-! the ledger -/
inductive Pick (p : Addr × Obj) : Led → Led → Prop
  | head {l} : Pick p (p :: l) l
  | tail {q l l'} : Pick p l l' → Pick p (q :: l) (q :: l')
theorem Pick.perm {p l l'} (h : Pick p l l') : l.Perm (p :: l') := by
  induction h with
  | head => exact .refl _
  | tail _ ih => exact (List.Perm.cons _ ih).trans (.swap _ _ _)
theorem Pick.mem {p l l'} (h : Pick p l l') : p ∈ l := h.perm.mem_iff.mpr List.mem_cons_self
/-- ps are taken out of l, rest is left -/
inductive SubL : Led → Led → Led → Prop
  | nil {l} : SubL [] l l
  | cons {p ps l l₁ rest} : Pick p l l₁ → SubL ps l₁ rest → SubL (p :: ps) l rest
theorem SubL.perm {ps l rest} (h : SubL ps l rest) : l.Perm (ps ++ rest) := by
  induction h with
  | nil => exact .refl _
  | cons h _ ih => exact h.perm.trans (List.Perm.cons _ ih)
/-- a is kept of b -/
inductive Sbl : Led → Led → Prop
  | refl {a} : Sbl a a
  | pick {p a b b'} : Pick p b b' → Sbl a b' → Sbl (p :: a) b
  | drop {p a b} : Sbl a b → Sbl a (p :: b)
theorem Sbl.sub {a b} (h : Sbl a b) : ∃ r, b.Perm (a ++ r) := by
  induction h with
  | refl => exact ⟨[], by rw [List.append_nil]⟩
  | pick h _ ih => obtain ⟨r, e⟩ := ih; exact ⟨r, h.perm.trans (List.Perm.cons _ e)⟩
  | drop _ ih => obtain ⟨r, e⟩ := ih; exact ⟨_ :: r, (List.Perm.cons _ e).trans (List.perm_middle.symm)⟩
/-- one object changed in place -/
inductive Upd1 (a : Addr) (o o' : Obj) : Led → Led → Prop
  | head {r} : Upd1 a o o' ((a, o) :: r) ((a, o') :: r)
  | tail {p r r'} : Upd1 a o o' r r' → Upd1 a o o' (p :: r) (p :: r')
theorem Upd1.mem {a o o' l l'} (h : Upd1 a o o' l l') : (a, o) ∈ l := by
  induction h with
  | head => exact List.mem_cons_self
  | tail _ ih => exact List.mem_cons_of_mem _ ih
theorem Upd1.fst {a o o' l l'} (h : Upd1 a o o' l l') : l'.map (·.1) = l.map (·.1) := by
  induction h with
  | head => rfl
  | tail _ ih => simp [ih]
theorem Upd1.of {a o o' l l'} (h : Upd1 a o o' l l') : (l.map (·.1)).Nodup → ∀ p ∈ l', p = (a, o') ∨ (p ∈ l ∧ p.1 ≠ a) := by
  induction h with
  | head =>
    intro nd p hp
    rcases List.mem_cons.mp hp with rfl | hp
    · exact .inl rfl
    · refine .inr ⟨List.mem_cons_of_mem _ hp, fun e => ?_⟩
      have := (List.nodup_cons.mp nd).1
      refine this ?_
      show a ∈ _
      rw [← e]
      exact List.mem_map_of_mem (f := (·.1)) hp
  | tail h ih =>
    intro nd p hp
    have nd' := List.nodup_cons.mp nd
    rcases List.mem_cons.mp hp with rfl | hp
    · refine .inr ⟨List.mem_cons_self, fun e => nd'.1 ?_⟩
      show p.1 ∈ _
      rw [e]; exact List.mem_map_of_mem (f := (·.1)) h.mem
    · exact (ih nd'.2 p hp).imp id fun q => ⟨List.mem_cons_of_mem _ q.1, q.2⟩
theorem Upd1.upd {a o o' l l'} (h : Upd1 a o o' l l') : (l.map (·.1)).Nodup → Upd a o o' l l' := by
  induction h with
  | head => intro nd; exact .head fun p hp e => (List.nodup_cons.mp nd).1 (by show a ∈ _; rw [← e]; exact List.mem_map_of_mem (f := (·.1)) hp)
  | tail h ih => rename_i q _ _; intro nd; exact .tail (fun e => (List.nodup_cons.mp nd).1 (by show q.1 ∈ _; rw [e]; exact List.mem_map_of_mem (f := (·.1)) h.mem)) (ih (List.nodup_cons.mp nd).2)

theorem Hd.perm {G a b s} (H : Hd G a s) (h : a.Perm b) : Hd G b s :=
  { keep := H.keep, nd := (h.map _).nodup_iff.mp H.nd, led := fun p hp => H.led p (h.mem_iff.mpr hp), gens := H.gens, os := H.os }
theorem Hd.left {G a b s} (H : Hd G (a ++ b) s) : Hd G a s :=
  { keep := H.keep, nd := (List.nodup_append.mp (by have := H.nd; rwa [List.map_append] at this)).1, led := fun p hp => H.led p (List.mem_append_left _ hp), gens := H.gens, os := H.os }
theorem Hd.sbl {G a b s} (H : Hd G b s) (h : Sbl a b) : Hd G a s := by
  obtain ⟨r, e⟩ := h.sub
  exact (H.perm e).left
theorem Fh.perm {G L m a b s} (H : Fh G L m a s) (h : a.Perm b) : Fh G L m b s :=
  { H.toHd.perm h with ns := H.ns, above := H.above, apart := fun e => H.apart ((h.map _).mem_iff.mpr e) }
theorem Fh.sbl {G L m a b s} (H : Fh G L m b s) (h : Sbl a b) : Fh G L m a s := by
  obtain ⟨r, e⟩ := h.sub
  exact { (H.toHd.perm e).left with ns := H.ns, above := H.above, apart := fun q => (H.perm e).apart (by rw [List.map_append]; exact List.mem_append_left _ q) }

/-- a contract: the objects pre are looked at or changed, all the rest is kept -/
structure Sp (G : Gr) (k : Nat) (pre : Led) (f : Value) (pos : List Value) (kw : List (Str × Value)) (P : Value → Led → Prop) : Prop where
  go : ∀ rest A s, Room k A → Hd G (pre ++ rest) s → G.base.objs.size ≤ s.heap.objs.size →
    codeAny G.M A (.call f ⟨pos, kw⟩) (fun r s' => ∃ v post, r = .ok (.ret v) ∧ Hd G (post ++ rest) s' ∧ P v post) s

section
variable {α β : Type} {N : List Str} {Gs : List (Str × Value)} {Cs : List (Str × Addr)} {k : Nat} {G : Gr} {fm : Fm G N Gs Cs} {vals : List (Option Value)} {l : Led}

theorem T_weak {t : Sem α} {P : Po α} {l' : Led} (h : Sbl l' l) (hT : T fm k vals l' t P) : T fm k vals l t P := .mk fun A s r H => hT.go A s r ⟨H.h.sbl h, H.len⟩
theorem C_weak {c : Code} {P : Po Flow} {l' : Led} (h : Sbl l' l) (hT : C fm k vals l' c P) : C fm k vals l c P := .mk fun A s r H => hT.go A s r ⟨H.h.sbl h, H.len⟩

/-- the frame itself as one of the objects that are kept -/
theorem St.out {s} (H : St fm vals l s) : ∃ oL, Hd G ((fm.env.locals, oL) :: l) s ∧ G.base.objs.size ≤ s.heap.objs.size ∧
    ∀ l' s', Hd G ((fm.env.locals, oL) :: l') s' → St fm vals l' s' := by
  obtain ⟨oL, es, ep, hL, hLd, hLk, hLf⟩ := H.h.ns
  have bL : G.base.get? fm.env.locals = none := by
    cases hq : G.base.get? fm.env.locals with
    | none => rfl
    | some o => exact absurd (Nat.lt_of_lt_of_le (Heap.lt_size hq) H.h.above) (Nat.lt_irrefl _)
  refine ⟨oL, { keep := H.h.keep, nd := by rw [List.map_cons]; exact List.nodup_cons.mpr ⟨H.h.apart, H.h.nd⟩, led := fun p hp => ?_, gens := H.h.gens, os := H.h.os }, Nat.le_trans H.h.above (Nat.le_of_lt (Heap.lt_size hL)), fun l' s' H4 => ?_⟩
  · rcases List.mem_cons.mp hp with rfl | hp
    · exact ⟨hL, bL⟩
    · exact H.h.led p hp
  · have nd4 := List.nodup_cons.mp (by have := H4.nd; rwa [List.map_cons] at this)
    exact ⟨{ keep := H4.keep, nd := nd4.2, led := fun p hp => H4.led p (List.mem_cons_of_mem _ hp), gens := H4.gens, os := H4.os
             ns := ⟨oL, es, ep, (H4.led _ List.mem_cons_self).1, hLd, hLk, hLf⟩, above := H.h.above, apart := nd4.1 }, H.len⟩

theorem Sp_at {f : Value} {pos kw} {pre rest : Led} {Q : Value → Led → Prop} {j : Nat} (hS : Sp G j pre f pos kw Q) {A s} (r : Room j A) (H : St fm vals l s) (hsub : SubL pre l rest) :
    codeAny G.M A (.call f ⟨pos, kw⟩) (fun x s' => ∃ v post, x = .ok (.ret v) ∧ St fm vals (post ++ rest) s' ∧ Q v post) s := by
  obtain ⟨oL, H2, big, back⟩ := H.out
  have p1 : ((fm.env.locals, oL) :: l).Perm (pre ++ (fm.env.locals, oL) :: rest) := (List.Perm.cons _ hsub.perm).trans List.perm_middle.symm
  exact codeAny_mono (hS.go _ A s r (H2.perm p1) big) fun _ s' ⟨v, post, e, H3, q⟩ => ⟨v, post, e, back _ s' (H3.perm List.perm_middle), q⟩

theorem T_call {f : Value} {pos kw} {pre rest : Led} {Q : Value → Led → Prop} {P : Po Value} {j : Nat} (hS : Sp G j pre f pos kw Q) (hj : j ≤ k) (hsub : SubL pre l rest) (hP : ∀ v post, Q v post → P v vals (post ++ rest)) :
    T fm k vals l (call f pos kw) P := .mk fun A s r H =>
  wpAny_call (codeAny_mono (Sp_at hS (r.le hj) H hsub) fun x s' ⟨v, post, e, H', q⟩ => by subst e; exact ⟨vals, _, H', hP v post q⟩)

/-- the value that a def hands back -/
noncomputable def flowV : Flow → Value
  | .ret v => v
  | _ => .none
end

noncomputable abbrev EnV (rest : Led) (P : Value → Led → Prop) : Po Value := fun v _ l' => ∃ post, Sbl (post ++ rest) l' ∧ P v post
/-- what a def's body must show -/
noncomputable abbrev EnK (rest : Led) (P : Value → Led → Prop) : Po Flow := fun fl _ l' => ∃ post, Sbl (post ++ rest) l' ∧ P (flowV fl) post
/-- a def of the text is entered -/
theorem enter {G : Gr} {k : Nat} {pre : Led} {P : Value → Led → Prop} {name qual : Str} {params : Arguments} {body : List Stmt} {scope : Scope} {dV kV doc pm cdv ct oc : Value} {an od : Option Addr} {osl : Array (Option Value)} {f : Addr}
    {pos : List Value} {kw : List (Str × Value)} {binds : List (Str × Value)} {N : List Str} {vals : List (Option Value)} {Gs : List (Str × Value)}
    (ho : G.K.lookup f = some ⟨oc, od, .func (fnX name qual params body scope [] dV kV doc pm an cdv ct), osl⟩) (hcd : codeIn G.K cdv qual = true)
    (hbind : ∀ s : Shared, G.K.In s.heap → BindsTo s (fnX name qual params body scope [] dV kV doc pm an cdv ct) ⟨pos, kw⟩ binds)
    (N' : List Str) (hN : N = binds.map (·.1) ++ N') (hv : vals = binds.map (fun p => some p.2) ++ N'.map fun _ => none)
    (hnd : N.Nodup) (hloc : (N.all fun x => decide (scope.names.lookup x = some .local) && !(x == ("__debug__" : Str))) = true)
    (hglb : ∀ p ∈ Gs, scope.names.lookup p.1 = some .globalImplicit ∧ (p.1 == ("__debug__" : Str)) = false ∧ Glb G p.1 p.2)
    (hcell : (scope.names.all fun x => decide (x.2 ≠ .cell)) = true)
    (hco : scope.isCoroutine = false) (hgen : scope.isGenerator = false) (hk : scope.kind = .function)
    (h : ∀ (fm : Fm G N Gs []) (rest : Led), T fm k vals (pre ++ rest) (execs body fm.env) (EnK rest P)) :
    Sp G (k + 1) pre (.ref f) pos kw P := by
  refine .mk ?_
  intro rest A s r H big
  have X := G.X.keeps H.keep
  have locs : ∀ x ∈ N, scope.names.lookup x = some .local ∧ (x == ("__debug__" : Str)) = false := fun x hx => by
    have := List.all_eq_true.mp hloc x hx
    simp only [Bool.and_eq_true, decide_eq_true_eq, Bool.not_eq_true'] at this
    exact this
  refine codeAny_call_def (fd := fnX name qual params body scope [] dV kV doc pm an cdv ct) (body := body) (binds := binds) r.d (X _ _ ho) rfl (G.T.nolimit.keeps H.keep) (codeRec_of X hcd) rfl (hbind s X)
    (fun x hx => of_decide_eq_true (List.all_eq_true.mp hcell x hx)) (fun x hx => (locs x.1 (by rw [hN]; exact List.mem_append_left _ (List.mem_map_of_mem hx))).1) (fun h₁ hns hk₁ => ?_) hco hgen hk
  let fm : Fm G N Gs [] := { env := callEnv (fnX name qual params body scope [] dV kV doc pm an cdv ct) s.heap.objs.size f, nd := hnd, kind := hk, loc := locs, glb := hglb, globals := rfl, builtins := rfl, cells := rfl }
  have H1 : St fm vals (pre ++ rest) { s with heap := h₁, toks := s.toks + binds.length } := by
    refine ⟨{ keep := fun b o e => hk₁ b o (H.keep b o e), nd := H.nd, led := fun p hp => ⟨hk₁ _ _ (H.led p hp).1, (H.led p hp).2⟩, gens := H.gens, os := H.os, ns := ?_, above := ?_, apart := ?_ }, ?_⟩
    · have e := loc_start (binds := binds) (N' := N') (hN ▸ hnd)
      rw [← hN, ← hv] at e
      rw [e]; exact hns
    · exact big
    · intro e
      obtain ⟨p, hp, q⟩ := List.mem_map.mp e
      exact Nat.lt_irrefl _ (q ▸ Heap.lt_size (H.led p hp).1)
    · rw [hN, hv]; simp
  refine wpAny_mono ((h fm rest).go _ _ r.deeper H1) (fun fl s' ⟨v', l', H2, post, hs, hp⟩ => ?_) fun _ _ x => x.elim
  exact ⟨flowV fl, post, by cases fl <;> rfl, H2.h.toHd.sbl hs, hp⟩

/-! objects -/
section
variable {α β : Type} {N : List Str} {Gs : List (Str × Value)} {Cs : List (Str × Addr)} {k : Nat} {G : Gr} {fm : Fm G N Gs Cs} {vals : List (Option Value)} {l : Led}

theorem St.X {s} (H : St fm vals l s) : G.K.In s.heap := G.X.keeps H.h.keep
theorem St.at {s a o} (H : St fm vals l s) (h : (a, o) ∈ l) : s.heap.get? a = some o := (H.h.led _ h).1
theorem St.keeps {s h' n} (H : St fm vals l s) (hk : ∀ b o, s.heap.get? b = some o → h'.get? b = some o) : St fm vals l { s with heap := h', toks := n } :=
  ⟨{ keep := fun b o e => hk b o (H.h.keep b o e), nd := H.h.nd, led := fun p hp => ⟨hk _ _ (H.h.led p hp).1, (H.h.led p hp).2⟩, gens := H.h.gens, os := H.h.os, ns := H.h.ns.keeps hk, above := H.h.above, apart := H.h.apart }, H.len⟩
theorem St.frN {s h' n l'} (H : St fm vals l s) (F : Fr G.base fm.env.locals h' (Loc N vals)) (Nw : News G.base fm.env.locals h' l') (nd : (l'.map (·.1)).Nodup) : St fm vals l' { s with heap := h', toks := n } :=
  ⟨Fh.of F Nw nd H.h.gens H.h.os, H.len⟩
/-- a new object -/
theorem St.new {s a o h' n} (H : St fm vals l s) (hk : ∀ b o, s.heap.get? b = some o → h'.get? b = some o) (ho : h'.get? a = some o) (hn : s.heap.get? a = none) : St fm vals ((a, o) :: l) { s with heap := h', toks := n } := by
  have H' := H.keeps (n := n) hk
  refine ⟨{ keep := H'.h.keep, nd := ?_, led := fun p hp => ?_, gens := H.h.gens, os := H.h.os, ns := H'.h.ns, above := H.h.above, apart := ?_ }, H.len⟩
  · rw [List.map_cons]
    refine List.nodup_cons.mpr ⟨fun e => ?_, H.h.nd⟩
    obtain ⟨p, hp, q⟩ := List.mem_map.mp e
    have z := (H.h.led p hp).1
    rw [q, hn] at z; cases z
  · rcases List.mem_cons.mp hp with rfl | hp
    · refine ⟨ho, ?_⟩
      cases q : G.base.get? a with
      | none => rfl
      | some o' => have := H.h.keep _ _ q; rw [hn] at this; cases this
    · exact H'.h.led p hp
  · intro e
    rw [List.map_cons] at e
    rcases List.mem_cons.mp e with q | q
    · obtain ⟨oL, _, _, hL, _⟩ := H.h.ns
      have q' : fm.env.locals = a := q
      rw [q', hn] at hL; cases hL
    · exact H.h.apart q
theorem get?_size (h : Heap) : h.get? h.objs.size = none := by
  cases q : h.get? h.objs.size with
  | none => rfl
  | some o => exact absurd (Heap.lt_size q) (Nat.lt_irrefl _)
theorem St.push {s n} (H : St fm vals l s) (o : Obj) (hf : o.isFreed = false := by rfl) : St fm vals ((s.heap.objs.size, o) :: l) { s with heap := s.heap.push o, toks := n } :=
  H.new (fun b o' e => Heap.get?_push_of_some _ e) (Heap.get?_push_size _ hf) (get?_size _)
/-- an object changed -/
theorem St.upd {s a o o' l' h' n} (H : St fm vals l s) (U : Upd1 a o o' l l') (hs : Heap.SameBut a s.heap h') (ho : h'.get? a = some o') : St fm vals l' { s with heap := h', toks := n } := by
  have ha := H.h.led _ U.mem
  have hL : fm.env.locals ≠ a := fun e => H.h.apart (e ▸ List.mem_map_of_mem (f := (·.1)) U.mem)
  refine ⟨{ keep := fun b ob e => ?_, nd := U.fst ▸ H.h.nd, led := fun p hp => ?_, gens := H.h.gens, os := H.h.os, ns := H.h.ns.sameBut hs hL, above := H.h.above, apart := U.fst ▸ H.h.apart }, H.len⟩
  · have hb : b ≠ a := fun q => by rw [q, ha.2] at e; cases e
    exact (hs.2 b hb).trans (H.h.keep b ob e)
  · rcases U.of H.h.nd p hp with rfl | ⟨hp', hne⟩
    · exact ⟨ho, ha.2⟩
    · exact ⟨(hs.2 _ hne).trans (H.h.led p hp').1, (H.h.led p hp').2⟩
/-- an object forgotten, whatever became of it -/
theorem St.forget {s a o l' h' n} (H : St fm vals l s) (U : Pick (a, o) l l') (hx : Heap.ExtBut a s.heap h') : St fm vals l' { s with heap := h', toks := n } := by
  have H1 := H.h.perm U.perm
  have nd1 := List.nodup_cons.mp (by have := H1.nd; rwa [List.map_cons] at this)
  have ha := H1.led _ List.mem_cons_self
  have hL : fm.env.locals ≠ a := fun e => H1.apart (by rw [List.map_cons]; exact e ▸ List.mem_cons_self)
  refine ⟨{ keep := fun b ob e => hx b ob (fun q => ?_) (H.h.keep b ob e), nd := nd1.2, led := fun p hp => ?_, gens := H.h.gens, os := H.h.os, ns := H.h.ns.extBut hx hL, above := H.h.above, apart := fun e => H1.apart (by rw [List.map_cons]; exact List.mem_cons_of_mem _ e) }, H.len⟩
  · rw [q, ha.2] at e; cases e
  · have z := H1.led p (List.mem_cons_of_mem _ hp)
    exact ⟨hx _ _ (fun q => nd1.1 (by show a ∈ _; rw [← q]; exact List.mem_map_of_mem (f := (·.1)) hp)) z.1, z.2⟩
/-- a heap that keeps all but a place that was free -/
theorem St.extNew {s a h' n} (H : St fm vals l s) (hn : s.heap.get? a = none) (hx : Heap.ExtBut a s.heap h') : St fm vals l { s with heap := h', toks := n } :=
  H.keeps fun b o e => hx b o (fun q => by rw [q, hn] at e; cases e) e

theorem T_newList {vs : List Value} {P : Po Value} (h : ∀ a, P (.ref a) vals ((a, listOf vs.toArray 0) :: l)) (hsz : vs.length ≤ sizeLine := by size_fits) : T fm k vals l (newList vs) P := .mk fun A s r H =>
  wpAny_newObj_type ⟨vals, _, H.push _, h _⟩ (by show vs.toArray.size ≤ sizeLine; rw [List.size_toArray]; exact hsz)
noncomputable abbrev tupOf (its : Array Value) : Obj := { cls := .type "tuple", data := .seq its }
theorem T_newTuple {vs : List Value} {P : Po Value} (h : ∀ a, P (.ref a) vals ((a, tupOf vs.toArray) :: l)) (hsz : vs.length ≤ sizeLine := by size_fits) : T fm k vals l (newTuple vs) P := .mk fun A s r H =>
  wpAny_newObj_type ⟨vals, _, H.push _, h _⟩ (by show vs.toArray.size ≤ sizeLine; rw [List.size_toArray]; exact hsz)

/-! calls and attributes, the trees -/
variable {P : Po Value}
theorem T_args_nil {pos} {P : Po (List Value)} (h : P [] vals l) : T fm k vals l (spliced (backTo pos (starEach [] fm.env))) P := .mk fun A s r H => spliced_none ⟨vals, l, H, h⟩
theorem T_args_cons {pos e rest} {P : Po (List Value)} (he : starEach (e :: rest) fm.env = (false, eval e fm.env) :: starEach rest fm.env)
    (h : T fm k vals l (eval e fm.env) (TP fm k (spliced (backTo pos (starEach rest fm.env))) List.cons P)) : T fm k vals l (spliced (backTo pos (starEach (e :: rest) fm.env))) P := .mk fun A s r H =>
  spliced_more (T_in h r H fun v _ _ s₁ H₁ h₁ => h₁.go A s₁ r H₁) he
theorem T_List {elts pos} (h : T fm k vals l (spliced (backTo pos (starEach elts fm.env))) (Th fm k newList P)) : T fm k vals l (eval (.List elts pos) fm.env) P := .mk fun A s r H =>
  List_ (T_in h r H fun v _ _ s₁ H₁ h₁ => h₁.go A s₁ r H₁)
theorem T_Tuple {elts j pos} (h : T fm k vals l (spliced (backTo pos (starEach elts fm.env))) (Th fm k newTuple P)) : T fm k vals l (eval (.Tuple elts j pos) fm.env) P := .mk fun A s r H =>
  Tuple_ (T_in h r H fun v _ _ s₁ H₁ h₁ => h₁.go A s₁ r H₁)
noncomputable abbrev CwK (fm : Fm G N Gs Cs) (k : Nat) (pos : Pos) (args : List Expr) (P : Po Value) : Po Value := fun f v l => T fm k v l (callWith pos f [] (backTo pos (starEach args fm.env)) []) P
noncomputable abbrev ClK (fm : Fm G N Gs Cs) (k : Nat) (f : Value) (P : Po Value) : Po (List Value) := fun vs v l => T fm k v l (call f vs) P
noncomputable abbrev ClK1 (fm : Fm G N Gs Cs) (k : Nat) (f x : Value) (P : Po Value) : Po (List Value) := fun vs v l => T fm k v l (call f (x :: vs)) P
noncomputable abbrev GmK (fm : Fm G N Gs Cs) (k : Nat) (name : Str) (pl : Sem Bool) (P : Po (Value × List Value)) : Po Value := fun ov v l => T fm k v l (getMethod ov name pl) P
noncomputable abbrev GaK (fm : Fm G N Gs Cs) (k : Nat) (name : Str) (P : Po Value) : Po Value := fun ov v l => T fm k v l (getAttr ov name true) P
noncomputable abbrev SaK (fm : Fm G N Gs Cs) (k : Nat) (name : Str) (w : Value) (P : Po Unit) : Po Value := fun ov v l => T fm k v l (setAttr ov name w) P
noncomputable abbrev SaK1 (fm : Fm G N Gs Cs) (k : Nat) (o : Expr) (name : Str) (P : Po Unit) : Po Value := fun w v l => T fm k v l (eval o fm.env) (SaK fm k name w P)
theorem T_CallN {x np args pos} (h : T fm k vals l (eval (.Name x np) fm.env) (CwK fm k pos args P)) :
    T fm k vals l (eval (.Call (.Name x np) args [] pos) fm.env) P := .mk fun A s r H => wpAny_Call_ofName (T_in h r H fun v _ _ s₁ H₁ h₁ => h₁.go A s₁ r H₁)
/-- what comes behind the look for a method -/
noncomputable def Cm (fm : Fm G N Gs Cs) (k : Nat) (pos : Pos) (args : List Expr) (P : Po Value) : Po (Value × List Value) := fun fx v l => T fm k v l (callWith pos fx.1 fx.2 (backTo pos (starEach args fm.env)) []) P
theorem M_mk {pos args f first} (h : T fm k vals l (callWith pos f first (backTo pos (starEach args fm.env)) []) P) : Cm fm k pos args P (f, first) vals l := h
theorem T_CallM {o name apos args pos} {pl : Sem Bool} (he : eval (.Call (.Attribute o name apos) args [] pos) fm.env = (do
      let ov ← eval o fm.env
      standAt apos.atName
      let (f, first) ← holding [ov] (getMethod ov name pl)
      callWith pos f first (backTo pos (starEach args fm.env)) []))
    (h : T fm k vals l (eval o fm.env) (GmK fm k name pl (Cm fm k pos args P))) :
    T fm k vals l (eval (.Call (.Attribute o name apos) args [] pos) fm.env) P := .mk fun A s r H =>
  MethodCall_ (T_in h r H fun v _ _ s₁ H₁ h₁ => T_in h₁ r H₁ fun v _ _ s₂ H₂ h₂ => h₂.go A s₂ r H₂) he
theorem T_Attr {o name pos} (he : eval (.Attribute o name pos) fm.env = (do
      let v ← eval o fm.env
      standAt pos.atName
      let r ← holding [v] (getAttr v name true)
      letTemporaryGo o v r
      pure r)) (h : T fm k vals l (eval o fm.env) (GaK fm k name P)) : T fm k vals l (eval (.Attribute o name pos) fm.env) P := .mk fun A s r H =>
  Attribute_any_ (T_in h r H fun v _ _ s₁ H₁ h₁ => h₁.go A s₁ r H₁) he
/-- calls of what is known -/
theorem T_b0 {pos id first} (h : T fm k vals l (call (.builtin id) first) P) : T fm k vals l (callWith pos (.builtin id) first (backTo pos (starEach [] fm.env)) []) P := .mk fun A s r H => callWith_method0 (h.go A s r H)
theorem T_b1 {pos id e rest} (he : starEach (e :: rest) fm.env = (false, eval e fm.env) :: starEach rest fm.env) (hp : (backTo pos (starEach rest fm.env)).any (·.1) = false)
    (h : T fm k vals l (spliced (backTo pos (starEach (e :: rest) fm.env))) (ClK fm k (.builtin id) P)) :
    T fm k vals l (callWith pos (.builtin id) [] (backTo pos (starEach (e :: rest) fm.env)) []) P := .mk fun A s r H =>
  callWith_method1 (T_in h r H fun v _ _ s₁ H₁ h₁ => h₁.go A s₁ r H₁) he hp
theorem T_b2 {pos id x e rest} (he : starEach (e :: rest) fm.env = (false, eval e fm.env) :: starEach rest fm.env) (hp : (backTo pos (starEach rest fm.env)).any (·.1) = false)
    (h : T fm k vals l (spliced (backTo pos (starEach (e :: rest) fm.env))) (ClK1 fm k (.builtin id) x P)) :
    T fm k vals l (callWith pos (.builtin id) [x] (backTo pos (starEach (e :: rest) fm.env)) []) P := .mk fun A s r H =>
  callWith_method1 (T_in h r H fun v _ _ s₁ H₁ h₁ => h₁.go A s₁ r H₁) he hp
theorem T_ty1 {pos ty e rest} (he : starEach (e :: rest) fm.env = (false, eval e fm.env) :: starEach rest fm.env) (hp : (backTo pos (starEach rest fm.env)).any (·.1) = false)
    (h : T fm k vals l (spliced (backTo pos (starEach (e :: rest) fm.env))) (ClK fm k (.type ty) P)) :
    T fm k vals l (callWith pos (.type ty) [] (backTo pos (starEach (e :: rest) fm.env)) []) P := .mk fun A s r H =>
  callWith_type1 (T_in h r H fun v _ _ s₁ H₁ h₁ => h₁.go A s₁ r H₁) he hp
/-- a def or class of the text -/
theorem T_k0 {pos f first} (hk : keepIn G.K f = true) (h : T fm k vals l (call f first) P) : T fm k vals l (callWith pos f first (backTo pos (starEach [] fm.env)) []) P := .mk fun A s r H =>
  callWith_of rfl (keeps_K hk) (evalArgs_nil3 ⟨H.X, (List.append_nil first).symm ▸ h.go A s r H⟩)
theorem T_k1 {pos f e rest} (hk : keepIn G.K f = true) (he : starEach (e :: rest) fm.env = (false, eval e fm.env) :: starEach rest fm.env) (hp : (backTo pos (starEach rest fm.env)).any (·.1) = false)
    (h : T fm k vals l (spliced (backTo pos (starEach (e :: rest) fm.env))) (ClK fm k f P)) :
    T fm k vals l (callWith pos f [] (backTo pos (starEach (e :: rest) fm.env)) []) P := .mk fun A s r H => by
  have h1 := T_in (A := A) (s := s) h r H (Q := fun vs s₁ => G.K.In s₁.heap ∧ wpAny G.M A (call f ([] ++ vs)) (fun a s' => ∃ vals' l', St fm vals' l' s' ∧ P a vals' l') (fun _ _ => False) s₁) (E := fun _ _ => False) fun v _ _ s₁ H₁ h₁ => ⟨H₁.X, h₁.go A s₁ r H₁⟩
  rw [he] at h1 ⊢
  exact callWith_of (by show ((false || (backTo pos (starEach rest fm.env)).any (·.1)) || false) = false; rw [hp]; rfl) (keeps_K hk) (evalArgs_plain h1)
theorem T_k2 {pos f x e rest} (hk : keepIn G.K f = true) (he : starEach (e :: rest) fm.env = (false, eval e fm.env) :: starEach rest fm.env) (hp : (backTo pos (starEach rest fm.env)).any (·.1) = false)
    (h : T fm k vals l (spliced (backTo pos (starEach (e :: rest) fm.env))) (ClK1 fm k f x P)) :
    T fm k vals l (callWith pos f [x] (backTo pos (starEach (e :: rest) fm.env)) []) P := .mk fun A s r H => by
  have h1 := T_in (A := A) (s := s) h r H (Q := fun vs s₁ => G.K.In s₁.heap ∧ wpAny G.M A (call f ([x] ++ vs)) (fun a s' => ∃ vals' l', St fm vals' l' s' ∧ P a vals' l') (fun _ _ => False) s₁) (E := fun _ _ => False) fun v _ _ s₁ H₁ h₁ => ⟨H₁.X, h₁.go A s₁ r H₁⟩
  rw [he] at h1 ⊢
  exact callWith_of (by show ((false || (backTo pos (starEach rest fm.env)).any (·.1)) || false) = false; rw [hp]; rfl) (keeps_K hk) (evalArgs_plain h1)
/-- a function object of the call's own -/
theorem T_f1 {pos f o fd e rest} (hd : o.data = .func fd) (he : starEach (e :: rest) fm.env = (false, eval e fm.env) :: starEach rest fm.env) (hp : (backTo pos (starEach rest fm.env)).any (·.1) = false)
    (h : T fm k vals l (spliced (backTo pos (starEach (e :: rest) fm.env))) fun vs v l => (f, o) ∈ l ∧ T fm k v l (call (.ref f) vs) P) :
    T fm k vals l (callWith pos (.ref f) [] (backTo pos (starEach (e :: rest) fm.env)) []) P := .mk fun A s r H => by
  have h1 := T_in (A := A) (s := s) h r H (Q := fun vs s₁ => s₁.heap.get? f = some o ∧ wpAny G.M A (call (.ref f) ([] ++ vs)) (fun a s' => ∃ vals' l', St fm vals' l' s' ∧ P a vals' l') (fun _ _ => False) s₁) (E := fun _ _ => False) fun v _ _ s₁ H₁ h₁ => ⟨H₁.at h₁.1, h₁.2.go A s₁ r H₁⟩
  rw [he] at h1 ⊢
  refine callWith_of (P := fun h => h.get? f = some o) (by show ((false || (backTo pos (starEach rest fm.env)).any (·.1)) || false) = false; rw [hp]; rfl) (fun h ho => ⟨.frame, .inl rfl, ?_⟩) (evalArgs_plain h1)
  refine (Looks.ld (part := none) ho).andThen ?_
  rw [hd]; exact .now

/-! instances of the text's classes -/
/-- C is a plain class whose instances bear name themselves -/
structure OwnA (K : Frag) (C : Addr) (name : Str) : Prop where
  get : plainGet K C name = true
  dict : hasDictIn K C = true
  find : findIn K (.ref C) name = some none
structure SetA (K : Frag) (C : Addr) (name : Str) : Prop where
  set : findIn K (.ref C) "__setattr__" = some (some (.builtin "object.__setattr__"))
  over : plainOver K C = true
  taker : takerIn K C name = some none
  dict : hasDictIn K C = true
structure MethA (K : Frag) (C : Addr) (name : Str) (f : Addr) : Prop where
  get : plainGet K C name = true
  dict : hasDictIn K C = true
  find : findIn K (.ref C) name = some (some (.ref f))
  fn : isFn K (.ref f) = true
  bind : specialIn K (.ref f) "__get__" = some (some (.builtin "function.__get__"))
  takes : takesIn K (.ref f) = some false
  plain : copiedNames.contains name = false

theorem St.inst {s x C dx od} (H : St fm vals l s) (hx : (x, instObj C dx) ∈ l) (hd : (dx, od) ∈ l) : InstAt s.heap x (instObj C dx) C (some od) := ⟨H.at hx, rfl, rfl, H.at hd⟩
theorem T_getown {x C dx es n name v b} (hx : (x, instObj C dx) ∈ l) (hd : (dx, dictOf es n) ∈ l) (ka : OwnA G.K C name) (hl : getL name es = some (some v)) (hv : handedIn v = true) (h : P v vals l) :
    T fm k vals l (getAttr (.ref x) name b) P := .mk fun A s r H =>
  get_own H.h.fr G.X (H.inst hx hd) ka.get ka.dict ka.find rfl hl hv ⟨vals, l, H.toks _, h⟩
theorem T_getmeth {x C dx es n name f b} (hx : (x, instObj C dx) ∈ l) (hd : (dx, dictOf es n) ∈ l) (ka : MethA G.K C name f) (hl : getL name es = some none) (h : ∀ q, P (.ref q) vals ((q, methodObj (.ref f) (.ref x)) :: l)) :
    T fm k vals l (getAttr (.ref x) name b) P := .mk fun A s r H =>
  kbm_bound H.h.fr G.X H.h.news (H.inst hx hd) ka.get ka.dict ka.find ka.fn ka.bind ka.takes ka.plain hl (fun q h' F' N' lt => ⟨vals, _, H.frN F' N' (by
    rw [List.map_cons]
    refine List.nodup_cons.mpr ⟨fun e => ?_, H.h.nd⟩
    obtain ⟨p, hp, q'⟩ := List.mem_map.mp e
    exact Nat.lt_irrefl _ (q' ▸ lt p hp)), h q⟩)
theorem T_method {x C dx es n name f pl} {P : Po (Value × List Value)} (hx : (x, instObj C dx) ∈ l) (hd : (dx, dictOf es n) ∈ l) (ka : MethA G.K C name f) (hl : getL name es = some none) (h : P (.ref f, [.ref x]) vals l) :
    T fm k vals l (getMethod (.ref x) name pl) P := .mk fun A s r H =>
  method_inst H.h.fr G.X (H.inst hx hd) ka.get ka.find ka.fn hl ⟨vals, l, H, h⟩
theorem T_method_own {x C dx es n name v pl} {P : Po (Value × List Value)} (hx : (x, instObj C dx) ∈ l) (hd : (dx, dictOf es n) ∈ l) (ka : OwnA G.K C name) (hl : getL name es = some (some v)) (hv : handedIn v = true) (h : P (v, []) vals l) :
    T fm k vals l (getMethod (.ref x) name pl) P := .mk fun A s r H =>
  method_usual H.X (H.inst hx hd) (plainGet_of ka.get).1 (plainGet_of ka.get).2 ka.find rfl (get_own H.h.fr G.X (H.inst hx hd) ka.get ka.dict ka.find rfl hl hv ⟨vals, l, H.toks _, h⟩)
theorem T_setattr {x C dx es n name v} {l' : Tok → Led} {es' : Tok → List DictEntry} {n' : Nat} {P : Po Unit} (hx : (x, instObj C dx) ∈ l) (ka : SetA G.K C name) (hl : (getL name es).isSome = true)
    (e : ∀ t, (putL name (PyData.keyHash G.w.params name) (.str name t) v es, putN name es n) = (es' t, n')) (U : ∀ t, Upd1 dx (dictOf es n) (dictOf (es' t) n') l (l' t)) (hz : ∀ t, (es' t).length ≤ 1000) (h : ∀ t, P () vals (l' t)) :
    T fm k vals l (setAttr (.ref x) name v) P := .mk fun A s r H =>
  set_dict H.h.fr G.X H.h.news (H.inst hx (U 0).mem) rfl ka.set ka.over ka.taker ka.dict hl (e (s.toks + 1)) ((U (s.toks + 1)).upd H.h.nd) (hz _) (fun h' F' N' => ⟨vals, _, H.frN F' N' ((U _).fst ▸ H.h.nd), h _⟩)

theorem T_AssignA {o name apos e pos} {P : Po Flow} (hs : swapsWith e (some (.Attribute o name apos)) pos.line fm.env = pure false)
    (h : T fm k vals l (eval e fm.env) (SaK1 fm k o name (Pn Flow.next P))) :
    T fm k vals l (exec (.Assign [.Attribute o name apos] e pos) fm.env) P := .mk fun A s r H =>
  plainObj_wpAny_Assign_Attribute (T_in h r H fun _ _ _ s₁ H₁ h₁ => T_in h₁ r H₁ fun _ _ _ s₂ H₂ h₂ => h₂.go A s₂ r H₂) hs
noncomputable abbrev AaK3 (fm : Fm G N Gs Cs) (k : Nat) (name : Str) (ov : Value) (P : Po Flow) : Po Value := fun z v l => T fm k v l (setAttr ov name z) (Pn Flow.next P)
noncomputable abbrev AaK2 (fm : Fm G N Gs Cs) (k : Nat) (name : Str) (op : Operator) (e : Expr) (ov : Value) (P : Po Flow) : Po Value := fun old v l => T fm k v l (eval e fm.env) (Th fm k (inplaceOp op old) (AaK3 fm k name ov P))
noncomputable abbrev AaK1 (fm : Fm G N Gs Cs) (k : Nat) (name : Str) (op : Operator) (e : Expr) (P : Po Flow) : Po Value := fun ov v l => T fm k v l (getAttr ov name true) (AaK2 fm k name op e ov P)
theorem T_AugA {o name tpos op e pos} {P : Po Flow} (h : T fm k vals l (eval o fm.env) (AaK1 fm k name op e P)) :
    T fm k vals l (exec (.AugAssign (.Attribute o name tpos) op e pos) fm.env) P := .mk fun A s r H =>
  wpAny_AugAssign_AttributeAny (T_in h r H fun _ _ _ s₁ H₁ h₁ => T_in h₁ r H₁ fun _ _ _ s₂ H₂ h₂ => T_in h₂ r H₂ fun _ _ _ s₃ H₃ h₃ => T_in h₃ r H₃ fun _ _ _ s₄ H₄ h₄ => h₄.go A s₄ r H₄)
end
end
section
section
variable {α β : Type} {N : List Str} {Gs : List (Str × Value)} {Cs : List (Str × Addr)} {k : Nat} {G : Gr} {fm : Fm G N Gs Cs} {vals : List (Option Value)} {l : Led}

/-! loops -/
/-- what comes behind a loop's turn -/
noncomputable def Lk (fm : Fm G N Gs Cs) (k : Nat) (c : Code) (P : Po Flow) : Po Flow := fun f vals l =>
  match f with
  | .next | .cont => C fm k vals l c P
  | .brk => P .next vals l
  | .ret v => P (.ret v) vals l
theorem L_next {c P} (h : C fm k vals l c P) : Lk fm k c P .next vals l := h
theorem L_cont {c P} (h : C fm k vals l c P) : Lk fm k c P .cont vals l := h
theorem L_ret {c P v} (h : P (.ret v) vals l) : Lk fm k c P (.ret v) vals l := h

theorem T_While {test body orelse pos} {P : Po Flow} (h : C fm k vals l (.whileLoop test body orelse fm.env) P) : T fm k vals l (exec (.While test body orelse pos) fm.env) P := .mk fun A s r H =>
  wpAny_While (codeAny_mono (h.go A s r H) fun x s' ⟨f, v, l', e, H', p⟩ => by subst e; exact ⟨v, l', H', p⟩)
noncomputable abbrev WhK (fm : Fm G N Gs Cs) (k : Nat) (test : Expr) (body orelse : List Stmt) (P : Po Flow) : Po Bool := fun b v l =>
      If2 b (T fm k v l (execs body fm.env) (Lk fm k (.whileLoop test body orelse fm.env) P)) (T fm k v l (execs orelse fm.env) P)
theorem C_while {test body orelse} {P : Po Flow} (h : T fm k vals l (isTrue test fm.env (eval test fm.env)) (WhK fm k test body orelse P)) :
    C fm k vals l (.whileLoop test body orelse fm.env) P := .mk fun A s r H => by
  refine codeAny_of_tree ?_
  show wpAny _ A ((whileTurn test body orelse fm.env).onRaise (fun x => do noteFrame x fm.env; theTreesLotGoes x)) _ _ s
  refine wpAny_noted ?_
  simp only [whileTurn]
  refine wpAny_bind (T_in h r H fun b v l₁ s₁ H₁ h₁ => ?_)
  cases b with
  | false =>
    simp only [Bool.false_eq_true, if_false]
    exact wpAny_bind (T_in (show T fm k v l₁ (execs orelse fm.env) P from h₁) r H₁ fun f v l₂ s₂ H₂ h₂ => wpAny_pure ⟨f, v, l₂, rfl, H₂, h₂⟩)
  | true =>
    simp only [if_true]
    refine wpAny_bind (T_in (show T fm k v l₁ (execs body fm.env) _ from h₁) r H₁ fun f v l₂ s₂ H₂ h₂ => ?_)
    cases f with
    | next => exact wpAny_pure ⟨rfl, h₂.go A s₂ r H₂⟩
    | cont => exact wpAny_pure ⟨rfl, h₂.go A s₂ r H₂⟩
    | brk => exact wpAny_pure ⟨.next, v, l₂, rfl, H₂, h₂⟩
    | ret x => exact wpAny_pure ⟨.ret x, v, l₂, rfl, H₂, h₂⟩

/-- a for loop's turn, behind the iterator's answer -/
noncomputable def Fk (fm : Fm G N Gs Cs) (k : Nat) (target : Expr) (it : Value) (body orelse : List Stmt) (P : Po Flow) : Po (Option Value) := fun o vals l =>
  match o with
  | none => T fm k vals l (execs orelse fm.env) P
  | some x => T fm k vals l (letOwnedTupleGo target it x) fun _ v l => T fm k v l (assign target fm.env x) fun _ v l => T fm k v l (execs body fm.env) (Lk fm k (.forLoop target it body orelse fm.env) P)
theorem F_none {target it body orelse P} (h : T fm k vals l (execs orelse fm.env) P) : Fk fm k target it body orelse P none vals l := h
theorem F_some {target it body orelse P x} (ht : letOwnedTupleGo target it x = pure ()) (h : T fm k vals l (assign target fm.env x) (Tn fm k (execs body fm.env) (Lk fm k (.forLoop target it body orelse fm.env) P))) :
    Fk fm k target it body orelse P (some x) vals l := by
  show T fm k vals l (letOwnedTupleGo target it x) _
  rw [ht]; exact T_pure h
noncomputable abbrev FoK (fm : Fm G N Gs Cs) (k : Nat) (target : Expr) (body orelse : List Stmt) (P : Po Flow) : Po Value := fun it v l => C fm k v l (.forLoop target it body orelse fm.env) P
theorem T_For {target iter body orelse pos} {P : Po Flow} (hs : ∀ x, foldedSetIterable iter fm.env x = pure x)
    (h : T fm k vals l (eval iter fm.env) (Th fm k pyIter (FoK fm k target body orelse P))) :
    T fm k vals l (exec (.For target iter body orelse pos) fm.env) P := .mk fun A s r H =>
  wpAny_For (T_in h r H fun x _ _ s₁ H₁ h₁ => T_in h₁ r H₁ fun it _ _ s₂ H₂ h₂ => codeAny_mono (h₂.go A s₂ r H₂) fun x s' ⟨f, v, l', e, H', p⟩ => by subst e; exact ⟨v, l', H', p⟩) hs
theorem C_for {target it body orelse} {P : Po Flow} (h : T fm k vals l (pyNext it) (Fk fm k target it body orelse P)) :
    C fm k vals l (.forLoop target it body orelse fm.env) P := .mk fun A s r H => by
  refine codeAny_of_tree ?_
  show wpAny _ A ((forTurn target it body orelse fm.env).onRaise (fun x => do noteFrame x fm.env; theTreesLotGoes x)) _ _ s
  refine wpAny_noted ?_
  simp only [forTurn]
  refine wpAny_bind (wpAny_standAt (wpAny_bind (wpAny_onRaise (T_in h r H fun o v l₁ s₁ H₁ h₁ => ?_))))
  cases o with
  | none =>
    refine wpAny_pure ⟨rfl, codeAny_block ?_⟩
    exact T_in (show T fm k v l₁ (execs orelse fm.env) P from h₁) r H₁ fun f v l₂ s₂ H₂ h₂ => ⟨f, v, l₂, rfl, H₂, h₂⟩
  | some x =>
    refine wpAny_bind (T_in (show T fm k v l₁ (letOwnedTupleGo target it x) _ from h₁) r H₁ fun _ v l₂ s₂ H₂ h₂ => ?_)
    refine wpAny_bind (T_in h₂ r H₂ fun _ v l₃ s₃ H₃ h₃ => wpAny_bind (T_in h₃ r H₃ fun f v l₄ s₄ H₄ h₄ => ?_))
    cases f with
    | next => exact wpAny_pure ⟨rfl, h₄.go A s₄ r H₄⟩
    | cont => exact wpAny_pure ⟨rfl, h₄.go A s₄ r H₄⟩
    | brk => exact wpAny_pure ⟨.next, v, l₄, rfl, H₄, h₄⟩
    | ret x => exact wpAny_pure ⟨.ret x, v, l₄, rfl, H₄, h₄⟩
theorem T_assignN {x pos v vals'} {P : Po Unit} (hx : PutAt N vals x v vals') (h : P () vals' l) : T fm k vals l (assign (.Name x pos) fm.env v) P := .mk fun A s r H =>
  wpAny_assign_Name ((T_store (k := k) hx h).go A s r H)

/-- the tree's text and what is wanted behind it by names -/
theorem C_any {c : Code} {P : Po Flow} (h : ∀ c' P', c' = c → P' = P → C fm k vals l c' P') : C fm k vals l c P := h c P rfl rfl
/-- the ways of an if meet again -/
noncomputable def Jn (J : List (Option Value) → Led → Prop) (P : Po Flow) : Po Flow := fun f v l =>
  match f with
  | .next => J v l
  | f => P f v l
theorem J_next {J P} (h : J vals l) : Jn J P .next vals l := h
theorem T_IfJ {c a b pos} {P : Po Flow} (J : List (Option Value) → Led → Prop)
    (h : T fm k vals l (isTrue c fm.env (eval c fm.env)) (IfK fm k (execs a fm.env) (execs b fm.env) (Jn J P))) (hJ : ∀ v l, J v l → P .next v l) :
    T fm k vals l (exec (.If c a b pos) fm.env) P := by
  refine T_If (T_mono h fun t v l h' => ?_)
  have up : ∀ f v l, Jn J P f v l → P f v l := fun f v l x => by cases f <;> first | exact hJ v l x | exact x
  cases t
  · exact T_mono (show T fm k v l (execs b fm.env) (Jn J P) from h') up
  · exact T_mono (show T fm k v l (execs a fm.env) (Jn J P) from h') up

/-! iterators -/
noncomputable def ListIt (o : Obj) (a : Addr) (i : Nat) : Prop := o.cls = .type "list_iterator" ∧ o.data = .fields #[.ref a, .int i 0]
theorem T_iter_list {a its n} {P : Po Value} (ha : (a, listOf its n) ∈ l) (h : ∀ it o, ListIt o a 0 → P (.ref it) vals ((it, o) :: l)) : T fm k vals l (pyIter (.ref a)) P := .mk fun A s r H =>
  wpAny_pyIter_list ⟨_, H.at ha, rfl, n, rfl⟩ ⟨vals, _, H.push _, h _ _ ⟨rfl, rfl⟩⟩
theorem T_next_list {it a its n i x o} {l' : Obj → Led} {P : Po (Option Value)} (hi : ListIt o a i) (U : ∀ o', Upd1 it o o' l (l' o')) (ha : (a, listOf its n) ∈ l) (hx : its[i]? = some x) (h : ∀ o', ListIt o' a (i + 1) → P (some x) vals (l' o')) :
    T fm k vals l (pyNext (.ref it)) P := .mk fun A s r H =>
  wpAny_pyNext_list_item ⟨o, H.at (U o).mem, hi.1, hi.2⟩ ⟨_, H.at ha, rfl, n, rfl⟩ hx fun h' ⟨o', ho, c, d⟩ hs => ⟨vals, l' o', H.upd (U o') hs ho, h o' ⟨c, d⟩⟩
theorem T_end_list {it a its n i o l'} {P : Po (Option Value)} (hi : ListIt o a i) (U : Pick (it, o) l l') (ha : (a, listOf its n) ∈ l) (hx : its[i]? = none) (h : P none vals l') :
    T fm k vals l (pyNext (.ref it)) P := .mk fun A s r H =>
  wpAny_pyNext_list_end r.handled ⟨o, H.at U.mem, hi.1, hi.2⟩ ⟨_, H.at ha, rfl, n, rfl⟩ hx fun h' hx => ⟨vals, l', H.forget U hx, h⟩
theorem T_iter_listiter {it a i o} {P : Po Value} (hi : ListIt o a i) (ha : (it, o) ∈ l) (h : P (.ref it) vals l) : T fm k vals l (pyIter (.ref it)) P := .mk fun A s r H =>
  wpAny_pyIter_listiter ⟨o, H.at ha, hi.1, hi.2⟩ ⟨vals, l, H, h⟩

/-! iter(f, sentinel) -/
theorem callBorrowed_ {M : Model} {A : Around} {E : Value → Shared → Prop} {s : Shared} {f : Value} {pos : List Value} {Q : Value → Shared → Prop}
    (hc : codeAny M A (.call f ⟨pos, []⟩) (fun r s' => match r with | .ok (.ret v) => Q v s' | .ok _ => False | .error e => E e s') s) : wpAny M A (callBorrowed f pos) Q E s := fun Γ p hΓ => by
  unfold callBorrowed
  rw [Sem.wp_call]
  refine wpCode_mono (fun r s' hr => ?_) (hc _ p rfl (hΓ.enter _ none p (by intro x; cases x)))
  cases r with
  | error e => exact hr
  | ok f => cases f <;> first | exact hr | exact hr.elim
theorem slot_callit_next : Slot "callable_iterator" "__next__" "callable_iterator.__next__" :=
  .of (owner := "callable_iterator") (n := "__next__") (by rw [typeLookup_type, builtinLookup_eq_fast]; kernel_rfl) (by decide +kernel) (by decide +kernel) (by decide +kernel)
    (by first | exact .inl (by decide +kernel) | exact .inr (by decide +kernel)) (by rw [isSubtype_type]; kernel_rfl)
theorem slot_callit_iter : Slot "callable_iterator" "__iter__" "callable_iterator.__iter__" :=
  .of (owner := "callable_iterator") (n := "__iter__") (by rw [typeLookup_type, builtinLookup_eq_fast]; kernel_rfl) (by decide +kernel) (by decide +kernel) (by decide +kernel)
    (by first | exact .inl (by decide +kernel) | exact .inr (by decide +kernel)) (by rw [isSubtype_type]; kernel_rfl)
theorem entry_callit_next : entryFor table "callable_iterator.__next__" = some Builtin.«callable_iterator.__next__» := entryFor_of_fast (by kernel_rfl)
theorem entry_callit_iter : entryFor table "callable_iterator.__iter__" = some Builtin.«dict_keyiterator.__iter__» :=
  entryFor_alias (id' := "dict_keyiterator.__iter__") (by kernel_rfl) rfl (by decide +kernel) (by kernel_rfl)
theorem args_callit_next (a : Value) : argsOk "callable_iterator.__next__" ⟨[a], []⟩ := by unfold argsOk; kernel_rfl
theorem args_callit_iter (a : Value) : argsOk "callable_iterator.__iter__" ⟨[a], []⟩ := by unfold argsOk; kernel_rfl

noncomputable abbrev callIt (f sent : Value) (ended : Bool) : Obj := { cls := .type "callable_iterator", data := .fields #[f, sent, .bool ended] }
noncomputable abbrev goneIt : Obj := { cls := .type "callable_iterator", data := .fields #[.none, .none, .bool true] }

theorem T_iter_callit {it f sent b} {P : Po Value} (ha : (it, callIt f sent b) ∈ l) (h : P (.ref it) vals l) : T fm k vals l (pyIter (.ref it)) P := .mk fun A s r H => by
  have hT : s.TypeIs (.ref it) "callable_iterator" := ⟨_, H.at ha, rfl⟩
  refine wpAny_pyIter_slot hT slot_callit_iter (wpAny_call_entry slot_callit_iter hT entry_callit_iter ?_ (args_callit_iter _))
  show wpAny _ _ (ret (.ref it)) _ _ s
  exact wpAny_pure ⟨_, rfl, "callable_iterator", _, hT, slot_callit_next.lookup, vals, l, H, h⟩

theorem stop_ {M : Model} {A : Around} {s : Shared} {Q : α → Shared → Prop} {E : Value → Shared → Prop} (hh : A.handled = none)
    (h : ∀ h' e, (∀ b o, s.heap.get? b = some o → h'.get? b = some o) → (∃ o, h'.get? e = some o ∧ o.cls = .type "StopIteration") → E (.ref e) { s with heap := h' }) :
    wpAny M A (Builtin.SmallTypes.stopIteration : Sem α) Q E s := by
  unfold Builtin.SmallTypes.stopIteration
  refine wpAny_bind ?_
  simp only [newExc, newTuple]
  refine wpAny_bind (wpAny_newObj_type ?_ (by size_fits))
  refine wpAny_bind (m := firstArgMember _ _) (wpAny_of_eq (a := Value.none) (by first | rfl | (simp only [firstArgMember]; rfl)) ?_)
  refine wpAny_newObj_type ?_ (by size_fits)
  delta raiseNew
  dsimp only
  refine wpAny_bind (wpAny_handled ?_)
  rw [hh]
  refine wpAny_bind (wpAny_pure (wpAny_throw (h _ _ (fun b o e => Heap.get?_push_of_some _ (Heap.get?_push_of_some _ e)) ⟨_, Heap.get?_push_size _ rfl, rfl⟩)))
end
end
section
section
variable {α β : Type} {N : List Str} {Gs : List (Str × Value)} {Cs : List (Str × Addr)} {k : Nat} {G : Gr} {fm : Fm G N Gs Cs} {vals : List (Option Value)} {l : Led}

theorem Upd1.append_left {a o o' l l'} (p : Led) (h : Upd1 a o o' l l') : Upd1 a o o' (p ++ l) (p ++ l') := by
  induction p with
  | nil => exact h
  | cons q p ih => exact .tail ih
theorem T_next_gone {it} {P : Po (Option Value)} (ha : (it, goneIt) ∈ l) (h : P none vals l) : T fm k vals l (pyNext (.ref it)) P := .mk fun A s r H => by
  have hT : s.TypeIs (.ref it) "callable_iterator" := ⟨_, H.at ha, rfl⟩
  unfold pyNext
  refine wpAny_bind (wpAny_attempt (wpAny_callSpecial?_slot (name := Str.ofString "__next__") hT slot_callit_next
    (wpAny_call_entry slot_callit_next hT entry_callit_next ?_ (args_callit_next _))))
  show wpAny _ _ (field (.ref it) 2 >>= _) _ _ s
  refine wpAny_bind (wpAny_field (H.at ha) rfl (x := .bool true) rfl ?_)
  show wpAny _ _ (if (Value.bool true == Value.bool true) = true then _ else _) _ _ s
  rw [if_pos (by rfl)]
  refine wpAny_bind (wpAny_rule (wpAny_bind (stop_ r.handled fun h' e hk ⟨o, ho, hc⟩ => ?_)))
  refine wpAny_bind (wpAny_isInstance (T := "StopIteration") (b := true) ⟨o, ho, hc⟩ isSubtype_stop ?_)
  exact wpAny_pure ⟨vals, l, H.keeps hk, h⟩

theorem borrows_ {M : Model} {A : Around} {s : Shared} {E : Value → Shared → Prop} {q f : Addr} {self : Value} {o : Obj} {fd : FuncData} {Q : Bool → Shared → Prop} (hq : s.heap.get? q = some (methodObj (.ref f) self)) (hf : s.heap.get? f = some o) (hd : o.data = .func fd) (h : Q true s) :
    wpAny M A (borrowsExactly (.ref q)) Q E s := by
  unfold borrowsExactly
  refine wpAny_bind (wpAny_load hq ?_)
  show wpAny _ _ (if (Value.type "method" == Value.type "method") = true then _ else _) _ _ s
  rw [if_pos (by decide)]
  show wpAny _ _ (load f >>= _) _ _ s
  refine wpAny_bind (wpAny_load hf ?_)
  rw [hd]; exact wpAny_pure h

/-- one more call of the iterator's function: a text that is not the sentinel, or the end -/
theorem T_next_callit {it q f self sent t j oc od fd osl} {pre rest rest' : Led} {Q : Value → Led → Prop} {P : Po (Option Value)}
    (hf : G.K.lookup f = some ⟨oc, od, .func fd, osl⟩) (hS : Sp G j pre (.ref f) [.ref self] [] Q) (hj : j + 2 ≤ k) (hsub : SubL pre l rest)
    (hq : (q, methodObj (.ref f) (.ref self)) ∈ rest) (U : Upd1 it (callIt (.ref q) (.str sent t) false) goneIt rest rest')
    (h : ∀ v post, Q v post → ∃ c u, v = .str c u ∧ (sent ≠ c → P (some (.str c u)) vals (post ++ rest)) ∧ (sent = c → P none vals (post ++ rest'))) :
    T fm k vals l (pyNext (.ref it)) P := .mk fun A s r H => by
  have hr : ∀ p ∈ rest, p ∈ l := fun p hp => hsub.perm.mem_iff.mpr (List.mem_append_right _ hp)
  have ha := H.at (hr _ U.mem)
  have hT : s.TypeIs (.ref it) "callable_iterator" := ⟨_, ha, rfl⟩
  unfold pyNext
  refine wpAny_bind (wpAny_attempt (wpAny_callSpecial?_slot (name := Str.ofString "__next__") hT slot_callit_next
    (wpAny_call_entry slot_callit_next hT entry_callit_next ?_ (args_callit_next _))))
  show wpAny _ _ (field (.ref it) 2 >>= _) _ _ s
  refine wpAny_bind (wpAny_field ha rfl (x := .bool false) rfl ?_)
  show wpAny _ _ (if (Value.bool false == Value.bool true) = true then _ else _) _ _ s
  rw [if_neg (by decide)]
  show wpAny _ _ (field (.ref it) 0 >>= _) _ _ s
  refine wpAny_bind (wpAny_field ha rfl (x := .ref q) rfl (wpAny_bind (wpAny_attempt ?_)))
  show wpAny _ _ (borrowsExactly (.ref q) >>= _) _ _ s
  refine wpAny_bind (borrows_ (H.at (hr _ hq)) (H.X _ _ hf) rfl ?_)
  rw [if_pos rfl]
  refine callBorrowed_ (method_call (H.at (hr _ hq)) (codeAny_mono (Sp_at hS (r.in1' hj) H hsub) fun x s' ⟨v, post, e, H', hv⟩ => ?_))
  subst e
  obtain ⟨c, u, rfl, h1, h2⟩ := h v post hv
  have ha' := H'.at (List.mem_append_right post U.mem)
  show wpAny _ _ (field (.ref it) 2 >>= _) _ _ s'
  refine wpAny_bind (wpAny_field ha' rfl (x := .bool false) rfl ?_)
  show wpAny _ _ (if (Value.bool false == Value.bool true) = true then _ else _) _ _ s'
  rw [if_neg (by decide)]
  show wpAny _ _ (field (.ref it) 1 >>= _) _ _ s'
  refine wpAny_bind (wpAny_field ha' rfl (x := .str sent t) rfl (wpAny_bind (wpAny_holding (wpAny_eqBool_str ?_))))
  by_cases e : sent = c
  · rw [decide_eq_true e]
    show wpAny _ _ (rule _ >>= _) _ _ s'
    refine wpAny_bind (wpAny_rule ?_)
    refine wpAny_bind ?_
    refine wpAny_bind ?_
    refine wpAny_field ha' rfl (x := .ref q) rfl ?_
    refine wpAny_bind ?_
    show wpAny _ _ (borrowsExactly (.ref q) >>= _) _ _ s'
    refine wpAny_bind (borrows_ (H'.at (List.mem_append_right post hq)) (H'.X _ _ hf) rfl ?_)
    rw [if_pos rfl]
    refine wpAny_pure ?_
    refine wpAny_bind (wpAny_setField_rec ha' (by simp) fun h1' o1 s1 => ?_)
    refine wpAny_bind (wpAny_setField_rec o1 (by simp) fun h2' o2 s2 => ?_)
    refine wpAny_setField_rec o2 (by simp) fun h3' o3 s3 => ?_
    have Hg := H'.upd (n := s'.toks) (h' := h3') (Upd1.append_left post U) ((s1.trans s2).trans s3) o3
    refine stop_ r.handled fun h' ee hk ⟨o, ho, hc⟩ => ?_
    refine wpAny_bind (wpAny_isInstance (T := "StopIteration") (b := true) ⟨o, ho, hc⟩ isSubtype_stop ?_)
    exact wpAny_pure ⟨vals, _, Hg.keeps hk, h2 e⟩
  · rw [decide_eq_false e]
    show wpAny _ _ (ret (.str c u) >>= _) _ _ s'
    exact wpAny_bind (wpAny_pure (wpAny_pure ⟨_, rfl, wpAny_pure ⟨vals, _, H', h1 e⟩⟩))
end
end
section
/-! cells -/
noncomputable abbrev CellO (o : Obj) (v : Option Value) : Prop := o.data = .cell v
section
variable {α β : Type} {N : List Str} {Gs : List (Str × Value)} {Cs : List (Str × Addr)} {k : Nat} {G : Gr} {fm : Fm G N Gs Cs} {vals : List (Option Value)} {l : Led}

theorem T_cell {x c o v pos} {P : Po Value} (hk : fm.env.scope.names.lookup x = some .cell) (hx : (x == ("__debug__" : Str)) = false) (hc : Cs.lookup x = some c) (ho : (c, o) ∈ l) (hv : CellO o (some v)) (h : P v vals l) :
    T fm k vals l (eval (.Name x pos) fm.env) P := .mk fun A s r H =>
  wpAny_Name (wpAny_loadName_cell fm.kind hk (by rw [fm.cells]; exact hc) ⟨o, H.at ho, hv⟩ ⟨vals, l, H, h⟩) hx
theorem T_free {x c o v pos} {P : Po Value} (hk : fm.env.scope.names.lookup x = some .free) (hx : (x == ("__debug__" : Str)) = false) (hn : (x == ("__classdict__" : Str)) = false) (hc : Cs.lookup x = some c) (ho : (c, o) ∈ l) (hv : CellO o (some v)) (h : P v vals l) :
    T fm k vals l (eval (.Name x pos) fm.env) P := .mk fun A s r H =>
  wpAny_Name (wpAny_loadName_free fm.kind hk (by rw [fm.cells]; exact hc) ⟨o, H.at ho, hv⟩ ⟨vals, l, H, h⟩ hn) hx
theorem T_storeCell {x c o v v₀} {l' : Obj → Led} {P : Po Unit} (hk : fm.env.scope.names.lookup x = some .cell) (hc : Cs.lookup x = some c) (U : ∀ o', Upd1 c o o' l (l' o')) (hv : CellO o v₀) (h : ∀ o', CellO o' (some v) → P () vals (l' o')) :
    T fm k vals l (storeName fm.env x v) P := .mk fun A s r H =>
  wpAny_storeName_cell fm.kind hk (by rw [fm.cells]; exact hc) ⟨o, H.at (U o).mem, hv⟩ fun h' ⟨o', ho', hd'⟩ hs => ⟨vals, l' o', H.upd (U o') hs ho', h o' hd'⟩
end

/-- what a def with one cell is entered with -/
theorem enterC {G : Gr} {k : Nat} {pre : Led} {P : Value → Led → Prop} {name qual : Str} {params : Arguments} {body : List Stmt} {scope : Scope} {dV kV doc pm cdv ct oc : Value} {an od : Option Addr} {osl : Array (Option Value)} {f : Addr}
    {pos : List Value} {kw : List (Str × Value)} {binds : List (Str × Value)} {N : List Str} {vals : List (Option Value)} {Gs : List (Str × Value)} {x : Str} {cv : Option Value}
    (ho : G.K.lookup f = some ⟨oc, od, .func (fnX name qual params body scope [] dV kV doc pm an cdv ct), osl⟩) (hcd : codeIn G.K cdv qual = true)
    (hbind : ∀ s : Shared, G.K.In s.heap → BindsTo s (fnX name qual params body scope [] dV kV doc pm an cdv ct) ⟨pos, kw⟩ binds)
    (hlen : vals.length = N.length) (hL : ∀ y, bindL (fun y => scope.names.lookup y) binds (fun _ => none) y = Loc N vals y) (hC : bindC (fun y => scope.names.lookup y) binds (fun _ => none) x = cv)
    (hcells : ∀ n, cellsFrom n scope.names [] = [(x, n)]) (hx : scope.names.lookup x = some .cell)
    (hkind : (binds.all fun y => decide (scope.names.lookup y.1 = some .local) || (y.1 == x)) = true)
    (hnd : N.Nodup) (hloc : (N.all fun x => decide (scope.names.lookup x = some .local) && !(x == ("__debug__" : Str))) = true)
    (hglb : ∀ p ∈ Gs, scope.names.lookup p.1 = some .globalImplicit ∧ (p.1 == ("__debug__" : Str)) = false ∧ Glb G p.1 p.2)
    (hco : scope.isCoroutine = false) (hgen : scope.isGenerator = false) (hk : scope.kind = .function)
    (h : ∀ (L : Addr) (o : Obj) (fm : Fm G N Gs [(x, L + 1)]) (rest : Led), CellO o cv → fm.env = callEnvC (fnX name qual params body scope [] dV kV doc pm an cdv ct) L f →
      T fm k vals ((L + 1, o) :: pre ++ rest) (execs body fm.env) (EnK rest P)) :
    Sp G (k + 1) pre (.ref f) pos kw P := by
  refine .mk ?_
  intro rest A s r H big
  have X := G.X.keeps H.keep
  have locs : ∀ x ∈ N, scope.names.lookup x = some .local ∧ (x == ("__debug__" : Str)) = false := fun x hx => by
    have := List.all_eq_true.mp hloc x hx
    simp only [Bool.and_eq_true, decide_eq_true_eq, Bool.not_eq_true'] at this
    exact this
  refine codeAny_call_function (fd := fnX name qual params body scope [] dV kV doc pm an cdv ct) r.d (X _ _ ho) rfl hco hgen rfl (codeRec_of X hcd) (hbind s X _ _ _ _ ?_)
  refine wpAny_newFunctionEnv_cells hk (fun y hy => ?_) fun env' he s' x' => ?_
  · have := List.all_eq_true.mp hkind y hy
    rcases Bool.or_eq_true_iff.mp this with q | q
    · exact .inl (of_decide_eq_true q)
    · have q' : y.1 = x := beq_iff_eq.mp q
      refine .inr ⟨by rw [q']; exact hx, ?_⟩
      show ((cellsFrom _ scope.names []).lookup y.1).isSome = true
      rw [hcells, q']; simp
  subst he
  obtain ⟨h₁, tk, rfl, hk₁⟩ := x'.done
  have e0 : (callEnvC (fnX name qual params body scope [] dV kV doc pm an cdv ct) s.heap.objs.size f).cells = [(x, s.heap.objs.size + 1)] := hcells _
  obtain ⟨o, hoc, hod⟩ := x'.cell x (s.heap.objs.size + 1) (by
    show (cellsFrom _ scope.names []).lookup x = _
    rw [hcells]; simp)
  refine ⟨(G.T.nolimit.keeps H.keep).keeps hk₁, codeAny_func ?_⟩
  let fm : Fm G N Gs [(x, s.heap.objs.size + 1)] := { env := callEnvC (fnX name qual params body scope [] dV kV doc pm an cdv ct) s.heap.objs.size f, nd := hnd, kind := hk, loc := locs, glb := hglb, globals := rfl, builtins := rfl, cells := e0 }
  have hne : s.heap.get? (s.heap.objs.size + 1) = none := by
    cases q : s.heap.get? (s.heap.objs.size + 1) with
    | none => rfl
    | some o => exact absurd (Heap.lt_size q) (Nat.not_lt.mpr (Nat.le_succ _))
  have H1 : St fm vals (((s.heap.objs.size + 1), o) :: pre ++ rest) { s with heap := h₁, toks := tk } := by
    refine ⟨{ keep := fun b o e => hk₁ b o (H.keep b o e), nd := ?_, led := fun p hp => ?_, gens := H.gens, os := H.os, ns := ?_, above := big, apart := ?_ }, hlen⟩
    · show (((s.heap.objs.size + 1), o).1 :: (pre ++ rest).map (·.1)).Nodup
      refine List.nodup_cons.mpr ⟨fun e => ?_, H.nd⟩
      obtain ⟨p, hp, q⟩ := List.mem_map.mp e
      have z := (H.led p hp).1
      rw [show p.1 = s.heap.objs.size + 1 from q, hne] at z; cases z
    · rcases List.mem_cons.mp hp with rfl | hp
      · refine ⟨hoc, ?_⟩
        cases q : G.base.get? (s.heap.objs.size + 1) with
        | none => rfl
        | some o' => have := H.keep _ _ q; rw [hne] at this; cases this
      · exact ⟨hk₁ _ _ (H.led p hp).1, (H.led p hp).2⟩
    · have e : bindL (fun y => scope.names.lookup y) binds (fun _ => none) = Loc N vals := funext hL
      rw [← e]; exact x'.toInCall.ns
    · intro e
      have e' : s.heap.objs.size ∈ (s.heap.objs.size + 1) :: (pre ++ rest).map (·.1) := e
      rcases List.mem_cons.mp e' with q | q
      · omega
      · obtain ⟨p, hp, q⟩ := List.mem_map.mp q
        exact Nat.lt_irrefl _ (q ▸ Heap.lt_size (H.led p hp).1)
  refine wpAny_mono ((h _ o fm rest ?_ rfl).go _ _ r.deeper H1) (fun fl s' ⟨v', l', H2, post, hs, hp⟩ => ?_) fun _ _ x => x.elim
  · show o.data = .cell cv
    rw [← hC]; exact hod
  · exact ⟨flowV fl, post, by cases fl <;> rfl, H2.h.toHd.sbl hs, hp⟩

/-! lambdas -/
section
variable {α β : Type} {N : List Str} {Gs : List (Str × Value)} {Cs : List (Str × Addr)} {k : Nat} {G : Gr} {fm : Fm G N Gs Cs} {vals : List (Option Value)} {l : Led}
/-- the name and the code's own word of a function object's code -/
noncomputable def CodeO (o : Obj) (qual : Str) : Prop := ∃ vs t, o.data = .fields vs ∧ vs[1]? = some (.str qual t)
theorem St.nd2 {s a b oa ob h' n l'} (H : St fm vals l s) (F : Fr G.base fm.env.locals h' (Loc N vals)) (Nw : News G.base fm.env.locals h' ((a, oa) :: (b, ob) :: l')) (e : l'.map (·.1) = l.map (·.1)) (h1 : ∀ q ∈ l, q.1 < b) (h2 : b < a) :
    St fm vals ((a, oa) :: (b, ob) :: l') { s with heap := h', toks := n } := by
  refine H.frN F Nw ?_
  rw [List.map_cons, List.map_cons, e]
  refine List.nodup_cons.mpr ⟨fun q => ?_, List.nodup_cons.mpr ⟨fun q => ?_, H.h.nd⟩⟩
  · rcases List.mem_cons.mp q with q | q
    · exact Nat.lt_irrefl _ ((show a = b from q) ▸ h2)
    · obtain ⟨p, hp, q'⟩ := List.mem_map.mp q
      exact Nat.lt_irrefl _ (Nat.lt_trans ((show p.1 = a from q') ▸ h1 p hp) h2)
  · obtain ⟨p, hp, q'⟩ := List.mem_map.mp q
    exact Nat.lt_irrefl _ ((show p.1 = b from q') ▸ h1 p hp)
theorem Upd1.updF {a o l} {l' : Obj → Led} (U : ∀ o', Upd1 a o o' l (l' o')) (nd : (l.map (·.1)).Nodup) : UpdF a o l l' := by
  have key : ∀ o', ∃ pre post, l = pre ++ (a, o) :: post ∧ l' o' = pre ++ (a, o') :: post := fun o' => by
    have := U o'
    generalize l' o' = m at this
    clear U nd
    induction this with
    | head => exact ⟨[], _, rfl, rfl⟩
    | tail _ ih => obtain ⟨pre, post, e1, e2⟩ := ih; exact ⟨_ :: pre, post, by rw [e1]; rfl, by rw [e2]; rfl⟩
  obtain ⟨pre, post, e1, -⟩ := key o
  have uniq : ∀ (pre' post' : Led), pre ++ (a, o) :: post = pre' ++ (a, o) :: post' → pre' = pre ∧ post' = post := by
    intro pre' post' e
    rw [e1, List.map_append, List.map_cons] at nd
    clear key e1
    induction pre generalizing pre' with
    | nil =>
      cases pre' with
      | nil => simp at e; exact ⟨rfl, e.symm⟩
      | cons q r =>
        simp only [List.nil_append, List.cons_append, List.cons.injEq] at e
        simp only [List.map_nil, List.nil_append] at nd
        exact absurd (List.mem_map_of_mem (f := (·.1)) (e.2 ▸ List.mem_append_right _ List.mem_cons_self)) (List.nodup_cons.mp nd).1
    | cons q pre ih =>
      cases pre' with
      | nil =>
        simp only [List.nil_append, List.cons_append, List.cons.injEq] at e
        simp only [List.map_cons, List.cons_append] at nd
        exact absurd (by rw [e.1]; exact List.mem_append_right _ List.mem_cons_self) (List.nodup_cons.mp nd).1
      | cons q' r =>
        simp only [List.cons_append, List.cons.injEq] at e
        simp only [List.map_cons, List.cons_append] at nd
        obtain ⟨a1, a2⟩ := ih (List.nodup_cons.mp nd).2 r e.2
        exact ⟨by rw [a1, e.1], a2⟩
  have e2 : l' = fun o' => pre ++ (a, o') :: post := funext fun o' => by
    obtain ⟨pre', post', f1, f2⟩ := key o'
    obtain ⟨g1, g2⟩ := uniq pre' post' (e1 ▸ f1)
    rw [f2, g1, g2]
  rw [e2, e1]
  rw [e1] at nd
  clear uniq key e2 e1 U
  induction pre with
  | nil => exact .head fun p hp e => (List.nodup_cons.mp nd).1 (by show a ∈ _; rw [← e]; exact List.mem_map_of_mem (f := (·.1)) hp)
  | cons q pre ih =>
    refine .tail (fun e => (List.nodup_cons.mp nd).1 ?_) (ih (List.nodup_cons.mp nd).2)
    show q.1 ∈ (pre ++ (a, o) :: post).map (·.1)
    rw [e, List.map_append]; exact List.mem_append_right _ List.mem_cons_self

theorem T_lambda {c Pt : Addr} {ps : Array Value} {params body scope pos cn cs a} {clos : List (Str × Addr)} {l' : Obj → Led} {P : Po Value} (he : fm.env = envX cn cs fm.env.locals a (.ref c) Cs) (hdef : defaultsOf params fm.env = ([], []))
    (hC : CodeHd G.base c Pt) (U : ∀ o', Upd1 Pt (tabObj ps) o' l (l' o')) (ht : TriplesOk ps.toList) (hnf : codeAmong pos ps.toList = none) (hcl : closureFor scope fm.env = pure clos)
    (h : ∀ f c' oc ctv, CodeO oc (fm.env.qual ++ "<lambda>") → P (.ref f) vals ((f, kla_obj "<lambda>" (fm.env.qual ++ "<lambda>") params body scope clos ((G.mg "__name__").getD .none) c' ctv) :: (c', oc) :: l' (tabObj (ps ++ #[rawInt pos.line, rawInt pos.col, .ref c'])))) :
    T fm k vals l (eval (.Lambda params body scope pos) fm.env) P := .mk fun A s r H => by
  refine kla_eval hdef ?_
  have e1 : makeFunction "<lambda>" (fm.env.qual ++ "<lambda>") params (.expr body) scope fm.env [] [] [] pos pos.line = makeFunction "<lambda>" (fm.env.qual ++ "<lambda>") params (.expr body) scope (envX cn cs fm.env.locals a (.ref c) Cs) [] [] [] pos pos.line := by rw [← he]
  rw [e1]
  refine kla_nest H.h.fr H.h.news G.T hC rfl (Upd1.updF U H.h.nd) ht hnf (by rw [← he]; exact hcl) fun f c' oc vs t ctv h' tk F' N' hd hv h1 h2 => ?_
  exact ⟨vals, _, H.nd2 F' N' (U _).fst h1 h2, h f c' oc ctv ⟨vs, t, hd, hv⟩⟩
theorem T_lambdaHit {c Pt c' : Addr} {ps : Array Value} {params body scope pos cn cs a} {clos : List (Str × Addr)} {P : Po Value} (he : fm.env = envX cn cs fm.env.locals a (.ref c) Cs) (hdef : defaultsOf params fm.env = ([], []))
    (hC : CodeHd G.base c Pt) (hm : (Pt, tabObj ps) ∈ l) (ht : TriplesOk ps.toList) (hf : codeAmong pos ps.toList = some (.ref c')) (hcl : closureFor scope fm.env = pure clos)
    (h : ∀ f ctv, P (.ref f) vals ((f, kla_obj "<lambda>" (fm.env.qual ++ "<lambda>") params body scope clos ((G.mg "__name__").getD .none) c' ctv) :: l)) :
    T fm k vals l (eval (.Lambda params body scope pos) fm.env) P := .mk fun A s r H => by
  refine kla_eval hdef ?_
  have e1 : makeFunction "<lambda>" (fm.env.qual ++ "<lambda>") params (.expr body) scope fm.env [] [] [] pos pos.line = makeFunction "<lambda>" (fm.env.qual ++ "<lambda>") params (.expr body) scope (envX cn cs fm.env.locals a (.ref c) Cs) [] [] [] pos pos.line := by rw [← he]
  rw [e1]
  refine kla_hit H.h.fr H.h.news G.T hC rfl hm ht hf (by rw [← he]; exact hcl) fun f ctv h' tk F' N' h1 => ?_
  refine ⟨vals, _, H.frN F' N' ?_, h f ctv⟩
  rw [List.map_cons]
  refine List.nodup_cons.mpr ⟨fun q => ?_, H.h.nd⟩
  obtain ⟨p, hp, q'⟩ := List.mem_map.mp q
  exact Nat.lt_irrefl _ ((show p.1 = f from q') ▸ h1 p hp)
end

/-- a lambda is entered -/
theorem enterL {G : Gr} {k : Nat} {pre : Led} {P : Value → Led → Prop} {name qual : Str} {params : Arguments} {body : Expr} {scope : Scope} {pm ctv : Value} {cl : List (Str × Addr)} {f c' : Addr} {oc : Obj}
    {pos : List Value} {binds : List (Str × Value)} {N : List Str} {vals : List (Option Value)} {Gs : List (Str × Value)}
    (ho : (f, kla_obj name qual params body scope cl pm c' ctv) ∈ pre) (hoc : (c', oc) ∈ pre) (hcd : CodeO oc qual)
    (hbind : bindArgs (kla_fn name qual params body scope cl pm (.ref c') ctv) ⟨pos, []⟩ = pure binds)
    (N' : List Str) (hN : N = binds.map (·.1) ++ N') (hv : vals = binds.map (fun p => some p.2) ++ N'.map fun _ => none)
    (hnd : N.Nodup) (hloc : (N.all fun x => decide (scope.names.lookup x = some .local) && !(x == ("__debug__" : Str))) = true)
    (hglb : ∀ p ∈ Gs, scope.names.lookup p.1 = some .globalImplicit ∧ (p.1 == ("__debug__" : Str)) = false ∧ Glb G p.1 p.2)
    (hcell : (scope.names.all fun x => decide (x.2 ≠ .cell)) = true)
    (hco : scope.isCoroutine = false) (hgen : scope.isGenerator = false) (hk : scope.kind = .function)
    (h : ∀ (fm : Fm G N Gs cl) (rest : Led), fm.env.scope = scope → T fm k vals (pre ++ rest) (eval body fm.env) (EnV rest P)) :
    Sp G (k + 1) pre (.ref f) pos [] P := by
  refine .mk ?_
  intro rest A s r H big
  have locs : ∀ x ∈ N, scope.names.lookup x = some .local ∧ (x == ("__debug__" : Str)) = false := fun x hx => by
    have := List.all_eq_true.mp hloc x hx
    simp only [Bool.and_eq_true, decide_eq_true_eq, Bool.not_eq_true'] at this
    exact this
  have fo := (H.led _ (List.mem_append_left rest ho)).1
  have co := (H.led _ (List.mem_append_left rest hoc)).1
  obtain ⟨vs, t, hd, hq⟩ := hcd
  refine kla_callFunE r.d fo rfl hco hgen rfl ⟨c', oc, vs, t, rfl, co, hd, hq⟩ ?_
  rw [hbind]
  refine wpAny_pure (wpAny_newFunctionEnv (fun x hx => of_decide_eq_true (List.all_eq_true.mp hcell x hx)) (fun x hx => (locs x.1 (by rw [hN]; exact List.mem_append_left _ (List.mem_map_of_mem hx))).1) (fun h₁ hns hsb => ⟨(G.T.nolimit.keeps H.keep).fresh _ hsb, ?_⟩) hk)
  show codeAny _ _ (.expr body (callEnv (kla_fn name qual params body scope cl pm (.ref c') ctv) s.heap.objs.size f)) _ _
  have hk₁ : ∀ b o, s.heap.get? b = some o → h₁.get? b = some o := fun b o e => hsb.extBut b o (Nat.ne_of_lt (Heap.lt_size e)) (Heap.get?_push_of_some _ e)
  let fm : Fm G N Gs cl := { env := callEnv (kla_fn name qual params body scope cl pm (.ref c') ctv) s.heap.objs.size f, nd := hnd, kind := hk, loc := locs, glb := hglb, globals := rfl, builtins := rfl, cells := rfl }
  have H1 : St fm vals (pre ++ rest) { s with heap := h₁, toks := s.toks + binds.length } := by
    refine ⟨{ keep := fun b o e => hk₁ b o (H.keep b o e), nd := H.nd, led := fun p hp => ⟨hk₁ _ _ (H.led p hp).1, (H.led p hp).2⟩, gens := H.gens, os := H.os, ns := ?_, above := ?_, apart := ?_ }, ?_⟩
    · have e := loc_start (binds := binds) (N' := N') (hN ▸ hnd)
      rw [← hN, ← hv] at e
      rw [e]; exact hns
    · exact big
    · intro e
      obtain ⟨p, hp, q⟩ := List.mem_map.mp e
      exact Nat.lt_irrefl _ (q ▸ Heap.lt_size (H.led p hp).1)
    · rw [hN, hv]; simp
  refine kla_codeExpr (wpAny_mono ((h fm rest rfl).go _ _ r.deeper H1) (fun v s' ⟨v', l', H2, post, hs, hp⟩ => ?_) fun _ _ x => x.elim)
  exact ⟨v, post, rfl, H2.h.toHd.sbl hs, hp⟩
end
section
/-- a text by its signs -/
noncomputable def S (cs : List Nat) : Str := ⟨cs.toArray⟩
theorem S_app (a b : List Nat) : S a ++ S b = S (a ++ b) := by
  show Str.append (S a) (S b) = _
  simp [Str.append, S]
theorem S_len (a : List Nat) : (S a).length = a.length := by simp [S, Str.length]
theorem S_inj {a b : List Nat} (h : S a = S b) : a = b := by
  have := congrArg Str.cps h
  simpa [S] using this
theorem S_eq {a b : List Nat} : S a = S b ↔ a = b := ⟨S_inj, fun h => h ▸ rfl⟩
theorem S_cps (a : List Nat) : (S a).cps.toList = a := by simp [S]
theorem S_of (x : Str) : S x.cps.toList = x := by cases x; simp [S]
theorem line20 {n : Nat} (h : n ≤ 1048576) : n ≤ sizeLine := by show n ≤ 2 ^ 24; exact Mine.om_10 _ h
section
variable {α β : Type} {N : List Str} {Gs : List (Str × Value)} {Cs : List (Str × Addr)} {k : Nat} {G : Gr} {fm : Fm G N Gs Cs} {vals : List (Option Value)} {l : Led}

section
variable {x y : Str} {t u : Tok} {P : Po Value}
theorem madeApp {Q : Value → Shared → Prop} {s : Shared} (hsz : (x ++ y).length ≤ sizeLine) (h : ∀ t n, Q (.str (x ++ y) t) { s with toks := n }) :
    (if x.length == 0 then Made.val (.str y u) else if y.length == 0 then Made.val (.str x t) else Made.str (x ++ y)).post Q s := by
  split
  · rename_i e
    have : x = S [] := by
      have e' : x.length = 0 := by simpa using e
      rw [← S_of x]; congr 1
      exact List.eq_nil_of_length_eq_zero (by simpa [Str.length] using e')
    have e2 : x ++ y = y := by rw [this, ← S_of y, S_app]; rfl
    have := h u s.toks
    rw [e2] at this; exact this
  · split
    · rename_i _ e
      have : y = S [] := by
        have e' : y.length = 0 := by simpa using e
        rw [← S_of y]; congr 1
        exact List.eq_nil_of_length_eq_zero (by simpa [Str.length] using e')
      have e2 : x ++ y = x := by rw [this, ← S_of x, S_app, List.append_nil]
      have := h t s.toks
      rw [e2] at this; exact this
    · exact ⟨hsz, h _ _⟩
theorem T_adds (hsz : (x ++ y).length ≤ sizeLine) (h : ∀ t, P (.str (x ++ y) t) vals l) : T fm k vals l (binaryOp .Add (.str x t) (.str y u)) P := .mk fun _ _ _ H =>
  PySem.P.add_str (madeApp hsz fun t n => ⟨vals, l, H.toks _, h t⟩)
theorem T_iadds (hsz : (x ++ y).length ≤ sizeLine) (h : ∀ t, P (.str (x ++ y) t) vals l) : T fm k vals l (inplaceOp .Add (.str x t) (.str y u)) P := .mk fun _ _ _ H =>
  PySem.P.iadd_str (madeApp hsz fun t n => ⟨vals, l, H.toks _, h t⟩)
theorem eqL (x y : Str) : (x.cps.toList == y.cps.toList) = decide (x = y) := by
  rw [Bool.eq_iff_iff, beq_iff_eq, decide_eq_true_eq]
  constructor
  · intro e; rw [← S_of x, ← S_of y, e]
  · intro e; rw [e]
theorem T_eqs (h : P (.bool (decide (x = y))) vals l) : T fm k vals l (compareOp .Eq (.str x t) (.str y u)) P := .mk fun _ _ _ H => PySem.P.eq_str (by rw [eqL]; exact ⟨vals, l, H, h⟩)
theorem T_nes (h : P (.bool (!decide (x = y))) vals l) : T fm k vals l (compareOp .NotEq (.str x t) (.str y u)) P := .mk fun _ _ _ H => PySem.P.ne_str (by
  show ∃ _, _
  rw [show (x.cps.toList != y.cps.toList) = !decide (x = y) by rw [← eqL]; rfl]; exact ⟨vals, l, H, h⟩)
theorem T_in_ch {c : Nat} (h : P (.bool (decide (c ∈ x.cps.toList))) vals l) : T fm k vals l (compareOp .In (.str (S [c]) u) (.str x t)) P := .mk fun _ _ _ H => PySem.P.in_str (by
  rw [show S [c] = ⟨#[c]⟩ from rfl, StrLaws.found_one]; exact ⟨vals, l, H, h⟩)
end

/-! lists -/
section
variable {a : Addr} {its : Array Value} {n : Nat} {P : Po Value}
theorem fit63 {n : Nat} (h : n ≤ sizeLine) : (n : Int) < 2 ^ 63 := by
  have : sizeLine = 16777216 := by decide
  exact Mine.om_13 _ _ h this
theorem T_truthy_list {P : Po Bool} (ha : (a, listOf its n) ∈ l) (hsz : its.size ≤ sizeLine) (h : P (!its.isEmpty) vals l) : T fm k vals l (truthy (.ref a)) P := .mk fun _ _ _ H =>
  wpAny_truthy_list ⟨_, H.at ha, rfl, n, rfl⟩ (fit63 hsz) ⟨vals, l, H.toks _, h⟩
theorem T_len_list (ha : (a, listOf its n) ∈ l) (hsz : its.size ≤ sizeLine) (h : ∀ t, P (.int its.size t) vals l) : T fm k vals l (call (.builtin "len") [.ref a]) P := .mk fun _ _ _ H =>
  len_list ⟨_, H.at ha, rfl, n, rfl⟩ (fit63 hsz) ⟨vals, l, H.toks _, h _⟩
theorem T_meth_list {name id pl} {P : Po (Value × List Value)} (slot : Slot "list" name id) (hty : typeOf (.builtin id) = pure (.type "method_descriptor")) (ha : (a, listOf its n) ∈ l) (h : P (.builtin id, [.ref a]) vals l) :
    T fm k vals l (getMethod (.ref a) name pl) P := .mk fun _ _ _ H =>
  getMethod_builtin ⟨_, H.at ha, rfl⟩ PySem.F.plainAttrs_list slot hty (fun b e => by cases e; exact ⟨_, H.at ha, rfl⟩) ⟨vals, l, H, h⟩
theorem T_append {x l'} (U : Upd1 a (listOf its n) (listOf (its.push x) (n + 1)) l l') (hsz : its.size ≤ sizeLine) (h : P .none vals l') : T fm k vals l (call (.builtin "list.append") [.ref a, x]) P := .mk fun _ _ _ H =>
  append_at (hsz := hsz) (H.at U.mem) fun h' hs ho' => ⟨vals, l', H.upd U hs ho', h⟩
theorem T_appendL {vs : List Value} {x l'} (U : Upd1 a (listOf vs.toArray n) (listOf (vs ++ [x]).toArray (n + 1)) l l') (hsz : vs.length ≤ sizeLine) (h : P .none vals l') : T fm k vals l (call (.builtin "list.append") [.ref a, x]) P :=
  T_append (its := vs.toArray) (by rw [show vs.toArray.push x = (vs ++ [x]).toArray by simp]; exact U) (by simpa using hsz) h
theorem T_pop0 {u x r l'} (hits : its = (x :: r).toArray) (U : Upd1 a (listOf its n) (listOf r.toArray (n + 1)) l l') (hsz : its.size ≤ sizeLine) (h : P x vals l') : T fm k vals l (call (.builtin "list.pop") [.ref a, .int 0 u]) P := .mk fun A s r' H => by
  subst hits
  refine call_meets PySem.F.slot_list_pop ⟨_, H.at U.mem, rfl⟩ PySem.F.entry_list_pop (PySem.F.args_list_pop_2 _ _) (PySem.MeetsSeq.list_pop_at a _ n 0 u 0 x (by decide +kernel) (by simp [seqIndex?]) (by simp) hsz) ⟨H.at U.mem, vals, l', ?_, h⟩
  refine H.upd U (Heap.SameBut.update ..) ?_
  have e := Heap.get?_update_self (h := s.heap) (a := a) (Obj.mapSeq fun xs => xs.eraseIdxIfInBounds 0) (H.at U.mem) rfl
  rw [e]
  simp [Obj.mapSeq, W.listOf, Array.eraseIdxIfInBounds]
end

/-! iter(f, sentinel) -/
theorem T_iter2 {q f self sent} {P : Po Value} (hq : (q, methodObj (.ref f) self) ∈ l) (h : ∀ it, P (.ref it) vals ((it, callIt (.ref q) sent false) :: l)) : T fm k vals l (call (.builtin "iter") [.ref q, sent]) P := .mk fun A s r H => by
  refine call_function_entry (by decide +kernel) (by decide +kernel) (b := Builtin.«iter») (entryFor_of_fast (by kernel_rfl)) (by unfold argsOk; kernel_rfl) ?_
  show wpAny _ _ (specialOf (.ref q) "__call__" >>= _) _ _ s
  have hT : s.TypeIs (.ref q) "method" := ⟨_, H.at hq, rfl⟩
  have hl : typeLookup (.type "method") "__call__" = pure (some (.builtin "method.__call__")) := by rw [typeLookup_type, builtinLookup_eq_fast]; kernel_rfl
  refine wpAny_bind (wpAny_specialOf hT hl ?_)
  show wpAny _ _ (rule _ >>= _) _ _ s
  exact wpAny_bind (wpAny_rule (wpAny_bind (wpAny_newObj_type (wpAny_pure ⟨_, rfl, vals, _, H.push _, h _⟩))))

/-! an object of the text's class is made -/
theorem Room.make {j k A C vals} (r : Room k A) (h : j + 2 ≤ k) : Room j (A.under (.builtin "type.__call__" ⟨.ref C :: vals, []⟩)) :=
  ⟨by have := r.depth; show A.depth + 1 + j < 900; exact Mine.om_14 _ _ _ h this, by have := r.units; show A.units + 1 + 8 * j < 9000; exact Mine.om_7 _ _ _ h this, r.handled⟩
theorem T_new {C fI : Addr} {args : List Value} {j : Nat} {Q : Addr → Addr → Value → Led → Prop} {P : Po Value} (hm : makesIn G.K C = true) (hi : findIn G.K (.ref C) "__init__" = some (some (.ref fI))) (hf : isFn G.K (.ref fI) = true)
    (hS : ∀ x dx, Sp G j [(x, instObj C dx), (dx, dictOf [] 0)] (.ref fI) (.ref x :: args) [] (Q x dx)) (hj : j + 2 ≤ k) (hP : ∀ x dx v post, Q x dx v post → v = .none ∧ P (.ref x) vals (post ++ l)) :
    T fm k vals l (call (.ref C) args) P := .mk fun A s r H => by
  refine call_cls H.h.fr G.X H.h.news hm hi hf fun x dx h' F' N' h1 h2 => ?_
  have nd : (((x, instObj C dx) :: (dx, dictOf [] 0) :: l).map (·.1)).Nodup := by
    rw [List.map_cons, List.map_cons]
    refine List.nodup_cons.mpr ⟨fun q => ?_, List.nodup_cons.mpr ⟨fun q => ?_, H.h.nd⟩⟩
    · rcases List.mem_cons.mp q with q | q
      · exact Nat.lt_irrefl _ ((show x = dx from q) ▸ h2)
      · obtain ⟨p, hp, q'⟩ := List.mem_map.mp q
        exact Nat.lt_irrefl _ (Nat.lt_trans ((show p.1 = x from q') ▸ h1 p hp) h2)
    · obtain ⟨p, hp, q'⟩ := List.mem_map.mp q
      exact Nat.lt_irrefl _ ((show p.1 = dx from q') ▸ h1 p hp)
  have H1 : St fm vals ((x, instObj C dx) :: (dx, dictOf [] 0) :: l) { s with heap := h' } := ⟨Fh.of F' N' nd H.h.gens H.h.os, H.len⟩
  refine codeAny_mono (Sp_at (hS x dx) (r.make hj) H1 (rest := l) (.cons .head (.cons .head .nil))) fun y s' ⟨v, post, e, H', q⟩ => ?_
  subst e
  obtain ⟨rfl, p⟩ := hP x dx v post q
  exact ⟨rfl, vals, _, H', p⟩
end
end
section
section
variable {α β : Type} {N : List Str} {Gs : List (Str × Value)} {Cs : List (Str × Addr)} {k : Nat} {G : Gr} {fm : Fm G N Gs Cs} {vals : List (Option Value)} {l : Led} {P : Po Value}

/-! type(x), is -/
theorem T_type {x : Value} {ty : String} (hx : ∀ s : Shared, s.TypeIs x ty) (hnb : (Value.type ty == Value.type "builtin_function_or_method") = false) (h : P (.type ty) vals l) : T fm k vals l (call (.type "type") [x]) P := .mk fun _ s _ H =>
  call_type_of (hx s) hnb ⟨vals, l, H, h⟩
theorem T_is {a b : Value} (hp : plainIs a b = true) (h : P (.bool (a == b)) vals l) : T fm k vals l (compareOp .Is a b) P := .mk fun _ s _ H => wpAny_is_plain hp ⟨vals, l, H, h⟩
theorem T_isnot {a b : Value} (hp : plainIs a b = true) (h : P (.bool (!(a == b))) vals l) : T fm k vals l (compareOp .IsNot a b) P := .mk fun _ s _ H => wpAny_isNot_plain hp ⟨vals, l, H, h⟩

/-! ints as bits -/
section
variable {a b : Int} {t u : Tok}
theorem T_mul (hm : IntMulOk a b) (h : ∀ t, P (.int (a * b) t) vals l) : T fm k vals l (binaryOp .Mult (.int a t) (.int b u)) P := .mk fun _ _ _ H => mul_int ⟨vals, l, H.toks _, h _⟩ hm
theorem T_neg (h : ∀ t, P (.int (-a) t) vals l) : T fm k vals l (unaryOp .USub (.int a t)) P := .mk fun _ _ _ H => PySem.P.neg_int ⟨vals, l, H.toks _, h _⟩
theorem T_lshift {n : Int} (hn : 0 ≤ n) (hn2 : n ≤ 1000000) (ha : a.natAbs < 2 ^ 64) (h : ∀ t, P (.int (a * 2 ^ n.toNat) t) vals l) : T fm k vals l (binaryOp .LShift (.int a t) (.int n u)) P := .mk fun _ _ _ H =>
  lshift_int_small hn hn2 ha ⟨vals, l, H.toks _, h _⟩
theorem T_rshift {n : Int} (hn : 0 ≤ n) (h : ∀ t, P (.int (a.fdiv (2 ^ n.toNat)) t) vals l) : T fm k vals l (binaryOp .RShift (.int a t) (.int n u)) P := .mk fun _ _ _ H => rshift_int hn ⟨vals, l, H.toks _, h _⟩
theorem T_and (h : ∀ t, P (.int (Builtin.bitAnd a b) t) vals l) : T fm k vals l (binaryOp .BitAnd (.int a t) (.int b u)) P := .mk fun _ _ _ H => and_int ⟨vals, l, H.toks _, h _⟩
theorem T_or (h : ∀ t, P (.int (Builtin.bitOr a b) t) vals l) : T fm k vals l (binaryOp .BitOr (.int a t) (.int b u)) P := .mk fun _ _ _ H => or_int ⟨vals, l, H.toks _, h _⟩
end

/-! bytes -/
theorem T_bytes_of {a : Addr} {vs : List Value} {n : Nat} {ns : List Int} (ha : (a, listOf vs.toArray n) ∈ l) (hi : IntsAre vs ns) (hr : ∀ n ∈ ns, 0 ≤ n ∧ n < 256) (hz : vs.length ≤ sizeLine) (h : ∀ t, P (.bytes (byteArr ns) t) vals l) :
    T fm k vals l (call (.type "bytes") [.ref a]) P := .mk fun _ s r H =>
  call_bytes_ints ⟨_, H.at ha, rfl, n, rfl⟩ hi hr hz r.handled fun h' t n hk => ⟨vals, l, H.keeps hk, h t⟩
noncomputable def BytesIt (o : Obj) (b : Array UInt8) (t : Tok) (i : Nat) : Prop := o.cls = .type "bytes_iterator" ∧ o.data = .fields #[.bytes b t, .int i 0]
theorem T_iter_bytes {b t} (h : ∀ it o, BytesIt o b t 0 → P (.ref it) vals ((it, o) :: l)) : T fm k vals l (pyIter (.bytes b t)) P := .mk fun A s r H =>
  KBw.pyIter_bytes ⟨vals, _, H.push _, h _ _ ⟨rfl, rfl⟩⟩
theorem T_iter_bytesiter {it b t i o} (hi : BytesIt o b t i) (ha : (it, o) ∈ l) (h : P (.ref it) vals l) : T fm k vals l (pyIter (.ref it)) P := .mk fun A s r H =>
  KBw.pyIter_self ⟨o, H.at ha, hi.1, hi.2⟩ ⟨vals, l, H, h⟩
theorem T_next_bytes {it b t i c o} {l' : Obj → Led} {P : Po (Option Value)} (hi : BytesIt o b t i) (U : ∀ o', Upd1 it o o' l (l' o')) (hx : b[i]? = some c) (h : ∀ o' u, BytesIt o' b t (i + 1) → P (some (.int (c.toNat : Int) u)) vals (l' o')) :
    T fm k vals l (pyNext (.ref it)) P := .mk fun A s r H =>
  KBw.next_item ⟨o, H.at (U o).mem, hi.1, hi.2⟩ hx fun h' ⟨o', ho, c, d⟩ hs => ⟨vals, l' o', H.upd (U o') hs ho, h o' _ ⟨c, d⟩⟩
theorem T_end_bytes {it b t i o l'} {P : Po (Option Value)} (hi : BytesIt o b t i) (U : Pick (it, o) l l') (hx : b[i]? = none) (h : P none vals l') :
    T fm k vals l (pyNext (.ref it)) P := .mk fun A s r H =>
  KBw.next_end r.handled ⟨o, H.at U.mem, hi.1, hi.2⟩ hx fun h' hx => ⟨vals, l', H.forget U hx, h⟩
/-! subscripts -/
theorem T_Subscript {value slice pos} (h : T fm k vals l (eval value fm.env) (T2 fm k (eval slice fm.env) (subscriptTail value slice) P)) :
    T fm k vals l (eval (.Subscript value slice pos) fm.env) P := .mk fun A s r H =>
  Subscript_ (T_in h r H fun o _ _ s₁ H₁ h₁ => T_in h₁ r H₁ fun i _ _ s₂ H₂ h₂ => h₂.go A s₂ r H₂)
theorem T_item_bytes {value slice b t i ui} (h0 : 0 ≤ i) (h1 : i < (b.size : Int)) (hsz : b.size ≤ sizeLine) (hs : subscripted slice false (.bytes b t) (.int i ui) = operate [.bytes b t, .int i ui] (getItem (.bytes b t) (.int i ui)))
    (ht : ∀ r, letTemporaryGo value (.bytes b t) r = pure ()) (h : ∀ u, P (.int ((KBw.bInts b).getD i.toNat 0) u) vals l) : T fm k vals l (subscriptTail value slice (.bytes b t) (.int i ui)) P := .mk fun _ _ _ H =>
  KBw.item_K rfl (by rw [KBw.ints_length]; exact Nat.le_trans hsz (by decide)) h0 (by rw [KBw.ints_length]; exact h1) (fun t' n _ _ => ⟨vals, l, H.toks _, h t'⟩) hs ht

/-! calls by keywords -/
noncomputable abbrev CwKk (fm : Fm G N Gs Cs) (k : Nat) (pos : Pos) (args : List Expr) (kws : List Keyword) (P : Po Value) : Po Value := fun f v l => T fm k v l (callWith pos f [] (backTo pos (starEach args fm.env)) (backToKw pos (keywordEach kws fm.env))) P
theorem T_CallNk {x np args kws pos} (h : T fm k vals l (eval (.Name x np) fm.env) (CwKk fm k pos args kws P)) :
    T fm k vals l (eval (.Call (.Name x np) args kws pos) fm.env) P := .mk fun A s r H => wpAny_Call_Name_kw (T_in h r H fun v _ _ s₁ H₁ h₁ => h₁.go A s₁ r H₁)
theorem T_kk1 {pos f e rest kws} (hk : keepIn G.K f = true) (hall : (backToKw pos (keywordEach kws fm.env)).all (·.1.isSome) = true) (he : starEach (e :: rest) fm.env = (false, eval e fm.env) :: starEach rest fm.env)
    (hp : ((backTo pos (starEach (e :: rest) fm.env)).any (·.1) || (backToKw pos (keywordEach kws fm.env)).any (·.1.isNone)) = false)
    (h : T fm k vals l (spliced (backTo pos (starEach (e :: rest) fm.env))) fun vs v l => T fm k v l (evalAll ((backToKw pos (keywordEach kws fm.env)).map (·.2))) fun ks v l => T fm k v l (call f vs (((backToKw pos (keywordEach kws fm.env)).filterMap (·.1)).zip ks)) P) :
    T fm k vals l (callWith pos f [] (backTo pos (starEach (e :: rest) fm.env)) (backToKw pos (keywordEach kws fm.env))) P := .mk fun A s r H =>
  callWith_KW (h₀ := G.base) G.X hk hall (T_in h r H fun vs _ _ s₁ H₁ h₁ => T_in h₁ r H₁ fun ks _ _ s₂ H₂ h₂ => ⟨H₂.X, h₂.go A s₂ r H₂⟩) hp he
theorem T_kw_nil {pos} {P : Po (List Value)} (h : P [] vals l) : T fm k vals l (evalAll ((backToKw pos (keywordEach [] fm.env)).map (·.2))) P := .mk fun A s r H => kwAll_nil ⟨vals, l, H, h⟩
theorem T_kw_cons {pos p name value rest} {P : Po (List Value)} (h : T fm k vals l (eval value fm.env) (TP fm k (evalAll ((backToKw pos (keywordEach rest fm.env)).map (·.2))) List.cons P)) :
    T fm k vals l (evalAll ((backToKw pos (keywordEach (⟨some name, value, p⟩ :: rest) fm.env)).map (·.2))) P := .mk fun A s r H => kwAll_cons (T_in h r H fun v _ _ s₁ H₁ h₁ => h₁.go A s₁ r H₁)
end
end
section
section
variable {α β : Type} {N : List Str} {Gs : List (Str × Value)} {Cs : List (Str × Addr)} {k : Nat} {G : Gr} {fm : Fm G N Gs Cs} {vals : List (Option Value)} {l : Led} {P : Po Value}

theorem T_meth_str {x t name id pl} {P : Po (Value × List Value)} (slot : Slot "str" name id) (hty : typeOf (.builtin id) = pure (.type "method_descriptor")) (h : P (.builtin id, [.str x t]) vals l) :
    T fm k vals l (getMethod (.str x t) name pl) P := .mk fun _ _ _ H =>
  getMethod_builtin (typeIs_str _ _ _) PySem.F.plainAttrs_str slot hty (fun b e => nomatch e) ⟨vals, l, H, h⟩
/-! bytes.maketrans, bytes.translate -/
section
variable {M : Model} {A : Around} {E : Value → Shared → Prop} {s : Shared}
end
end
end
section
theorem lookup_relabel {env : Env} {kd : NameKind} (hk : kd ≠ .free) : ∀ {names : List (Str × NameKind)} {x : Str}, names.lookup x = some kd →
    (names.map fun (n, k) => if (k == NameKind.free && env.scope.kind == .function && env.kindOf n == some .cell) then (n, NameKind.cell) else (n, k)).lookup x = some kd
  | [], _, h => by simp at h
  | (n, k) :: r, x, h => by
    have ih := @lookup_relabel env kd hk r x
    show List.lookup x ((if (k == NameKind.free && env.scope.kind == .function && env.kindOf n == some .cell) = true then (n, NameKind.cell) else (n, k)) :: _) = _
    cases hx : x == n with
    | true =>
      simp only [List.lookup_cons, hx] at h
      cases h
      rw [if_neg (by simp [hk])]
      simp [List.lookup_cons, hx]
    | false =>
      simp only [List.lookup_cons, hx] at h
      by_cases hc : (k == NameKind.free && env.scope.kind == .function && env.kindOf n == some .cell) = true
      · rw [if_pos hc]; simp only [List.lookup_cons, hx]; exact ih h
      · rw [if_neg hc]; simp only [List.lookup_cons, hx]; exact ih h
theorem lookup_relabel_free {env : Env} : ∀ {names : List (Str × NameKind)} {x : Str}, names.lookup x = some .free → env.scope.kind = .function → env.kindOf x = some .cell →
    (names.map fun (n, k) => if (k == NameKind.free && env.scope.kind == .function && env.kindOf n == some .cell) then (n, NameKind.cell) else (n, k)).lookup x = some .cell
  | [], _, h => by simp at h
  | (n, k) :: r, x, h => by
    intro hk hc0
    have ih := @lookup_relabel_free env r x
    show List.lookup x ((if (k == NameKind.free && env.scope.kind == .function && env.kindOf n == some .cell) = true then (n, NameKind.cell) else (n, k)) :: _) = _
    cases hx : x == n with
    | true =>
      simp only [List.lookup_cons, hx] at h
      cases h
      have e := beq_iff_eq.mp hx
      subst e
      rw [if_pos (by simp [hk, hc0])]
      simp [List.lookup_cons]
    | false =>
      simp only [List.lookup_cons, hx] at h
      by_cases hc : (k == NameKind.free && env.scope.kind == .function && env.kindOf n == some .cell) = true
      · rw [if_pos hc]; simp only [List.lookup_cons, hx]; exact ih h hk hc0
      · rw [if_neg hc]; simp only [List.lookup_cons, hx]; exact ih h hk hc0
section
variable {α β : Type} {N : List Str} {Gs : List (Str × Value)} {Cs : List (Str × Addr)} {k : Nat} {G : Gr} {fm : Fm G N Gs Cs} {vals : List (Option Value)} {l : Led}

/-- a turn of a list comprehension, behind the iterator's answer -/
noncomputable def Ck (fm : Fm G N Gs Cs) (k : Nat) (elt target iter : Expr) (scope : Scope) (pos : Pos) (it acc : Value) (P : Po Flow) : Po (Option Value) := fun o vals l =>
  match o with
  | none => P .next vals l
  | some x => letOwnedTupleGo target it x = pure () ∧ T fm k vals l (assign target fm.env x) fun _ v l => T fm k v l (eval elt fm.env) fun y v l => T fm k v l (call (.builtin "list.append") [acc, y]) fun _ v l =>
      C fm k v l (.compLoop (.ListComp elt [⟨target, iter, [], 0⟩] scope pos) 0 it acc fm.env) P
theorem Ck_none {elt target iter scope pos it acc} {P : Po Flow} (h : P .next vals l) : Ck fm k elt target iter scope pos it acc P none vals l := h
theorem Ck_some {elt target iter scope pos it acc x} {P : Po Flow} (ht : letOwnedTupleGo target it x = pure ()) (h : T fm k vals l (assign target fm.env x) fun _ v l => T fm k v l (eval elt fm.env) fun y v l => T fm k v l (call (.builtin "list.append") [acc, y]) fun _ v l =>
      C fm k v l (.compLoop (.ListComp elt [⟨target, iter, [], 0⟩] scope pos) 0 it acc fm.env) P) : Ck fm k elt target iter scope pos it acc P (some x) vals l := ⟨ht, h⟩
theorem C_comp {elt target iter scope pos it acc} {P : Po Flow} (h : T fm k vals l (pyNext it) (Ck fm k elt target iter scope pos it acc P)) :
    C fm k vals l (.compLoop (.ListComp elt [⟨target, iter, [], 0⟩] scope pos) 0 it acc fm.env) P := .mk fun A s r H => by
  refine codeAny_of_tree ?_
  show wpAny _ A ((compTurn (.ListComp elt [⟨target, iter, [], 0⟩] scope pos) 0 it acc fm.env).onRaise (fun x => do noteFrame x fm.env; theTreesLotGoes x)) _ _ s
  refine wpAny_noted ?_
  rw [compTurn_list1]
  refine wpAny_bind (wpAny_standAt (wpAny_bind (T_in h r H fun o v l₁ s₁ H₁ h₁ => ?_)))
  cases o with
  | none => exact wpAny_pure ⟨.next, v, l₁, rfl, H₁, h₁⟩
  | some x =>
    refine wpAny_bind (wpAny_of_eq h₁.1 ?_)
    refine wpAny_bind (T_in h₁.2 r H₁ fun _ v l₂ s₂ H₂ h₂ => ?_)
    exact wpAny_bind (wpAny_bind (T_in h₂ r H₂ fun y v l₃ s₃ H₃ h₃ => wpAny_bind (T_in h₃ r H₃ fun _ v l₄ s₄ H₄ h₄ => wpAny_pure (wpAny_pure ⟨rfl, h₄.go A s₄ r H₄⟩))))
theorem C_cstart {elt target iter scope pos it acc} {P : Po Flow} (h0 : C fm k vals l (.compLoop (.ListComp elt [⟨target, iter, [], 0⟩] scope pos) 0 it acc fm.env) P)
    (h : T fm k vals l (pyIter it) fun it' v l' => it' = it ∧ v = vals ∧ l' = l) :
    C fm k vals l (.compStart (.ListComp elt [⟨target, iter, [], 0⟩] scope pos) 0 it acc fm.env) P := .mk fun A s r H =>
  codeAny_compStart_list (h0.go A s r H) (T_in h r H fun it' v l' s' H' ⟨e1, e2, e3⟩ => by subst e1 e2 e3; exact h0.go A s' r H')

/-- an object that is a table of names -/
noncomputable def IsNs (o : Obj) : Prop := ∃ m, ∀ (h : Heap) a, h.get? a = some o → h.Ns a m
theorem comp_core {elt target iter : Expr} {scope : Scope} {pos pos' : Pos} {cl : List (Str × Addr)} {Nc : List Str} {Gc : List (Str × Value)} {use : Option (Value → Sem Unit)} {Q : Value → Shared → Prop} {D : Addr → List (Option Value) → Led → Prop}
    (hs : ∀ x, foldedSetIterable iter fm.env x = pure x) (hclos : closureFor scope fm.env = pure cl)
    (hkind : scope.kind = .function) (hcell : (scope.names.all fun x => decide (x.2 ≠ .cell)) = true) (hnames : (scope.names.all fun x => decide (x.2 = .local → scope.names.lookup x.1 = some .local)) = true)
    (hnd : Nc.Nodup) (hloc : (Nc.all fun x => decide (scope.names.lookup x = some .local) && !(x == ("__debug__" : Str))) = true)
    (hglb : ∀ p ∈ Gc, scope.names.lookup p.1 = some .globalImplicit ∧ (p.1 == ("__debug__" : Str)) = false ∧ Glb G p.1 p.2)
    (h : T fm k vals l (eval iter fm.env) fun x v l => T fm k v l (pyIter x) fun it v l => ∀ acc oL (cfm : Fm G Nc Gc cl), cfm.env.scope = relabel scope fm.env →
      C cfm k (Nc.map fun _ => none) ((acc, listOf #[] 0) :: (fm.env.locals, oL) :: l) (.compStart (.ListComp elt [⟨target, iter, [], 0⟩] scope pos) 0 it (.ref acc) cfm.env) fun _ _ l'' => ∃ l', Sbl ((fm.env.locals, oL) :: l') l'' ∧ D acc v l')
    {A s} (r : Room k A) (H : St fm vals l s)
    (hD : ∀ acc v l' Cn oC s' f, D acc v l' → IsNs oC → St fm v ((Cn, oC) :: l') s' → compPost G.M A (fun _ _ => False) use Q (.ref acc) Cn (.ok f) s') :
    wpAny G.M A (comprehension (.ListComp elt [⟨target, iter, [], 0⟩] scope pos) scope fm.env pos' (newList []) false (eval iter fm.env) use) Q (fun _ _ => False) s := by
  refine wpAny_comprehension_free (g := ⟨target, iter, [], 0⟩) (gs := []) rfl hs hclos hkind (fun x hx => of_decide_eq_true (List.all_eq_true.mp hnames x hx)) ?_
  refine T_in h r H fun x v₁ l₁ s₁ H₁ h₁ => T_in h₁ r H₁ fun it v₂ l₂ s₂ H₂ h₂ => ?_
  refine wpAny_newObj_type (T := "list") ?_
  refine wpAny_newFunctionEnv (fun x hx => of_decide_eq_true (List.all_eq_true.mp hcell x hx)) (by intro y hy; simp at hy) (fun h₁ hns hsb => ?_) hkind
  have H3 := H₂.push (n := s₂.toks) (listOf #[] 0)
  dsimp only at hns hsb ⊢
  generalize hsz : s₂.heap.objs.size = acc at H3 ⊢
  obtain ⟨oL, H4, big, back⟩ := H3.out
  have locs : ∀ x ∈ Nc, (relabel scope fm.env).names.lookup x = some .local ∧ (x == ("__debug__" : Str)) = false := fun x hx => by
    have := List.all_eq_true.mp hloc x hx
    simp only [Bool.and_eq_true, decide_eq_true_eq, Bool.not_eq_true'] at this
    exact ⟨lookup_relabel (by decide) this.1, this.2⟩
  generalize hH : s₂.heap.push (listOf #[] 0) = hp at *
  let cfm : Fm G Nc Gc cl := { env := compEnvC scope cl hp.objs.size fm.env, nd := hnd, kind := hkind, loc := locs
                               glb := fun p hp => ⟨lookup_relabel (by decide) (hglb p hp).1, (hglb p hp).2⟩, globals := fm.globals, builtins := fm.builtins, cells := rfl }
  have hk₁ : ∀ b o, hp.get? b = some o → h₁.get? b = some o := fun b o e => hsb.extBut b o (Nat.ne_of_lt (Heap.lt_size e)) (Heap.get?_push_of_some _ e)
  have e1 : (fun x => ([] : List (Str × Value)).reverse.lookup x) = Loc Nc (Nc.map fun _ => none) := by
    have := loc_start (binds := []) (N' := Nc) (by simpa using hnd)
    simpa using this.symm
  have H5 : St cfm (Nc.map fun _ => none) ((acc, listOf #[] 0) :: (fm.env.locals, oL) :: l₂) { s₂ with heap := h₁, toks := s₂.toks + ([] : List (Str × Value)).length } := by
    have H4' := H4.perm (List.Perm.swap _ _ _)
    refine ⟨{ keep := fun b o e => hk₁ b o (H4'.keep b o e), nd := H4'.nd, led := fun p hp => ⟨hk₁ _ _ (H4'.led p hp).1, (H4'.led p hp).2⟩, gens := H4'.gens, os := H4'.os, ns := ?_, above := big, apart := ?_ }, by simp⟩
    · rw [← e1]; exact hns
    · intro e
      obtain ⟨p, hp', q⟩ := List.mem_map.mp e
      exact Nat.lt_irrefl _ (Heap.lt_size (q ▸ (H4'.led p hp').1))
  refine codeAny_mono ((h₂ acc oL cfm rfl).go A _ r H5) fun x s' ⟨f, vc, l'', e, H6, l', hsub, d⟩ => ?_
  subst e
  obtain ⟨oC, H7, _, back'⟩ := H6.out
  obtain ⟨oC', es, ep, hL, hLd, hLk, hLf⟩ := H6.h.ns
  have eo : oC' = oC := by have := (H7.led _ List.mem_cons_self).1; rw [show (cfm.env.locals, oC).1 = cfm.env.locals from rfl, hL] at this; injection this
  subst eo
  have H8 : Hd G ((fm.env.locals, oL) :: (cfm.env.locals, oC') :: l') s' := by
    have : Sbl ((cfm.env.locals, oC') :: (fm.env.locals, oL) :: l') ((cfm.env.locals, oC') :: l'') := .pick .head hsub
    exact (H7.sbl this).perm (List.Perm.swap _ _ _)
  have H9 : St fm v₂ ((cfm.env.locals, oC') :: l') s' := back _ _ H8
  exact hD acc v₂ l' _ oC' s' f d ⟨_, fun h a e => ⟨oC', es, ep, e, hLd, hLk, hLf⟩⟩ H9

theorem T_comp {elt target iter : Expr} {scope : Scope} {pos : Pos} {cl : List (Str × Addr)} {P : Po Value} (Nc : List Str) (Gc : List (Str × Value))
    (hs : ∀ x, foldedSetIterable iter fm.env x = pure x) (hclos : closureFor scope fm.env = pure cl)
    (hkind : scope.kind = .function) (hcell : (scope.names.all fun x => decide (x.2 ≠ .cell)) = true) (hnames : (scope.names.all fun x => decide (x.2 = .local → scope.names.lookup x.1 = some .local)) = true)
    (hnd : Nc.Nodup) (hloc : (Nc.all fun x => decide (scope.names.lookup x = some .local) && !(x == ("__debug__" : Str))) = true)
    (hglb : ∀ p ∈ Gc, scope.names.lookup p.1 = some .globalImplicit ∧ (p.1 == ("__debug__" : Str)) = false ∧ Glb G p.1 p.2)
    (h : T fm k vals l (eval iter fm.env) fun x v l => T fm k v l (pyIter x) fun it v l => ∀ acc oL (cfm : Fm G Nc Gc cl), cfm.env.scope = relabel scope fm.env →
      C cfm k (Nc.map fun _ => none) ((acc, listOf #[] 0) :: (fm.env.locals, oL) :: l) (.compStart (.ListComp elt [⟨target, iter, [], 0⟩] scope pos) 0 it (.ref acc) cfm.env) fun _ _ l'' => ∃ l', Sbl ((fm.env.locals, oL) :: l') l'' ∧ P (.ref acc) v l') :
    T fm k vals l (eval (.ListComp elt [⟨target, iter, [], 0⟩] scope pos) fm.env) P := .mk fun A s r H => by
  rw [eval_ListComp]
  refine comp_core (use := none) (D := fun acc v l' => P (.ref acc) v l') hs hclos hkind hcell hnames hnd hloc hglb h r H fun acc v l' Cn oC s' f d ⟨m, hm⟩ H' => ?_
  exact ⟨m, hm _ _ (H'.at List.mem_cons_self), fun h' hs' => ⟨v, l', H'.forget .head hs'.extBut, d⟩⟩
end
end
section
open PySem.MeetsSeq PySem.SeqAt
/-! slices -/
noncomputable abbrev sliceO (a b : Value) : Obj := { cls := .type "slice", data := .fields #[a, b, .none] }
noncomputable def slc {α : Type} (xs : List α) (lo hi : Option Int) : List α := (xs.drop (lo.elim 0 (clipAt xs.length))).take (hi.elim xs.length (clipAt xs.length) - lo.elim 0 (clipAt xs.length))
theorem slc_to {α : Type} (xs : List α) (b : Nat) : slc xs none (some (b : Int)) = xs.take b := by
  simp only [slc, Option.elim, clipAt_nat, List.drop_zero, Nat.sub_zero]
  rw [List.take_eq_take_iff]; exact Mine.om_17 _ _
theorem slc_from {α : Type} (xs : List α) (a : Nat) : slc xs (some (a : Int)) none = xs.drop a := by
  simp only [slc, Option.elim, clipAt_nat]
  rw [List.take_of_length_le (by simp)]
  by_cases h : a ≤ xs.length
  · rw [Nat.min_eq_left h]
  · rw [Nat.min_eq_right (by exact Mine.om_18 _ _ h), List.drop_length, List.drop_eq_nil_of_le (by exact Mine.om_18 _ _ h)]
theorem slc_both {α : Type} (xs : List α) (a b : Nat) : slc xs (some (a : Int)) (some (b : Int)) = (xs.drop a).take (b - a) := by
  simp only [slc, Option.elim, clipAt_nat]
  by_cases h : a ≤ xs.length
  · rw [Nat.min_eq_left h, List.take_eq_take_iff]; simp; exact Mine.om_19 _ _ _
  · rw [Nat.min_eq_right (by exact Mine.om_18 _ _ h : xs.length ≤ a), List.drop_length, List.drop_eq_nil_of_le (by exact Mine.om_18 _ _ h : xs.length ≤ a)]; simp
theorem slicePick_slc (vs : List Value) (lo hi : Option Int) : slicePick vs.toArray lo hi none = (slc vs lo hi).toArray := by
  rw [slicePick_plain]; simp [slc]
theorem idx_plain (lo hi : Option Int) (n : Nat) : Builtin.Str.strSliceIndices lo hi 1 n = (List.range (hi.elim n (clipAt n) - lo.elim 0 (clipAt n))).map (lo.elim 0 (clipAt n) + ·) := by
  have e : Builtin.Str.strSliceIndices lo hi 1 n = sliceRange (sliceBounds lo hi none n).1 (sliceBounds lo hi none n).2.1 (sliceBounds lo hi none n).2.2 := by
    cases lo <;> cases hi <;> rfl
  rw [e, sliceBounds_plain, sliceRange_one]
theorem slice_slc (cs : List Nat) (lo hi : Option Int) : Txt.slice (S cs) lo hi = S (slc cs lo hi) := by
  have hb : hi.elim cs.length (clipAt cs.length) ≤ cs.length := by
    cases hi with
    | none => exact Nat.le_refl _
    | some b =>
      have := clipAt_cast cs.length b
      show clipAt cs.length b ≤ cs.length
      exact Mine.om_21 _ _ _ this
  unfold Txt.slice
  rw [idx_plain, S_len]
  split
  · rename_i h
    simp only [beq_self_eq_true, Bool.true_and, List.length_map, List.length_range, beq_iff_eq] at h
    unfold slc
    by_cases h0 : lo.elim 0 (clipAt cs.length) = 0
    · rw [h0] at h ⊢
      rw [List.drop_zero, h, List.take_length]
    · have : cs = [] := List.eq_nil_of_length_eq_zero (by exact Mine.om_22 _ _ _ hb h h0)
      subst this; simp
  · unfold slc
    have e : (S cs).cps = cs.toArray := rfl
    rw [e, pick_run]
    rfl
section
variable {α β : Type} {N : List Str} {Gs : List (Str × Value)} {Cs : List (Str × Addr)} {k : Nat} {G : Gr} {fm : Fm G N Gs Cs} {vals : List (Option Value)} {l : Led} {P : Po Value}
theorem T_part_none (h : P .none vals l) : T fm k vals l (evalPart none fm.env) P := .mk fun A s r H => wpAny_pure ⟨vals, l, H, h⟩
theorem T_part_some {e} (h : T fm k vals l (eval e fm.env) P) : T fm k vals l (evalPart (some e) fm.env) P := h
noncomputable abbrev SlK1 (a : Value) (P : Po Value) : Po Value := fun b v l => ∀ sl, P (.ref sl) v ((sl, sliceO a b) :: l)
noncomputable abbrev SlK (fm : Fm G N Gs Cs) (k : Nat) (hi : Option Expr) (P : Po Value) : Po Value := fun a v l => T fm k v l (evalPart hi fm.env) (SlK1 a P)
theorem T_Slice {lo hi p} (h : T fm k vals l (evalPart lo fm.env) (SlK fm k hi P)) :
    T fm k vals l (eval (.Slice lo hi none p) fm.env) P := .mk fun A s r H =>
  wpAny_Slice (T_in h r H fun a v₁ l₁ s₁ H₁ h₁ => T_in h₁ r H₁ fun b v₂ l₂ s₂ H₂ h₂ => wpAny_pure ⟨v₂, _, H₂.push _, h₂ _⟩)
theorem tail_go {prog w A E s} {value slice : Expr} {o i : Value} {ty id : String} {L : List Value} {Q : Value → Shared → Prop} (hT : s.TypeIs o ty) (hl : typeLookup (.type ty) "__getitem__" = pure (some (.builtin id)))
    (hs : subscripted slice false o i = operate L (getItem o i)) (h : wpAny (model prog w) A (getItem o i) Q E s) : wpAny (model prog w) A (subscriptTail value slice o i) Q E s := by
  unfold subscriptTail
  refine wpAny_bind ?_
  rw [getitemInPython_of_ne hT.not_modules]
  refine wpAny_bind (wpAny_specialOf hT hl ?_)
  have fin : wpAny (model prog w) A (subscripted slice false o i) (fun r s₃ => wpAny (model prog w) A (letTemporaryGo value o r >>= fun _ => pure r) Q E s₃) E s := by
    rw [hs]
    exact wpAny_operating (wpAny_mono h (fun r s₃ h₃ => wpAny_bind (wpAny_letTemporaryGo (wpAny_pure h₃))) fun _ _ x => x)
  first
    | exact wpAny_pure (wpAny_bind fin)
    | exact wpAny_bind (wpAny_pure (wpAny_bind fin))
    | exact wpAny_bind fin
theorem T_slice_list {value lo' hi' p a sl} {vs : List Value} {n : Nat} {vl vu : Value} {lo hi : Option Int} (ha : (a, listOf vs.toArray n) ∈ l) (hs : (sl, sliceO vl vu) ∈ l) (pl : IsPart vl lo) (pu : IsPart vu hi) (hsz : vs.length ≤ sizeLine)
    (h : ∀ D, P (.ref D) vals ((D, listOf (slc vs lo hi).toArray 0) :: l)) : T fm k vals l (subscriptTail value (.Slice lo' hi' none p) (.ref a) (.ref sl)) P := .mk fun A s r H => by
  refine tail_go (ty := "list") ⟨_, H.at ha, rfl⟩ list_getitem_lookup (L := [.ref sl, .ref a]) rfl ?_
  refine wpAny_getItem_list_slice (vs := .none) ⟨_, H.at ha, rfl, n, rfl⟩ ⟨_, H.at hs, rfl, rfl⟩ pl pu .none (by simp) ?_ (by simpa using hsz)
  rw [slicePick_slc]
  exact ⟨vals, _, H.push _, h _⟩
theorem T_slice_str {value lo' hi' p sl} {cs : List Nat} {t : Tok} {vl vu : Value} {lo hi : Option Int} (hs : (sl, sliceO vl vu) ∈ l) (pl : IsPart vl lo) (pu : IsPart vu hi) (hsz : cs.length ≤ sizeLine)
    (h : ∀ t, P (.str (S (slc cs lo hi)) t) vals l) : T fm k vals l (subscriptTail value (.Slice lo' hi' none p) (.str (S cs) t) (.ref sl)) P := .mk fun A s r H => by
  refine tail_go (ty := "str") (typeIs_str _ _ _) PySem.F.slot_str_getitem.lookup (L := [.ref sl, .str (S cs) t]) rfl ?_
  have fin : ∀ (lp up : Option (Int × Tok)), partValue lp = vl → partValue up = vu → lp.map (·.1) = lo → up.map (·.1) = hi → wpAny G.M A (getItem (.str (S cs) t) (.ref sl)) (fun a s' => ∃ vals' l', St fm vals' l' s' ∧ P a vals' l') (fun _ _ => False) s := by
    intro lp up e1 e2 e3 e4
    refine wpAny_getItem_str_slice (l := lp) (u := up) (st := none) ⟨_, H.at hs, rfl, by rw [e1, e2]; rfl⟩ rfl ?_
    have hle : (Txt.slice (S cs) lo hi).length ≤ sizeLine := Nat.le_trans (Txt.slice_le _ _ _) (by rw [S_len]; exact hsz)
    unfold sliceMade slicePicked
    rw [e3, e4]
    refine post_val_or_str ⟨hle, fun t' k' => ⟨vals, l, H.toks _, ?_⟩⟩
    show P (.str (Txt.slice (S cs) lo hi) t') vals l
    rw [slice_slc]; exact h t'
  cases pl with
  | none => cases pu with
    | none => exact fin none none rfl rfl rfl rfl
    | int j u => exact fin none (some (j, u)) rfl rfl rfl rfl
  | int i u' => cases pu with
    | none => exact fin (some (i, u')) none rfl rfl rfl rfl
    | int j u => exact fin (some (i, u')) (some (j, u)) rfl rfl rfl rfl
/-! items -/
theorem T_item_list {value slice a vs n i u x} (ha : (a, listOf vs n) ∈ l) (h0 : 0 ≤ i) (hfit : i < 2 ^ 63) (hx : vs[i.toNat]? = some x) (hs : subscripted slice false (.ref a) (.int i u) = operate [.ref a, .int i u] (getItem (.ref a) (.int i u))) (h : P x vals l) :
    T fm k vals l (subscriptTail value slice (.ref a) (.int i u)) P := .mk fun A s r H =>
  tail_go (ty := "list") ⟨_, H.at ha, rfl⟩ list_getitem_lookup hs (wpAny_getItem_list ⟨_, H.at ha, rfl, n, rfl⟩ h0 hfit hx ⟨vals, l, H, h⟩)
theorem T_item_str {value slice t u} {cs : List Nat} {i c : Nat} (hx : cs[i]? = some c) (hfit : i < 2 ^ 60) (hs : subscripted slice false (.str (S cs) t) (.int i u) = operate [.str (S cs) t, .int i u] (getItem (.str (S cs) t) (.int i u))) (h : ∀ t, P (.str (S [c]) t) vals l) :
    T fm k vals l (subscriptTail value slice (.str (S cs) t) (.int i u)) P := .mk fun A s r H => by
  obtain ⟨hi, e⟩ := List.getElem?_eq_some_iff.mp hx
  have e3 : Txt.charAt (S cs) (i : Int) = some c := by
    unfold Txt.charAt
    rw [S_len]
    have : seqIndex? (i : Int) cs.length = some i := by
      have hn : ¬ (i : Int) < 0 := by exact Mine.om_23 _
      simp [seqIndex?, hn, hi]
    rw [this]
    show cs.toArray[i]? = some c
    simpa using hx
  have e2 : Txt.item (S cs) (i : Int) = S [c] := by
    unfold Txt.item; rw [e3]; rfl
  refine tail_go (ty := "str") (typeIs_str _ _ _) PySem.F.slot_str_getitem.lookup hs (SB.getItem (by unfold fitsSsize; simp; exact Mine.om_24 _ hfit) (by rw [e3]; rfl) ?_)
  rw [e2]
  exact ⟨vals, l, H.toks _, h _⟩
/-! lists -/
theorem T_add_lists {a b vs ws n m} (ha : (a, listOf (List.toArray vs) n) ∈ l) (hb : (b, listOf (List.toArray ws) m) ∈ l) (hsz : vs.length + ws.length ≤ sizeLine) (h : ∀ D, P (.ref D) vals ((D, listOf (vs ++ ws).toArray 0) :: l)) :
    T fm k vals l (binaryOp .Add (.ref a) (.ref b)) P := .mk fun A s r H =>
  add_lists H.h.fr H.h.news ⟨_, H.at ha, rfl, n, rfl⟩ ⟨_, H.at hb, rfl, m, rfl⟩ (fun h' F' N' => ⟨vals, _, H.frN F' N' (by
    rw [List.map_cons]
    refine List.nodup_cons.mpr ⟨fun e => ?_, H.h.nd⟩
    obtain ⟨p, hp, q⟩ := List.mem_map.mp e
    exact Nat.lt_irrefl _ (q ▸ Heap.lt_size (H.h.led p hp).1)), h _⟩) hsz
/-! range -/
noncomputable abbrev rangeO (a b c : Int) (t u v : Tok) : Obj := { cls := .type "range", data := .fields #[.int a t, .int b u, .int c v] }
noncomputable abbrev rangeIt (x left step : Int) : Obj := { cls := .type "range_iterator", data := .fields #[rawInt x, rawInt left, rawInt step] }
theorem T_range3 {a b c t u v} (hc : c ≠ 0) (hp : Builtin.divisionGoesByPylong (b - a) c = false) (h : ∀ D, P (.ref D) vals ((D, rangeO a b c t u v) :: l)) : T fm k vals l (call (.type "range") [.int a t, .int b u, .int c v]) P := .mk fun A s r H =>
  call_range_3 hc ⟨vals, _, H.push _, h _⟩ (.inl hp)
theorem T_iter_range {D a b c t u v} (hD : (D, rangeO a b c t u v) ∈ l) (hsm : Builtin.Range.small a b c = true) (h : ∀ it, P (.ref it) vals ((it, rangeIt a (Builtin.Range.rangeSize a b c) c) :: l)) : T fm k vals l (pyIter (.ref D)) P := .mk fun A s r H =>
  wpAny_pyIter_range (H.at hD) hsm ⟨vals, _, H.push _, h _⟩
theorem T_next_range {it x left step l'} {P : Po (Option Value)} (U : Upd1 it (rangeIt x left step) (rangeIt (x + step) (left - 1) step) l l') (hl : 0 < left) (h : ∀ t, P (some (.int x t)) vals l') : T fm k vals l (pyNext (.ref it)) P := .mk fun A s r H =>
  wpAny_pyNext_range_item (H.at U.mem) hl fun h' ho hs => ⟨vals, l', H.upd U hs ho, h _⟩
theorem T_end_range {it x left step l'} {P : Po (Option Value)} (U : Pick (it, rangeIt x left step) l l') (hl : left ≤ 0) (h : P none vals l') : T fm k vals l (pyNext (.ref it)) P := .mk fun A s r H =>
  wpAny_pyNext_range_end r.handled (H.at U.mem) hl fun h' hx => ⟨vals, l', H.forget U hx, h⟩
/-! the signs of a text -/
/-! calls on texts and numbers -/
theorem T_len_str {cs t} (hsz : cs.length ≤ sizeLine) (h : ∀ t, P (.int cs.length t) vals l) : T fm k vals l (call (.builtin "len") [.str (S cs) t]) P := .mk fun A s r H =>
  PySem.P.len_str (by rw [S_len]; have := fit63 hsz; exact Mine.om_25 _ this) ⟨vals, l, H.toks _, by rw [S_len]; exact h _⟩
theorem T_ord {c : Nat} {t} (h : ∀ t, P (.int c t) vals l) : T fm k vals l (call (.builtin "ord") [.str (S [c]) t]) P := .mk fun A s r H => PySem.P.ord_of_char ⟨vals, l, H.toks _, h _⟩
theorem T_chr {c : Nat} {t} (hc : c < 256) (h : ∀ t, P (.str (S [c]) t) vals l) : T fm k vals l (call (.builtin "chr") [.int c t]) P := .mk fun A s r H =>
  PySem.P.chr_of_int (by simp; exact Mine.om_26 _ hc) ⟨vals, l, H.toks _, h _⟩
theorem T_join {a its n ys t} (ha : (a, listOf its n) ∈ l) (hi : StrsAre its.toList ys) (hw : (ys.map (·.length)).sum + ys.length ≤ 1048576) (h : ∀ t, P (.str (Txt.join (S []) ys) t) vals l) : T fm k vals l (call (.builtin "str.join") [.str (S []) t, .ref a]) P := .mk fun A s r H =>
  join_listW ⟨_, H.at ha, rfl, n, rfl⟩ hi (by decide) hw fun t' k' => ⟨vals, l, H.toks _, h _⟩
theorem T_count {x t y u} (h : ∀ t, P (.int (Txt.count x y) t) vals l) : T fm k vals l (call (.builtin "str.count") [.str x t, .str y u]) P := .mk fun A s r H => SC.count ⟨vals, l, H.toks _, h _⟩
/-! among texts -/
theorem sx_len {vs : List Value} {ys : List Str} (h : StrsAre vs ys) : vs.length = ys.length := by induction h with | nil => rfl | cons _ _ _ ih => simp [ih]
theorem sx_get {vs : List Value} {ys : List Str} (h : StrsAre vs ys) : ∀ (i : Nat) (y : Str), ys[i]? = some y → ∃ t, vs[i]? = some (.str y t) := by
  induction h with
  | nil => intro i y e; simp at e
  | cons y t _ ih =>
    intro i z e
    cases i with
    | zero => simp at e; subst e; exact ⟨t, rfl⟩
    | succ i => simpa using ih i z (by simpa using e)
theorem sx_app {a b ns ms} (h : StrsAre a ns) (h' : StrsAre b ms) : StrsAre (a ++ b) (ns ++ ms) := by
  induction h with
  | nil => exact h'
  | cons n t _ ih => exact .cons n t ih
/-! unpacking -/
theorem T_holding {xs : List Value} {m : Sem α} {P : Po α} (h : T fm k vals l m P) : T fm k vals l (holding xs m) P := .mk fun A s r H => wpAny_holding (h.go A s r H)
theorem T_draw_list {it a n} {its : Array Value} (ha : (a, listOf its n) ∈ l) : ∀ (m i : Nat) (o : Obj) (P : Po (List Value)), ListIt o a i → i + m ≤ its.size → (∀ o', ListIt o' a (i + m) → P ((its.toList.drop i).take m) vals ((it, o') :: l)) →
    T fm k vals ((it, o) :: l) (draw (.ref it) m) P
  | 0, i, o, P, hi, _, h => .mk fun A s r H => wpAny_pure ⟨vals, _, H, by simpa using h o hi⟩
  | m + 1, i, o, P, hi, hle, h => by
    have hlt : i < its.size := by exact Mine.om_27 _ _ _ hle
    show T fm k vals _ (pyNext (.ref it) >>= _) P
    refine T_bind (T_next_list hi (fun o' => .head) (List.mem_cons_of_mem _ ha) (Array.getElem?_eq_getElem hlt) fun o' hi' => ?_)
    refine T_bind (T_holding (T_draw_list ha m (i + 1) o' (fun x v l' => T fm k v l' (pure (its[i] :: x)) P) hi' (by exact Mine.om_28 _ _ _ hle) (fun o'' h'' => ?_)))
    refine T_pure ?_
    have hd : its.toList.drop i = its[i] :: its.toList.drop (i + 1) := by simp [List.drop_eq_getElem_cons, hlt]
    have := h o'' (by rw [show i + (m + 1) = i + 1 + m by exact Mine.om_29 _ _]; exact h'')
    rw [hd, List.take_succ_cons] at this
    exact this
theorem T_unpack_list {elts kx pos a n} {vs : List Value} {P : Po Unit} (ha : (a, listOf vs.toArray n) ∈ l) (hn : (assignEach elts fm.env).length = vs.length) (hstar : (assignEach elts fm.env).findIdx? (·.1) = none)
    (h : T fm k vals l (assignInOrder ((assignEach elts fm.env).map (·.2)) vs) P) : T fm k vals l (assign (.Tuple elts kx pos) fm.env (.ref a)) P := by
  rw [assign_Tuple]
  refine T_bind (.mk fun A s r H => wpAny_standAt ⟨vals, l, H, ?_⟩)
  unfold unpack
  rw [hn, hstar]
  have key : T fm k vals l (unpackItems (.ref a) vs.length none) (fun x v l' => T fm k v l' (assignInOrder ((assignEach elts fm.env).map (·.2)) x) P) := by
    have h0 : T fm k vals l (notIterableAtAll (.ref a)) (fun b v l' => b = false ∧ v = vals ∧ l' = l) := .mk fun A s r H => by
      unfold notIterableAtAll
      exact wpAny_bind (wpAny_specialOf ⟨_, H.at ha, rfl⟩ slot_list_iter.lookup (wpAny_pure ⟨vals, l, H, rfl, rfl, rfl⟩))
    unfold unpackItems
    refine T_bind (T_mono h0 fun b v l' hb => ?_)
    obtain ⟨rfl, rfl, rfl⟩ := hb
    simp only [Bool.false_eq_true, if_false]
    refine T_bind (T_holding (T_iter_list (k := k) ha (P := fun it v l' => T fm k v l' _ _) (fun it o hi => ?_)))
    refine T_bind (T_holding (T_draw_list (k := k) ha vs.length 0 o (fun x v l' => T fm k v l' _ _) hi (by simp) (fun o' hi' => ?_)))
    have e1 : List.take vs.length (List.drop 0 vs.toArray.toList) = vs := by simp
    rw [e1, if_neg (by simp)]
    refine T_bind (T_holding (T_end_list (k := k) hi' .head (List.mem_cons_of_mem _ ha) (by simp) (P := fun x v l' => T fm k v l' _ _) ?_))
    simp only [Option.isSome_none, Bool.false_eq_true, if_false]
    exact T_pure h
  exact T_bind (T_holding (key))
theorem T_asg_nil {P : Po Unit} (h : P () vals l) : T fm k vals l (assignInOrder ((assignEach [] fm.env).map (·.2)) []) P := T_pure h
theorem T_asg_cons {e es x xs} {P : Po Unit} (he : assignEach (e :: es) fm.env = (false, assign e fm.env) :: assignEach es fm.env) (h : T fm k vals l (assign e fm.env x) (Tn fm k (assignInOrder ((assignEach es fm.env).map (·.2)) xs) P)) :
    T fm k vals l (assignInOrder ((assignEach (e :: es) fm.env).map (·.2)) (x :: xs)) P := by
  rw [he]
  show T fm k vals l (holding xs (assign e fm.env x) >>= fun _ => assignInOrder _ xs) P
  exact T_bind (T_holding h)
theorem T_AssignT {elts kx tpos value pos} {P : Po Flow} (hs : swapsWithSole [.Tuple elts kx tpos] value pos.line fm.env = pure false) (hw : swappedStores [.Tuple elts kx tpos] value fm.env = pure none)
    (h : T fm k vals l (eval value fm.env) (Th fm k (assign (.Tuple elts kx tpos) fm.env) (Pn Flow.next P))) : T fm k vals l (exec (.Assign [.Tuple elts kx tpos] value pos) fm.env) P := .mk fun A s r H =>
  Assign_Tuple (T_in h r H fun x _ _ s₁ H₁ h₁ => h₁.go A s₁ r H₁) hs hw
/-! a place of a list -/
noncomputable abbrev AgK4 (fm : Fm G N Gs Cs) (k : Nat) (ov iv : Value) (P : Po Flow) : Po Value := fun new v l => T fm k v l (setItem ov iv new) (Pn Flow.next P)
noncomputable abbrev AgK3 (fm : Fm G N Gs Cs) (k : Nat) (op : Operator) (value : Expr) (ov iv : Value) (P : Po Flow) : Po Value := fun old v l => T fm k v l (eval value fm.env) (Th fm k (inplaceOp op old) (AgK4 fm k ov iv P))
noncomputable abbrev AgK2 (fm : Fm G N Gs Cs) (k : Nat) (op : Operator) (value : Expr) (ov : Value) (P : Po Flow) : Po Value := fun iv v l => T fm k v l (getItem ov iv) (AgK3 fm k op value ov iv P)
noncomputable abbrev AgK1 (fm : Fm G N Gs Cs) (k : Nat) (i : Expr) (op : Operator) (value : Expr) (P : Po Flow) : Po Value := fun ov v l => T fm k v l (eval i fm.env) (AgK2 fm k op value ov P)
theorem T_AugS {o i pos' op value pos} {P : Po Flow} (h : T fm k vals l (eval o fm.env) (AgK1 fm k i op value P))
    (ha : ∀ ov iv new, augStore i ov iv new = (do holding [new, ov, iv] (setItem ov iv new); release [new, ov, iv] []; pure .next)) :
    T fm k vals l (exec (.AugAssign (.Subscript o i pos') op value pos) fm.env) P := .mk fun A s r H =>
  wpAny_AugAssign_Subscript_any (T_in h r H fun _ _ _ s₁ H₁ h₁ => T_in h₁ r H₁ fun _ _ _ s₂ H₂ h₂ => T_in h₂ r H₂ fun _ _ _ s₃ H₃ h₃ => T_in h₃ r H₃ fun _ _ _ s₄ H₄ h₄ => T_in h₄ r H₄ fun _ _ _ s₅ H₅ h₅ =>
    T_in h₅ r H₅ fun _ v l s₆ H₆ h₆ => ⟨v, l, H₆, h₆⟩) ha
theorem T_get_last {a n x u} {vs : List Value} (ha : (a, listOf (vs ++ [x]).toArray n) ∈ l) (h : P x vals l) : T fm k vals l (getItem (.ref a) (.int (-1) u)) P := .mk fun A s r H =>
  wpAny_getItem_list_neg ⟨_, H.at ha, rfl, n, rfl⟩ (by decide) (by simp; exact Mine.om_30 _) (by decide) (by simp; rw [show (-1 + ((vs.length : Int) + 1)).toNat = vs.length by exact Mine.om_31 _]; simp) ⟨vals, l, H, h⟩
theorem T_item_last {value slice a n x u} {vs : List Value} (ha : (a, listOf (vs ++ [x]).toArray n) ∈ l) (hs : subscripted slice false (.ref a) (.int (-1) u) = operate [.ref a, .int (-1) u] (getItem (.ref a) (.int (-1) u))) (h : P x vals l) :
    T fm k vals l (subscriptTail value slice (.ref a) (.int (-1) u)) P := .mk fun A s r H =>
  tail_go (ty := "list") ⟨_, H.at ha, rfl⟩ list_getitem_lookup hs ((T_get_last (k := k) ha h).go A s r H)
end
end
section
open PySem.MeetsSeq PySem.SeqAt
/-! comprehensions with one name, whole -/
section
variable {Gs : List (Str × Value)} {Cs : List (Str × Addr)} {x : Str} {k : Nat} {G : Gr} {fm : Fm G [x] Gs Cs} {L : Addr} {oL : Obj} {rest : Led}
theorem C_comp1 {tpos elt iter scope pos it acc oi} {P : Po Flow} (I : Nat → Obj → Prop) (n : Nat) (V : Nat → Value → Prop) (J : Nat → List Value → Prop)
    (hsz : n ≤ 1048576) (hI : I 0 oi) (hJ : J 0 [])
    (hnt : ∀ v, letOwnedTupleGo (.Name x tpos) (.ref it) v = pure ())
    (hself : T fm k [none] ((acc, listOf #[] 0) :: (L, oL) :: (it, oi) :: rest) (pyIter (.ref it)) fun it' v l' => it' = .ref it ∧ v = [none] ∧ l' = (acc, listOf #[] 0) :: (L, oL) :: (it, oi) :: rest)
    (hnext : ∀ i o u ys e (Pn : Po (Option Value)), i < n → I i o → (∀ o' v, I (i + 1) o' → V i v → Pn (some v) [u] ((acc, listOf (List.toArray ys) e) :: (L, oL) :: (it, o') :: rest)) →
      T fm k [u] ((acc, listOf (List.toArray ys) e) :: (L, oL) :: (it, o) :: rest) (pyNext (.ref it)) Pn)
    (hend : ∀ o u ys e (Pn : Po (Option Value)), I n o → Pn none [u] ((acc, listOf (List.toArray ys) e) :: (L, oL) :: rest) →
      T fm k [u] ((acc, listOf (List.toArray ys) e) :: (L, oL) :: (it, o) :: rest) (pyNext (.ref it)) Pn)
    (hstep : ∀ i v o ys e, i < n → V i v → I (i + 1) o → J i ys → T fm k [some v] ((acc, listOf (List.toArray ys) e) :: (L, oL) :: (it, o) :: rest) (eval elt fm.env)
      fun y vals' l' => J (i + 1) (ys ++ [y]) ∧ vals' = [some v] ∧ Sbl ((acc, listOf (List.toArray ys) e) :: (L, oL) :: (it, o) :: rest) l')
    (hfin : ∀ u ys e, ys.length = n → J n ys → P .next [u] ((acc, listOf (List.toArray ys) e) :: (L, oL) :: rest)) :
    C fm k [none] ((acc, listOf #[] 0) :: (L, oL) :: (it, oi) :: rest) (.compStart (.ListComp elt [⟨.Name x tpos, iter, [], 0⟩] scope pos) 0 (.ref it) (.ref acc) fm.env) P := by
  refine C_cstart ?_ hself
  have key : ∀ (m i : Nat) (o : Obj) (u : Option Value) (ys : List Value) (e : Nat), i + m = n → I i o → J i ys → ys.length = i →
      C fm k [u] ((acc, listOf ys.toArray e) :: (L, oL) :: (it, o) :: rest) (.compLoop (.ListComp elt [⟨.Name x tpos, iter, [], 0⟩] scope pos) 0 (.ref it) (.ref acc) fm.env) P := by
    intro m
    induction m with
    | zero =>
      intro i o u ys e him hi hj hl
      have : i = n := by exact Mine.om_32 _ _ him
      subst this
      exact C_comp (hend o u ys e _ hi (Ck_none (hfin u ys e hl hj)))
    | succ m ih =>
      intro i o u ys e him hi hj hl
      refine C_comp (hnext i o u ys e _ (by exact Mine.om_33 _ _ _ him) hi fun o' v hi' hv => Ck_some (hnt v) ?_)
      refine T_assignN .here (T_mono (hstep i v o' ys e (by exact Mine.om_33 _ _ _ him) hv hi' hj) ?_)
      rintro y _ l' ⟨hj', rfl, hs⟩
      refine T_weak hs (T_appendL .head (line20 (by exact Mine.om_34 _ _ _ _ hsz him hl)) ?_)
      exact ih (i + 1) o' _ _ _ (by exact Mine.om_35 _ _ _ him) hi' hj' (by simp [hl])
  exact key n 0 oi none [] 0 (by exact Mine.om_36 _) hI hJ rfl
/-- over a list -/
theorem C_compL {tpos elt iter scope pos it acc oi a ne} {vs : List Value} {P : Po Flow} (J : Nat → List Value → Prop) (ha : (a, listOf vs.toArray ne) ∈ rest) (hoi : ListIt oi a 0) (hJ : J 0 []) (hsz : vs.length ≤ 1048576)
    (hnt : ∀ v, letOwnedTupleGo (.Name x tpos) (.ref it) v = pure ())
    (hstep : ∀ i v o ys e, vs[i]? = some v → J i ys → T fm k [some v] ((acc, listOf (List.toArray ys) e) :: (L, oL) :: (it, o) :: rest) (eval elt fm.env)
      fun y vals' l' => J (i + 1) (ys ++ [y]) ∧ vals' = [some v] ∧ Sbl ((acc, listOf (List.toArray ys) e) :: (L, oL) :: (it, o) :: rest) l')
    (hfin : ∀ u ys e, ys.length = vs.length → J vs.length ys → P .next [u] ((acc, listOf (List.toArray ys) e) :: (L, oL) :: rest)) :
    C fm k [none] ((acc, listOf #[] 0) :: (L, oL) :: (it, oi) :: rest) (.compStart (.ListComp elt [⟨.Name x tpos, iter, [], 0⟩] scope pos) 0 (.ref it) (.ref acc) fm.env) P := by
  refine C_comp1 (fun i o => ListIt o a i) vs.length (fun i v => vs[i]? = some v) J hsz hoi hJ hnt ?_ ?_ ?_ ?_ hfin
  · exact T_iter_listiter hoi (.tail _ (.tail _ (.head _))) ⟨rfl, rfl, rfl⟩
  · intro i o u ys e Pn hi ho h
    exact T_next_list ho (fun o' => .tail (.tail .head)) (.tail _ (.tail _ (.tail _ ha))) (x := vs[i]) (by simp [hi]) fun o' ho' => h o' _ ho' (by simp [hi])
  · intro o u ys e Pn ho h
    exact T_end_list ho (.tail (.tail .head)) (.tail _ (.tail _ (.tail _ ha))) (by simp) h
  · intro i v o ys e hi hv ho hj
    exact hstep i v o ys e hv hj
/-- over bytes -/
theorem C_compB {tpos elt iter scope pos it acc oi t} {b : Array UInt8} {P : Po Flow} (J : Nat → List Value → Prop) (hoi : BytesIt oi b t 0) (hJ : J 0 []) (hsz : b.size ≤ 1048576)
    (hnt : ∀ v, letOwnedTupleGo (.Name x tpos) (.ref it) v = pure ())
    (hstep : ∀ i c u o ys e, b[i]? = some c → J i ys → T fm k [some (.int (c.toNat : Int) u)] ((acc, listOf (List.toArray ys) e) :: (L, oL) :: (it, o) :: rest) (eval elt fm.env)
      fun y vals' l' => J (i + 1) (ys ++ [y]) ∧ vals' = [some (.int (c.toNat : Int) u)] ∧ Sbl ((acc, listOf (List.toArray ys) e) :: (L, oL) :: (it, o) :: rest) l')
    (hfin : ∀ u ys e, ys.length = b.size → J b.size ys → P .next [u] ((acc, listOf (List.toArray ys) e) :: (L, oL) :: rest)) :
    C fm k [none] ((acc, listOf #[] 0) :: (L, oL) :: (it, oi) :: rest) (.compStart (.ListComp elt [⟨.Name x tpos, iter, [], 0⟩] scope pos) 0 (.ref it) (.ref acc) fm.env) P := by
  refine C_comp1 (fun i o => BytesIt o b t i) b.size (fun i v => ∃ c u, b[i]? = some c ∧ v = .int (c.toNat : Int) u) J hsz hoi hJ hnt ?_ ?_ ?_ ?_ hfin
  · exact T_iter_bytesiter hoi (.tail _ (.tail _ (.head _))) ⟨rfl, rfl, rfl⟩
  · intro i o u ys e Pn hi ho h
    exact T_next_bytes ho (fun o' => .tail (.tail .head)) (c := b[i]) (by simp [hi]) fun o' u' ho' => h o' _ ho' ⟨_, _, by simp [hi], rfl⟩
  · intro o u ys e Pn ho h
    exact T_end_bytes ho (.tail (.tail .head)) (by simp) h
  · rintro i v o ys e hi ⟨c, u, hc, rfl⟩ ho hj
    exact hstep i c u o ys e hc hj
end
theorem IntsAre.app {a b ns ms} (h : IntsAre a ns) (h' : IntsAre b ms) : IntsAre (a ++ b) (ns ++ ms) := by
  induction h with
  | nil => exact h'
  | cons n t _ ih => exact .cons n t ih
theorem IntsAre.snoc {a ns n t} (h : IntsAre a ns) : IntsAre (a ++ [.int n t]) (ns ++ [n]) := IntsAre.app h (.cons n t .nil)
theorem IntsAre.get {vs : List Value} {ns : List Int} (h : IntsAre vs ns) : ∀ (i : Nat) (v : Value), vs[i]? = some v → ∃ n t, v = .int n t ∧ ns[i]? = some n := by
  induction h with
  | nil => intro i v e; simp at e
  | cons n t _ ih =>
    intro i v e
    cases i with
    | zero => simp at e; subst e; exact ⟨n, t, rfl, rfl⟩
    | succ i => simpa using ih i v (by simpa using e)
theorem take_snoc {α : Type} {xs : List α} {i : Nat} {v : α} (h : xs[i]? = some v) : xs.take i ++ [v] = xs.take (i + 1) := by
  obtain ⟨hi, e⟩ := List.getElem?_eq_some_iff.mp h
  rw [List.take_add_one, h]; rfl
/-! texts by their signs -/
theorem join_S : ∀ xss : List (List Nat), Txt.join (S []) (xss.map S) = S xss.flatten
  | [] => by show Builtin.Str.glued _ _ = _; rw [StrLaws.glued_eq_join]; rfl
  | [x] => by show Builtin.Str.glued _ _ = _; rw [StrLaws.glued_eq_join]; show S x = _; simp
  | x :: y :: r => by
    have ih := join_S (y :: r)
    show Builtin.Str.glued _ _ = _
    have ih' : Str.join (S []) ((y :: r).map S) = S (y :: r).flatten := by rw [← StrLaws.glued_eq_join]; exact ih
    rw [StrLaws.glued_eq_join]
    show S x ++ S [] ++ Str.join (S []) ((y :: r).map S) = _
    rw [ih', S_app, S_app]; simp
theorem join_S1 (cs : List Nat) : Txt.join (S []) (cs.map fun c => S [c]) = S cs := by
  have := join_S (cs.map fun c => [c])
  rw [List.map_map] at this
  have e : (S ∘ fun c => [c]) = fun c : Nat => S [c] := rfl
  rw [e] at this
  rw [this]; congr 1
  clear this e
  induction cs with
  | nil => rfl
  | cons c cs ih => simp [ih]
open StrLaws in
theorem count_S (cs : List Nat) (c : Nat) : Txt.count (S cs) (S [c]) = (cs.count c : Int) := by
  have key : ∀ (m a : Nat) (st : Array Nat × Nat), a + m = cs.length + 1 → st.snd ≤ a → st.fst.size + m < cs.length + 3 →
      (forIn (List.range' a m) st (occBody (S cs) (S [c]) cs.length (cs.length + 1))).run.fst.size = st.fst.size + (cs.drop a).count c := by
    intro m
    induction m with
    | zero =>
      intro a st h1 h2 h3
      rw [List.drop_eq_nil_of_le (by exact Mine.om_45 _ _ h1)]
      simp
    | succ m ih =>
      intro a st h1 h2 h3
      rw [List.range'_succ, List.forIn_cons]
      have hs := subAt_one (S cs) c a
      rw [S_len, S_cps] at hs
      by_cases hc : cs[a]? = some c
      · have hat := hs.mpr hc
        obtain ⟨hlt, e⟩ := List.getElem?_eq_some_iff.mp hc
        have hb : occBody (S cs) (S [c]) cs.length (cs.length + 1) a st = pure (ForInStep.yield (st.fst.push a, a + 1)) := by
          unfold occBody
          rw [if_pos ⟨⟨⟨by exact Mine.om_46 _ _ _ _ h1 h3 hlt, h2⟩, hat.1⟩, hat.2⟩]; rfl
        rw [hb]
        have := ih (a + 1) (st.fst.push a, a + 1) (by exact Mine.om_47 _ _ _ h1) (Nat.le_refl _) (by simp; exact Mine.om_48 _ _ _ h3)
        simp only [pure_bind]
        rw [this, List.drop_eq_getElem_cons hlt, e]
        simp; exact Mine.om_49 _ _
      · have hb : occBody (S cs) (S [c]) cs.length (cs.length + 1) a st = pure (ForInStep.yield (st.fst, st.snd)) := by
          unfold occBody
          rw [if_neg (fun q => hc (hs.mp ⟨q.1.2, q.2⟩))]
        rw [hb]
        have := ih (a + 1) (st.fst, st.snd) (by exact Mine.om_47 _ _ _ h1) (by show st.snd ≤ a + 1; exact Mine.om_50 _ _ h2) (by show st.fst.size + m < _; exact Mine.om_51 _ _ _ h3)
        simp only [pure_bind]
        rw [this]
        by_cases hlt : a < cs.length
        · rw [List.drop_eq_getElem_cons hlt, List.count_cons, if_neg (by
            intro q; apply hc; rw [List.getElem?_eq_getElem hlt, beq_iff_eq.mp q])]
          rfl
        · rw [List.drop_eq_nil_of_le (by exact Mine.om_52 _ _ hlt), List.drop_eq_nil_of_le (by exact Mine.om_53 _ _ hlt)]
  unfold Txt.count
  rw [S_len, occ_eq]
  have := key (cs.length + 1) 0 (#[], 0) (by exact Mine.om_54 _) (Nat.le_refl _) (by simp)
  simp only [Nat.sub_zero, Array.length_toList]
  rw [this]; simp
end
section
open PySem.MeetsSeq PySem.SeqAt
section
variable {α β : Type} {N : List Str} {Gs : List (Str × Value)} {Cs : List (Str × Addr)} {k : Nat} {G : Gr} {fm : Fm G N Gs Cs} {vals : List (Option Value)} {l : Led} {P : Po Value}
/-! lists that lie in the ground -/
theorem St.baseList {s a its} (H : St fm vals l s) (hb : G.base.IsList a its) : s.heap.IsList a its :=
  let ⟨o, ho, r⟩ := hb; ⟨o, H.h.keep a o ho, r⟩
theorem T_slice_base {value lo' hi' p a sl} {vs : List Value} {vl vu : Value} {lo hi : Option Int} (hb : G.base.IsList a vs.toArray) (hs : (sl, sliceO vl vu) ∈ l) (pl : IsPart vl lo) (pu : IsPart vu hi) (hsz : vs.length ≤ sizeLine)
    (h : ∀ D, P (.ref D) vals ((D, listOf (slc vs lo hi).toArray 0) :: l)) : T fm k vals l (subscriptTail value (.Slice lo' hi' none p) (.ref a) (.ref sl)) P := .mk fun A s r H => by
  have hl := H.baseList hb
  obtain ⟨o, ho, hc, _⟩ := id hl
  refine tail_go (ty := "list") ⟨o, ho, hc⟩ list_getitem_lookup (L := [.ref sl, .ref a]) rfl ?_
  refine wpAny_getItem_list_slice (vs := .none) hl ⟨_, H.at hs, rfl, rfl⟩ pl pu .none (by simp) ?_ (by simpa using hsz)
  rw [slicePick_slc]
  exact ⟨vals, _, H.push _, h _⟩
/-! tuples -/
theorem T_unpack_tup {elts kx pos a} {vs : List Value} {P : Po Unit} (ha : (a, tupOf vs.toArray) ∈ l) (hn : (assignEach elts fm.env).length = vs.length) (hstar : (assignEach elts fm.env).findIdx? (·.1) = none)
    (h : T fm k vals l (assignInOrder ((assignEach elts fm.env).map (·.2)) vs) P) : T fm k vals l (assign (.Tuple elts kx pos) fm.env (.ref a)) P := .mk fun A s r H =>
  assign_Tuple_tuple r.handled ⟨_, H.at ha, rfl, _, rfl⟩ (by simpa using hn) hstar fun h' he => by
    simpa using h.go A _ r (H.extNew (n := s.toks) (get?_size _) he)
theorem F_someT {target it body orelse P x} (h : T fm k vals l (letOwnedTupleGo target it x) (Tn fm k (assign target fm.env x) (Tn fm k (execs body fm.env) (Lk fm k (.forLoop target it body orelse fm.env) P)))) :
    Fk fm k target it body orelse P (some x) vals l := h
end
end
section
open PySem.MeetsSeq PySem.SeqAt
section
variable {α β : Type} {N : List Str} {Gs : List (Str × Value)} {Cs : List (Str × Addr)} {k : Nat} {G : Gr} {fm : Fm G N Gs Cs} {vals : List (Option Value)} {l : Led} {P : Po Value}
/-! places of lists -/
theorem T_get_at {a n u x} {vs : List Value} {j : Nat} (ha : (a, listOf vs.toArray n) ∈ l) (hx : vs[j]? = some x) (hj : j < 1000000) (h : P x vals l) : T fm k vals l (getItem (.ref a) (.int (j : Int) u)) P := .mk fun A s r H =>
  wpAny_getItem_list ⟨_, H.at ha, rfl, n, rfl⟩ (by exact Mine.om_55 _) (by exact Mine.om_56 _ hj) (by simpa using hx) ⟨vals, l, H, h⟩
theorem set_core {prog : Program} {w : World} {A : Around} {E : Value → Shared → Prop} {s : Shared} {a : Addr} {n : Nat} {its : Array Value} {kk : Int} {u : Tok} {y : Value} {Q : Unit → Shared → Prop} (ho : s.heap.get? a = some (listOf its n))
    (h0 : 0 ≤ kk) (hfit : kk < 2 ^ 63) (hn : kk < its.size) (hQ : Q () { s with heap := s.heap.update a (Obj.mapSeq fun z => z.setIfInBounds kk.toNat y) }) : wpAny (model prog w) A (setItem (.ref a) (.int kk u) y) Q E s := by
  have hT : s.TypeIs (.ref a) "list" := ⟨_, ho, rfl⟩
  unfold setItem
  try with_reducible refine wpAny_holding ?_
  first | refine wpAny_bind (wpAny_pure ?_) | skip
  refine wpAny_bind (wpAny_sequenceKey hT (by decide) ?_)
  refine wpAny_bind (wpAny_callSpecial?_slot (name := Str.ofString "__setitem__") hT PySem.slot_list_setitem
    (wpAny_call_entry PySem.slot_list_setitem hT PySem.entry_list_setitem ?_ (PySem.args_list_setitem _ _ _)))
  show wpAny _ _ (Builtin.List.listSubscript? (.int kk u) >>= _) _ _ s
  refine wpAny_bind (wpAny_listSubscript_int (fitsIndex_of h0 hfit) ?_)
  clear hfit
  obtain ⟨j, rfl⟩ := Int.eq_ofNat_of_zero_le h0
  have hj : j < its.size := by exact Mine.om_57 _ _ hn
  have hx : its[j]? = some its[j] := Array.getElem?_eq_getElem hj
  show wpAny _ _ ((seqItemAt a j >>= fun r => pure (r.map (j, ·))) >>= _) _ _ s
  refine wpAny_bind (wpAny_bind (wpAny_seqItemAt ho rfl (wpAny_pure ?_)))
  rw [hx]
  show wpAny _ _ (setSeqItemAt a j y >>= _) _ _ s
  refine wpAny_bind (wpAny_setSeqItemAt ho rfl ?_)
  first
    | exact wpAny_bind (wpAny_pure (wpAny_pure ⟨.none, rfl, wpAny_pure hQ⟩))
    | exact wpAny_pure ⟨.none, rfl, wpAny_pure hQ⟩
theorem T_set_at {a n y u} {vs : List Value} {j : Nat} {l' : Nat → Led} {P : Po Unit} (U : ∀ e, Upd1 a (listOf vs.toArray n) (listOf (vs.set j y).toArray e) l (l' e)) (hj : j < vs.length) (hz : vs.length < 1000000) (h : ∀ e, P () vals (l' e)) :
    T fm k vals l (setItem (.ref a) (.int (j : Int) u) y) P := .mk fun A s r H => by
  have ho := H.at (U 0).mem
  refine set_core ho (by exact Mine.om_55 _) (by exact Mine.om_58 _ _ hj hz) (by simp; exact Mine.om_59 _ _ hj) ?_
  have hset : vs.toArray.setIfInBounds j y = (vs.set j y).toArray := by simp
  have ho' := Heap.get?_update_self (h := s.heap) (a := a) (Obj.mapSeq fun z => z.setIfInBounds j y) ho rfl
  have e3 : Obj.mapSeq (fun z => z.setIfInBounds j y) (listOf vs.toArray n) = listOf (vs.set j y).toArray (if (vs.toArray.setIfInBounds j y).size == vs.toArray.size then n else n + 1) := by
    rw [← hset]; rfl
  rw [e3] at ho'
  rw [show (j : Int).toNat = j by exact Mine.om_60 _]
  exact ⟨vals, _, H.upd (U _) (Heap.SameBut.update ..) ho', h _⟩
noncomputable abbrev AnK3 (fm : Fm G N Gs Cs) (k : Nat) (w ov : Value) (P : Po Flow) : Po Value := fun iv v l => T fm k v l (setItem ov iv w) (Pn Flow.next P)
noncomputable abbrev AnK2 (fm : Fm G N Gs Cs) (k : Nat) (i : Expr) (w : Value) (P : Po Flow) : Po Value := fun ov v l => T fm k v l (eval i fm.env) (AnK3 fm k w ov P)
noncomputable abbrev AnK1 (fm : Fm G N Gs Cs) (k : Nat) (o i : Expr) (P : Po Flow) : Po Value := fun w v l => T fm k v l (eval o fm.env) (AnK2 fm k i w P)
theorem T_AssignS {o i pos' value pos} {P : Po Flow} (hs : swapsWith value (some (.Subscript o i pos')) pos.line fm.env = pure false)
    (h : T fm k vals l (eval value fm.env) (AnK1 fm k o i P)) :
    T fm k vals l (exec (.Assign [.Subscript o i pos'] value pos) fm.env) P := .mk fun A s r H =>
  wpAny_Assign_Subscript (T_in h r H fun _ _ _ s₁ H₁ h₁ => T_in h₁ r H₁ fun _ _ _ s₂ H₂ h₂ => T_in h₂ r H₂ fun _ _ _ s₃ H₃ h₃ => T_in h₃ r H₃ fun _ v l s₄ H₄ h₄ => ⟨v, l, H₄, h₄⟩) hs
theorem T_pop {a n x} {vs : List Value} {l' : Nat → Led} (U : ∀ e, Upd1 a (listOf (vs ++ [x]).toArray n) (listOf vs.toArray e) l (l' e)) (hz : vs.length < 1000000) (h : ∀ e, P x vals (l' e)) :
    T fm k vals l (call (.builtin "list.pop") [.ref a]) P := .mk fun A s r H => by
  have ho := H.at (U 0).mem
  have hs : (vs ++ [x]).toArray.size - 1 = vs.length := by simp
  have hsz : (vs ++ [x]).toArray.size ≤ sizeLine := line20 (by simp; exact Mine.om_61 _ hz)
  refine call_meets PySem.F.slot_list_pop ⟨_, ho, rfl⟩ PySem.F.entry_list_pop (PySem.F.args_list_pop_1 _) (PySem.MeetsSeq.list_pop_last a _ n x (by rw [hs]; simp) hsz) ⟨ho, ?_⟩
  rw [hs]
  have ho' := Heap.get?_update_self (h := s.heap) (a := a) (Obj.mapSeq fun xs => xs.eraseIdxIfInBounds vs.length) ho rfl
  have e1 : (vs ++ [x]).toArray.eraseIdxIfInBounds vs.length = vs.toArray := by
    rw [Array.eraseIdxIfInBounds, dif_pos (by simp)]
    apply Array.ext'
    rw [Array.toList_eraseIdx, List.toList_toArray]
    rw [List.eraseIdx_append_of_length_le (Nat.le_refl _)]; simp
  have e3 : Obj.mapSeq (fun xs => xs.eraseIdxIfInBounds vs.length) (listOf (vs ++ [x]).toArray n) = listOf vs.toArray (if ((vs ++ [x]).toArray.eraseIdxIfInBounds vs.length).size == (vs ++ [x]).toArray.size then n else n + 1) := by
    rw [← e1]; rfl
  rw [e3] at ho'
  exact ⟨vals, _, H.upd (U _) (Heap.SameBut.update ..) ho', h _⟩
theorem T_item_tup {value slice a u x} {vs : List Value} {j : Nat} (ha : (a, tupOf vs.toArray) ∈ l) (hx : vs[j]? = some x) (hj : j < 1000000) (hs : subscripted slice false (.ref a) (.int (j : Int) u) = operate [.ref a, .int (j : Int) u] (getItem (.ref a) (.int (j : Int) u))) (h : P x vals l) :
    T fm k vals l (subscriptTail value slice (.ref a) (.int (j : Int) u)) P := .mk fun A s r H => by
  obtain ⟨hlt, e⟩ := List.getElem?_eq_some_iff.mp hx
  exact tail_go (ty := "tuple") ⟨_, H.at ha, rfl⟩ (id := "tuple.__getitem__") (by rw [typeLookup_type, builtinLookup_eq_fast]; kernel_rfl) hs (getItem_tuple (j := j) ⟨_, H.at ha, rfl, _, rfl⟩ (by exact Mine.om_62 _) (by exact Mine.om_56 _ hj) (by
    have hn : ¬ (j : Int) < 0 := by exact Mine.om_23 _
    simp [seqIndex?, hn, hlt]) (by simpa using hx) ⟨vals, l, H, h⟩)
/-! the signs of any text -/
noncomputable def StrG (o : Obj) (cs : List Nat) (t : Tok) (i : Nat) : Prop := (o.cls = .type "str_ascii_iterator" ∨ o.cls = .type "str_iterator") ∧ o.data = .fields #[.str (S cs) t, .int i 0]
theorem T_iter_strG {cs t} (h : ∀ it o, StrG o cs t 0 → P (.ref it) vals ((it, o) :: l)) : T fm k vals l (pyIter (.str (S cs) t)) P := .mk fun A s r H =>
  wpAny_pyIter_strU ⟨vals, _, H.push _, h _ _ ⟨by
    show Value.type (strIterType (S cs)) = _ ∨ Value.type (strIterType (S cs)) = _
    unfold strIterType
    split
    · exact .inl rfl
    · exact .inr rfl, rfl⟩⟩
theorem T_iter_strGiter {it cs t i o} (hi : StrG o cs t i) (ha : (it, o) ∈ l) (h : P (.ref it) vals l) : T fm k vals l (pyIter (.ref it)) P := .mk fun A s r H => by
  rcases hi.1 with hc | hc
  · exact wpAny_pyIter_striter_ascii ⟨o, H.at ha, hc, hi.2⟩ ⟨vals, l, H, h⟩
  · exact wpAny_pyIter_striter_wide ⟨o, H.at ha, hc, hi.2⟩ ⟨vals, l, H, h⟩
theorem T_next_strG {it cs t i c o} {l' : Obj → Led} {P : Po (Option Value)} (hi : StrG o cs t i) (U : ∀ o', Upd1 it o o' l (l' o')) (hx : cs[i]? = some c) (h : ∀ o' u, StrG o' cs t (i + 1) → P (some (.str (S [c]) u)) vals (l' o')) :
    T fm k vals l (pyNext (.ref it)) P := .mk fun A s r H => by
  have hx' : (S cs).cps[i]? = some c := by show cs.toArray[i]? = some c; simpa using hx
  rcases hi.1 with hc | hc
  · exact wpAny_pyNext_ascii_item ⟨o, H.at (U o).mem, hc, hi.2⟩ hx' fun h' ⟨o', ho, c, d⟩ hs => ⟨vals, l' o', H.upd (U o') hs ho, h o' _ ⟨.inl c, d⟩⟩
  · exact wpAny_pyNext_wide_item ⟨o, H.at (U o).mem, hc, hi.2⟩ hx' fun h' ⟨o', ho, c, d⟩ hs => ⟨vals, l' o', H.upd (U o') hs ho, h o' _ ⟨.inr c, d⟩⟩
theorem T_end_strG {it cs t i o l'} {P : Po (Option Value)} (hi : StrG o cs t i) (U : Pick (it, o) l l') (hx : cs[i]? = none) (h : P none vals l') : T fm k vals l (pyNext (.ref it)) P := .mk fun A s r H => by
  have hx' : (S cs).cps[i]? = none := by show cs.toArray[i]? = none; simpa using hx
  rcases hi.1 with hc | hc
  · exact wpAny_pyNext_ascii_end r.handled ⟨o, H.at U.mem, hc, hi.2⟩ hx' fun h' hx => ⟨vals, l', H.forget U hx, h⟩
  · exact wpAny_pyNext_wide_end r.handled ⟨o, H.at U.mem, hc, hi.2⟩ hx' fun h' hx => ⟨vals, l', H.forget U hx, h⟩
theorem T_list_str {cs t} (hsz : cs.length ≤ sizeLine) (h : ∀ a n (vs : List Value), vs.length = cs.length → (∀ (j : Nat) (v : Value), vs[j]? = some v → ∃ c u, cs[j]? = some c ∧ v = .str (S [c]) u) → P (.ref a) vals ((a, listOf vs.toArray n) :: l)) :
    T fm k vals l (call (.type "list") [.str (S cs) t]) P := .mk fun A s r H =>
  call_list_str r.handled (S cs) t (fun h' tk acc n hk ho ⟨hl, hv⟩ => by
    refine ⟨vals, _, H.new (o := listOf acc n) hk ho (get?_size _), ?_⟩
    have := h s.heap.objs.size n acc.toList (by simpa [S] using hl) (fun j v hj => by
      obtain ⟨c, u, h1, h2⟩ := hv j v (by simpa using hj)
      exact ⟨c, u, by simpa [S] using h1, h2⟩)
    simpa using this) (by simpa [S] using hsz)
/-! texts -/
theorem T_find {x t y u} (h : ∀ t, P (.int (Txt.find x y) t) vals l) : T fm k vals l (call (.builtin "str.find") [.str x t, .str y u]) P := .mk fun A s r H => SC.find ⟨vals, l, H.toks _, h _⟩
theorem T_rstrip {x t y u} (hsz : x.length ≤ sizeLine) (h : ∀ t, P (.str (Txt.rstripChars x y) t) vals l) : T fm k vals l (call (.builtin "str.rstrip") [.str x t, .str y u]) P := .mk fun A s r H =>
  SC.rstripChars (fun t' k' => ⟨vals, l, H.toks _, h _⟩) hsz
theorem T_truthy_int {a : Int} {t} {P : Po Bool} (h : P (a != 0) vals l) : T fm k vals l (truthy (.int a t)) P := .mk fun A s r H => PyProof.Rows.truthy_int ⟨vals, l, H, h⟩
theorem T_not_list {x u} (h : P (.bool false) vals l) : T fm k vals l (call (.builtin "isinstance") [.str x u, .type "list"]) P := .mk fun A s r H => IsiPair.str_list ⟨vals, l, H.toks _, h⟩
theorem T_is_list {a its n} (ha : (a, listOf its n) ∈ l) (h : P (.bool true) vals l) : T fm k vals l (call (.builtin "isinstance") [.ref a, .type "list"]) P := .mk fun A s r H =>
  call_function_meets PySem.F.kind_isinstance PySem.F.plain_isinstance PySem.F.entry_isinstance (PySem.F.args_isinstance_2 _ _) (isinstance_true (Tx := "list") (by kernel_rfl) (by rw [isSubtype_type]; kernel_rfl)) ⟨⟨_, H.at ha, rfl⟩, vals, l, H, h⟩
/-! ints -/
theorem T_mul_list {a n u} {vs : List Value} {x : Nat} (ha : (a, listOf vs.toArray n) ∈ l) (hne : vs ≠ []) (hsz : vs.length * x ≤ 1000000) (hx : x ≤ 1000000) (h : ∀ D, P (.ref D) vals ((D, listOf (List.replicate x vs).flatten.toArray 0) :: l)) :
    T fm k vals l (binaryOp .Mult (.ref a) (.int (x : Int) u)) P := .mk fun A s r H =>
  mul_list H.h.fr H.h.news (H.at ha) (by exact Mine.om_62 _) (by exact Mine.om_63 _ hx) (by simp; exact Mine.om_64 _ hsz) fun h' F' N' => by
    have e : List.foldl (fun x1 x2 => x1 ++ x2) #[] (List.replicate (if vs.toArray.isEmpty = true then 0 else (x : Int).toNat) vs.toArray) = (List.replicate x vs).flatten.toArray := by
      rw [if_neg (by simpa using hne), listMul_foldl]; simp
    rw [e] at N'
    exact ⟨vals, _, H.frN F' N' (by
      rw [List.map_cons]
      refine List.nodup_cons.mpr ⟨fun e => ?_, H.h.nd⟩
      obtain ⟨p, hp, q⟩ := List.mem_map.mp e
      exact Nat.lt_irrefl _ (q ▸ Heap.lt_size (H.h.led p hp).1)), h _⟩
theorem T_ne_ints {a b vs ws n m} {ns ms : List Int} (ha : (a, listOf (List.toArray vs) n) ∈ l) (hb : (b, listOf (List.toArray ws) m) ∈ l) (hi : IntsAre vs ns) (hj : IntsAre ws ms) (h : P (.bool (!decide (ns = ms))) vals l) :
    T fm k vals l (compareOp .NotEq (.ref a) (.ref b)) P := .mk fun A s r H =>
  ne_intsK ⟨_, H.at ha, rfl, n, rfl⟩ hi ⟨_, H.at hb, rfl, m, rfl⟩ hj (by have := r.units; show A.units + 64 < 9900; exact Mine.om_65 _ _ this) ⟨vals, l, H, h⟩
end
section
variable {Gs : List (Str × Value)} {Cs : List (Str × Addr)} {x : Str} {k : Nat} {G : Gr} {fm : Fm G [x] Gs Cs} {L : Addr} {oL : Obj} {rest : Led}
/-- a comprehension over any text -/
theorem C_compG {tpos elt iter scope pos it acc oi t} {cs : List Nat} {P : Po Flow} (J : Nat → List Value → Prop) (hoi : StrG oi cs t 0) (hJ : J 0 []) (hsz : cs.length ≤ 1048576)
    (hnt : ∀ v, letOwnedTupleGo (.Name x tpos) (.ref it) v = pure ())
    (hstep : ∀ i c u o ys e, cs[i]? = some c → J i ys → T fm k [some (.str (S [c]) u)] ((acc, listOf (List.toArray ys) e) :: (L, oL) :: (it, o) :: rest) (eval elt fm.env)
      fun y vals' l' => J (i + 1) (ys ++ [y]) ∧ vals' = [some (.str (S [c]) u)] ∧ Sbl ((acc, listOf (List.toArray ys) e) :: (L, oL) :: (it, o) :: rest) l')
    (hfin : ∀ u ys e, ys.length = cs.length → J cs.length ys → P .next [u] ((acc, listOf (List.toArray ys) e) :: (L, oL) :: rest)) :
    C fm k [none] ((acc, listOf #[] 0) :: (L, oL) :: (it, oi) :: rest) (.compStart (.ListComp elt [⟨.Name x tpos, iter, [], 0⟩] scope pos) 0 (.ref it) (.ref acc) fm.env) P := by
  refine C_comp1 (fun i o => StrG o cs t i) cs.length (fun i v => ∃ c u, cs[i]? = some c ∧ v = .str (S [c]) u) J hsz hoi hJ hnt ?_ ?_ ?_ ?_ hfin
  · exact T_iter_strGiter hoi (.tail _ (.tail _ (.head _))) ⟨rfl, rfl, rfl⟩
  · intro i o u ys e Pn hi ho h
    exact T_next_strG ho (fun o' => .tail (.tail .head)) (c := cs[i]) (by simp [hi]) fun o' u' ho' => h o' _ ho' ⟨_, _, by simp [hi], rfl⟩
  · intro o u ys e Pn ho h
    exact T_end_strG ho (.tail (.tail .head)) (by simp) h
  · rintro i v o ys e hi ⟨c, u, hc, rfl⟩ ho hj
    exact hstep i c u o ys e hc hj
end
end
section
open PySem.MeetsSeq PySem.SeqAt
section
variable {α β : Type} {N : List Str} {Gs : List (Str × Value)} {Cs : List (Str × Addr)} {k : Nat} {G : Gr} {fm : Fm G N Gs Cs} {vals : List (Option Value)} {l : Led} {P : Po Value}
/-! min of four -/
theorem args_min4 (a b c d : Value) : argsOk "min" ⟨[a, b, c, d], []⟩ := by unfold argsOk; kernel_rfl
theorem min_four {prog : Program} {w : World} {A : Around} {E : Value → Shared → Prop} {s : Shared} {xs : Array (Int × Tok)} {a b c d : Value} {Q : Value → Shared → Prop} (hh : A.handled = none) (he : #[a, b, c, d] = intItems xs)
    (h : ∀ v h' tk, v ∈ [a, b, c, d] → (∀ d o, s.heap.get? d = some o → h'.get? d = some o) → Q v { s with heap := h', toks := tk }) : wpAny (model prog w) A (call (.builtin "min") [a, b, c, d]) Q E s := by
  have hname : (toString "min" ++ toString ".loop" : String) = "min.loop" := by decide
  have hsz4 : (intItems xs).size = 4 := by rw [← he]; rfl
  refine call_function_tree F.kind_min F.plain_min F.entry_min (args_min4 _ _ _ _) ?_
  show wpAny _ A.in1 (Builtin.Builtins.bindParams "min" ["key", "default"] 0 ⟨[], []⟩ >>= _) _ _ s
  refine wpAny_bind (wpAny_of_eq (show Builtin.Builtins.bindParams "min" ["key", "default"] 0 ⟨[], []⟩ = pure [none, none] from rfl) ?_)
  show wpAny _ A.in1 (newTuple [a, b, c, d] >>= _) _ _ s
  refine wpAny_bind (wpAny_newObj_type ?_)
  have hT : (s.heap.push { cls := .type "tuple", data := .seq #[a, b, c, d] }).IsTuple s.heap.objs.size (intItems xs) := ⟨_, Heap.get?_push_size _ rfl, rfl, 0, by rw [← he]⟩
  have hsz : (s.heap.push { cls := .type "tuple", data := .seq #[a, b, c, d] }).objs.size = s.heap.objs.size + 1 := Heap.size_push ..
  refine wpAny_bind (wpAny_pyIter_tuple hT ?_)
  refine wpAny_bind (wpAny_newObj_type ?_)
  rw [hname]
  have W := Walks.tuple (prog := prog) (w := w) (A := A.in1) hh (s.heap.push { cls := .type "tuple", data := .seq #[a, b, c, d] }).objs.size s.heap.objs.size (by rw [hsz]; exact Nat.ne_of_lt (Nat.lt_succ_self _)) (intItems xs)
  generalize hH2 : (s.heap.push { cls := .type "tuple", data := .seq #[a, b, c, d] }).push { cls := .type "tuple_iterator", data := .fields #[.ref s.heap.objs.size, .int (0 : Nat) 0] } = H2
  have hsz2 : H2.objs.size = s.heap.objs.size + 2 := by rw [← hH2, Heap.size_push, hsz]
  have hk2 : ∀ b o, s.heap.get? b = some o → H2.get? b = some o := fun b o e => by rw [← hH2]; exact Heap.get?_push_of_some _ (Heap.get?_push_of_some _ e)
  have hst : H2.IsTupleIter (s.heap.push { cls := .type "tuple", data := .seq #[a, b, c, d] }).objs.size s.heap.objs.size 0 ∧ H2.IsTuple s.heap.objs.size (intItems xs) := by
    rw [← hH2]; exact ⟨⟨_, Heap.get?_push_size _ rfl, rfl, rfl⟩, hT.push _⟩
  refine wpAny_pure ⟨plainId_quiet F.plain_min_loop _, codeAny_min_loop_first W (fun i j => decide (numAt xs i < numAt xs j)) (CmpOf.ints_lt (numAt xs) (fun _ _ => intItems_at)) H2.objs.size ?_ (by rw [hsz4]; decide) (W.frame _ _ _ hst fun b _ o e => Heap.get?_push_of_some _ e) (Heap.get?_push_size _ rfl) fun v h' tk hP hk => ?_⟩
  · intro hm
    rcases List.mem_cons.mp hm with e | hm
    · have q : (s.heap.objs.size + 2 : Nat) = s.heap.objs.size + 1 := hsz2.symm.trans (Eq.trans e hsz)
      omega
    · rcases List.mem_cons.mp hm with e | hm
      · have q : (s.heap.objs.size + 2 : Nat) = s.heap.objs.size := hsz2.symm.trans e
        omega
      · cases hm
  · refine h v h' tk ?_ fun d o e => ?_
    · have := List.mem_of_getElem? (l := [a, b, c, d]) (a := v) (i := argBest (fun i j => decide (numAt xs i < numAt xs j)) ((intItems xs).size - 1)) (by
        have hP' : (intItems xs)[argBest (fun i j => decide (numAt xs i < numAt xs j)) ((intItems xs).size - 1)]? = some v := hP
        have e5 : ∀ i : Nat, (intItems xs)[i]? = [a, b, c, d][i]? := fun i => by rw [← he]; simp
        rw [← e5]; exact hP')
      exact this
    · have hlt : d < s.heap.objs.size := Heap.lt_size e
      refine hk d o (fun hm => ?_) (fun q => ?_) (Heap.get?_push_of_some _ (hk2 d o e))
      · rcases List.mem_cons.mp hm with e1 | hm
        · have q : d = s.heap.objs.size + 1 := Eq.trans e1 hsz
          rw [q] at hlt
          exact absurd hlt (Nat.not_lt.mpr (Nat.le_succ _))
        · cases hm
      · have q' : d = s.heap.objs.size + 2 := Eq.trans q hsz2
        rw [q'] at hlt
        exact absurd hlt (Nat.not_lt.mpr (Nat.le_add_right _ 2))
theorem T_min4 {a b c d : Int} {ta tb tc td} (h : ∀ v, v ∈ [Value.int a ta, .int b tb, .int c tc, .int d td] → P v vals l) : T fm k vals l (call (.builtin "min") [.int a ta, .int b tb, .int c tc, .int d td]) P := .mk fun A s r H =>
  min_four (xs := #[(a, ta), (b, tb), (c, tc), (d, td)]) r.handled (by simp [intItems]) fun v h' tk hv hk => ⟨vals, l, H.keeps hk, h v hv⟩
end
end
section
open PySem.MeetsSeq PySem.SeqAt
section
variable {α β : Type} {N : List Str} {Gs : List (Str × Value)} {Cs : List (Str × Addr)} {k : Nat} {G : Gr} {fm : Fm G N Gs Cs} {vals : List (Option Value)} {l : Led} {P : Po Value}
/-- several objects changed -/
theorem St.multi {s h' n} {pre pre' : Led} (H : St fm vals (pre ++ l) s) (ha : pre'.map (·.1) = pre.map (·.1)) (hk : ∀ c o, c ∉ pre.map (·.1) → s.heap.get? c = some o → h'.get? c = some o) (hn : ∀ p ∈ pre', h'.get? p.1 = some p.2) :
    St fm vals (pre' ++ l) { s with heap := h', toks := n } := by
  have hnd := H.h.nd
  rw [List.map_append] at hnd
  have hdis := (List.nodup_append.mp hnd).2.2
  have hbase : ∀ c ∈ pre.map (·.1), G.base.get? c = none := by
    intro c hc
    obtain ⟨p, hp, rfl⟩ := List.mem_map.mp hc
    exact (H.h.led p (List.mem_append_left _ hp)).2
  have hL : fm.env.locals ∉ pre.map (·.1) := fun q => H.h.apart (by rw [List.map_append]; exact List.mem_append_left _ q)
  refine ⟨{ keep := fun b o e => hk b o (fun q => by rw [hbase b q] at e; cases e) (H.h.keep b o e), nd := by rw [List.map_append, ha]; exact hnd, led := fun p hp => ?_, gens := H.h.gens, os := H.h.os, ns := ?_, above := H.h.above, apart := by rw [List.map_append, ha, ← List.map_append]; exact H.h.apart }, H.len⟩
  · rcases List.mem_append.mp hp with hp | hp
    · exact ⟨hn p hp, hbase _ (by rw [← ha]; exact List.mem_map_of_mem hp)⟩
    · have z := H.h.led p (List.mem_append_right _ hp)
      exact ⟨hk _ _ (fun q => hdis p.1 q p.1 (List.mem_map_of_mem hp) rfl) z.1, z.2⟩
  · obtain ⟨oL, es, ep, hL', r⟩ := H.h.ns
    exact ⟨oL, es, ep, hk _ _ hL hL', r⟩
/-- several new objects -/
theorem St.newL {s h' n} {nw : Led} (H : St fm vals l s) (hnd : (nw.map (·.1)).Nodup) (hk : ∀ c o, s.heap.get? c = some o → h'.get? c = some o) (hn : ∀ p ∈ nw, h'.get? p.1 = some p.2 ∧ s.heap.get? p.1 = none) :
    St fm vals (nw ++ l) { s with heap := h', toks := n } := by
  have H' := H.keeps (n := n) hk
  refine ⟨{ keep := H'.h.keep, nd := ?_, led := fun p hp => ?_, gens := H.h.gens, os := H.h.os, ns := H'.h.ns, above := H.h.above, apart := ?_ }, H.len⟩
  · rw [List.map_append]
    refine List.nodup_append.mpr ⟨hnd, H.h.nd, fun a ha b hb e => ?_⟩
    subst e
    obtain ⟨p, hp, rfl⟩ := List.mem_map.mp ha
    obtain ⟨q, hq, e⟩ := List.mem_map.mp hb
    have := (H.h.led q hq).1
    rw [e, (hn p hp).2] at this
    cases this
  · rcases List.mem_append.mp hp with hp | hp
    · refine ⟨(hn p hp).1, ?_⟩
      cases q : G.base.get? p.1 with
      | none => rfl
      | some o => have := H.h.keep _ _ q; rw [(hn p hp).2] at this; cases this
    · exact H'.h.led p hp
  · intro e
    rw [List.map_append] at e
    rcases List.mem_append.mp e with q | q
    · obtain ⟨p, hp, e⟩ := List.mem_map.mp q
      obtain ⟨oL, _, _, hL, _⟩ := H.h.ns
      rw [← e, (hn p hp).2] at hL; cases hL
    · exact H.h.apart q
noncomputable abbrev zipO (f0 : Value) (TI TO : Addr) : Obj := { cls := .type "zip", dict := none, data := .fields #[f0, .bool false, .bool false, .ref TI, .ref TO], slots := #[] }
theorem free_ge (h : Heap) (j : Nat) : h.get? (h.objs.size + j) = none := by
  cases q : h.get? (h.objs.size + j) with
  | none => rfl
  | some o => exact absurd (Heap.lt_size q) (Nat.not_lt.mpr (Nat.le_add_right _ _))
theorem T_zip {a b n m} {xs ys : List Value} (ha : (a, listOf xs.toArray n) ∈ l) (hb : (b, listOf ys.toArray m) ∈ l)
    (h : ∀ z TI TO i1 i2 o1 o2, ListIt o1 a 0 → ListIt o2 b 0 → P (.ref z) vals ((z, zipO .none TI TO) :: (TO, tupOf [Value.none, .none].toArray) :: (i1, o1) :: (i2, o2) :: (TI, tupOf [Value.ref i1, .ref i2].toArray) :: l)) :
    T fm k vals l (call (.type "zip") [.ref a, .ref b]) P := .mk fun A s r H =>
  call_zip_2 ⟨_, H.at ha, rfl, n, rfl⟩ ⟨_, H.at hb, rfl, m, rfl⟩ fun h' hz hTI hTO ⟨o1, ho1, c1, d1⟩ ⟨o2, ho2, c2, d2⟩ _ hk => by
    refine ⟨vals, _, H.newL (n := s.toks) (nw := [(s.heap.objs.size + 4, zipO .none (s.heap.objs.size + 2) (s.heap.objs.size + 3)), (s.heap.objs.size + 3, tupOf [Value.none, .none].toArray), (s.heap.objs.size, o1), (s.heap.objs.size + 1, o2), (s.heap.objs.size + 2, tupOf [Value.ref s.heap.objs.size, .ref (s.heap.objs.size + 1)].toArray)]) ?_ hk ?_, h _ _ _ _ _ o1 o2 ⟨c1, d1⟩ ⟨c2, d2⟩⟩
    · have key : ∀ q : Nat, [q + 4, q + 3, q, q + 1, q + 2].Nodup := fun q => by simp
      exact key s.heap.objs.size
    · intro p hp
      simp only [List.mem_cons, List.not_mem_nil, or_false] at hp
      rcases hp with rfl | rfl | rfl | rfl | rfl
      · exact ⟨hz, free_ge _ 4⟩
      · exact ⟨hTO, free_ge _ 3⟩
      · exact ⟨ho1, free_ge _ 0⟩
      · exact ⟨ho2, free_ge _ 1⟩
      · exact ⟨hTI, free_ge _ 2⟩
theorem T_iter_zip {z f0 TI TO} (hz : (z, zipO f0 TI TO) ∈ l) (h : P (.ref z) vals l) : T fm k vals l (pyIter (.ref z)) P := .mk fun A s r H => wpAny_pyIter_zip (H.at hz) ⟨vals, l, H, h⟩
theorem zip_apart {z TI TO i1 i2 a b : Addr} {oz oTO o1 o2 oTI oa ob : Obj} {s} (H : St fm vals ((z, oz) :: (TO, oTO) :: (i1, o1) :: (i2, o2) :: (TI, oTI) :: l) s) (ha : (a, oa) ∈ l) (hb : (b, ob) ∈ l) : ZipApart z TI TO i1 i2 a b := by
  have hnd := H.h.nd
  have ha' : a ∈ l.map (·.1) := List.mem_map_of_mem (f := (·.1)) ha
  have hb' : b ∈ l.map (·.1) := List.mem_map_of_mem (f := (·.1)) hb
  simp only [List.map_cons, List.nodup_cons, List.mem_cons, not_or] at hnd
  obtain ⟨⟨z1, z2, z3, z4, z5⟩, ⟨t1, t2, t3, t4⟩, ⟨p1, p2, p3⟩, ⟨q1, q2⟩, r1, _⟩ := hnd
  exact { TIz := fun e => z4 e.symm, TOz := fun e => z1 e.symm, i1z := fun e => z2 e.symm, i2z := fun e => z3 e.symm, TITO := fun e => t3 e.symm, TIi1 := fun e => p2 e.symm, TIi2 := fun e => q1 e.symm, TOi1 := t1, TOi2 := t2, i12 := p1,
          l1z := fun e => z5 (e ▸ ha'), l2z := fun e => z5 (e ▸ hb'), l1TO := fun e => t4 (e ▸ ha'), l2TO := fun e => t4 (e ▸ hb'), l1i1 := fun e => p3 (e ▸ ha'), l1i2 := fun e => q2 (e ▸ ha'), l2i1 := fun e => p3 (e ▸ hb'), l2i2 := fun e => q2 (e ▸ hb') }
theorem T_next_zip {z TI TO i1 i2 a b n m j o1 o2 x y u v} {xs ys : List Value} {P : Po (Option Value)} (h1 : ListIt o1 a j) (h2 : ListIt o2 b j) (ha : (a, listOf xs.toArray n) ∈ l) (hb : (b, listOf ys.toArray m) ∈ l) (hx : xs[j]? = some x) (hy : ys[j]? = some y)
    (h : ∀ T o1' o2', ListIt o1' a (j + 1) → ListIt o2' b (j + 1) → P (some (.ref T)) vals ((T, tupOf [x, y].toArray) :: (z, zipO (rawInt T) TI TO) :: (TO, tupOf [x, y].toArray) :: (i1, o1') :: (i2, o2') :: (TI, tupOf [Value.ref i1, .ref i2].toArray) :: l)) :
    T fm k vals ((z, zipO .none TI TO) :: (TO, tupOf [u, v].toArray) :: (i1, o1) :: (i2, o2) :: (TI, tupOf [Value.ref i1, .ref i2].toArray) :: l) (pyNext (.ref z)) P := .mk fun A s r H => by
  have D := zip_apart H ha hb
  have m1 : ∀ {p : Addr × Obj}, p ∈ l → p ∈ ((z, zipO .none TI TO) :: (TO, tupOf [u, v].toArray) :: (i1, o1) :: (i2, o2) :: (TI, tupOf [Value.ref i1, .ref i2].toArray) :: l) := fun hp => .tail _ (.tail _ (.tail _ (.tail _ (.tail _ hp))))
  refine wpAny_pyNext_zip_item D (H.at (.head _)) (H.at (.tail _ (.tail _ (.tail _ (.tail _ (.head _)))))) (H.at (.tail _ (.head _))) ⟨o1, H.at (.tail _ (.tail _ (.head _))), h1.1, h1.2⟩ ⟨o2, H.at (.tail _ (.tail _ (.tail _ (.head _)))), h2.1, h2.2⟩
    ⟨_, H.at (m1 ha), rfl, n, rfl⟩ ⟨_, H.at (m1 hb), rfl, m, rfl⟩ (by simpa using hx) (by simpa using hy) fun h' hz hTO ⟨o1', ho1, c1, d1⟩ ⟨o2', ho2, c2, d2⟩ hT _ hk => ?_
  refine ⟨vals, _, ?_, h s.heap.objs.size o1' o2' ⟨c1, d1⟩ ⟨c2, d2⟩⟩
  have hnone := get?_size s.heap
  have hTIk : h'.get? TI = some (tupOf [Value.ref i1, .ref i2].toArray) := hk TI _ D.TIz D.TITO D.TIi1 D.TIi2 (H.at (.tail _ (.tail _ (.tail _ (.tail _ (.head _))))))
  have H2 := H.multi (pre := [(z, zipO .none TI TO), (TO, tupOf [u, v].toArray), (i1, o1), (i2, o2)]) (l := (TI, tupOf [Value.ref i1, .ref i2].toArray) :: l) (pre' := [(z, zipO (rawInt s.heap.objs.size) TI TO), (TO, tupOf [x, y].toArray), (i1, o1'), (i2, o2')]) (h' := h') (n := s.toks) rfl (fun c o hc e => by
      simp only [List.map_cons, List.map_nil, List.mem_cons, List.not_mem_nil, or_false, not_or] at hc
      exact hk c o hc.1 hc.2.1 hc.2.2.1 hc.2.2.2 e) (fun p hp => by
      simp only [List.mem_cons, List.not_mem_nil, or_false] at hp
      rcases hp with rfl | rfl | rfl | rfl
      · exact hz
      · exact hTO
      · exact ho1
      · exact ho2)
  -- the new tuple
  have hTnot : s.heap.objs.size ∉ ((z, zipO (rawInt s.heap.objs.size) TI TO) :: (TO, tupOf [x, y].toArray) :: (i1, o1') :: (i2, o2') :: (TI, tupOf [Value.ref i1, .ref i2].toArray) :: l).map (·.1) := by
    have hq : s.heap.objs.size ∉ ((z, zipO .none TI TO) :: (TO, tupOf [u, v].toArray) :: (i1, o1) :: (i2, o2) :: (TI, tupOf [Value.ref i1, .ref i2].toArray) :: l).map (·.1) := by
      intro e
      obtain ⟨p, hp, q⟩ := List.mem_map.mp e
      have := (H.h.led p hp).1
      rw [q, hnone] at this
      cases this
    exact hq
  have hbn : G.base.get? s.heap.objs.size = none := by
    cases q : G.base.get? s.heap.objs.size with
    | none => rfl
    | some o => have := H.h.keep _ _ q; rw [hnone] at this; cases this
  have hLn : fm.env.locals ≠ s.heap.objs.size := by
    obtain ⟨oL, _, _, hL, _⟩ := H.h.ns
    intro e
    rw [e, hnone] at hL; cases hL
  refine ⟨{ keep := H2.h.keep, nd := ?_, led := fun p hp => ?_, gens := H2.h.gens, os := H2.h.os, ns := H2.h.ns, above := H2.h.above, apart := ?_ }, H2.len⟩
  · rw [List.map_cons]
    exact List.nodup_cons.mpr ⟨hTnot, H2.h.nd⟩
  · rcases List.mem_cons.mp hp with rfl | hp
    · exact ⟨hT, hbn⟩
    · exact H2.h.led p hp
  · intro e
    rw [List.map_cons] at e
    rcases List.mem_cons.mp e with q | q
    · exact hLn q
    · exact H2.h.apart q
theorem T_owned_zip {elts kx pos z TI TO l'} {T' : Addr} {P : Po Unit} (U : Upd1 z (zipO (rawInt T') TI TO) (zipO .none TI TO) l l') (h : P () vals l') : T fm k vals l (letOwnedTupleGo (.Tuple elts kx pos) (.ref z) (.ref T')) P := .mk fun A s r H =>
  wpAny_letOwnedTupleGo_zip (H.at U.mem) fun h' hz hs => ⟨vals, l', H.upd U hs hz, h⟩
theorem T_end_zip {z TI TO i1 i2 a b n m j o1 o2 u v} {xs ys : List Value} {P : Po (Option Value)} (h1 : ListIt o1 a j) (h2 : ListIt o2 b j) (ha : (a, listOf xs.toArray n) ∈ l) (hb : (b, listOf ys.toArray m) ∈ l) (hx : xs[j]? = none) (h : P none vals l) :
    T fm k vals ((z, zipO .none TI TO) :: (TO, tupOf [u, v].toArray) :: (i1, o1) :: (i2, o2) :: (TI, tupOf [Value.ref i1, .ref i2].toArray) :: l) (pyNext (.ref z)) P := .mk fun A s r H => by
  have D := zip_apart H ha hb
  have m1 : ∀ {p : Addr × Obj}, p ∈ l → p ∈ ((z, zipO .none TI TO) :: (TO, tupOf [u, v].toArray) :: (i1, o1) :: (i2, o2) :: (TI, tupOf [Value.ref i1, .ref i2].toArray) :: l) := fun hp => .tail _ (.tail _ (.tail _ (.tail _ (.tail _ hp))))
  refine wpAny_pyNext_zip_end r.handled D (H.at (.head _)) (H.at (.tail _ (.tail _ (.tail _ (.tail _ (.head _)))))) (H.at (.tail _ (.head _))) ⟨o1, H.at (.tail _ (.tail _ (.head _))), h1.1, h1.2⟩ ⟨o2, H.at (.tail _ (.tail _ (.tail _ (.head _)))), h2.1, h2.2⟩
    ⟨_, H.at (m1 ha), rfl, n, rfl⟩ ⟨_, H.at (m1 hb), rfl, m, rfl⟩ (.inl (by simpa using hx)) fun h' hk => ?_
  have hnd := H.h.nd
  refine ⟨vals, l, ?_, h⟩
  have Hl : St fm vals l s := ⟨H.h.sbl (.drop (.drop (.drop (.drop (.drop .refl))))), H.len⟩
  have hd : ∀ c, c ∈ [z, TO, i1, i2] → c ∉ l.map (·.1) ∧ c ≠ fm.env.locals ∧ G.base.get? c = none := by
    intro c hc
    have hm : ∀ o, (c, o) ∈ ((z, zipO .none TI TO) :: (TO, tupOf [u, v].toArray) :: (i1, o1) :: (i2, o2) :: (TI, tupOf [Value.ref i1, .ref i2].toArray) :: l) → c ≠ fm.env.locals ∧ G.base.get? c = none := fun o hm =>
      ⟨fun e => H.h.apart (e ▸ List.mem_map_of_mem (f := (·.1)) hm), (H.h.led _ hm).2⟩
    simp only [List.map_cons, List.nodup_cons, List.mem_cons, not_or] at hnd
    obtain ⟨⟨z1, z2, z3, z4, z5⟩, ⟨t1, t2, t3, t4⟩, ⟨p1, p2, p3⟩, ⟨q1, q2⟩, r1, _⟩ := hnd
    simp only [List.mem_cons, List.not_mem_nil, or_false] at hc
    rcases hc with rfl | rfl | rfl | rfl
    · exact ⟨z5, hm _ (.head _)⟩
    · exact ⟨t4, hm _ (.tail _ (.head _))⟩
    · exact ⟨p3, hm _ (.tail _ (.tail _ (.head _)))⟩
    · exact ⟨q2, hm _ (.tail _ (.tail _ (.tail _ (.head _))))⟩
  have hkk : ∀ c o, c ∉ [z, TO, i1, i2] → s.heap.get? c = some o → h'.get? c = some o := fun c o hc e => by
    simp only [List.mem_cons, List.not_mem_nil, or_false, not_or] at hc
    exact hk c o hc.1 hc.2.1 hc.2.2.1 hc.2.2.2 e
  refine ⟨{ keep := fun c o e => hkk c o (fun q => by rw [(hd c q).2.2] at e; cases e) (Hl.h.keep c o e), nd := Hl.h.nd, led := fun p hp => ?_, gens := Hl.h.gens, os := Hl.h.os, ns := ?_, above := Hl.h.above, apart := Hl.h.apart }, Hl.len⟩
  · have z := Hl.h.led p hp
    exact ⟨hkk _ _ (fun q => (hd _ q).1 (List.mem_map_of_mem hp)) z.1, z.2⟩
  · obtain ⟨oL, es, ep, hL', r'⟩ := Hl.h.ns
    exact ⟨oL, es, ep, hkk _ _ (fun q => (hd _ q).2.1 rfl) hL', r'⟩
/-! two data compared -/
theorem T_eq_data {a b : Value} {da db : PyData} {as bs : List Addr} (ra : ∀ s, St fm vals l s → Reads s.heap a da as) (rb : ∀ s, St fm vals l s → Reads s.heap b db bs) (ha : shaped da = true) (hb : shaped db = true) (h : P (.bool (PyData.eqv da db)) vals l) :
    T fm k vals l (compareOp .Eq a b) P := .mk fun A s r H => eq_dataH (ra s H) (rb s H) ha hb (by have := r.units; show A.units + 64 < 9900; exact Mine.om_65 _ _ this) ⟨vals, l, H, h⟩
end
end
section
open PySem.MeetsSeq PySem.SeqAt
section
variable {α β : Type} {N : List Str} {Gs : List (Str × Value)} {Cs : List (Str × Addr)} {k : Nat} {G : Gr} {fm : Fm G N Gs Cs} {vals : List (Option Value)} {l : Led}
theorem comp_coreG {ifs : List Expr} {gs : List Comprehension} {elt target iter : Expr} {scope : Scope} {pos pos' : Pos} {cl : List (Str × Addr)} {Nc : List Str} {Gc : List (Str × Value)} {use : Option (Value → Sem Unit)} {Q : Value → Shared → Prop} {D : Addr → List (Option Value) → Led → Prop}
    (hs : ∀ x, foldedSetIterable iter fm.env x = pure x) (hclos : closureFor scope fm.env = pure cl)
    (hkind : scope.kind = .function) (hcell : (scope.names.all fun x => decide (x.2 ≠ .cell)) = true) (hnames : (scope.names.all fun x => decide (x.2 = .local → scope.names.lookup x.1 = some .local)) = true)
    (hnd : Nc.Nodup) (hloc : (Nc.all fun x => decide (scope.names.lookup x = some .local) && !(x == ("__debug__" : Str))) = true)
    (hglb : ∀ p ∈ Gc, scope.names.lookup p.1 = some .globalImplicit ∧ (p.1 == ("__debug__" : Str)) = false ∧ Glb G p.1 p.2)
    (h : T fm k vals l (eval iter fm.env) fun x v l => T fm k v l (pyIter x) fun it v l => ∀ acc oL (cfm : Fm G Nc Gc cl), cfm.env.scope = relabel scope fm.env →
      C cfm k (Nc.map fun _ => none) ((acc, listOf #[] 0) :: (fm.env.locals, oL) :: l) (.compStart (.ListComp elt (⟨target, iter, ifs, 0⟩ :: gs) scope pos) 0 it (.ref acc) cfm.env) fun _ _ l'' => ∃ l', Sbl ((fm.env.locals, oL) :: l') l'' ∧ D acc v l')
    {A s} (r : Room k A) (H : St fm vals l s)
    (hD : ∀ acc v l' Cn oC s' f, D acc v l' → IsNs oC → St fm v ((Cn, oC) :: l') s' → compPost G.M A (fun _ _ => False) use Q (.ref acc) Cn (.ok f) s') :
    wpAny G.M A (comprehension (.ListComp elt (⟨target, iter, ifs, 0⟩ :: gs) scope pos) scope fm.env pos' (newList []) false (eval iter fm.env) use) Q (fun _ _ => False) s := by
  refine wpAny_comprehension_free (g := ⟨target, iter, ifs, 0⟩) (gs := gs) rfl hs hclos hkind (fun x hx => of_decide_eq_true (List.all_eq_true.mp hnames x hx)) ?_
  refine T_in h r H fun x v₁ l₁ s₁ H₁ h₁ => T_in h₁ r H₁ fun it v₂ l₂ s₂ H₂ h₂ => ?_
  refine wpAny_newObj_type (T := "list") ?_
  refine wpAny_newFunctionEnv (fun x hx => of_decide_eq_true (List.all_eq_true.mp hcell x hx)) (by intro y hy; simp at hy) (fun h₁ hns hsb => ?_) hkind
  have H3 := H₂.push (n := s₂.toks) (listOf #[] 0)
  dsimp only at hns hsb ⊢
  generalize hsz : s₂.heap.objs.size = acc at H3 ⊢
  obtain ⟨oL, H4, big, back⟩ := H3.out
  have locs : ∀ x ∈ Nc, (relabel scope fm.env).names.lookup x = some .local ∧ (x == ("__debug__" : Str)) = false := fun x hx => by
    have := List.all_eq_true.mp hloc x hx
    simp only [Bool.and_eq_true, decide_eq_true_eq, Bool.not_eq_true'] at this
    exact ⟨lookup_relabel (by decide) this.1, this.2⟩
  generalize hH : s₂.heap.push (listOf #[] 0) = hp at *
  let cfm : Fm G Nc Gc cl := { env := compEnvC scope cl hp.objs.size fm.env, nd := hnd, kind := hkind, loc := locs
                               glb := fun p hp => ⟨lookup_relabel (by decide) (hglb p hp).1, (hglb p hp).2⟩, globals := fm.globals, builtins := fm.builtins, cells := rfl }
  have hk₁ : ∀ b o, hp.get? b = some o → h₁.get? b = some o := fun b o e => hsb.extBut b o (Nat.ne_of_lt (Heap.lt_size e)) (Heap.get?_push_of_some _ e)
  have e1 : (fun x => ([] : List (Str × Value)).reverse.lookup x) = Loc Nc (Nc.map fun _ => none) := by
    have := loc_start (binds := []) (N' := Nc) (by simpa using hnd)
    simpa using this.symm
  have H5 : St cfm (Nc.map fun _ => none) ((acc, listOf #[] 0) :: (fm.env.locals, oL) :: l₂) { s₂ with heap := h₁, toks := s₂.toks + ([] : List (Str × Value)).length } := by
    have H4' := H4.perm (List.Perm.swap _ _ _)
    refine ⟨{ keep := fun b o e => hk₁ b o (H4'.keep b o e), nd := H4'.nd, led := fun p hp => ⟨hk₁ _ _ (H4'.led p hp).1, (H4'.led p hp).2⟩, gens := H4'.gens, os := H4'.os, ns := ?_, above := big, apart := ?_ }, by simp⟩
    · rw [← e1]; exact hns
    · intro e
      obtain ⟨p, hp', q⟩ := List.mem_map.mp e
      exact Nat.lt_irrefl _ (Heap.lt_size (q ▸ (H4'.led p hp').1))
  refine codeAny_mono ((h₂ acc oL cfm rfl).go A _ r H5) fun x s' ⟨f, vc, l'', e, H6, l', hsub, d⟩ => ?_
  subst e
  obtain ⟨oC, H7, _, back'⟩ := H6.out
  obtain ⟨oC', es, ep, hL, hLd, hLk, hLf⟩ := H6.h.ns
  have eo : oC' = oC := by have := (H7.led _ List.mem_cons_self).1; rw [show (cfm.env.locals, oC).1 = cfm.env.locals from rfl, hL] at this; injection this
  subst eo
  have H8 : Hd G ((fm.env.locals, oL) :: (cfm.env.locals, oC') :: l') s' := by
    have : Sbl ((cfm.env.locals, oC') :: (fm.env.locals, oL) :: l') ((cfm.env.locals, oC') :: l'') := .pick .head hsub
    exact (H7.sbl this).perm (List.Perm.swap _ _ _)
  have H9 : St fm v₂ ((cfm.env.locals, oC') :: l') s' := back _ _ H8
  exact hD acc v₂ l' _ oC' s' f d ⟨_, fun h a e => ⟨oC', es, ep, e, hLd, hLk, hLf⟩⟩ H9

theorem T_AssignCompG {ifs : List Expr} {gs : List Comprehension} {elt target iter : Expr} {scope : Scope} {pos py spos : Pos} {y : Str} {cl : List (Str × Addr)} {P : Po Flow} (Nc : List Str) (Gc : List (Str × Value))
    (hsw : (py.line == pos.line && !(scope.names.any fun (n, k) => n == y && (k == .local || k == .cell))) = true) (hy : y ∈ N)
    (hs : ∀ x, foldedSetIterable iter fm.env x = pure x) (hclos : closureFor scope fm.env = pure cl)
    (hkind : scope.kind = .function) (hcell : (scope.names.all fun x => decide (x.2 ≠ .cell)) = true) (hnames : (scope.names.all fun x => decide (x.2 = .local → scope.names.lookup x.1 = some .local)) = true)
    (hnd : Nc.Nodup) (hloc : (Nc.all fun x => decide (scope.names.lookup x = some .local) && !(x == ("__debug__" : Str))) = true)
    (hglb : ∀ p ∈ Gc, scope.names.lookup p.1 = some .globalImplicit ∧ (p.1 == ("__debug__" : Str)) = false ∧ Glb G p.1 p.2)
    (h : T fm k vals l (eval iter fm.env) fun x v l => T fm k v l (pyIter x) fun it v l => ∀ acc oL (cfm : Fm G Nc Gc cl), cfm.env.scope = relabel scope fm.env →
      C cfm k (Nc.map fun _ => none) ((acc, listOf #[] 0) :: (fm.env.locals, oL) :: l) (.compStart (.ListComp elt (⟨target, iter, ifs, 0⟩ :: gs) scope pos) 0 it (.ref acc) cfm.env) fun _ _ l'' => ∃ l', Sbl ((fm.env.locals, oL) :: l') l'' ∧
        ∃ v', PutAt N v y (.ref acc) v' ∧ P .next v' l') :
    T fm k vals l (exec (.Assign [.Name y py] (.ListComp elt (⟨target, iter, ifs, 0⟩ :: gs) scope pos) spos) fm.env) P := .mk fun A s r H => by
  have hsw' : swapsWith (.ListComp elt (⟨target, iter, ifs, 0⟩ :: gs) scope pos) (some (.Name y py)) spos.line fm.env = pure true := by
    have e1 : fm.env.blockKind = .function := by
      unfold Env.blockKind; rw [fm.kind]; rfl
    have e2 : fm.env.kindOf y = some .local := (fm.loc y hy).1
    rw [Bool.and_eq_true] at hsw
    show (pure (fm.env.blockKind == .function && fm.env.kindOf y == some .local && py.line == pos.line && !(scope.names.any fun (n, k) => n == y && (k == .local || k == .cell))) : Sem Bool) = pure true
    rw [e1, e2, hsw.1, hsw.2]; rfl
  rw [exec_Assign_Name_used _ _ _ _ hsw']
  refine wpAny_bind (wpAny_standAt (wpAny_bind ?_))
  show wpAny _ A (do let _ ← comprehension (.ListComp elt (⟨target, iter, ifs, 0⟩ :: gs) scope pos) scope fm.env _ (newList []) false (eval iter fm.env) (some (assign (.Name y py) fm.env))) _ _ s
  refine wpAny_bind (wpAny_mono (Q := fun _ s' => ∃ v l', St fm v l' s' ∧ P .next v l') ?_ (fun _ s' hq => wpAny_pure (wpAny_pure hq)) fun _ _ e => e)
  refine comp_coreG (use := some (assign (.Name y py) fm.env)) (D := fun acc v l' => ∃ v', PutAt N v y (.ref acc) v' ∧ P .next v' l') hs hclos hkind hcell hnames hnd hloc hglb h r H fun acc v l' Cn oC s' f ⟨v', hput, d⟩ ⟨m, hm⟩ H' => ?_
  show wpAny _ A (assign (.Name y py) fm.env (.ref acc)) _ _ _
  refine T_in (T_assignN (P := fun _ v l => v = v' ∧ l = (Cn, oC) :: l') hput ⟨rfl, rfl⟩) r H' fun _ v l s'' H'' ⟨e1, e2⟩ => ?_
  subst e1 e2
  exact ⟨m, hm _ _ (H''.at List.mem_cons_self), fun h' hs' => ⟨v, l', H''.forget .head hs'.extBut, d⟩⟩

/-! two clauses, a test on the first -/
noncomputable abbrev comp2 (elt t0 i0 c t1 i1 : Expr) (scope : Scope) (pos : Pos) : Expr := .ListComp elt [⟨t0, i0, [c], 0⟩, ⟨t1, i1, [], 0⟩] scope pos
theorem C_2start0 {elt t0 i0 c t1 i1 scope pos it acc} {P : Po Flow} (h0 : C fm k vals l (.compLoop (comp2 elt t0 i0 c t1 i1 scope pos) 0 it acc fm.env) P)
    (h : T fm k vals l (pyIter it) fun it' v l' => it' = it ∧ v = vals ∧ l' = l) :
    C fm k vals l (.compStart (comp2 elt t0 i0 c t1 i1 scope pos) 0 it acc fm.env) P := .mk fun A s r H =>
  codeAny_compStart_list (h0.go A s r H) (T_in h r H fun it' v l' s' H' ⟨e1, e2, e3⟩ => by subst e1 e2 e3; exact h0.go A s' r H')
theorem C_2start1 {elt t0 i0 c t1 i1 scope pos it acc} {P : Po Flow} (h0 : C fm k vals l (.compLoop (comp2 elt t0 i0 c t1 i1 scope pos) 1 it acc fm.env) P)
    (h : T fm k vals l (pyIter it) fun it' v l' => it' = it ∧ v = vals ∧ l' = l) :
    C fm k vals l (.compStart (comp2 elt t0 i0 c t1 i1 scope pos) 1 it acc fm.env) P := .mk fun A s r H => by
  refine codeAny_of_tree ?_
  show wpAny _ _ ((compStart (comp2 elt t0 i0 c t1 i1 scope pos) 1 it acc fm.env).onRaise (fun x => do noteFrame x fm.env; standAt theWindowsPlace)) _ _ s
  refine wpAny_notedAt ?_
  unfold compStart
  show wpAny _ A (ask >>= _) _ _ s
  refine wpAny_bind (wpAny_askSetting (wpAny_ite ?_))
  split
  · exact wpAny_pure ⟨rfl, h0.go A s r H⟩
  · refine wpAny_bind (wpAny_rule ?_)
    show wpAny _ A (standAt i1.pos >>= _) _ _ s
    refine wpAny_bind (wpAny_standAt (wpAny_bind (T_in h r H fun it' v l' s' H' ⟨e1, e2, e3⟩ => ?_)))
    subst e1 e2 e3
    exact wpAny_pure ⟨rfl, h0.go A s' r H'⟩
/-- a turn of the outer clause, behind the iterator's answer -/
noncomputable def Ck0 (fm : Fm G N Gs Cs) (k : Nat) (elt t0 i0 c t1 i1 : Expr) (scope : Scope) (pos : Pos) (it acc : Value) (P : Po Flow) : Po (Option Value) := fun o vals l =>
  match o with
  | none => P .next vals l
  | some x => letOwnedTupleGo t0 it x = pure () ∧ T fm k vals l (assign t0 fm.env x) fun _ v l => T fm k v l (isTrue c fm.env (eval c fm.env)) fun b v l =>
      If2 b (T fm k v l (eval i1 fm.env) fun x v l => T fm k v l (pyIter x) fun it' v l => C fm k v l (.compStart (comp2 elt t0 i0 c t1 i1 scope pos) 1 it' acc fm.env) fun _ v l => C fm k v l (.compLoop (comp2 elt t0 i0 c t1 i1 scope pos) 0 it acc fm.env) P)
        (C fm k v l (.compLoop (comp2 elt t0 i0 c t1 i1 scope pos) 0 it acc fm.env) P)
theorem C_2loop0 {elt t0 i0 c t1 i1 scope pos it acc} {P : Po Flow} (hs : ∀ x, foldedSetIterable i1 fm.env x = pure x) (h : T fm k vals l (pyNext it) (Ck0 fm k elt t0 i0 c t1 i1 scope pos it acc P)) :
    C fm k vals l (.compLoop (comp2 elt t0 i0 c t1 i1 scope pos) 0 it acc fm.env) P := .mk fun A s r H => by
  refine codeAny_of_tree ?_
  show wpAny _ A ((compTurn (comp2 elt t0 i0 c t1 i1 scope pos) 0 it acc fm.env).onRaise (fun x => do noteFrame x fm.env; theTreesLotGoes x)) _ _ s
  refine wpAny_noted ?_
  unfold compTurn
  show wpAny _ A (standAt i0.pos >>= fun _ => pyNext it >>= fun r => _) _ _ s
  refine wpAny_bind (wpAny_standAt (wpAny_bind (T_in h r H fun o v l₁ s₁ H₁ h₁ => ?_)))
  cases o with
  | none => exact wpAny_pure ⟨.next, v, l₁, rfl, H₁, h₁⟩
  | some x =>
    refine wpAny_bind (wpAny_of_eq h₁.1 ?_)
    refine wpAny_bind (T_in h₁.2 r H₁ fun _ v l₂ s₂ H₂ h₂ => ?_)
    refine wpAny_bind ?_
    show wpAny _ A (forIn [c] true _) _ _ s₂
    rw [List.forIn_cons]
    refine wpAny_bind ?_
    show wpAny _ A (isTrue c fm.env (eval c fm.env) >>= fun ok => pure (ForInStep.yield ok)) _ _ s₂
    refine wpAny_bind (T_in h₂ r H₂ fun b v l₃ s₃ H₃ h₃ => wpAny_pure ?_)
    show wpAny _ A (forIn [] b _) _ _ s₃
    rw [List.forIn_nil]
    refine wpAny_pure ?_
    cases b with
    | false => exact wpAny_pure ⟨rfl, C.go (show C fm k v l₃ (.compLoop (comp2 elt t0 i0 c t1 i1 scope pos) 0 it acc fm.env) P from h₃) A s₃ r H₃⟩
    | true =>
      show wpAny _ A (eval i1 fm.env >>= _) _ _ s₃
      refine wpAny_bind (T_in (show T fm k v l₃ (eval i1 fm.env) _ from h₃) r H₃ fun x v l₄ s₄ H₄ h₄ => ?_)
      refine wpAny_bind (wpAny_standAt ?_)
      show wpAny _ A (foldedSetIterable i1 fm.env x >>= _) _ _ s₄
      refine wpAny_bind (wpAny_of_eq (hs x) ?_)
      show wpAny _ A (holding [x] (pyIter x) >>= _) _ _ s₄
      refine wpAny_bind (wpAny_holding (T_in h₄ r H₄ fun it' v l₅ s₅ H₅ h₅ => ?_))
      refine wpAny_bind (wpAny_runOwn (codeAny_mono (h₅.go A s₅ r H₅) fun y s' ⟨f, v, l, e, H', p⟩ => ?_))
      subst e
      exact wpAny_pure ⟨rfl, p.go A s' r H'⟩
/-- the same, the inner clause -/
noncomputable def Ck1 (fm : Fm G N Gs Cs) (k : Nat) (elt t0 i0 c t1 i1 : Expr) (scope : Scope) (pos : Pos) (it acc : Value) (P : Po Flow) : Po (Option Value) := fun o vals l =>
  match o with
  | none => P .next vals l
  | some x => letOwnedTupleGo t1 it x = pure () ∧ T fm k vals l (assign t1 fm.env x) fun _ v l => T fm k v l (eval elt fm.env) fun y v l => T fm k v l (call (.builtin "list.append") [acc, y]) fun _ v l =>
      C fm k v l (.compLoop (comp2 elt t0 i0 c t1 i1 scope pos) 1 it acc fm.env) P
theorem C_2loop1 {elt t0 i0 c t1 i1 scope pos it acc} {P : Po Flow} (h : T fm k vals l (pyNext it) (Ck1 fm k elt t0 i0 c t1 i1 scope pos it acc P)) :
    C fm k vals l (.compLoop (comp2 elt t0 i0 c t1 i1 scope pos) 1 it acc fm.env) P := .mk fun A s r H => by
  refine codeAny_of_tree ?_
  show wpAny _ A ((compTurn (comp2 elt t0 i0 c t1 i1 scope pos) 1 it acc fm.env).onRaise (fun x => do noteFrame x fm.env; theTreesLotGoes x)) _ _ s
  refine wpAny_noted ?_
  unfold compTurn
  show wpAny _ A (standAt i1.pos >>= fun _ => pyNext it >>= fun r => _) _ _ s
  refine wpAny_bind (wpAny_standAt (wpAny_bind (T_in h r H fun o v l₁ s₁ H₁ h₁ => ?_)))
  cases o with
  | none => exact wpAny_pure ⟨.next, v, l₁, rfl, H₁, h₁⟩
  | some x =>
    refine wpAny_bind (wpAny_of_eq h₁.1 ?_)
    refine wpAny_bind (T_in h₁.2 r H₁ fun _ v l₂ s₂ H₂ h₂ => ?_)
    refine wpAny_bind ?_
    show wpAny _ A (forIn [] true _) _ _ s₂
    rw [List.forIn_nil]
    refine wpAny_pure ?_
    show wpAny _ A ((eval elt fm.env >>= fun x => call (.builtin "list.append") [acc, x] >>= fun _ => pure ()) >>= _) _ _ s₂
    exact wpAny_bind (wpAny_bind (T_in h₂ r H₂ fun y v l₃ s₃ H₃ h₃ => wpAny_bind (T_in h₃ r H₃ fun _ v l₄ s₄ H₄ h₄ => wpAny_pure (wpAny_pure ⟨rfl, h₄.go A s₄ r H₄⟩))))
end
end
local macro_rules | `(tactic| walk_at "mem") => `(tactic| with_reducible (repeat (first | exact List.mem_cons_self | apply List.mem_cons_of_mem)))
local macro_rules | `(tactic| walk_at "upd") => `(tactic| with_reducible (intros; repeat (first | exact Upd1.head | apply Upd1.tail)))
local macro_rules | `(tactic| walk_at "pick") => `(tactic| with_reducible (repeat (first | exact Pick.head | apply Pick.tail)))
local macro_rules | `(tactic| walk_at "sub") => `(tactic| with_reducible (repeat (first | exact SubL.nil | apply SubL.cons (by walk_at "pick"))))
local macro_rules | `(tactic| walk_at "sbl") => `(tactic| with_reducible (repeat (first | apply Sbl.pick (by walk_at "pick"; done) | exact Sbl.refl | apply Sbl.drop)))
local macro_rules | `(tactic| walk_at "u") => `(tactic| with_unfolding_all rfl)
local macro_rules | `(tactic| walk_at "sbl2") => `(tactic| (simp only [List.cons_append, List.nil_append]; walk_at "sbl"))
noncomputable abbrev C1 : Addr := 59
theorem own_lineno (w) : OwnA (Mine.hd.heap_39 w) 59 (Str.ofString "lineno") := ⟨by k_is, by k_is, by k_is⟩
theorem own_instream (w) : OwnA (Mine.hd.heap_39 w) 59 (Str.ofString "instream") := ⟨by k_is, by k_is, by k_is⟩
theorem own_whitespace (w) : OwnA (Mine.hd.heap_39 w) 59 (Str.ofString "whitespace") := ⟨by k_is, by k_is, by k_is⟩
theorem own_pushback (w) : OwnA (Mine.hd.heap_39 w) 59 (Str.ofString "pushback") := ⟨by k_is, by k_is, by k_is⟩
theorem own_read (w) : OwnA (Mine.hd.heap_39 w) 59 (Str.ofString "read") := ⟨by k_is, by k_is, by k_is⟩
theorem set_lineno (w) : SetA (Mine.hd.heap_39 w) 59 (Str.ofString "lineno") := ⟨by k_is, by k_is, by k_is, by k_is⟩
theorem set_instream (w) : SetA (Mine.hd.heap_39 w) 59 (Str.ofString "instream") := ⟨by k_is, by k_is, by k_is, by k_is⟩
theorem set_whitespace (w) : SetA (Mine.hd.heap_39 w) 59 (Str.ofString "whitespace") := ⟨by k_is, by k_is, by k_is, by k_is⟩
theorem set_pushback (w) : SetA (Mine.hd.heap_39 w) 59 (Str.ofString "pushback") := ⟨by k_is, by k_is, by k_is, by k_is⟩
theorem set_read (w) : SetA (Mine.hd.heap_39 w) 59 (Str.ofString "read") := ⟨by k_is, by k_is, by k_is, by k_is⟩
theorem meth_read_char (w) : MethA (Mine.hd.heap_39 w) 59 (Str.ofString "_read_char") 42 := ⟨by k_is, by k_is, by k_is, by k_is, by k_is, by k_is, by decide +kernel⟩
theorem meth_get_token (w) : MethA (Mine.hd.heap_39 w) 59 (Str.ofString "get_token") 49 := ⟨by k_is, by k_is, by k_is, by k_is, by k_is, by k_is, by decide +kernel⟩

noncomputable abbrev kh (w : World) (x : Str) : Int := PyData.keyHash w.params x
/-- what an object of _netrclex's keeps -/
noncomputable def md4 (w : World) (t1 t2 t3 t4 : Tok) (n : Int) (t : Tok) (fp : Value) (tw : Tok) (pb : Addr) : List DictEntry :=
  [⟨kh w (Str.ofString "lineno"), .str (Str.ofString "lineno") t1, .int n t⟩, ⟨kh w (Str.ofString "instream"), .str (Str.ofString "instream") t2, fp⟩,
   ⟨kh w (Str.ofString "whitespace"), .str (Str.ofString "whitespace") t3, .str (S [10, 9, 13, 32]) tw⟩, ⟨kh w (Str.ofString "pushback"), .str (Str.ofString "pushback") t4, .ref pb⟩]
/-- a machine of netrc's on a stream, as it lies -/
structure Mc (G : Gr) where
  m : Addr
  dm : Addr
  st : Addr
  ds : Addr
  fn : Addr
  cc : Addr
  cl : Addr
  sg : Addr
  pb : Addr
  t1 : Tok
  t2 : Tok
  t3 : Tok
  t4 : Tok
  tw : Tok
  se : List DictEntry
  sn : Nat
  lam : Obj
  occ : Obj
  ocl : Obj
  fd : FuncData
  hfd : lam.data = .func fd
  read : getL (Str.ofString "read") se = some (some (.ref fn))
  rd : ∀ (items : List Value) (e : Nat) (t : Tok), items.length ≤ 1048576 → Sp G 2 [(fn, lam), (cc, occ), (cl, ocl), (sg, listOf items.toArray e)] (.ref fn) [.int 1 t] [] fun v post =>
    match items with
    | [] => (∃ t, v = .str (S []) t) ∧ post = [(fn, lam), (cc, occ), (cl, ocl), (sg, listOf #[] e)]
    | x :: r => v = x ∧ post = [(fn, lam), (cc, occ), (cl, ocl), (sg, listOf r.toArray (e + 1))]

noncomputable def Mc.md {G : Gr} (mc : Mc G) (n : Int) (t : Tok) : List DictEntry := md4 G.w mc.t1 mc.t2 mc.t3 mc.t4 n t (.ref mc.st) mc.tw mc.pb
/-- the machine: line n, these signs unread, these words pushed back -/
noncomputable abbrev mled {G : Gr} (mc : Mc G) (n : Int) (t : Tok) (items : List Value) (e : Nat) (pbs : List Value) (pe : Nat) (tl : Led) : Led :=
  (mc.m, instObj C1 mc.dm) :: (mc.dm, dictOf (mc.md n t) 4) :: (mc.st, instObj C1 mc.ds) :: (mc.ds, dictOf mc.se mc.sn) :: (mc.fn, mc.lam) :: (mc.cc, mc.occ) :: (mc.cl, mc.ocl) :: (mc.sg, listOf items.toArray e) :: (mc.pb, listOf pbs.toArray pe) :: tl

theorem md_lineno {G} (mc : Mc G) (n t) : getL (Str.ofString "lineno") (mc.md n t) = some (some (.int n t)) := rfl
theorem md_instream {G} (mc : Mc G) (n t) : getL (Str.ofString "instream") (mc.md n t) = some (some (.ref mc.st)) := rfl
theorem md_whitespace {G} (mc : Mc G) (n t) : getL (Str.ofString "whitespace") (mc.md n t) = some (some (.str (S [10, 9, 13, 32]) mc.tw)) := rfl
theorem md_pushback {G} (mc : Mc G) (n t) : getL (Str.ofString "pushback") (mc.md n t) = some (some (.ref mc.pb)) := rfl
theorem md_read_char {G} (mc : Mc G) (n t) : getL (Str.ofString "_read_char") (mc.md n t) = some none := rfl
theorem md_get_token {G} (mc : Mc G) (n t) : getL (Str.ofString "get_token") (mc.md n t) = some none := rfl
theorem md_put {G} (mc : Mc G) (n t n' t' key) : (putL (Str.ofString "lineno") (PyData.keyHash G.w.params (Str.ofString "lineno")) key (.int n' t') (mc.md n t), putN (Str.ofString "lineno") (mc.md n t) 4) = (mc.md n' t', 4) := rfl

noncomputable def Rd {G : Gr} (mc : Mc G) (n : Int) (t : Tok) (items : List Value) (e : Nat) (pbs : List Value) (pe : Nat) (v : Value) (post : Led) : Prop :=
  match items with
  | [] => (∃ t, v = .str (S []) t) ∧ post = mled mc n t [] e pbs pe []
  | x :: r => v = x ∧ ∃ n' t', (∀ c u, x = .str (S [c]) u → n' = if c = 10 then n + 1 else n) ∧ post = mled mc n' t' r (e + 1) pbs pe []

theorem read_char_spec (G : Gr) (hK : G.K = Mine.hd.heap_39 G.w.params) (mc : Mc G) (n : Int) (t : Tok) (items : List Value) (e : Nat) (pbs : List Value) (pe : Nat) (hl : items.length ≤ 1048576) (hs : ∀ x ∈ items, ∃ c u, x = Value.str (S [c]) u) :
    Sp G 3 (mled mc n t items e pbs pe []) (.ref 42) [.ref mc.m] [] (Rd mc n t items e pbs pe) := by
  refine enter (N := [Str.ofString "self", Str.ofString "ch"]) (Gs := []) (binds := [(Str.ofString "self", .ref mc.m)]) (vals := [some (.ref mc.m), none]) (ho := by rw [hK]; k_is) (hcd := by rw [hK]; k_is) (hbind := fun s X => BindsTo.of_eq rfl) [Str.ofString "ch"] (hN := rfl) (hv := rfl) (hnd := by decide) (hloc := by decide +kernel) (hglb := fun p hp => nomatch hp) (hcell := by decide +kernel) (hco := rfl) (hgen := rfl) (hk := rfl) ?_
  intro fm rest
  show T fm 2 _ (mled mc n t items e pbs pe rest) _ _
  (refine T_cons ?_; refine T_Assign (by walk_at "u") ?_; refine T_CallM (by walk_at "u") ?_; refine T_Attr (by walk_at "u") ?_; refine T_local .here ?_)
  refine T_getown (by walk_at "mem") (by walk_at "mem") (hK ▸ own_instream _) (md_instream ..) rfl ?_
  refine T_method_own (by walk_at "mem") (by walk_at "mem") (hK ▸ own_read _) mc.read rfl ?_
  (refine M_mk ?_)
  refine T_f1 mc.hfd (by walk_at "u") (by walk_at "u") ?_
  (refine T_args_cons (by walk_at "u") ?_; refine T_int ?_; intro _; refine T_args_nil ?_)
  refine ⟨by walk_at "mem", ?_⟩
  refine T_call (mc.rd items e _ hl) (by decide) (by walk_at "sub") ?_
  intro v post hv
  cases items with
  | nil =>
    obtain ⟨⟨tv, rfl⟩, rfl⟩ := hv
    simp only [List.cons_append, List.nil_append]
    (refine T_store (.there .here) ?_; refine K_next ?_; refine T_cons ?_; refine T_If ?_; refine T_isTrue_Compare (by walk_at "u") ?_; refine T_local (.there .here) ?_; refine T_str ?_; intro _; refine T_eqs ?_; refine T_truthy_bool ?_)
    refine If2.neg (by decide) ?_
    (refine T_nil ?_; refine K_next ?_; refine T_cons ?_; refine T_Return ?_; refine T_local (.there .here) ?_; refine K_ret ?_)
    exact ⟨mled mc n t [] e pbs pe [], by (simp only [List.cons_append, List.nil_append]; walk_at "sbl"), ⟨tv, rfl⟩, rfl⟩
  | cons x r =>
    obtain ⟨rfl, rfl⟩ := hv
    obtain ⟨c, u, rfl⟩ := hs v List.mem_cons_self
    simp only [List.cons_append, List.nil_append]
    (refine T_store (.there .here) ?_; refine K_next ?_; refine T_cons ?_; refine T_If ?_; refine T_isTrue_Compare (by walk_at "u") ?_; refine T_local (.there .here) ?_; refine T_str ?_; intro _; refine T_eqs ?_; refine T_truthy_bool ?_)
    refine If2.dec (fun hc => ?_) fun hc => ?_
    · have hc' : c = 10 := by
        have e1 : Str.ofString "\n" = S [10] := by decide +kernel
        rw [e1] at hc
        exact List.cons.inj (S_inj hc) |>.1
      (refine T_cons ?_; refine T_AugA ?_; refine T_local .here ?_)
      refine T_getown (by walk_at "mem") (by walk_at "mem") (hK ▸ own_lineno _) (md_lineno ..) rfl ?_
      (refine T_int ?_; intro _; refine T_iadd ?_; intro _)
      refine T_setattr (by walk_at "mem") (hK ▸ set_lineno _) rfl (fun _ => md_put ..) (by walk_at "upd") (fun _ => Nat.le_of_ble_eq_true rfl) ?_
      intro tt
      (refine K_next ?_; refine T_nil ?_; refine K_next ?_; refine T_cons ?_; refine T_Return ?_; refine T_local (.there .here) ?_; refine K_ret ?_)
      exact ⟨mled mc (n + 1) _ r (e + 1) pbs pe [], by (simp only [List.cons_append, List.nil_append]; walk_at "sbl"), rfl, n + 1, _, fun c' u' e' => by
        injection e' with e1 e2; rw [← (List.cons.inj (S_inj e1)).1, if_pos hc'], rfl⟩
    · have hc' : c ≠ 10 := fun q => hc (by rw [q]; decide +kernel)
      (refine T_nil ?_; refine K_next ?_; refine T_cons ?_; refine T_Return ?_; refine T_local (.there .here) ?_; refine K_ret ?_)
      exact ⟨mled mc n t r (e + 1) pbs pe [], by (simp only [List.cons_append, List.nil_append]; walk_at "sbl"), rfl, n, t, fun c' u' e' => by
        injection e' with e1 e2; rw [← (List.cons.inj (S_inj e1)).1, if_neg hc'], rfl⟩

inductive Signs : List Value → List Nat → Prop
  | nil : Signs [] []
  | cons {c u r cs} : Signs r cs → Signs (.str (S [c]) u :: r) (c :: cs)
theorem Signs.len {a b} (h : Signs a b) : a.length = b.length := by
  induction h with
  | nil => rfl
  | cons _ ih => simp [ih]
theorem Signs.chars {a b} (h : Signs a b) : ∀ x ∈ a, ∃ c u, x = Value.str (S [c]) u := by
  induction h with
  | nil => intro x hx; cases hx
  | cons _ ih =>
    intro x hx
    rcases List.mem_cons.mp hx with rfl | hx
    · exact ⟨_, _, rfl⟩
    · exact ih x hx

noncomputable def wsB (c : Nat) : Bool := decide (c ∈ [10, 9, 13, 32])
/-- within quotes: the word, what is left -/
noncomputable def qRun : List Nat → Str → Str × List Nat
  | [], a => (a, [])
  | [c], a => if c = 34 then (a, []) else if c = 92 then (a, []) else (a ++ S [c], [])
  | c :: d :: r, a => if c = 34 then (a, d :: r) else if c = 92 then qRun r (a ++ S [d]) else qRun (d :: r) (a ++ S [c])
/-- within a bare word -/
noncomputable def wRun : List Nat → Str → Str × List Nat
  | [], a => (a, [])
  | [c], a => if wsB c then (a, []) else if c = 92 then (a, []) else (a ++ S [c], [])
  | c :: d :: r, a => if wsB c then (a, d :: r) else if c = 92 then wRun r (a ++ S [d]) else wRun (d :: r) (a ++ S [c])
/-- get_token's answer and what is left unread -/
noncomputable def tokRun : List Nat → Str × List Nat
  | [] => (S [], [])
  | c :: r => if wsB c then tokRun r else if c = 34 then qRun r (S []) else if c = 92 then (match r with | [] => (S [], []) | d :: r' => wRun r' (S [d])) else wRun r (S [c])

theorem tok_ws {c r} (h : wsB c = true) : tokRun (c :: r) = tokRun r := by simp [tokRun, h]
theorem tok_q {r} : tokRun (34 :: r) = qRun r (S []) := by simp [tokRun, show wsB 34 = false by decide]
theorem tok_e {d r} : tokRun (92 :: d :: r) = wRun r (S [d]) := by simp [tokRun, show wsB 92 = false by decide]
theorem tok_e0 : tokRun [92] = (S [], []) := by simp [tokRun, show wsB 92 = false by decide]
theorem tok_w {c r} (h : wsB c = false) (h1 : c ≠ 34) (h2 : c ≠ 92) : tokRun (c :: r) = wRun r (S [c]) := by simp [tokRun, h, h1, h2]
theorem q_q {r a} : qRun (34 :: r) a = (a, r) := by cases r <;> simp [qRun]
theorem q_e {d r a} : qRun (92 :: d :: r) a = qRun r (a ++ S [d]) := by simp [qRun]
theorem q_e0 {a} : qRun [92] a = (a, []) := by simp [qRun]
theorem q_c {c r a} (h1 : c ≠ 34) (h2 : c ≠ 92) : qRun (c :: r) a = qRun r (a ++ S [c]) := by cases r <;> simp [qRun, h1, h2]
theorem w_w {c r a} (h : wsB c = true) : wRun (c :: r) a = (a, r) := by cases r <;> simp [wRun, h]
theorem w_e {d r a} : wRun (92 :: d :: r) a = wRun r (a ++ S [d]) := by simp [wRun, show wsB 92 = false by decide]
theorem w_e0 {a} : wRun [92] a = (a, []) := by simp [wRun, show wsB 92 = false by decide]
theorem w_c {c r a} (h1 : wsB c = false) (h2 : c ≠ 92) : wRun (c :: r) a = wRun r (a ++ S [c]) := by cases r <;> simp [wRun, h1, h2]
theorem line_step {c : Nat} {n n' lines : Int} {cs : List Nat} (hlin : n + ((c :: cs).count 10 : Int) = lines) (hn : n' = if c = 10 then n + 1 else n) : n' + (cs.count 10 : Int) = lines := by
  rw [← hlin, hn, List.count_cons]
  by_cases q : c = 10
  · subst q; simp; exact Mine.om_66 _ _
  · simp [q]
theorem len_app (x y : Str) : (x ++ y).length = x.length + y.length := by
  rw [← S_of x, ← S_of y, S_app, S_len, S_len, S_len, List.length_append]
theorem app_nil (x : Str) : x ++ S [] = x := by rw [← S_of x, S_app, List.append_nil]
theorem one_inj {a b : Nat} (h : S [a] = S [b]) : a = b := (List.cons.inj (S_inj h)).1
theorem lit34 : Str.ofString "\"" = S [34] := by decide +kernel
theorem lit92 : Str.ofString "\\" = S [92] := by decide +kernel

/-- the machine behind a get_token -/
noncomputable def Gt {G : Gr} (mc : Mc G) (lines : Int) (res : Str × List Nat) (pe : Nat) (v : Value) (post : Led) : Prop :=
  ∃ u n' t' items' e', v = .str res.1 u ∧ Signs items' res.2 ∧ n' + (res.2.count 10 : Int) = lines ∧ post = mled mc n' t' items' e' [] pe []

theorem glb_iter (G : Gr) (hK : G.K = Mine.hd.heap_39 G.w.params) : Glb G (Str.ofString "iter") (.builtin "iter") := .inr ⟨by rw [hK]; k_is, by boot_by_name, by decide⟩

section
variable {G : Gr} {N : List Str} {Gs : List (Str × Value)} {Cs : List (Str × Addr)} {fm : Fm G N Gs Cs} {k : Nat} {vals : List (Option Value)}
noncomputable abbrev itl {G : Gr} (mc : Mc G) (it q : Addr) (sn : Value) (rest : Led) : Led := (it, callIt (.ref q) sn false) :: (q, methodObj (.ref 42) (.ref mc.m)) :: rest
/-- the iterator's next sign -/
theorem T_next_sign {mc : Mc G} {n t c u r cs e pbs pe it q t2 sn rest} {P : Po (Option Value)} (hsn : Value.str (S []) t2 = sn) (hK : G.K = Mine.hd.heap_39 G.w.params) (hk : 5 ≤ k) (h : Signs r cs) (hl : r.length ≤ 1000000)
    (hP : ∀ n' t', n' = (if c = 10 then n + 1 else n) → P (some (.str (S [c]) u)) vals (mled mc n' t' r (e + 1) pbs pe (itl mc it q sn rest))) :
    T fm k vals (mled mc n t (.str (S [c]) u :: r) e pbs pe (itl mc it q sn rest)) (pyNext (.ref it)) P := by
  subst hsn
  refine T_next_callit (by rw [hK]; k_is) (read_char_spec G hK mc n t (.str (S [c]) u :: r) e pbs pe (by simp only [List.length_cons]; exact Mine.om_67 _ hl) (Signs.cons h).chars) (by exact Mine.om_68 _ hk) (rest := itl mc it q (.str (S []) t2) rest) (by walk_at "sub") (by walk_at "mem") (by walk_at "upd") ?_
  intro v post hv
  obtain ⟨rfl, n', t', hn, rfl⟩ := hv
  exact ⟨_, _, rfl, fun _ => hP n' t' (hn _ _ rfl), fun h => by cases S_inj h⟩
theorem T_next_no {mc : Mc G} {n t e pbs pe it q t2 sn rest} {P : Po (Option Value)} (hsn : Value.str (S []) t2 = sn) (hK : G.K = Mine.hd.heap_39 G.w.params) (hk : 5 ≤ k)
    (hP : P none vals (mled mc n t [] e pbs pe ((it, goneIt) :: (q, methodObj (.ref 42) (.ref mc.m)) :: rest))) :
    T fm k vals (mled mc n t [] e pbs pe (itl mc it q sn rest)) (pyNext (.ref it)) P := by
  subst hsn
  refine T_next_callit (by rw [hK]; k_is) (read_char_spec G hK mc n t [] e pbs pe (by decide) (by intro x hx; cases hx)) (by exact Mine.om_68 _ hk) (rest := itl mc it q (.str (S []) t2) rest) (by walk_at "sub") (by walk_at "mem") (by walk_at "upd") ?_
  intro v post hv
  obtain ⟨⟨tv, rfl⟩, rfl⟩ := hv
  exact ⟨_, _, rfl, fun h => absurd rfl h, fun _ => hP⟩
/-- self._read_char() itself -/
theorem T_read_sign {mc : Mc G} {n t c u r cs e pbs pe rest} {P : Po Value} (hK : G.K = Mine.hd.heap_39 G.w.params) (hk : 3 ≤ k) (h : Signs r cs) (hl : r.length ≤ 1000000)
    (hP : ∀ n' t', n' = (if c = 10 then n + 1 else n) → P (.str (S [c]) u) vals (mled mc n' t' r (e + 1) pbs pe rest)) :
    T fm k vals (mled mc n t (.str (S [c]) u :: r) e pbs pe rest) (call (.ref 42) [.ref mc.m]) P := by
  refine T_call (read_char_spec G hK mc n t (.str (S [c]) u :: r) e pbs pe (by simp only [List.length_cons]; exact Mine.om_67 _ hl) (Signs.cons h).chars) (by exact Mine.om_69 _ hk) (rest := rest) (by walk_at "sub") ?_
  intro v post hv
  obtain ⟨rfl, n', t', hn, rfl⟩ := hv
  exact hP n' t' (hn _ _ rfl)
theorem T_read_no {mc : Mc G} {n t e pbs pe rest} {P : Po Value} (hK : G.K = Mine.hd.heap_39 G.w.params) (hk : 3 ≤ k)
    (hP : ∀ u, P (.str (S []) u) vals (mled mc n t [] e pbs pe rest)) :
    T fm k vals (mled mc n t [] e pbs pe rest) (call (.ref 42) [.ref mc.m]) P := by
  refine T_call (read_char_spec G hK mc n t [] e pbs pe (by decide) (by intro x hx; cases hx)) (by exact Mine.om_69 _ hk) (rest := rest) (by walk_at "sub") ?_
  intro v post hv
  obtain ⟨⟨tv, rfl⟩, rfl⟩ := hv
  exact hP tv
end

theorem gt_end {G : Gr} {mc : Mc G} {lines : Int} {res : Str × List Nat} {pe : Nat} {rest garb : Led} {n' t' items' e' u} {x : Str} {cs : List Nat} (hres : res = (x, cs)) (hs : Signs items' cs) (hl : n' + (cs.count 10 : Int) = lines) :
    ∃ post, Sbl (post ++ rest) (mled mc n' t' items' e' [] pe ((garb ++ rest))) ∧ Gt mc lines res pe (flowV (.ret (.str x u))) post := by
  subst hres
  refine ⟨mled mc n' t' items' e' [] pe [], ?_, u, n', t', items', e', rfl, hs, hl, rfl⟩
  have : Sbl rest (garb ++ rest) := by
    induction garb with
    | nil => exact .refl
    | cons p g ih => exact .drop ih
  exact .pick .head (.pick .head (.pick .head (.pick .head (.pick .head (.pick .head (.pick .head (.pick .head (.pick .head this))))))))

theorem get_token_spec (G : Gr) (hK : G.K = Mine.hd.heap_39 G.w.params) (mc : Mc G) (n : Int) (t : Tok) (items : List Value) (cs : List Nat) (e : Nat) (pe : Nat) (hl : items.length ≤ 1000000) (hs : Signs items cs) :
    Sp G 6 (mled mc n t items e [] pe []) (.ref 49) [.ref mc.m] [] (Gt mc (n + (cs.count 10 : Int)) (tokRun cs) pe) := by
  refine enter (N := [Str.ofString "self", Str.ofString "token", Str.ofString "fiter", Str.ofString "ch"]) (Gs := [(Str.ofString "iter", .builtin "iter")]) (binds := [(Str.ofString "self", .ref mc.m)]) (vals := [some (.ref mc.m), none, none, none]) (ho := by rw [hK]; k_is) (hcd := by rw [hK]; k_is) (hbind := fun s X => BindsTo.of_eq rfl) [Str.ofString "token", Str.ofString "fiter", Str.ofString "ch"] (hN := rfl) (hv := rfl) (hnd := by decide) (hloc := by decide +kernel) (hglb := fun p hp => by cases hp with | head => exact ⟨by decide +kernel, by decide, glb_iter G hK⟩ | tail _ h => nomatch h) (hcell := by decide +kernel) (hco := rfl) (hgen := rfl) (hk := rfl) ?_
  intro fm rest
  show T fm 5 _ (mled mc n t items e [] pe rest) _ _
  (refine T_cons ?_; refine T_If ?_; refine T_isTrue_val (by walk_at "u") ?_; refine T_Attr (by walk_at "u") ?_; refine T_local .here ?_)
  refine T_getown (by walk_at "mem") (by walk_at "mem") (hK ▸ own_pushback _) (md_pushback ..) rfl ?_
  refine T_truthy_list (by walk_at "mem") (by decide) ?_
  refine If2.neg rfl ?_
  (refine T_nil ?_; refine K_next ?_; refine T_cons ?_; refine T_Assign (by walk_at "u") ?_; refine T_str ?_; intro _; refine T_store (.there .here) ?_; refine K_next ?_; refine T_cons ?_; refine T_Assign (by walk_at "u") ?_; refine T_CallN ?_; refine T_glob List.mem_cons_self ?_; refine T_b1 (by walk_at "u") (by walk_at "u") ?_; refine T_args_cons (by walk_at "u") ?_; refine T_Attr (by walk_at "u") ?_; refine T_local .here ?_)
  refine T_getmeth (by walk_at "mem") (by walk_at "mem") (hK ▸ meth_read_char _) (md_read_char ..) ?_
  intro q
  (refine T_args_cons (by walk_at "u") ?_; refine T_str ?_; intro _; refine T_args_nil ?_)
  rename_i t1 t2
  refine T_iter2 (by walk_at "mem") ?_
  intro it
  (refine T_store (.there (.there .here)) ?_; refine K_next ?_; refine T_cons ?_)
  refine T_For (fun _ => rfl) ?_
  (refine T_local (.there (.there .here)) ?_)
  refine T_iter_callit (by walk_at "mem") ?_
  have e0 : Str.ofString "" = S [] := by decide +kernel
  rw [e0]
  generalize hres : tokRun cs = res
  generalize hlin : n + (cs.count 10 : Int) = lines
  obtain ⟨chv, hchv⟩ : ∃ c : Option Value, c = none := ⟨_, rfl⟩
  rw [← hchv]
  clear hchv
  generalize hsn : Value.str (S []) t2 = sn
  refine C_weak (l' := mled mc n t items e [] pe (itl mc it q sn rest)) (by walk_at "sbl") ?_
  induction hs generalizing n t e chv with
  | nil =>
    refine C_for (T_next_no hsn hK (by decide) (F_none ?_))
    (refine T_nil ?_; refine K_next ?_; refine T_cons ?_; refine T_Return ?_; refine T_local (.there .here) ?_; refine K_ret ?_)
    exact gt_end (garb := [_, _]) hres.symm .nil hlin
  | cons h ih =>
    rename_i c u r cs
    have hl' : r.length ≤ 1000000 := by simp only [List.length_cons] at hl; exact Mine.om_70 _ hl
    refine C_for (T_next_sign hsn hK (by decide) h hl' fun n' t' hn => F_some rfl ?_)
    have hlin' := line_step hlin hn
    (refine T_assignN (.there (.there (.there .here))) ?_; refine T_cons ?_; refine T_If ?_; refine T_isTrue_Compare (by walk_at "u") ?_; refine T_local (.there (.there (.there .here))) ?_; refine T_Attr (by walk_at "u") ?_; refine T_local .here ?_)
    refine T_getown (by walk_at "mem") (by walk_at "mem") (hK ▸ own_whitespace _) (md_whitespace ..) rfl ?_
    refine T_in_ch ?_
    (refine T_truthy_bool ?_)
    rw [S_cps]
    refine If2.dec (fun hc => ?_) fun hc => ?_
    · (refine T_cons ?_; refine T_Continue ?_; refine K_cont ?_; refine K_cont ?_; refine L_cont ?_)
      exact ih n' t' (e + 1) hl' (by rw [← hres, tok_ws (decide_eq_true hc)]) hlin' _
    · have hw : wsB c = false := decide_eq_false hc
      clear ih
      (refine T_nil ?_; refine K_next ?_; refine T_cons ?_; refine T_If ?_; refine T_isTrue_Compare (by walk_at "u") ?_; refine T_local (.there (.there (.there .here))) ?_; refine T_str ?_; intro _; refine T_eqs ?_; refine T_truthy_bool ?_)
      rw [lit34]
      refine If2.dec (fun hq => ?_) fun hq => ?_
      · have hq' : c = 34 := one_inj hq
        have hres' : qRun cs (S []) = res := by rw [← hres, hq', tok_q]
        have htk : (S []).length + r.length ≤ 1000000 := by rw [S_len]; simpa using hl'
        clear hres hlin hn hc hw hq hq' hl
        refine T_cons (T_For (fun _ => rfl) ?_)
        (refine T_local (.there (.there .here)) ?_)
        refine T_iter_callit (by walk_at "mem") ?_
        generalize S [] = tk at hres' htk ⊢
        generalize some (Value.str (S [c]) u) = chv
        generalize e + 1 = e
        obtain ⟨M, hM⟩ : ∃ M, r.length = M := ⟨_, rfl⟩
        induction M using Nat.strongRecOn generalizing r cs n' t' e tk t1 chv with
        | ind M ih =>
          cases h with
          | nil =>
            refine C_for (T_next_no hsn hK (by decide) (F_none ?_))
            (refine T_nil ?_; refine K_next ?_; refine T_nil ?_; refine K_next ?_; refine T_nil ?_; refine L_next ?_)
            refine C_for (T_next_gone (by walk_at "mem") (F_none ?_))
            (refine T_nil ?_; refine K_next ?_; refine T_cons ?_; refine T_Return ?_; refine T_local (.there .here) ?_; refine K_ret ?_)
            exact gt_end (garb := [_, _]) hres'.symm .nil hlin'
          | cons h =>
            rename_i d u r cs
            have hl'' : r.length ≤ 1000000 := by simp only [List.length_cons] at hl'; exact Mine.om_70 _ hl'
            refine C_for (T_next_sign hsn hK (by decide) h hl'' fun n2 t2 hn => F_some rfl ?_)
            have hlin2 := line_step hlin' hn
            have htk' : (tk ++ S [d]).length + r.length ≤ 1000000 := by
              simp only [List.length_cons] at htk; rw [len_app, S_len]; simp only [List.length_cons, List.length_nil]; exact Mine.om_71 _ _ htk
            have hlt : r.length < M := by rw [← hM]; simp
            (refine T_assignN (.there (.there (.there .here))) ?_; refine T_cons ?_; refine T_If ?_; refine T_isTrue_Compare (by walk_at "u") ?_; refine T_local (.there (.there (.there .here))) ?_; refine T_str ?_; intro _; refine T_eqs ?_; refine T_truthy_bool ?_)
            refine If2.dec (fun hq => ?_) fun hq => ?_
            · (refine T_cons ?_; refine T_Return ?_; refine T_local (.there .here) ?_; refine K_ret ?_; refine K_ret ?_; refine L_ret ?_; refine K_ret ?_; refine K_ret ?_; refine L_ret ?_; refine K_ret ?_)
              exact gt_end (garb := [_, _]) (by rw [← hres', one_inj hq, q_q]) h hlin2
            · have hq' : d ≠ 34 := fun q => hq (by rw [q])
              (refine T_cons ?_; refine T_If ?_; refine T_isTrue_Compare (by walk_at "u") ?_; refine T_local (.there (.there (.there .here))) ?_; refine T_str ?_; intro _; refine T_eqs ?_; refine T_truthy_bool ?_)
              rw [lit92]
              refine If2.dec (fun hb => ?_) fun hb => ?_
              · have hb' : d = 92 := one_inj hb
                (refine T_cons ?_; refine T_Assign (by walk_at "u") ?_; refine T_CallM (by walk_at "u") ?_; refine T_local .here ?_)
                refine T_method (by walk_at "mem") (by walk_at "mem") (hK ▸ meth_read_char _) (md_read_char ..) ?_
                (refine M_mk ?_; refine T_k0 (by rw [hK]; k_is) ?_)
                cases h with
                | nil =>
                  refine T_read_no hK (by decide) fun u' => ?_
                  (refine T_store (.there (.there (.there .here))) ?_; refine K_next ?_; refine T_nil ?_; refine K_next ?_; refine T_nil ?_; refine K_next ?_; refine T_cons ?_; refine T_Aug ?_; refine T_loadName (.there .here) ?_; refine T_local (.there (.there (.there .here))) ?_)
                  refine T_iadds (line20 (by rw [len_app, S_len]; simp only [List.length_nil]; exact Mine.om_72 _ _ htk)) ?_
                  (intro _; refine T_store (.there .here) ?_; refine K_next ?_; refine T_nil ?_; refine L_next ?_)
                  exact ih _ hlt _ .nil (by decide) _ _ hlin2 _ (by rw [← hres', hb', q_e0, app_nil]; rfl) (by rw [app_nil]; exact Mine.om_73 _ _ _ _ htk hM hlt) _ _ rfl
                | cons h =>
                  rename_i d' u' r cs
                  simp only [List.length_cons] at hl'' htk hlt hM
                  refine T_read_sign hK (by decide) h (by exact Mine.om_70 _ hl'') fun n3 t3 hn3 => ?_
                  have hlin3 := line_step hlin2 hn3
                  have htk3 : (tk ++ S [d']).length + r.length ≤ 1000000 := by rw [len_app, S_len]; simp only [List.length_cons, List.length_nil]; exact Mine.om_74 _ _ htk
                  (refine T_store (.there (.there (.there .here))) ?_; refine K_next ?_; refine T_nil ?_; refine K_next ?_; refine T_nil ?_; refine K_next ?_; refine T_cons ?_; refine T_Aug ?_; refine T_loadName (.there .here) ?_; refine T_local (.there (.there (.there .here))) ?_)
                  refine T_iadds (line20 (by exact Mine.om_75 _ _ htk3)) ?_
                  (intro _; refine T_store (.there .here) ?_; refine K_next ?_; refine T_nil ?_; refine L_next ?_)
                  exact ih r.length (by exact Mine.om_76 _ _ hM) _ h (by exact Mine.om_70 _ hl'') _ _ hlin3 _ (by rw [← hres', hb', q_e]) htk3 _ _ rfl
              · (refine T_nil ?_; refine K_next ?_; refine T_nil ?_; refine K_next ?_; refine T_cons ?_; refine T_Aug ?_; refine T_loadName (.there .here) ?_; refine T_local (.there (.there (.there .here))) ?_)
                refine T_iadds (line20 (by exact Mine.om_75 _ _ htk')) ?_
                (intro _; refine T_store (.there .here) ?_; refine K_next ?_; refine T_nil ?_; refine L_next ?_)
                exact ih _ hlt _ h hl'' _ _ hlin2 _ (by rw [← hres', q_c hq' (fun q => hb (by rw [q]))]) htk' _ _ rfl
      · have hq' : c ≠ 34 := fun q => hq (by rw [q])
        refine T_cons (T_IfJ (fun v l => ∃ x u n t r cs e, Signs r cs ∧ r.length ≤ 1000000 ∧ x.length ≤ 1 ∧ n + (cs.count 10 : Int) = lines ∧ wRun cs (S x) = res ∧ v = [some (Value.ref mc.m), some (Value.str (S []) t1), some (Value.ref it), some (Value.str (S x) u)] ∧ l = mled mc n t r e [] pe (itl mc it q sn rest)) ?_ ?_)
        · (refine T_isTrue_Compare (by walk_at "u") ?_; refine T_local (.there (.there (.there .here))) ?_; refine T_str ?_; intro _; refine T_eqs ?_; refine T_truthy_bool ?_)
          rw [lit92]
          refine If2.dec (fun hb => ?_) fun hb => ?_
          · have hb' : c = 92 := one_inj hb
            (refine T_cons ?_; refine T_Assign (by walk_at "u") ?_; refine T_CallM (by walk_at "u") ?_; refine T_local .here ?_)
            refine T_method (by walk_at "mem") (by walk_at "mem") (hK ▸ meth_read_char _) (md_read_char ..) ?_
            (refine M_mk ?_; refine T_k0 (by rw [hK]; k_is) ?_)
            cases h with
            | nil =>
              refine T_read_no hK (by decide) fun u' => ?_
              (refine T_store (.there (.there (.there .here))) ?_; refine K_next ?_; refine T_nil ?_; refine J_next ?_)
              exact ⟨[], _, _, _, _, _, _, .nil, by decide, by decide, hlin', by rw [← hres, hb', tok_e0]; rfl, rfl, rfl⟩
            | cons h =>
              rename_i d' u' r cs
              simp only [List.length_cons] at hl'
              refine T_read_sign hK (by decide) h (by exact Mine.om_70 _ hl') fun n3 t3 hn3 => ?_
              (refine T_store (.there (.there (.there .here))) ?_; refine K_next ?_; refine T_nil ?_; refine J_next ?_)
              exact ⟨[d'], _, _, _, _, _, _, h, by exact Mine.om_70 _ hl', Nat.le_refl 1, line_step hlin' hn3, by rw [← hres, hb', tok_e], rfl, rfl⟩
          · (refine T_nil ?_; refine J_next ?_)
            exact ⟨[c], _, _, _, _, _, _, h, hl', Nat.le_refl 1, hlin', by rw [← hres, tok_w hw hq' (fun q => hb (by rw [q]))], rfl, rfl⟩
        · rintro _ _ ⟨x, u, n, t, r, cs, e, h, hl', hx, hlin', hres', rfl, rfl⟩
          (refine K_next ?_; refine T_cons ?_; refine T_Aug ?_; refine T_loadName (.there .here) ?_; refine T_local (.there (.there (.there .here))) ?_)
          refine T_iadds (line20 (by rw [S_app, S_len]; simpa using Nat.le_trans hx (by decide))) ?_
          (intro _; refine T_store (.there .here) ?_; refine K_next ?_; refine T_cons ?_)
          rename_i t3
          rw [S_app, List.nil_append]
          have htk : (S x).length + r.length ≤ 1000001 := by rw [S_len]; exact Mine.om_77 _ _ hl' hx
          clear hres hlin hn hc hw hq hq' hl
          refine T_For (fun _ => rfl) ?_
          (refine T_local (.there (.there .here)) ?_)
          refine T_iter_callit (by walk_at "mem") ?_
          generalize some (Value.str (S x) u) = chv
          generalize S x = tk at hres' htk ⊢
          obtain ⟨M, hM⟩ : ∃ M, r.length = M := ⟨_, rfl⟩
          induction M using Nat.strongRecOn generalizing r cs n t e tk t3 chv with
          | ind M ih =>
            cases h with
            | nil =>
              refine C_for (T_next_no hsn hK (by decide) (F_none ?_))
              (refine T_nil ?_; refine K_next ?_; refine T_nil ?_; refine K_next ?_; refine T_nil ?_; refine L_next ?_)
              refine C_for (T_next_gone (by walk_at "mem") (F_none ?_))
              (refine T_nil ?_; refine K_next ?_; refine T_cons ?_; refine T_Return ?_; refine T_local (.there .here) ?_; refine K_ret ?_)
              exact gt_end (garb := [_, _]) hres'.symm .nil hlin'
            | cons h =>
              rename_i d u r cs
              have hl'' : r.length ≤ 1000000 := by simp only [List.length_cons] at hl'; exact Mine.om_70 _ hl'
              refine C_for (T_next_sign hsn hK (by decide) h hl'' fun n2 t2 hn => F_some rfl ?_)
              have hlin2 := line_step hlin' hn
              have htk' : (tk ++ S [d]).length + r.length ≤ 1000001 := by
                simp only [List.length_cons] at htk; rw [len_app, S_len]; simp only [List.length_cons, List.length_nil]; exact Mine.om_78 _ _ htk
              have hlt : r.length < M := by rw [← hM]; simp
              (refine T_assignN (.there (.there (.there .here))) ?_; refine T_cons ?_; refine T_If ?_; refine T_isTrue_Compare (by walk_at "u") ?_; refine T_local (.there (.there (.there .here))) ?_; refine T_Attr (by walk_at "u") ?_; refine T_local .here ?_)
              refine T_getown (by walk_at "mem") (by walk_at "mem") (hK ▸ own_whitespace _) (md_whitespace ..) rfl ?_
              refine T_in_ch ?_
              (refine T_truthy_bool ?_)
              rw [S_cps]
              refine If2.dec (fun hq => ?_) fun hq => ?_
              · (refine T_cons ?_; refine T_Return ?_; refine T_local (.there .here) ?_; refine K_ret ?_; refine K_ret ?_; refine L_ret ?_; refine K_ret ?_; refine K_ret ?_; refine L_ret ?_; refine K_ret ?_)
                exact gt_end (garb := [_, _]) (by rw [← hres', w_w (decide_eq_true hq)]) h hlin2
              · have hq' : wsB d = false := decide_eq_false hq
                (refine T_cons ?_; refine T_If ?_; refine T_isTrue_Compare (by walk_at "u") ?_; refine T_local (.there (.there (.there .here))) ?_; refine T_str ?_; intro _; refine T_eqs ?_; refine T_truthy_bool ?_)
                rw [lit92]
                refine If2.dec (fun hb => ?_) fun hb => ?_
                · have hb' : d = 92 := one_inj hb
                  (refine T_cons ?_; refine T_Assign (by walk_at "u") ?_; refine T_CallM (by walk_at "u") ?_; refine T_local .here ?_)
                  refine T_method (by walk_at "mem") (by walk_at "mem") (hK ▸ meth_read_char _) (md_read_char ..) ?_
                  (refine M_mk ?_; refine T_k0 (by rw [hK]; k_is) ?_)
                  cases h with
                  | nil =>
                    refine T_read_no hK (by decide) fun u' => ?_
                    (refine T_store (.there (.there (.there .here))) ?_; refine K_next ?_; refine T_nil ?_; refine K_next ?_; refine T_nil ?_; refine K_next ?_; refine T_cons ?_; refine T_Aug ?_; refine T_loadName (.there .here) ?_; refine T_local (.there (.there (.there .here))) ?_)
                    refine T_iadds (line20 (by rw [len_app, S_len]; simp only [List.length_nil]; exact Mine.om_79 _ _ htk)) ?_
                    (intro _; refine T_store (.there .here) ?_; refine K_next ?_; refine T_nil ?_; refine L_next ?_)
                    exact ih _ hlt _ _ _ _ _ .nil (by decide) hlin2 _ _ _ (by rw [← hres', hb', w_e0, app_nil]; rfl) (by rw [app_nil]; exact Mine.om_80 _ _ _ _ htk hM hlt) rfl
                  | cons h =>
                    rename_i d' u' r cs
                    simp only [List.length_cons] at hl'' htk hlt hM
                    refine T_read_sign hK (by decide) h (by exact Mine.om_70 _ hl'') fun n3 t3 hn3 => ?_
                    have hlin3 := line_step hlin2 hn3
                    have htk3 : (tk ++ S [d']).length + r.length ≤ 1000001 := by rw [len_app, S_len]; simp only [List.length_cons, List.length_nil]; exact Mine.om_81 _ _ htk
                    (refine T_store (.there (.there (.there .here))) ?_; refine K_next ?_; refine T_nil ?_; refine K_next ?_; refine T_nil ?_; refine K_next ?_; refine T_cons ?_; refine T_Aug ?_; refine T_loadName (.there .here) ?_; refine T_local (.there (.there (.there .here))) ?_)
                    refine T_iadds (line20 (by exact Mine.om_82 _ _ htk3)) ?_
                    (intro _; refine T_store (.there .here) ?_; refine K_next ?_; refine T_nil ?_; refine L_next ?_)
                    exact ih r.length (by exact Mine.om_76 _ _ hM) _ _ _ _ _ h (by exact Mine.om_70 _ hl'') hlin3 _ _ _ (by rw [← hres', hb', w_e]) htk3 rfl
                · (refine T_nil ?_; refine K_next ?_; refine T_nil ?_; refine K_next ?_; refine T_cons ?_; refine T_Aug ?_; refine T_loadName (.there .here) ?_; refine T_local (.there (.there (.there .here))) ?_)
                  refine T_iadds (line20 (by exact Mine.om_82 _ _ htk')) ?_
                  (intro _; refine T_store (.there .here) ?_; refine K_next ?_; refine T_nil ?_; refine L_next ?_)
                  exact ih _ hlt _ _ _ _ _ h hl'' hlin2 _ _ _ (by rw [← hres', w_c hq' (fun q => hb (by rw [q]))]) htk' rfl
/-- get_token, a word lies pushed back -/
theorem get_token_pb (G : Gr) (hK : G.K = Mine.hd.heap_39 G.w.params) (mc : Mc G) (n : Int) (t : Tok) (items : List Value) (e : Nat) (x : Value) (pbs : List Value) (pe : Nat) (hl : pbs.length ≤ 1000000) :
    Sp G 6 (mled mc n t items e (x :: pbs) pe []) (.ref 49) [.ref mc.m] [] fun v post => v = x ∧ post = mled mc n t items e pbs (pe + 1) [] := by
  refine enter (N := [Str.ofString "self", Str.ofString "token", Str.ofString "fiter", Str.ofString "ch"]) (Gs := [(Str.ofString "iter", .builtin "iter")]) (binds := [(Str.ofString "self", .ref mc.m)]) (vals := [some (.ref mc.m), none, none, none]) (ho := by rw [hK]; k_is) (hcd := by rw [hK]; k_is) (hbind := fun s X => BindsTo.of_eq rfl) [Str.ofString "token", Str.ofString "fiter", Str.ofString "ch"] (hN := rfl) (hv := rfl) (hnd := by decide) (hloc := by decide +kernel) (hglb := fun p hp => by cases hp with | head => exact ⟨by decide +kernel, by decide, glb_iter G hK⟩ | tail _ h => nomatch h) (hcell := by decide +kernel) (hco := rfl) (hgen := rfl) (hk := rfl) ?_
  intro fm rest
  show T fm 5 _ (mled mc n t items e (x :: pbs) pe rest) _ _
  (refine T_cons ?_; refine T_If ?_; refine T_isTrue_val (by walk_at "u") ?_; refine T_Attr (by walk_at "u") ?_; refine T_local .here ?_)
  refine T_getown (by walk_at "mem") (by walk_at "mem") (hK ▸ own_pushback _) (md_pushback ..) rfl ?_
  refine T_truthy_list (by walk_at "mem") (line20 (by simp; exact Mine.om_83 _ hl)) ?_
  refine If2.pos (by simp) ?_
  (refine T_cons ?_; refine T_Return ?_; refine T_CallM (by walk_at "u") ?_; refine T_Attr (by walk_at "u") ?_; refine T_local .here ?_)
  refine T_getown (by walk_at "mem") (by walk_at "mem") (hK ▸ own_pushback _) (md_pushback ..) rfl ?_
  (refine T_meth_list PySem.F.slot_list_pop PySem.F.type_list_pop (by walk_at "mem") ?_; refine M_mk ?_; refine T_b2 (by walk_at "u") (by walk_at "u") ?_; refine T_args_cons (by walk_at "u") ?_; refine T_int ?_; intro _; refine T_args_nil ?_)
  refine T_pop0 rfl (by walk_at "upd") (line20 (by simp; exact Mine.om_83 _ hl)) ?_
  (refine K_ret ?_; refine K_ret ?_)
  exact ⟨mled mc n t items e pbs (pe + 1) [], by walk_at "sbl2", rfl, rfl⟩
theorem md_push_token {G} (mc : Mc G) (n t) : getL (Str.ofString "push_token") (mc.md n t) = some none := rfl
theorem meth_push_token (w) : MethA (Mine.hd.heap_39 w) 59 (Str.ofString "push_token") 56 := ⟨by k_is, by k_is, by k_is, by k_is, by k_is, by k_is, by decide +kernel⟩
theorem push_token_spec (G : Gr) (hK : G.K = Mine.hd.heap_39 G.w.params) (mc : Mc G) (n : Int) (t : Tok) (items : List Value) (e : Nat) (x : Value) (pbs : List Value) (pe : Nat) (hl : pbs.length ≤ 1000000) :
    Sp G 1 (mled mc n t items e pbs pe []) (.ref 56) [.ref mc.m, x] [] fun v post => v = .none ∧ post = mled mc n t items e (pbs ++ [x]) (pe + 1) [] := by
  refine enter (N := [Str.ofString "self", Str.ofString "token"]) (Gs := []) (binds := [(Str.ofString "self", .ref mc.m), (Str.ofString "token", x)]) (vals := [some (.ref mc.m), some x]) (ho := by rw [hK]; k_is) (hcd := by rw [hK]; k_is) (hbind := fun s X => BindsTo.of_eq rfl) [] (hN := rfl) (hv := rfl) (hnd := by decide) (hloc := by decide +kernel) (hglb := fun p hp => nomatch hp) (hcell := by decide +kernel) (hco := rfl) (hgen := rfl) (hk := rfl) ?_
  intro fm rest
  show T fm 0 _ (mled mc n t items e pbs pe rest) _ _
  (refine T_cons ?_; refine T_Expr (by walk_at "u") ?_; refine T_CallM (by walk_at "u") ?_; refine T_Attr (by walk_at "u") ?_; refine T_local .here ?_)
  refine T_getown (by walk_at "mem") (by walk_at "mem") (hK ▸ own_pushback _) (md_pushback ..) rfl ?_
  (refine T_meth_list PySem.F.slot_list_append PySem.F.type_list_append (by walk_at "mem") ?_; refine M_mk ?_; refine T_b2 (by walk_at "u") (by walk_at "u") ?_; refine T_args_cons (by walk_at "u") ?_; refine T_local (.there .here) ?_; refine T_args_nil ?_)
  refine T_appendL (by walk_at "upd") (line20 (by exact Mine.om_84 _ hl)) ?_
  (refine K_next ?_; refine T_nil ?_)
  exact ⟨mled mc n t items e (pbs ++ [x]) (pe + 1) [], by walk_at "sbl2", rfl, rfl⟩

/-- _netrclex.__init__ -/
theorem init_spec (G : Gr) (hK : G.K = Mine.hd.heap_39 G.w.params) (x dx : Addr) (fp : Value) :
    Sp G 1 [(x, instObj C1 dx), (dx, dictOf [] 0)] (.ref 35) [.ref x, fp] [] fun v post =>
      v = .none ∧ ∃ t1 t2 t3 t4 t tw pb, post = [(pb, listOf #[] 0), (x, instObj C1 dx), (dx, dictOf (md4 G.w t1 t2 t3 t4 1 t fp tw pb) 4)] := by
  refine enter (N := [Str.ofString "self", Str.ofString "fp"]) (Gs := []) (binds := [(Str.ofString "self", .ref x), (Str.ofString "fp", fp)]) (vals := [some (.ref x), some fp]) (ho := by rw [hK]; k_is) (hcd := by rw [hK]; k_is) (hbind := fun s X => BindsTo.of_eq rfl) [] (hN := rfl) (hv := rfl) (hnd := by decide) (hloc := by decide +kernel) (hglb := fun p hp => nomatch hp) (hcell := by decide +kernel) (hco := rfl) (hgen := rfl) (hk := rfl) ?_
  intro fm rest
  show T fm 0 _ ((x, instObj C1 dx) :: (dx, dictOf [] 0) :: rest) _ _
  (refine T_cons ?_; refine T_AssignA (by walk_at "u") ?_; refine T_int ?_; intro _; refine T_local .here ?_)
  rename_i t
  refine T_setattr (es' := fun t1 => [⟨kh G.w (Str.ofString "lineno"), .str (Str.ofString "lineno") t1, .int 1 t⟩]) (n' := 1) (by walk_at "mem") (hK ▸ set_lineno _) rfl (fun _ => rfl) (by walk_at "upd") (fun _ => Nat.le_of_ble_eq_true rfl) ?_
  intro t1
  (refine K_next ?_; refine T_cons ?_; refine T_AssignA (by walk_at "u") ?_; refine T_local (.there .here) ?_; refine T_local .here ?_)
  refine T_setattr (es' := fun t2 => [⟨kh G.w (Str.ofString "lineno"), .str (Str.ofString "lineno") t1, .int 1 t⟩, ⟨kh G.w (Str.ofString "instream"), .str (Str.ofString "instream") t2, fp⟩]) (n' := 2) (by walk_at "mem") (hK ▸ set_instream _) rfl (fun _ => rfl) (by walk_at "upd") (fun _ => Nat.le_of_ble_eq_true rfl) ?_
  intro t2
  (refine K_next ?_; refine T_cons ?_; refine T_AssignA (by walk_at "u") ?_; refine T_str ?_; intro _; refine T_local .here ?_)
  rename_i tw
  rw [show Str.ofString "\n\t\x0d " = S [10, 9, 13, 32] by decide +kernel]
  refine T_setattr (es' := fun t3 => [⟨kh G.w (Str.ofString "lineno"), .str (Str.ofString "lineno") t1, .int 1 t⟩, ⟨kh G.w (Str.ofString "instream"), .str (Str.ofString "instream") t2, fp⟩,
    ⟨kh G.w (Str.ofString "whitespace"), .str (Str.ofString "whitespace") t3, .str (S [10, 9, 13, 32]) tw⟩]) (n' := 3) (by walk_at "mem") (hK ▸ set_whitespace _) rfl (fun _ => rfl) (by walk_at "upd") (fun _ => Nat.le_of_ble_eq_true rfl) ?_
  intro t3
  (refine K_next ?_; refine T_cons ?_; refine T_AssignA (by walk_at "u") ?_; refine T_List ?_; refine T_args_nil ?_)
  refine T_newList ?_
  intro pb
  (refine T_local .here ?_)
  refine T_setattr (es' := fun t4 => md4 G.w t1 t2 t3 t4 1 t fp tw pb) (n' := 4) (by walk_at "mem") (hK ▸ set_pushback _) rfl (fun _ => rfl) (by walk_at "upd") (fun _ => Nat.le_of_ble_eq_true rfl) ?_
  intro t4
  (refine K_next ?_; refine T_nil ?_)
  exact ⟨[(pb, listOf #[] 0), (x, instObj C1 dx), (dx, dictOf (md4 G.w t1 t2 t3 t4 1 t fp tw pb) 4)], Sbl.refl, rfl, t1, t2, t3, t4, t, tw, pb, rfl⟩

theorem loc_none : ∀ (N : List Str) (y : Str), Loc N (N.map fun _ => none) y = none
  | [], _ => rfl
  | z :: N, y => by
    have ih := loc_none N y
    simp only [Loc, List.map_cons, List.zip_cons_cons, List.lookup] at ih ⊢
    split
    · rfl
    · exact ih
noncomputable def lamQ : Str := Str.ofString "_law_machine" ++ (".<locals>." : Str) ++ ("<lambda>" : Str)
/-- the table of _law_machine's code behind its first call -/
noncomputable def TabOk (ps : Array Value) (cc : Addr) (occ : Obj) : Prop := ps = #[rawInt 94, rawInt 18, .ref cc] ∧ CodeO occ lamQ
theorem mk_machine {G : Gr} {m dm st ds fn cc cl sg pb : Addr} {t t1 t2 t3 t4 tw : Tok} {se : List DictEntry} {sn : Nat} {lam occ ocl : Obj} {fd : FuncData} {x2 : Addr × Obj} {ps : Array Value} {items : List Value} {e : Nat} {rest : Led}
    (htab : TabOk ps cc occ) (hfd : lam.data = .func fd) (read : getL (Str.ofString "read") se = some (some (.ref fn)))
    (rd : ∀ (items : List Value) (e : Nat) (t : Tok), items.length ≤ 1048576 → Sp G 2 [(fn, lam), (cc, occ), (cl, ocl), (sg, listOf items.toArray e)] (.ref fn) [.int 1 t] [] fun v post =>
      match items with
      | [] => (∃ t, v = .str (S []) t) ∧ post = [(fn, lam), (cc, occ), (cl, ocl), (sg, listOf #[] e)]
      | x :: r => v = x ∧ post = [(fn, lam), (cc, occ), (cl, ocl), (sg, listOf r.toArray (e + 1))]) :
    ∃ post, Sbl (post ++ rest) ([(pb, listOf #[] 0), (m, instObj C1 dm), (dm, dictOf (md4 G.w t1 t2 t3 t4 1 t (.ref st) tw pb) 4)] ++ (fn, lam) :: (cc, occ) :: x2 :: (st, instObj C1 ds) :: (ds, dictOf se sn) :: (cl, ocl) :: (95, tabObj ps) :: (sg, listOf items.toArray e) :: rest) ∧
      ∃ (mc : Mc G) (t : Tok) (ps : Array Value), mc.sg = sg ∧ TabOk ps mc.cc mc.occ ∧ flowV (.ret (.ref m)) = .ref mc.m ∧ post = mled mc 1 t items e [] 0 [(95, tabObj ps)] := by
  let mc : Mc G := { m := m, dm := dm, st := st, ds := ds, fn := fn, cc := cc, cl := cl, sg := sg, pb := pb, t1 := t1, t2 := t2, t3 := t3, t4 := t4, tw := tw, se := se, sn := sn, lam := lam, occ := occ, ocl := ocl, fd := fd, hfd := hfd, read := read, rd := rd }
  refine ⟨mled mc 1 t items e [] 0 [(95, tabObj ps)], ?_, mc, t, ps, rfl, htab, rfl, rfl⟩
  show Sbl ((m, instObj C1 dm) :: (dm, dictOf (md4 G.w t1 t2 t3 t4 1 t (.ref st) tw pb) 4) :: (st, instObj C1 ds) :: (ds, dictOf se sn) :: (fn, lam) :: (cc, occ) :: (cl, ocl) :: (sg, listOf items.toArray e) :: (pb, listOf #[] 0) :: (95, tabObj ps) :: rest)
    ((pb, listOf #[] 0) :: (m, instObj C1 dm) :: (dm, dictOf (md4 G.w t1 t2 t3 t4 1 t (.ref st) tw pb) 4) :: (fn, lam) :: (cc, occ) :: x2 :: (st, instObj C1 ds) :: (ds, dictOf se sn) :: (cl, ocl) :: (95, tabObj ps) :: (sg, listOf items.toArray e) :: rest)
  walk_at "sbl"
theorem mk_machine2 {G : Gr} {m dm st ds fn cc cl sg pb : Addr} {t t1 t2 t3 t4 tw : Tok} {se : List DictEntry} {sn : Nat} {lam occ ocl : Obj} {fd : FuncData} {x2 : Addr × Obj} {ps : Array Value} {items : List Value} {e : Nat} {rest : Led}
    (htab : TabOk ps cc occ) (hfd : lam.data = .func fd) (read : getL (Str.ofString "read") se = some (some (.ref fn)))
    (rd : ∀ (items : List Value) (e : Nat) (t : Tok), items.length ≤ 1048576 → Sp G 2 [(fn, lam), (cc, occ), (cl, ocl), (sg, listOf items.toArray e)] (.ref fn) [.int 1 t] [] fun v post =>
      match items with
      | [] => (∃ t, v = .str (S []) t) ∧ post = [(fn, lam), (cc, occ), (cl, ocl), (sg, listOf #[] e)]
      | x :: r => v = x ∧ post = [(fn, lam), (cc, occ), (cl, ocl), (sg, listOf r.toArray (e + 1))]) :
    ∃ post, Sbl (post ++ rest) ([(pb, listOf #[] 0), (m, instObj C1 dm), (dm, dictOf (md4 G.w t1 t2 t3 t4 1 t (.ref st) tw pb) 4)] ++ (fn, lam) :: x2 :: (st, instObj C1 ds) :: (ds, dictOf se sn) :: (cl, ocl) :: (95, tabObj ps) :: (cc, occ) :: (sg, listOf items.toArray e) :: rest) ∧
      ∃ (mc : Mc G) (t : Tok), mc.sg = sg ∧ mc.cc = cc ∧ mc.occ = occ ∧ flowV (.ret (.ref m)) = .ref mc.m ∧ post = mled mc 1 t items e [] 0 [(95, tabObj ps)] := by
  let mc : Mc G := { m := m, dm := dm, st := st, ds := ds, fn := fn, cc := cc, cl := cl, sg := sg, pb := pb, t1 := t1, t2 := t2, t3 := t3, t4 := t4, tw := tw, se := se, sn := sn, lam := lam, occ := occ, ocl := ocl, fd := fd, hfd := hfd, read := read, rd := rd }
  refine ⟨mled mc 1 t items e [] 0 [(95, tabObj ps)], ?_, mc, t, rfl, rfl, rfl, rfl, rfl⟩
  show Sbl ((m, instObj C1 dm) :: (dm, dictOf (md4 G.w t1 t2 t3 t4 1 t (.ref st) tw pb) 4) :: (st, instObj C1 ds) :: (ds, dictOf se sn) :: (fn, lam) :: (cc, occ) :: (cl, ocl) :: (sg, listOf items.toArray e) :: (pb, listOf #[] 0) :: (95, tabObj ps) :: rest)
    ((pb, listOf #[] 0) :: (m, instObj C1 dm) :: (dm, dictOf (md4 G.w t1 t2 t3 t4 1 t (.ref st) tw pb) 4) :: (fn, lam) :: x2 :: (st, instObj C1 ds) :: (ds, dictOf se sn) :: (cl, ocl) :: (95, tabObj ps) :: (cc, occ) :: (sg, listOf items.toArray e) :: rest)
  walk_at "sbl"
/-- _law_machine, the first time -/
theorem machine_spec (G : Gr) (hK : G.K = Mine.hd.heap_39 G.w.params) (hC : CodeHd G.base 99 95) (hn : Glb G (Str.ofString "_netrclex") (.ref 59)) (sg : Addr) (items : List Value) (e : Nat) :
    Sp G 4 [(95, tabObj #[]), (sg, listOf items.toArray e)] (.ref 100) [.ref sg] [] fun v post => ∃ (mc : Mc G) (t : Tok) (ps : Array Value), mc.sg = sg ∧ TabOk ps mc.cc mc.occ ∧ v = .ref mc.m ∧ post = mled mc 1 t items e [] 0 [(95, tabObj ps)] := by
  refine enterC (N := [Str.ofString "stream"]) (Gs := [(Str.ofString "_netrclex", .ref 59)]) (binds := [(Str.ofString "signs", .ref sg)]) (vals := [none]) (x := Str.ofString "signs") (cv := some (.ref sg)) (ho := by rw [hK]; k_is) (hcd := by rw [hK]; k_is) (hbind := fun s X => BindsTo.of_eq rfl) rfl (hL := fun y => ?_) rfl (fun _ => rfl) rfl rfl (hnd := by decide) (hloc := by decide +kernel) (hglb := fun p hp => by cases hp with | head => exact ⟨by decide +kernel, by decide, hn⟩ | tail _ h => nomatch h) (hco := rfl) (hgen := rfl) (hk := rfl) ?_
  · exact (loc_none _ y).symm
  intro L o fm rest ho hE
  have hX : fm.env = envX (Str.ofString "_law_machine") fm.env.scope fm.env.locals 100 (.ref 99) [(Str.ofString "signs", L + 1)] := by rw [hE]; rfl
  have hcl : ∀ n p, closureFor { kind := .function, names := [(n, .local), (Str.ofString "signs", .free)], isGenerator := false, isCoroutine := false, more := p } fm.env = pure [(Str.ofString "signs", L + 1)] := by rw [hE]; intro n p; rfl
  have hq : fm.env.qual ++ ("<lambda>" : Str) = lamQ := by rw [hE]; rfl
  generalize hc : L + 1 = c at fm ho hX hcl hq ⊢
  clear hE
  show T fm 3 _ ((c, o) :: (95, tabObj #[]) :: (sg, listOf items.toArray e) :: rest) _ _
  (refine T_cons ?_; refine T_Assign (by walk_at "u") ?_; refine T_CallN ?_; refine T_glob List.mem_cons_self ?_; refine T_k1 (by rw [hK]; k_is) (by walk_at "u") (by walk_at "u") ?_; refine T_args_cons (by walk_at "u") ?_; refine T_none ?_; refine T_args_nil ?_)
  refine T_new (by rw [hK]; k_is) (by rw [hK]; k_is) (by rw [hK]; k_is) (fun x dx => init_spec G hK x dx .none) (by decide) ?_
  rintro st ds v post ⟨rfl, u1, u2, u3, u4, u, uw, pb2, rfl⟩
  refine ⟨rfl, ?_⟩
  show T fm 3 _ ((pb2, listOf #[] 0) :: (st, instObj C1 ds) :: (ds, dictOf (md4 G.w u1 u2 u3 u4 1 u .none uw pb2) 4) :: (c, o) :: (95, tabObj #[]) :: (sg, listOf items.toArray e) :: rest) _ _
  (refine T_store .here ?_; refine K_next ?_; refine T_cons ?_; refine T_AssignA (by walk_at "u") ?_)
  refine T_lambda (ps := #[]) hX rfl hC (by walk_at "upd") (show TriplesOk [] from trivial) rfl (clos := [(Str.ofString "signs", c)]) (hcl _ _) ?_
  intro fn cc occ ctv hocc
  (refine T_local .here ?_)
  refine T_setattr (es' := fun t5 => md4 G.w u1 u2 u3 u4 1 u .none uw pb2 ++ [⟨kh G.w (Str.ofString "read"), .str (Str.ofString "read") t5, .ref fn⟩]) (n' := 5) (by walk_at "mem") (hK ▸ set_read _) rfl (fun _ => rfl) (by walk_at "upd") (fun _ => Nat.le_of_ble_eq_true rfl) ?_
  intro t5
  (refine K_next ?_; refine T_cons ?_; refine T_Return ?_; refine T_CallN ?_; refine T_glob List.mem_cons_self ?_; refine T_k1 (by rw [hK]; k_is) (by walk_at "u") (by walk_at "u") ?_; refine T_args_cons (by walk_at "u") ?_; refine T_local .here ?_; refine T_args_nil ?_)
  refine T_new (by rw [hK]; k_is) (by rw [hK]; k_is) (by rw [hK]; k_is) (fun x dx => init_spec G hK x dx (.ref st)) (by decide) ?_
  rintro m dm v post ⟨rfl, t1, t2, t3, t4, t, tw, pb, rfl⟩
  refine ⟨rfl, ?_⟩
  refine K_ret ?_
  refine mk_machine ⟨rfl, hq ▸ hocc⟩ rfl rfl ?_
  clear hcl
  intro items e t hl
  refine enterL (N := [Str.ofString "size"]) (Gs := []) (binds := [(Str.ofString "size", .int 1 t)]) (vals := [some (.int 1 t)]) (ho := by walk_at "mem") (hoc := by walk_at "mem") hocc rfl [] (hN := rfl) (hv := rfl) (hnd := by decide) (hloc := by decide +kernel) (hglb := fun p hp => nomatch hp) (hcell := by decide +kernel) (hco := rfl) (hgen := rfl) (hk := rfl) ?_
  intro fm' rest' hsc
  simp only [List.cons_append, List.nil_append]
  (refine T_IfExp ?_; refine T_isTrue_val (by walk_at "u") ?_)
  refine T_free (by rw [hsc]; rfl) (by decide) (by decide) rfl (by walk_at "mem") ho ?_
  refine T_truthy_list (by walk_at "mem") (line20 (by simpa using hl)) ?_
  cases items with
  | nil =>
    refine If2.neg rfl ?_
    (refine T_str ?_; intro _)
    rename_i tv
    exact ⟨[_, _, _, _], Sbl.refl, ⟨tv, by rw [show Str.ofString "" = S [] by decide +kernel]⟩, rfl⟩
  | cons x r =>
    refine If2.pos (by simp) ?_
    (refine T_CallM (by walk_at "u") ?_)
    refine T_free (by rw [hsc]; rfl) (by decide) (by decide) rfl (by walk_at "mem") ho ?_
    refine T_meth_list PySem.F.slot_list_pop PySem.F.type_list_pop (by walk_at "mem") ?_
    (refine M_mk ?_; refine T_b2 (by walk_at "u") (by walk_at "u") ?_; refine T_args_cons (by walk_at "u") ?_; refine T_int ?_; intro _; refine T_args_nil ?_)
    refine T_pop0 rfl (by walk_at "upd") (line20 (by simpa using hl)) ?_
    exact ⟨[_, _, _, _], Sbl.refl, rfl, rfl⟩
/-- _law_machine, once more -/
theorem machine_spec2 (G : Gr) (hK : G.K = Mine.hd.heap_39 G.w.params) (hC : CodeHd G.base 99 95) (hn : Glb G (Str.ofString "_netrclex") (.ref 59)) (ps : Array Value) (cc : Addr) (occ : Obj) (htab : TabOk ps cc occ) (sg : Addr) (items : List Value) (e : Nat) :
    Sp G 4 [(95, tabObj ps), (cc, occ), (sg, listOf items.toArray e)] (.ref 100) [.ref sg] [] fun v post => ∃ (mc : Mc G) (t : Tok), mc.sg = sg ∧ mc.cc = cc ∧ mc.occ = occ ∧ v = .ref mc.m ∧ post = mled mc 1 t items e [] 0 [(95, tabObj ps)] := by
  refine enterC (N := [Str.ofString "stream"]) (Gs := [(Str.ofString "_netrclex", .ref 59)]) (binds := [(Str.ofString "signs", .ref sg)]) (vals := [none]) (x := Str.ofString "signs") (cv := some (.ref sg)) (ho := by rw [hK]; k_is) (hcd := by rw [hK]; k_is) (hbind := fun s X => BindsTo.of_eq rfl) rfl (hL := fun y => ?_) rfl (fun _ => rfl) rfl rfl (hnd := by decide) (hloc := by decide +kernel) (hglb := fun p hp => by cases hp with | head => exact ⟨by decide +kernel, by decide, hn⟩ | tail _ h => nomatch h) (hco := rfl) (hgen := rfl) (hk := rfl) ?_
  · exact (loc_none _ y).symm
  intro L o fm rest ho hE
  have hX : fm.env = envX (Str.ofString "_law_machine") fm.env.scope fm.env.locals 100 (.ref 99) [(Str.ofString "signs", L + 1)] := by rw [hE]; rfl
  have hcl : ∀ n p, closureFor { kind := .function, names := [(n, .local), (Str.ofString "signs", .free)], isGenerator := false, isCoroutine := false, more := p } fm.env = pure [(Str.ofString "signs", L + 1)] := by rw [hE]; intro n p; rfl
  have hq : fm.env.qual ++ ("<lambda>" : Str) = lamQ := by rw [hE]; rfl
  generalize hc : L + 1 = c at fm ho hX hcl hq ⊢
  clear hE
  show T fm 3 _ ((c, o) :: (95, tabObj ps) :: (cc, occ) :: (sg, listOf items.toArray e) :: rest) _ _
  (refine T_cons ?_; refine T_Assign (by walk_at "u") ?_; refine T_CallN ?_; refine T_glob List.mem_cons_self ?_; refine T_k1 (by rw [hK]; k_is) (by walk_at "u") (by walk_at "u") ?_; refine T_args_cons (by walk_at "u") ?_; refine T_none ?_; refine T_args_nil ?_)
  refine T_new (by rw [hK]; k_is) (by rw [hK]; k_is) (by rw [hK]; k_is) (fun x dx => init_spec G hK x dx .none) (by decide) ?_
  rintro st ds v post ⟨rfl, u1, u2, u3, u4, u, uw, pb2, rfl⟩
  refine ⟨rfl, ?_⟩
  show T fm 3 _ ((pb2, listOf #[] 0) :: (st, instObj C1 ds) :: (ds, dictOf (md4 G.w u1 u2 u3 u4 1 u .none uw pb2) 4) :: (c, o) :: (95, tabObj ps) :: (cc, occ) :: (sg, listOf items.toArray e) :: rest) _ _
  (refine T_store .here ?_; refine K_next ?_; refine T_cons ?_; refine T_AssignA (by walk_at "u") ?_)
  refine T_lambdaHit (ps := ps) (c' := cc) hX rfl hC (by walk_at "mem") (by rw [htab.1]; exact trivial) (by rw [htab.1]; rfl) (clos := [(Str.ofString "signs", c)]) (hcl _ _) ?_
  intro fn ctv
  have hocc : CodeO occ (fm.env.qual ++ ("<lambda>" : Str)) := hq ▸ htab.2
  (refine T_local .here ?_)
  refine T_setattr (es' := fun t5 => md4 G.w u1 u2 u3 u4 1 u .none uw pb2 ++ [⟨kh G.w (Str.ofString "read"), .str (Str.ofString "read") t5, .ref fn⟩]) (n' := 5) (by walk_at "mem") (hK ▸ set_read _) rfl (fun _ => rfl) (by walk_at "upd") (fun _ => Nat.le_of_ble_eq_true rfl) ?_
  intro t5
  (refine K_next ?_; refine T_cons ?_; refine T_Return ?_; refine T_CallN ?_; refine T_glob List.mem_cons_self ?_; refine T_k1 (by rw [hK]; k_is) (by walk_at "u") (by walk_at "u") ?_; refine T_args_cons (by walk_at "u") ?_; refine T_local .here ?_; refine T_args_nil ?_)
  refine T_new (by rw [hK]; k_is) (by rw [hK]; k_is) (by rw [hK]; k_is) (fun x dx => init_spec G hK x dx (.ref st)) (by decide) ?_
  rintro m dm v post ⟨rfl, t1, t2, t3, t4, t, tw, pb, rfl⟩
  refine ⟨rfl, ?_⟩
  refine K_ret ?_
  refine mk_machine2 htab rfl rfl ?_
  clear hcl
  intro items e t hl
  refine enterL (N := [Str.ofString "size"]) (Gs := []) (binds := [(Str.ofString "size", .int 1 t)]) (vals := [some (.int 1 t)]) (ho := by walk_at "mem") (hoc := by walk_at "mem") hocc rfl [] (hN := rfl) (hv := rfl) (hnd := by decide) (hloc := by decide +kernel) (hglb := fun p hp => nomatch hp) (hcell := by decide +kernel) (hco := rfl) (hgen := rfl) (hk := rfl) ?_
  intro fm' rest' hsc
  simp only [List.cons_append, List.nil_append]
  (refine T_IfExp ?_; refine T_isTrue_val (by walk_at "u") ?_)
  refine T_free (by rw [hsc]; rfl) (by decide) (by decide) rfl (by walk_at "mem") ho ?_
  refine T_truthy_list (by walk_at "mem") (line20 (by simpa using hl)) ?_
  cases items with
  | nil =>
    refine If2.neg rfl ?_
    (refine T_str ?_; intro _)
    rename_i tv
    exact ⟨[_, _, _, _], Sbl.refl, ⟨tv, by rw [show Str.ofString "" = S [] by decide +kernel]⟩, rfl⟩
  | cons x r =>
    refine If2.pos (by simp) ?_
    (refine T_CallM (by walk_at "u") ?_)
    refine T_free (by rw [hsc]; rfl) (by decide) (by decide) rfl (by walk_at "mem") ho ?_
    refine T_meth_list PySem.F.slot_list_pop PySem.F.type_list_pop (by walk_at "mem") ?_
    (refine M_mk ?_; refine T_b2 (by walk_at "u") (by walk_at "u") ?_; refine T_args_cons (by walk_at "u") ?_; refine T_int ?_; intro _; refine T_args_nil ?_)
    refine T_pop0 rfl (by walk_at "upd") (line20 (by simpa using hl)) ?_
    exact ⟨[_, _, _, _], Sbl.refl, rfl, rfl⟩

/-! base 64 -/
noncomputable def b64L : List Nat := (List.range 26).map (65 + ·) ++ (List.range 26).map (97 + ·) ++ (List.range 10).map (48 + ·) ++ [43, 47]
noncomputable def b64A : Array UInt8 := (b64L.map Nat.toUInt8).toArray
theorem glb_B64 (G : Gr) (hK : G.K = Mine.hd.heap_39 G.w.params) : Glb G (Str.ofString "_B64") (.bytes b64A 272) := .inl (by rw [hK]; k_is)
theorem glb_type (G : Gr) (hK : G.K = Mine.hd.heap_39 G.w.params) : Glb G (Str.ofString "type") (.type "type") := .inr ⟨by rw [hK]; k_is, by boot_by_name, by decide⟩
theorem glb_bytes (G : Gr) (hK : G.K = Mine.hd.heap_39 G.w.params) : Glb G (Str.ofString "bytes") (.type "bytes") := .inr ⟨by rw [hK]; k_is, by boot_by_name, by decide⟩
theorem glb_bool (G : Gr) (hK : G.K = Mine.hd.heap_39 G.w.params) : Glb G (Str.ofString "bool") (.type "bool") := .inr ⟨by rw [hK]; k_is, by boot_by_name, by decide⟩
theorem glb_len (G : Gr) (hK : G.K = Mine.hd.heap_39 G.w.params) : Glb G (Str.ofString "len") (.builtin "len") := .inr ⟨by rw [hK]; k_is, by boot_by_name, by decide⟩
theorem glb_buffer (G : Gr) (hK : G.K = Mine.hd.heap_39 G.w.params) : Glb G (Str.ofString "_buffer") (.ref 70) := .inl (by rw [hK]; k_is)
theorem glb_truth (G : Gr) (hK : G.K = Mine.hd.heap_39 G.w.params) : Glb G (Str.ofString "_truth") (.ref 77) := .inl (by rw [hK]; k_is)

theorem buffer_spec (G : Gr) (hK : G.K = Mine.hd.heap_39 G.w.params) (b : Array UInt8) (t : Tok) : Sp G 1 [] (.ref 70) [.bytes b t] [] fun v post => v = .bytes b t ∧ post = [] := by
  refine enter (N := [Str.ofString "data", Str.ofString "t"]) (Gs := [(Str.ofString "type", .type "type"), (Str.ofString "bytes", .type "bytes")]) (binds := [(Str.ofString "data", .bytes b t)]) (vals := [some (.bytes b t), none]) (ho := by rw [hK]; k_is) (hcd := by rw [hK]; k_is) (hbind := fun s X => BindsTo.of_eq rfl) [Str.ofString "t"] (hN := rfl) (hv := rfl) (hnd := by decide) (hloc := by decide +kernel)
    (hglb := fun p hp => by
      rcases List.mem_cons.mp hp with rfl | hp
      · exact ⟨by decide +kernel, by decide, glb_type G hK⟩
      rcases List.mem_cons.mp hp with rfl | hp
      · exact ⟨by decide +kernel, by decide, glb_bytes G hK⟩
      cases hp) (hcell := by decide +kernel) (hco := rfl) (hgen := rfl) (hk := rfl) ?_
  intro fm rest
  (refine T_cons ?_; refine T_Assign (by walk_at "u") ?_; refine T_CallN ?_; refine T_glob List.mem_cons_self ?_; refine T_ty1 (by walk_at "u") (by walk_at "u") ?_; refine T_args_cons (by walk_at "u") ?_; refine T_local .here ?_; refine T_args_nil ?_)
  refine T_type (ty := "bytes") (fun s => typeIs_bytes _ _ _) (by decide) ?_
  (refine T_store (.there .here) ?_; refine K_next ?_; refine T_cons ?_; refine T_If ?_; refine T_isTrue_Compare (by walk_at "u") ?_; refine T_local (.there .here) ?_; refine T_glob (List.mem_cons_of_mem _ List.mem_cons_self) ?_; refine T_is (by walk_at "u") ?_; refine T_truthy_bool ?_)
  refine If2.pos (by decide) ?_
  (refine T_cons ?_; refine T_Return ?_; refine T_local .here ?_; refine K_ret ?_; refine K_ret ?_)
  exact ⟨[], Sbl.refl, rfl, rfl⟩

theorem truth_spec (G : Gr) (hK : G.K = Mine.hd.heap_39 G.w.params) (b : Bool) : Sp G 1 [] (.ref 77) [.bool b] [] fun v post => v = .bool b ∧ post = [] := by
  refine enter (N := [Str.ofString "x", Str.ofString "t"]) (Gs := [(Str.ofString "type", .type "type"), (Str.ofString "bool", .type "bool")]) (binds := [(Str.ofString "x", .bool b)]) (vals := [some (.bool b), none]) (ho := by rw [hK]; k_is) (hcd := by rw [hK]; k_is) (hbind := fun s X => BindsTo.of_eq rfl) [Str.ofString "t"] (hN := rfl) (hv := rfl) (hnd := by decide) (hloc := by decide +kernel)
    (hglb := fun p hp => by
      rcases List.mem_cons.mp hp with rfl | hp
      · exact ⟨by decide +kernel, by decide, glb_type G hK⟩
      rcases List.mem_cons.mp hp with rfl | hp
      · exact ⟨by decide +kernel, by decide, glb_bool G hK⟩
      cases hp) (hcell := by decide +kernel) (hco := rfl) (hgen := rfl) (hk := rfl) ?_
  intro fm rest
  (refine T_cons ?_; refine T_Assign (by walk_at "u") ?_; refine T_CallN ?_; refine T_glob List.mem_cons_self ?_; refine T_ty1 (by walk_at "u") (by walk_at "u") ?_; refine T_args_cons (by walk_at "u") ?_; refine T_local .here ?_; refine T_args_nil ?_)
  refine T_type (ty := "bool") (fun s => PySem.typeIs_bool _ _) (by decide) ?_
  (refine T_store (.there .here) ?_; refine K_next ?_; refine T_cons ?_; refine T_If ?_; refine T_isTrue_BoolOp ?_; refine T_or_cons ?_; refine T_isTrue_Compare (by walk_at "u") ?_; refine T_local .here ?_; refine T_none ?_; refine T_is (by walk_at "u") ?_; refine T_truthy_bool ?_)
  refine If2.neg (by cases b <;> rfl) ?_
  (refine T_or_cons ?_; refine T_isTrue_Compare (by walk_at "u") ?_; refine T_local (.there .here) ?_; refine T_glob (List.mem_cons_of_mem _ List.mem_cons_self) ?_; refine T_is (by walk_at "u") ?_; refine T_truthy_bool ?_)
  refine If2.pos (by decide) ?_
  refine If2.t ?_
  (refine T_cons ?_; refine T_Return ?_; refine T_IfExp ?_; refine T_isTrue_val (by walk_at "u") ?_; refine T_local .here ?_; refine T_truthy_bool ?_)
  cases b
  · refine If2.f ?_
    (refine T_bool ?_; refine K_ret ?_; refine K_ret ?_)
    exact ⟨[], Sbl.refl, rfl, rfl⟩
  · refine If2.t ?_
    (refine T_bool ?_; refine K_ret ?_; refine K_ret ?_)
    exact ⟨[], Sbl.refl, rfl, rfl⟩

/-- the figures that lie ready -/
noncomputable def emits : Nat → Nat → Nat → List Nat
  | 0, _, _ => []
  | n + 1, lb, lc => if 6 ≤ lb then lc / 2 ^ (lb - 6) % 64 :: emits n (lb - 6) lc else []
theorem bitOr_nat (a b : Nat) : Builtin.bitOr (a : Int) (b : Int) = ((a ||| b : Nat) : Int) := by
  unfold Builtin.bitOr Builtin.bitAnd Builtin.bitNot
  have h1 : decide ((0 : Int) ≤ -(a : Int) - 1) = false := decide_eq_false (by exact Mine.om_85 _)
  have h2 : decide ((0 : Int) ≤ -(b : Int) - 1) = false := decide_eq_false (by exact Mine.om_85 _)
  rw [h1, h2]
  show -(-(((-(-(a : Int) - 1) - 1).toNat ||| (-(-(b : Int) - 1) - 1).toNat : Nat) : Int) - 1) - 1 = _
  have e1 : (-(-(a : Int) - 1) - 1).toNat = a := by exact Mine.om_86 _
  have e2 : (-(-(b : Int) - 1) - 1).toNat = b := by exact Mine.om_86 _
  rw [e1, e2]; exact Mine.om_87 _
theorem or_shift (a c : Nat) (h : c < 256) : (a * 256 ||| c) = a * 256 + c := by
  have := Nat.two_pow_add_eq_or_of_lt (i := 8) (b := c) (by simpa using h) a
  rw [Nat.mul_comm a 256]
  exact this.symm
theorem fdiv_nat (a n : Nat) : (a : Int).fdiv (2 ^ n) = ((a / 2 ^ n : Nat) : Int) := by
  rw [Int.fdiv_eq_ediv_of_nonneg _ (by exact Int.le_of_lt (kbt_pos n))]
  rw [← kbt_cast]; rfl
/-- the figures of the octets, bits left over and the last two octets at the start -/
noncomputable def enc : List Nat → Nat → Nat → List Nat
  | [], lb, lc => if lb = 2 then [lc % 4 * 16] else if lb = 4 then [lc % 16 * 4] else []
  | b :: r, lb, lc => emits 3 (lb + 8) ((lc * 256 + b) % 65536) ++ enc r ((lb + 2) % 6) ((lc * 256 + b) % 65536)
noncomputable def pads (n : Nat) : List Int := List.replicate ((3 - n % 3) % 3) 61
noncomputable def b64c (f : Nat) : Int := (KBw.bInts b64A).getD f 0
noncomputable def encOut (os : List Nat) : List Int := (enc os 0 0).map b64c ++ pads os.length

theorem b64c_range (f : Nat) : 0 ≤ b64c f ∧ b64c f < 256 := by
  unfold b64c
  by_cases h : f < 64
  · have : ∀ f < 64, 0 ≤ (KBw.bInts b64A).getD f 0 ∧ (KBw.bInts b64A).getD f 0 < 256 := by decide +kernel
    exact this f h
  · rw [List.getD_eq_getElem?_getD, List.getElem?_eq_none (by rw [KBw.ints_length]; show 64 ≤ f; exact Mine.om_88 _ h)]; decide
theorem encOut_range (os : List Nat) : ∀ n ∈ encOut os, 0 ≤ n ∧ n < 256 := by
  intro n hn
  rcases List.mem_append.mp hn with h | h
  · obtain ⟨f, _, rfl⟩ := List.mem_map.mp h; exact b64c_range f
  · rw [(List.mem_replicate.mp h).2]; decide
theorem b2a_spec (G : Gr) (hK : G.K = Mine.hd.heap_39 G.w.params) (b : Array UInt8) (t : Tok) (hb : b.size ≤ 300000) :
    Sp G 4 [] (.ref 85) [.bytes b t] [(Str.ofString "newline", .bool false)] fun v post => (∃ u, v = .bytes (byteArr (encOut (b.toList.map UInt8.toNat))) u) ∧ post = [] := by
  refine enter (N := [Str.ofString "data", Str.ofString "newline", Str.ofString "bin_data", Str.ofString "out", Str.ofString "leftbits", Str.ofString "leftchar", Str.ofString "b"])
    (Gs := [(Str.ofString "_buffer", .ref 70), (Str.ofString "_truth", .ref 77), (Str.ofString "_B64", .bytes b64A 272), (Str.ofString "bytes", .type "bytes")]) (binds := [(Str.ofString "data", .bytes b t), (Str.ofString "newline", .bool false)])
    (vals := [some (.bytes b t), some (.bool false), none, none, none, none, none]) (ho := by rw [hK]; k_is) (hcd := by rw [hK]; k_is) (hbind := fun s X => BindsTo.of_eq rfl) [Str.ofString "bin_data", Str.ofString "out", Str.ofString "leftbits", Str.ofString "leftchar", Str.ofString "b"] (hN := rfl) (hv := rfl) (hnd := by decide) (hloc := by decide +kernel)
    (hglb := fun p hp => by
      rcases List.mem_cons.mp hp with rfl | hp
      · exact ⟨by decide +kernel, by decide, glb_buffer G hK⟩
      rcases List.mem_cons.mp hp with rfl | hp
      · exact ⟨by decide +kernel, by decide, glb_truth G hK⟩
      rcases List.mem_cons.mp hp with rfl | hp
      · exact ⟨by decide +kernel, by decide, glb_B64 G hK⟩
      rcases List.mem_cons.mp hp with rfl | hp
      · exact ⟨by decide +kernel, by decide, glb_bytes G hK⟩
      cases hp) (hcell := by decide +kernel) (hco := rfl) (hgen := rfl) (hk := rfl) ?_
  intro fm rest
  show T fm 3 _ rest _ _
  (refine T_cons ?_; refine T_Assign (by walk_at "u") ?_; refine T_CallN ?_; refine T_glob List.mem_cons_self ?_; refine T_k1 (by rw [hK]; k_is) (by walk_at "u") (by walk_at "u") ?_; refine T_args_cons (by walk_at "u") ?_; refine T_local .here ?_; refine T_args_nil ?_)
  refine T_call (buffer_spec G hK b t) (by decide) .nil ?_
  rintro _ _ ⟨rfl, rfl⟩
  rw [List.nil_append]
  (refine T_store (.there (.there .here)) ?_; refine K_next ?_; refine T_cons ?_; refine T_Assign (by walk_at "u") ?_; refine T_CallN ?_; refine T_glob (List.mem_cons_of_mem _ List.mem_cons_self) ?_; refine T_k1 (by rw [hK]; k_is) (by walk_at "u") (by walk_at "u") ?_; refine T_args_cons (by walk_at "u") ?_; refine T_local (.there .here) ?_; refine T_args_nil ?_)
  refine T_call (truth_spec G hK false) (by decide) .nil ?_
  rintro _ _ ⟨rfl, rfl⟩
  rw [List.nil_append]
  (refine T_store (.there .here) ?_; refine K_next ?_; refine T_cons ?_; refine T_Assign (by walk_at "u") ?_; refine T_List ?_; refine T_args_nil ?_)
  refine T_newList ?_
  intro o
  (refine T_store (.there (.there (.there .here))) ?_; refine K_next ?_; refine T_cons ?_; refine T_Assign (by walk_at "u") ?_; refine T_int ?_; intro _; refine T_store (.there (.there (.there (.there .here)))) ?_; refine K_next ?_; refine T_cons ?_; refine T_Assign (by walk_at "u") ?_; refine T_int ?_; intro _; refine T_store (.there (.there (.there (.there (.there .here))))) ?_; refine K_next ?_; refine T_cons ?_)
  refine T_For (fun _ => rfl) ?_
  (refine T_local (.there (.there .here)) ?_)
  refine T_iter_bytes ?_
  intro it oi hoi
  rename_i t1 t2
  generalize htgt : encOut (b.toList.map UInt8.toNat) = tgt
  refine C_any fun cc P hc hP => ?_
  have key : ∀ (m i : Nat) (oi : Obj) (vs : List Value) (ns : List Int) (e lb lc : Nat) (ta tc : Tok) (bv : Option Value), b.size - i = m → i ≤ b.size → BytesIt oi b t i → IntsAre vs ns → ns.length ≤ 3 * i → lb = 2 * i % 6 → lc < 65536 →
      ns ++ (enc ((b.toList.map UInt8.toNat).drop i) lb lc).map b64c ++ pads b.size = tgt →
      C fm 3 [some (.bytes b t), some (.bool false), some (.bytes b t), some (.ref o), some (.int lb ta), some (.int lc tc), bv] ((it, oi) :: (o, listOf vs.toArray e) :: rest) cc P := by
    subst hc
    subst hP
    intro m
    induction m with
    | zero =>
      intro i oi vs ns e lb lc ta tc bv hm hi hoi hvs hlen hlb hlc henc
      have hi' : i = b.size := by exact Mine.om_89 _ _ hm hi
      have hdrop : (b.toList.map UInt8.toNat).drop i = [] := by rw [hi']; simp
      rw [hdrop] at henc
      have hl20 : vs.length + 10 ≤ 1048576 := by rw [hvs.length]; exact Mine.om_90 _ _ _ hb hlen hi'
      refine C_for (T_end_bytes hoi (by walk_at "pick") (by rw [hi']; simp) (F_none ?_))
      (refine T_nil ?_; refine K_next ?_; refine T_cons ?_; refine T_If ?_; refine T_isTrue_Compare (by walk_at "u") ?_; refine T_local (.there (.there (.there (.there .here)))) ?_; refine T_int ?_; intro _; refine T_eqi ?_; refine T_truthy_bool ?_)
      refine If2.both (fun h2 => ?_) fun h2 => ?_
      · have h2' : lb = 2 := by have := beq_iff_eq.mp h2; exact Mine.om_91 _ this
        have hp : pads b.size = [61, 61] := by unfold pads; rw [show (3 - b.size % 3) % 3 = 2 by exact Mine.om_92 _ _ _ hlb hi' h2']; rfl
        have hv : Builtin.bitAnd (lc : Int) 3 * 2 ^ Int.toNat 4 = ((lc % 4 * 16 : Nat) : Int) := by rw [bitAnd_m2, show (2 : Int) ^ Int.toNat 4 = 16 from rfl]; exact Mine.om_93 _
        (refine T_cons ?_; refine T_Expr (by walk_at "u") ?_; refine T_CallM (by walk_at "u") ?_; refine T_local (.there (.there (.there .here))) ?_; refine T_meth_list PySem.F.slot_list_append PySem.F.type_list_append (by walk_at "mem") ?_; refine M_mk ?_; refine T_b2 (by walk_at "u") (by walk_at "u") ?_; refine T_args_cons (by walk_at "u") ?_; refine T_Subscript ?_; refine T_glob (List.mem_cons_of_mem _ (List.mem_cons_of_mem _ List.mem_cons_self)) ?_; refine T_BinOp ?_; refine T_BinOp ?_; refine T_local (.there (.there (.there (.there (.there .here))))) ?_; refine T_int ?_; intro _)
        refine T_and ?_
        (intro _; refine T_int ?_; intro _)
        refine T_lshift (by decide) (by decide) (by rw [bitAnd_m2]; omega) ?_
        rw [hv]
        (intro _)
        refine T_item_bytes (by exact Mine.om_94 _) (by show _ < (64 : Int); exact Mine.om_95 _) (by decide) (by walk_at "u") (by intro _; rfl) ?_
        (intro _; refine T_args_nil ?_)
        refine T_appendL (by walk_at "upd") (line20 (by exact Mine.om_96 _ hl20)) ?_
        (refine K_next ?_; refine T_cons ?_; refine T_Expr (by walk_at "u") ?_; refine T_CallM (by walk_at "u") ?_; refine T_local (.there (.there (.there .here))) ?_; refine T_meth_list PySem.F.slot_list_append PySem.F.type_list_append (by walk_at "mem") ?_; refine M_mk ?_; refine T_b2 (by walk_at "u") (by walk_at "u") ?_; refine T_args_cons (by walk_at "u") ?_; refine T_int ?_; intro _; refine T_args_nil ?_)
        refine T_appendL (by walk_at "upd") (line20 (by simp; exact Mine.om_97 _ hl20)) ?_
        (refine K_next ?_; refine T_cons ?_; refine T_Expr (by walk_at "u") ?_; refine T_CallM (by walk_at "u") ?_; refine T_local (.there (.there (.there .here))) ?_; refine T_meth_list PySem.F.slot_list_append PySem.F.type_list_append (by walk_at "mem") ?_; refine M_mk ?_; refine T_b2 (by walk_at "u") (by walk_at "u") ?_; refine T_args_cons (by walk_at "u") ?_; refine T_int ?_; intro _; refine T_args_nil ?_)
        refine T_appendL (by walk_at "upd") (line20 (by simp; exact Mine.om_98 _ hl20)) ?_
        (refine K_next ?_; refine T_nil ?_; refine K_next ?_; refine T_cons ?_; refine T_If ?_; refine T_isTrue_val (by walk_at "u") ?_; refine T_local (.there .here) ?_; refine T_truthy_bool ?_)
        refine If2.f ?_
        (refine T_nil ?_; refine K_next ?_; refine T_cons ?_; refine T_Return ?_; refine T_CallN ?_; refine T_glob (List.mem_cons_of_mem _ (List.mem_cons_of_mem _ (List.mem_cons_of_mem _ List.mem_cons_self))) ?_; refine T_ty1 (by walk_at "u") (by walk_at "u") ?_; refine T_args_cons (by walk_at "u") ?_; refine T_local (.there (.there (.there .here))) ?_; refine T_args_nil ?_)
        refine T_bytes_of (ns := tgt) (by walk_at "mem") ?_ (by rw [← htgt]; exact encOut_range _) (line20 (by simp; exact Mine.om_99 _ hl20)) ?_
        · rw [← henc, h2', hp]
          simp only [List.append_assoc]
          exact IntsAre.app hvs (.cons _ _ (.cons _ _ (.cons _ _ .nil)))
        (intro _; refine K_ret ?_)
        exact ⟨[], by (walk_at "sbl"); exact Sbl.refl, ⟨_, rfl⟩, rfl⟩
      (refine T_cons ?_; refine T_If ?_; refine T_isTrue_Compare (by walk_at "u") ?_; refine T_local (.there (.there (.there (.there .here)))) ?_; refine T_int ?_; intro _; refine T_eqi ?_; refine T_truthy_bool ?_)
      refine If2.both (fun h4 => ?_) fun h4 => ?_
      · have h4' : lb = 4 := by have := beq_iff_eq.mp h4; exact Mine.om_100 _ this
        have hp : pads b.size = [61] := by unfold pads; rw [show (3 - b.size % 3) % 3 = 1 by exact Mine.om_101 _ _ _ hlb hi' h4']; rfl
        have hv : Builtin.bitAnd (lc : Int) 15 * 2 ^ Int.toNat 2 = ((lc % 16 * 4 : Nat) : Int) := by rw [bitAnd_m4, show (2 : Int) ^ Int.toNat 2 = 4 from rfl]; exact Mine.om_102 _
        (refine T_cons ?_; refine T_Expr (by walk_at "u") ?_; refine T_CallM (by walk_at "u") ?_; refine T_local (.there (.there (.there .here))) ?_; refine T_meth_list PySem.F.slot_list_append PySem.F.type_list_append (by walk_at "mem") ?_; refine M_mk ?_; refine T_b2 (by walk_at "u") (by walk_at "u") ?_; refine T_args_cons (by walk_at "u") ?_; refine T_Subscript ?_; refine T_glob (List.mem_cons_of_mem _ (List.mem_cons_of_mem _ List.mem_cons_self)) ?_; refine T_BinOp ?_; refine T_BinOp ?_; refine T_local (.there (.there (.there (.there (.there .here))))) ?_; refine T_int ?_; intro _)
        refine T_and ?_
        (intro _; refine T_int ?_; intro _)
        refine T_lshift (by decide) (by decide) (by rw [bitAnd_m4]; omega) ?_
        rw [hv]
        (intro _)
        refine T_item_bytes (by exact Mine.om_103 _) (by show _ < (64 : Int); exact Mine.om_104 _) (by decide) (by walk_at "u") (by intro _; rfl) ?_
        (intro _; refine T_args_nil ?_)
        refine T_appendL (by walk_at "upd") (line20 (by exact Mine.om_96 _ hl20)) ?_
        (refine K_next ?_; refine T_cons ?_; refine T_Expr (by walk_at "u") ?_; refine T_CallM (by walk_at "u") ?_; refine T_local (.there (.there (.there .here))) ?_; refine T_meth_list PySem.F.slot_list_append PySem.F.type_list_append (by walk_at "mem") ?_; refine M_mk ?_; refine T_b2 (by walk_at "u") (by walk_at "u") ?_; refine T_args_cons (by walk_at "u") ?_; refine T_int ?_; intro _; refine T_args_nil ?_)
        refine T_appendL (by walk_at "upd") (line20 (by simp; exact Mine.om_97 _ hl20)) ?_
        (refine K_next ?_; refine T_nil ?_; refine K_next ?_; refine T_nil ?_; refine K_next ?_; refine T_cons ?_; refine T_If ?_; refine T_isTrue_val (by walk_at "u") ?_; refine T_local (.there .here) ?_; refine T_truthy_bool ?_)
        refine If2.f ?_
        (refine T_nil ?_; refine K_next ?_; refine T_cons ?_; refine T_Return ?_; refine T_CallN ?_; refine T_glob (List.mem_cons_of_mem _ (List.mem_cons_of_mem _ (List.mem_cons_of_mem _ List.mem_cons_self))) ?_; refine T_ty1 (by walk_at "u") (by walk_at "u") ?_; refine T_args_cons (by walk_at "u") ?_; refine T_local (.there (.there (.there .here))) ?_; refine T_args_nil ?_)
        refine T_bytes_of (ns := tgt) (by walk_at "mem") ?_ (by rw [← htgt]; exact encOut_range _) (line20 (by simp; exact Mine.om_98 _ hl20)) ?_
        · rw [← henc, h4', hp]
          simp only [List.append_assoc]
          exact IntsAre.app hvs (.cons _ _ (.cons _ _ .nil))
        (intro _; refine K_ret ?_)
        exact ⟨[], by (walk_at "sbl"); exact Sbl.refl, ⟨_, rfl⟩, rfl⟩
      (refine T_nil ?_; refine K_next ?_; refine T_nil ?_; refine K_next ?_; refine T_cons ?_; refine T_If ?_; refine T_isTrue_val (by walk_at "u") ?_; refine T_local (.there .here) ?_; refine T_truthy_bool ?_)
      refine If2.f ?_
      (refine T_nil ?_; refine K_next ?_; refine T_cons ?_; refine T_Return ?_; refine T_CallN ?_; refine T_glob (List.mem_cons_of_mem _ (List.mem_cons_of_mem _ (List.mem_cons_of_mem _ List.mem_cons_self))) ?_; refine T_ty1 (by walk_at "u") (by walk_at "u") ?_; refine T_args_cons (by walk_at "u") ?_; refine T_local (.there (.there (.there .here))) ?_; refine T_args_nil ?_)
      have h2' : lb ≠ 2 := by intro h; subst h; exact absurd h2 (by decide)
      have h4' : lb ≠ 4 := by intro h; subst h; exact absurd h4 (by decide)
      refine T_bytes_of (ns := tgt) (by walk_at "mem") ?_ (by rw [← htgt]; exact encOut_range _) (line20 (by exact Mine.om_96 _ hl20)) ?_
      · have hp : pads b.size = [] := by unfold pads; rw [show (3 - b.size % 3) % 3 = 0 by exact Mine.om_105 _ _ _ hlb hi' h2' h4']; rfl
        rw [← henc, hp]
        simp only [enc, if_neg h2', if_neg h4', List.map_nil, List.append_nil]
        exact hvs
      (intro _; refine K_ret ?_)
      exact ⟨[], by (walk_at "sbl"); exact Sbl.refl, ⟨_, rfl⟩, rfl⟩
    | succ m ih =>
      intro i oi vs ns e lb lc ta tc bv hm hi hoi hvs hlen hlb hlc henc
      have hi' : i < b.size := by exact Mine.om_106 _ _ _ hm
      refine C_for (T_next_bytes hoi (by walk_at "upd") (Array.getElem?_eq_getElem hi') fun o' ub hoi' => F_some rfl ?_)
      generalize hx : b[i] = x
      have hx256 : x.toNat < 256 := UInt8.toNat_lt x
      (refine T_assignN (.there (.there (.there (.there (.there (.there .here)))))) ?_; refine T_cons ?_; refine T_Assign (by walk_at "u") ?_; refine T_BinOp ?_; refine T_BinOp ?_; refine T_BinOp ?_; refine T_local (.there (.there (.there (.there (.there .here))))) ?_; refine T_int ?_; intro _)
      refine T_lshift (by decide) (by decide) (by omega) ?_
      (intro _; refine T_local (.there (.there (.there (.there (.there (.there .here)))))) ?_)
      refine T_or ?_
      (intro _; refine T_int ?_; intro _)
      refine T_and ?_
      (intro _; refine T_store (.there (.there (.there (.there (.there .here))))) ?_; refine K_next ?_; refine T_cons ?_; refine T_Assign (by walk_at "u") ?_; refine T_BinOp ?_; refine T_local (.there (.there (.there (.there .here)))) ?_; refine T_int ?_; intro _; refine T_add ?_; intro _; refine T_store (.there (.there (.there (.there .here)))) ?_; refine K_next ?_; refine T_cons ?_)
      have hlc' : Builtin.bitAnd (Builtin.bitOr ((lc : Int) * 2 ^ Int.toNat 8) (x.toNat : Int)) 65535 = (((lc * 256 + x.toNat) % 65536 : Nat) : Int) := by
        have e1 : (lc : Int) * 2 ^ Int.toNat 8 = ((lc * 256 : Nat) : Int) := by simp
        rw [e1, bitOr_nat, or_shift _ _ hx256, bitAnd_m16]; rfl
      rw [hlc']
      have hdrop : (b.toList.map UInt8.toNat).drop i = x.toNat :: (b.toList.map UInt8.toNat).drop (i + 1) := by
        rw [List.drop_eq_getElem_cons (by simpa using hi')]
        simp [← hx]
      rw [hdrop, enc] at henc
      have hlc2 : (lc * 256 + x.toNat) % 65536 < 65536 := Nat.mod_lt _ (by decide)
      generalize (lc * 256 + x.toNat) % 65536 = lc' at henc hlc2 ⊢
      rename_i t3 t4 t5 t6
      generalize some (Value.int (x.toNat : Int) ub) = bv'
      refine T_While (C_any fun cw PW hcw hPW => ?_)
      have key2 : ∀ (n lb' : Nat) (vs : List Value) (ns : List Int) (e : Nat) (ta : Tok), lb' < 6 * n + 6 → IntsAre vs ns → ns.length + n ≤ 3 * i + 3 → lb' % 6 = (lb + 2) % 6 → ns ++ (emits (n + 1) lb' lc').map b64c ++ (enc ((b.toList.map UInt8.toNat).drop (i + 1)) ((lb + 2) % 6) lc').map b64c ++ pads b.size = tgt →
          C fm 3 [some (.bytes b t), some (.bool false), some (.bytes b t), some (.ref o), some (.int lb' ta), some (.int lc' t4), bv'] ((it, o') :: (o, listOf vs.toArray e) :: rest) cw PW := by
        subst hcw
        intro n
        induction n with
        | zero => 
          intro lb' vs ns e ta hn hvs hlen hlb' henc
          refine C_while ?_
          (refine T_isTrue_Compare (by walk_at "u") ?_; refine T_local (.there (.there (.there (.there .here)))) ?_; refine T_int ?_; intro _; refine T_ge ?_; refine T_truthy_bool ?_)
          refine If2.neg (decide_eq_false (by exact Mine.om_107 _ hn)) ?_
          (refine T_nil ?_)
          subst hPW
          (refine K_next ?_; refine T_nil ?_; refine L_next ?_)
          refine ih (i + 1) o' vs ns e lb' lc' ta t4 bv' (by exact Mine.om_108 _ _ _ hm) (by exact Mine.om_109 _ _ hi') hoi' hvs (by exact Mine.om_110 _ _ hlen) (by exact Mine.om_111 _ _ _ hlb hn hlb') hlc2 ?_
          have e0 : emits (0 + 1) lb' lc' = [] := if_neg (by exact Mine.om_112 _ hn)
          rw [e0, List.map_nil, List.append_nil] at henc
          rw [show lb' = (lb + 2) % 6 by exact Mine.om_113 _ _ hn hlb']; exact henc
        | succ n ih2 =>
          intro lb' vs ns e ta hn hvs hlen hlb' henc
          refine C_while ?_
          (refine T_isTrue_Compare (by walk_at "u") ?_; refine T_local (.there (.there (.there (.there .here)))) ?_; refine T_int ?_; intro _; refine T_ge ?_; refine T_truthy_bool ?_)
          refine If2.dec (fun h6 => ?_) fun h6 => ?_
          · have hl20 : vs.length + 10 ≤ 1048576 := by rw [hvs.length]; exact Mine.om_114 _ _ _ _ hb hi' hlen
            (refine T_cons ?_; refine T_Expr (by walk_at "u") ?_; refine T_CallM (by walk_at "u") ?_; refine T_local (.there (.there (.there .here))) ?_; refine T_meth_list PySem.F.slot_list_append PySem.F.type_list_append (by walk_at "mem") ?_; refine M_mk ?_; refine T_b2 (by walk_at "u") (by walk_at "u") ?_; refine T_args_cons (by walk_at "u") ?_; refine T_Subscript ?_; refine T_glob (List.mem_cons_of_mem _ (List.mem_cons_of_mem _ List.mem_cons_self)) ?_; refine T_BinOp ?_; refine T_BinOp ?_; refine T_local (.there (.there (.there (.there (.there .here))))) ?_; refine T_BinOp ?_; refine T_local (.there (.there (.there (.there .here)))) ?_; refine T_int ?_; intro _; refine T_subi ?_; intro _)
            refine T_rshift (by exact Mine.om_115 _ h6) ?_
            (intro _; refine T_int ?_; intro _)
            refine T_and ?_
            (intro _)
            have hv : Builtin.bitAnd ((lc' : Int).fdiv (2 ^ Int.toNat ((lb' : Int) - 6))) 63 = ((lc' / 2 ^ (lb' - 6) % 64 : Nat) : Int) := by
              rw [show Int.toNat ((lb' : Int) - 6) = lb' - 6 by exact Mine.om_116 _, fdiv_nat, bitAnd_m6]; rfl
            rw [hv]
            have hv64 : lc' / 2 ^ (lb' - 6) % 64 < 64 := Nat.mod_lt _ (by decide)
            refine T_item_bytes (by exact Mine.om_117 _) (by show _ < (64 : Int); exact Mine.om_118 _) (by decide) (by walk_at "u") (by intro _; rfl) ?_
            (intro _; refine T_args_nil ?_)
            refine T_appendL (by walk_at "upd") (line20 (by exact Mine.om_96 _ hl20)) ?_
            (refine K_next ?_; refine T_cons ?_; refine T_Assign (by walk_at "u") ?_; refine T_BinOp ?_; refine T_local (.there (.there (.there (.there .here)))) ?_; refine T_int ?_; intro _; refine T_subi ?_; intro _; refine T_store (.there (.there (.there (.there .here)))) ?_; refine K_next ?_; refine T_nil ?_; refine L_next ?_)
            rw [show (lb' : Int) - 6 = ((lb' - 6 : Nat) : Int) by exact Mine.om_119 _ h6]
            refine ih2 (lb' - 6) _ _ _ _ (by exact Mine.om_120 _ _ hn) (IntsAre.snoc hvs) (by rw [List.length_append, List.length_singleton]; exact Mine.om_121 _ _ _ hlen) (by exact Mine.om_122 _ _ hlb' h6) ?_
            rw [← henc]
            have e1 : emits (n + 1 + 1) lb' lc' = lc' / 2 ^ (lb' - 6) % 64 :: emits (n + 1) (lb' - 6) lc' := if_pos (by exact Mine.om_123 _ h6)
            rw [e1, List.map_cons]
            simp only [List.append_assoc, List.cons_append, List.nil_append]
            rfl
          · (refine T_nil ?_)
            subst hPW
            (refine K_next ?_; refine T_nil ?_; refine L_next ?_)
            refine ih (i + 1) o' vs ns e lb' lc' ta t4 bv' (by exact Mine.om_108 _ _ _ hm) (by exact Mine.om_109 _ _ hi') hoi' hvs (by exact Mine.om_124 _ _ _ hlen) (by exact Mine.om_125 _ _ _ hlb hlb' h6) hlc2 ?_
            have e0 : emits (n + 1 + 1) lb' lc' = [] := if_neg (by exact Mine.om_126 _ h6)
            rw [e0, List.map_nil, List.append_nil] at henc
            rw [show lb' = (lb + 2) % 6 by exact Mine.om_127 _ _ hlb' h6]; exact henc
      rw [show (lb : Int) + 8 = ((lb + 8 : Nat) : Int) by exact Mine.om_128 _]
      exact key2 2 (lb + 8) vs ns e _ (by exact Mine.om_129 _ _ hlb) hvs (by exact Mine.om_130 _ _ hlen) (by exact Mine.om_131 _) (by rw [← henc]; simp)
  exact key b.size 0 oi [] [] 0 0 0 t1 t2 none (by exact Mine.om_132 _) (by exact Mine.om_133 _) hoi .nil (by decide) rfl (by decide) (by rw [← htgt]; simp [encOut])

/-! b64encode -/
theorem glb_b2a (G : Gr) (hK : G.K = Mine.hd.heap_39 G.w.params) : Glb G (Str.ofString "b2a_base64") (.ref 85) := .inl (by rw [hK]; k_is)
theorem b64_spec (G : Gr) (hK : G.K = Mine.hd.heap_39 G.w.params) (b : Array UInt8) (t : Tok) (hb : b.size ≤ 300000) :
    Sp G 5 [] (.ref 93) [.bytes b t] [] fun v post => (∃ u, v = .bytes (byteArr (encOut (b.toList.map UInt8.toNat))) u) ∧ post = [] := by
  refine enter (N := [Str.ofString "s", Str.ofString "altchars", Str.ofString "encoded"])
    (Gs := [(Str.ofString "b2a_base64", .ref 85)]) (binds := [(Str.ofString "s", .bytes b t), (Str.ofString "altchars", .none)])
    (vals := [some (.bytes b t), some .none, none]) (ho := by rw [hK]; k_is) (hcd := by rw [hK]; k_is) (hbind := fun s X => binds_K X rfl (by rw [hK]; k_is) rfl rfl rfl) [Str.ofString "encoded"] (hN := rfl) (hv := rfl) (hnd := by decide) (hloc := by decide +kernel)
    (hglb := fun p hp => by
      rcases List.mem_cons.mp hp with rfl | hp
      · exact ⟨by decide +kernel, by decide, glb_b2a G hK⟩
      cases hp) (hcell := by decide +kernel) (hco := rfl) (hgen := rfl) (hk := rfl) ?_
  intro fm rest
  (refine T_cons ?_; refine T_Assign (by walk_at "u") ?_; refine T_CallNk ?_; refine T_glob List.mem_cons_self ?_; refine T_kk1 (by rw [hK]; k_is) (by walk_at "u") (by walk_at "u") (by walk_at "u") ?_; refine T_args_cons (by walk_at "u") ?_; refine T_local .here ?_; refine T_args_nil ?_; refine T_kw_cons ?_; refine T_bool ?_; refine T_kw_nil ?_)
  refine T_call (b2a_spec G hK b t hb) (by decide) .nil ?_
  rintro _ _ ⟨⟨w, rfl⟩, rfl⟩
  rw [List.nil_append]
  (refine T_store (.there (.there .here)) ?_; refine K_next ?_; refine T_cons ?_; refine T_If ?_; refine T_isTrue_Compare (by walk_at "u") ?_; refine T_local (.there .here) ?_; refine T_none ?_; refine T_isnot (by walk_at "u") ?_; refine T_truthy_bool ?_)
  refine If2.neg (by decide) ?_
  (refine T_nil ?_; refine K_next ?_; refine T_cons ?_; refine T_Return ?_; refine T_local (.there (.there .here)) ?_; refine K_ret ?_)
  exact ⟨[], Sbl.refl, ⟨w, rfl⟩, rfl⟩

/-! _law_word -/
noncomputable def specB (m c : Nat) : Bool := if m = 1 then decide (c ∈ [34, 92]) else decide (c ∈ [10, 9, 13, 32, 92])
noncomputable def escU (m c : Nat) : List Nat := if specB m c then [92, c] else [c]
noncomputable def escW (m : Nat) (w : List Nat) : List Nat := (w.map (escU m)).flatten
noncomputable def bsW (w : List Nat) : List Nat := (w.map fun c => [92, c]).flatten
noncomputable def wordOf (w : List Nat) (m : Nat) : List Nat := if m = 2 then bsW w else if m = 1 then [34] ++ escW 1 w ++ [34] else escW m w
theorem bindL_step {kd : Str → Option NameKind} {n v r N vals vals'} (nd : N.Nodup) (hk : kd n = some .local) (hp : PutAt N vals n v vals') : bindL kd ((n, v) :: r) (Loc N vals) = bindL kd r (Loc N vals') := by
  rw [bindL, if_pos hk, hp.loc nd]
theorem loc_nones (N : List Str) : (fun _ => none) = Loc N (N.map fun _ => none) := funext fun y => (loc_none N y).symm
theorem sum_len (xss : List (List Nat)) : ((xss.map S).map (·.length)).sum = xss.flatten.length := by
  induction xss with
  | nil => rfl
  | cons x xss ih => simp [S_len] at ih ⊢; exact Mine.om_134 _ _ ih
theorem bsW_len (w : List Nat) : (bsW w).length = 2 * w.length := by
  unfold bsW
  induction w with
  | nil => rfl
  | cons c w ih => simp only [List.map_cons, List.flatten_cons, List.length_append, List.length_cons, List.length_nil] at ih ⊢; exact Mine.om_135 _ _ ih
theorem escW_len (m : Nat) (w : List Nat) : (escW m w).length ≤ 2 * w.length := by
  unfold escW
  induction w with
  | nil => simp
  | cons c w ih =>
    have : (escU m c).length ≤ 2 := by unfold escU; split <;> simp
    simp only [List.map_cons, List.flatten_cons, List.length_append, List.length_cons] at ih ⊢; exact Mine.om_136 _ _ _ ih this
theorem wordOf_len (w : List Nat) (m : Nat) : (wordOf w m).length ≤ 2 * w.length + 2 := by
  have h1 := bsW_len w
  have h2 := escW_len m w
  have h3 := escW_len 1 w
  unfold wordOf
  split
  · exact Mine.om_137 _ _ h1
  · split
    · simp only [List.length_append, List.length_cons, List.length_nil]; exact Mine.om_138 _ _ h3
    · exact Mine.om_139 _ _ h2
theorem word_spec (G : Gr) (hK : G.K = Mine.hd.heap_39 G.w.params) (w : List Nat) (tw : Tok) (m : Nat) (tm : Tok) (hm : m < 3) (hlen : w.length ≤ 300000) :
    Sp G 1 [] (.ref 105) [.str (S w) tw, .int (m : Int) tm] [] fun v post => (∃ t, v = .str (S (wordOf w m)) t) ∧ post = [] := by
  refine enterC (N := [Str.ofString "word", Str.ofString "manner", Str.ofString "plain"]) (Gs := []) (binds := [(Str.ofString "word", .str (S w) tw), (Str.ofString "manner", .int (m : Int) tm)]) (vals := [some (.str (S w) tw), some (.int (m : Int) tm), none]) (x := Str.ofString "special") (cv := none)
    (ho := by rw [hK]; k_is) (hcd := by rw [hK]; k_is) (hbind := fun s X => BindsTo.of_eq rfl) rfl (hL := fun y => ?_) rfl (fun _ => rfl) rfl rfl (hnd := by decide) (hloc := by decide +kernel)
    (hglb := fun p hp => nomatch hp) (hco := rfl) (hgen := rfl) (hk := rfl) ?_
  · refine congrFun (a := y) ?_
    rw [loc_nones [Str.ofString "word", Str.ofString "manner", Str.ofString "plain"]]
    exact (bindL_step (by decide) (by decide +kernel) .here).trans (bindL_step (by decide) (by decide +kernel) (.there .here))
  intro L o fm rest ho hE
  have hcl : ∀ n p, closureFor { kind := .function, names := [(Str.ofString ".0", .local), (n, .local), (Str.ofString "special", .free)], isGenerator := false, isCoroutine := false, more := p } fm.env = pure [(Str.ofString "special", L + 1)] := by rw [hE]; intro n p; rfl
  have hce : fm.env.scope.names.lookup (Str.ofString "special") = some .cell := by rw [hE]; rfl
  generalize hc : L + 1 = c at fm hcl ⊢
  clear hE
  show T fm 0 _ ((c, o) :: rest) _ _
  (refine T_cons ?_; refine T_If ?_; refine T_isTrue_Compare (by walk_at "u") ?_; refine T_local (.there .here) ?_; refine T_int ?_; intro _; refine T_eqi ?_; refine T_truthy_bool ?_)
  refine If2.both (fun h2 => ?_) fun h2 => ?_
  · have hm2 : m = 2 := by have := beq_iff_eq.mp h2; exact Mine.om_91 _ this
    (refine T_cons ?_; refine T_Return ?_; refine T_CallM (by walk_at "u") ?_; refine T_str ?_; intro _; refine T_meth_str PySem.F.slot_str_join PySem.F.type_str_join ?_; refine M_mk ?_; refine T_b2 (by walk_at "u") (by walk_at "u") ?_; refine T_args_cons (by walk_at "u") ?_)
    refine T_comp [Str.ofString "sign"] [] (fun _ => rfl) (cl := []) rfl rfl (by decide +kernel) (by decide +kernel) (by decide) (by decide +kernel) (fun p hp => nomatch hp) ?_
    (refine T_local .here ?_)
    refine T_iter_strG ?_
    intro it oi hoi acc oL cfm hsc
    refine C_compG (fun i ys => StrsAre ys (((w.take i).map fun c => [92, c]).map S)) hoi .nil (by exact Mine.om_140 _ hlen) (fun _ => rfl) ?_ ?_
    · intro i ch uc o ys e3 hv hj
      (refine T_BinOp ?_; refine T_str ?_; intro _; refine T_local .here ?_)
      rw [lit92]
      refine T_adds (by rw [S_app, S_len]; exact line20 (by simp)) ?_
      rw [S_app]
      intro ta
      refine ⟨?_, rfl, by walk_at "sbl"⟩
      rw [← take_snoc hv, List.map_append, List.map_append]
      exact sx_app hj (.cons _ _ .nil)
    intro u ys e3 hyl hj
    rw [List.take_length] at hj
    refine ⟨(acc, listOf ys.toArray e3) :: (c, o) :: rest, by walk_at "sbl", ?_⟩
    (refine T_args_nil ?_)
    rename_i te
    rw [show Value.str (Str.ofString "") te = Value.str (S []) te by rw [show Str.ofString "" = S [] by decide +kernel]]
    have hbl : (w.map fun c => [92, c]).flatten.length = 2 * w.length := bsW_len w
    refine T_join (by walk_at "mem") hj ?_ ?_
    · rw [sum_len, hbl]; simp; exact Mine.om_141 _ hlen
    rw [join_S]
    (intro _; refine K_ret ?_; refine K_ret ?_)
    exact ⟨[], by walk_at "sbl2", ⟨_, by unfold wordOf; rw [if_pos hm2]; rfl⟩, rfl⟩
  · have hm2 : m ≠ 2 := by intro q; subst q; exact absurd h2 (by decide)
    refine T_nil ?_
    refine K_next ?_
    refine T_cons ?_
    refine T_Assign (by walk_at "u") ?_
    refine T_mono (P := fun v vals' l' => (∃ sp t, v = Value.str (S sp) t ∧ ∀ c, decide (c ∈ sp) = specB m c) ∧ vals' = [some (.str (S w) tw), some (.int (m : Int) tm), none] ∧ l' = (c, o) :: rest) ?_ ?_
    · (refine T_IfExp ?_; refine T_isTrue_Compare (by walk_at "u") ?_; refine T_local (.there .here) ?_; refine T_int ?_; intro _; refine T_eqi ?_; refine T_truthy_bool ?_)
      refine If2.both (fun h => ?_) fun h => ?_
      · have hm1 : m = 1 := by have := beq_iff_eq.mp h; exact Mine.om_38 _ this
        (refine T_str ?_; intro _)
        exact ⟨⟨[34, 92], _, by rw [show Str.ofString "\"\\" = S [34, 92] by decide +kernel], fun c => by unfold specB; rw [if_pos hm1]⟩, rfl, rfl⟩
      · have hm1 : m ≠ 1 := by intro q; subst q; exact absurd h (by decide)
        (refine T_str ?_; intro _)
        exact ⟨⟨[10, 9, 13, 32, 92], _, by rw [show Str.ofString "\n\t\x0d \\" = S [10, 9, 13, 32, 92] by decide +kernel], fun c => by unfold specB; rw [if_neg hm1]⟩, rfl, rfl⟩
    rintro _ _ _ ⟨⟨sp, tsp, rfl, hsp⟩, rfl, rfl⟩
    refine T_storeCell (c := c) hce (by simp [List.lookup]) (fun _ => by walk_at "upd") ho ?_
    intro o1 ho1
    (refine K_next ?_; refine T_cons ?_; refine T_Assign (by walk_at "u") ?_; refine T_CallM (by walk_at "u") ?_; refine T_str ?_; intro _; refine T_meth_str PySem.F.slot_str_join PySem.F.type_str_join ?_; refine M_mk ?_; refine T_b2 (by walk_at "u") (by walk_at "u") ?_; refine T_args_cons (by walk_at "u") ?_)
    refine T_comp [Str.ofString "sign"] [] (fun _ => rfl) (hcl _ _) rfl (by decide +kernel) (by decide +kernel) (by decide) (by decide +kernel) (fun p hp => nomatch hp) ?_
    (refine T_local .here ?_)
    refine T_iter_strG ?_
    intro it oi hoi acc oL cfm hsc
    refine C_compG (fun i ys => StrsAre ys (((w.take i).map (escU m)).map S)) hoi .nil (by exact Mine.om_140 _ hlen) (fun _ => rfl) ?_ ?_
    · intro i ch uc o ys e3 hv hj
      (refine T_IfExp ?_; refine T_isTrue_Compare (by walk_at "u") ?_; refine T_local .here ?_)
      refine T_cell (c := c) (by rw [hsc]; exact lookup_relabel_free rfl fm.kind hce) (by decide) (by simp [List.lookup]) (by walk_at "mem") ho1 ?_
      refine T_in_ch ?_
      (refine T_truthy_bool ?_)
      rw [S_cps, hsp]
      refine If2.both (fun h => ?_) fun h => ?_
      · (refine T_BinOp ?_; refine T_str ?_; intro _; refine T_local .here ?_)
        rw [lit92]
        refine T_adds (by rw [S_app, S_len]; exact line20 (by simp)) ?_
        rw [S_app]
        intro ta
        refine ⟨?_, rfl, by walk_at "sbl"⟩
        rw [← take_snoc hv, List.map_append, List.map_append]
        refine sx_app hj ?_
        show StrsAre _ [S (escU m ch)]
        unfold escU
        rw [if_pos h]
        exact .cons _ _ .nil
      · (refine T_local .here ?_)
        refine ⟨?_, rfl, by walk_at "sbl"⟩
        rw [← take_snoc hv, List.map_append, List.map_append]
        refine sx_app hj ?_
        show StrsAre _ [S (escU m ch)]
        unfold escU
        rw [if_neg (by simp [h])]
        exact .cons _ _ .nil
    intro u ys e3 hyl hj
    rw [List.take_length] at hj
    refine ⟨(acc, listOf ys.toArray e3) :: (c, o1) :: rest, by walk_at "sbl", ?_⟩
    (refine T_args_nil ?_)
    rename_i te
    rw [show Value.str (Str.ofString "") te = Value.str (S []) te by rw [show Str.ofString "" = S [] by decide +kernel]]
    have hel : (w.map (escU m)).flatten.length ≤ 2 * w.length := escW_len m w
    refine T_join (by walk_at "mem") hj ?_ ?_
    · rw [sum_len]; simp only [List.length_map]; exact Mine.om_142 _ _ hlen hel
    rw [join_S]
    (intro _; refine T_store (.there (.there .here)) ?_; refine K_next ?_; refine T_cons ?_; refine T_Return ?_; refine T_IfExp ?_; refine T_isTrue_Compare (by walk_at "u") ?_; refine T_local (.there .here) ?_; refine T_int ?_; intro _; refine T_eqi ?_; refine T_truthy_bool ?_)
    refine If2.both (fun h => ?_) fun h => ?_
    · have hm1 : m = 1 := by have := beq_iff_eq.mp h; exact Mine.om_38 _ this
      subst hm1
      (refine T_BinOp ?_; refine T_BinOp ?_; refine T_str ?_; intro _; refine T_local (.there (.there .here)) ?_)
      rw [lit34]
      refine T_adds (by rw [S_app, S_len]; exact line20 (by simp only [List.length_append, List.length_cons, List.length_nil]; exact Mine.om_143 _ _ hlen hel)) ?_
      rw [S_app]
      (intro _; refine T_str ?_; intro _)
      refine T_adds (by rw [S_app, S_len]; exact line20 (by simp only [List.length_append, List.length_cons, List.length_nil]; exact Mine.om_144 _ _ hlen hel)) ?_
      rw [S_app]
      (intro _; refine K_ret ?_)
      exact ⟨[], by walk_at "sbl2", ⟨_, rfl⟩, rfl⟩
    · have hm1 : m ≠ 1 := by intro q; subst q; exact absurd h (by decide)
      (refine T_local (.there (.there .here)) ?_; refine K_ret ?_)
      exact ⟨[], by walk_at "sbl2", ⟨_, by unfold wordOf; rw [if_neg hm2, if_neg hm1]; rfl⟩, rfl⟩

/-! _law_put -/
noncomputable def effGap (m : Nat) (g : List Nat) : List Nat := if m = 1 ∧ g = [32] then [] else g
noncomputable def endAdd (m : Nat) : Nat := if m = 1 then 0 else 1
theorem lit_ : Str.ofString "" = S [] := by decide +kernel
theorem lit32 : Str.ofString " " = S [32] := by decide +kernel
theorem glb_word (G : Gr) (hK : G.K = Mine.hd.heap_39 G.w.params) : Glb G (Str.ofString "_law_word") (.ref 105) := .inl (by rw [hK]; k_is)

theorem put_spec (G : Gr) (hK : G.K = Mine.hd.heap_39 G.w.params) (a p e : Addr) (tx gp : List Nat) (t1 t2 : Tok) (n1 n2 n3 : Nat) (pv ev : List Value) (part : Value) (w : List Nat) (tw : Tok) (m : Nat) (tm : Tok) (g : List Nat) (tg : Tok)
    (hm : m < 3) (hw : w.length ≤ 200000) (htx : tx.length + gp.length ≤ 300000) (hpv : pv.length ≤ 1000) (hev : ev.length ≤ 1000) :
    Sp G 2 [(a, listOf [.ref p, .str (S tx) t1, .str (S gp) t2, .ref e].toArray n1), (p, listOf pv.toArray n2), (e, listOf ev.toArray n3)] (.ref 112) [.ref a, part, .str (S w) tw, .int (m : Int) tm, .str (S g) tg] []
      fun v post => v = .none ∧ ∃ t1' t2' te n1', post = [(a, listOf [.ref p, .str (S (tx ++ gp ++ wordOf w m)) t1', .str (S (effGap m g)) t2', .ref e].toArray n1'), (p, listOf (pv ++ [part]).toArray (n2 + 1)),
        (e, listOf (ev ++ [Value.int (((tx ++ gp ++ wordOf w m).length + endAdd m : Nat) : Int) te]).toArray (n3 + 1))] := by
  refine enter (N := [Str.ofString "frame", Str.ofString "part", Str.ofString "word", Str.ofString "manner", Str.ofString "gap"]) (Gs := [(Str.ofString "_law_word", .ref 105), (Str.ofString "len", .builtin "len")]) (binds := [(Str.ofString "frame", .ref a), (Str.ofString "part", part), (Str.ofString "word", .str (S w) tw), (Str.ofString "manner", .int (m : Int) tm), (Str.ofString "gap", .str (S g) tg)]) (vals := [some (.ref a), some (part), some (.str (S w) tw), some (.int (m : Int) tm), some (.str (S g) tg)]) (ho := by rw [hK]; k_is) (hcd := by rw [hK]; k_is) (hbind := fun s X => BindsTo.of_eq rfl) [] (hN := rfl) (hv := rfl) (hnd := by decide) (hloc := by decide +kernel)
    (hglb := fun p hp => by
      rcases List.mem_cons.mp hp with rfl | hp
      · exact ⟨by decide +kernel, by decide, glb_word G hK⟩
      rcases List.mem_cons.mp hp with rfl | hp
      · exact ⟨by decide +kernel, by decide, glb_len G hK⟩
      cases hp) (hcell := by decide +kernel) (hco := rfl) (hgen := rfl) (hk := rfl) ?_
  intro fm rest
  have hwl := wordOf_len w m
  show T fm 1 _ ((a, listOf [.ref p, .str (S tx) t1, .str (S gp) t2, .ref e].toArray n1) :: (p, listOf pv.toArray n2) :: (e, listOf ev.toArray n3) :: rest) _ _
  (refine T_cons ?_; refine T_Expr (by walk_at "u") ?_; refine T_CallM (by walk_at "u") ?_; refine T_Subscript ?_; refine T_local .here ?_; refine T_int ?_; intro _)
  refine T_item_list (by walk_at "mem") (by decide) (by decide) (x := .ref p) rfl (by walk_at "u") ?_
  (refine T_meth_list PySem.F.slot_list_append PySem.F.type_list_append (by walk_at "mem") ?_; refine M_mk ?_; refine T_b2 (by walk_at "u") (by walk_at "u") ?_; refine T_args_cons (by walk_at "u") ?_; refine T_local (.there .here) ?_; refine T_args_nil ?_)
  refine T_appendL (by walk_at "upd") (line20 (by exact Mine.om_145 _ hpv)) ?_
  (refine K_next ?_; refine T_cons ?_; refine T_AugS (ha := fun _ _ _ => rfl) ?_; refine T_local .here ?_; refine T_int ?_; intro _)
  refine T_get_at (j := 1) (by walk_at "mem") (x := .str (S tx) t1) rfl (by decide) ?_
  (refine T_BinOp ?_; refine T_Subscript ?_; refine T_local .here ?_; refine T_int ?_; intro _)
  refine T_item_list (by walk_at "mem") (by decide) (by decide) (x := .str (S gp) t2) rfl (by walk_at "u") ?_
  (refine T_CallN ?_; refine T_glob List.mem_cons_self ?_; refine T_k1 (by rw [hK]; k_is) (by walk_at "u") (by walk_at "u") ?_; refine T_args_cons (by walk_at "u") ?_; refine T_local (.there (.there .here)) ?_; refine T_args_cons (by walk_at "u") ?_; refine T_local (.there (.there (.there .here))) ?_; refine T_args_nil ?_)
  refine T_call (word_spec G hK w tw m tm hm (by exact Mine.om_146 _ hw)) (by decide) .nil ?_
  rintro _ _ ⟨⟨tww, rfl⟩, rfl⟩
  rw [List.nil_append]
  refine T_adds (by rw [S_app, S_len]; exact line20 (by simp only [List.length_append]; exact Mine.om_147 _ _ _ _ hw htx hwl)) ?_
  rw [S_app]
  (intro _)
  refine T_iadds (by rw [S_app, S_len]; exact line20 (by simp only [List.length_append]; exact Mine.om_148 _ _ _ _ hw htx hwl)) ?_
  rw [S_app, ← List.append_assoc]
  intro t1'
  have htl : (tx ++ gp ++ wordOf w m).length ≤ 800000 := by simp only [List.length_append]; exact Mine.om_149 _ _ _ _ hw htx hwl
  generalize tx ++ gp ++ wordOf w m = tx' at htl
  refine T_set_at (j := 1) (vs := [.ref p, .str (S tx) t1, .str (S gp) t2, .ref e]) (fun _ => by walk_at "upd") (by simp) (by simp) ?_
  intro n1'
  show Kn fm 1 _ _ _ _ ((a, listOf [.ref p, .str (S tx') t1', .str (S gp) t2, .ref e].toArray n1') :: (p, listOf (pv ++ [part]).toArray (n2 + 1)) :: (e, listOf ev.toArray n3) :: rest)
  refine K_next ?_
  refine T_cons ?_
  refine T_AssignS (by walk_at "u") ?_
  refine T_mono (P := fun v vals' l' => (∃ t, v = Value.str (S (effGap m g)) t) ∧ vals' = [some (.ref a), some part, some (.str (S w) tw), some (.int (m : Int) tm), some (.str (S g) tg)] ∧ l' = (a, listOf [.ref p, .str (S tx') t1', .str (S gp) t2, .ref e].toArray n1') :: (p, listOf (pv ++ [part]).toArray (n2 + 1)) :: (e, listOf ev.toArray n3) :: rest) ?_ ?_
  · (refine T_IfExp ?_; refine T_isTrue_BoolOp ?_; refine T_and_cons ?_; refine T_isTrue_Compare (by walk_at "u") ?_; refine T_local (.there (.there (.there .here))) ?_; refine T_int ?_; intro _; refine T_eqi ?_; refine T_truthy_bool ?_)
    refine If2.both (fun h => ?_) fun h => ?_
    · have hm1 : m = 1 := by have := beq_iff_eq.mp h; exact Mine.om_38 _ this
      (refine T_and_cons ?_; refine T_isTrue_Compare (by walk_at "u") ?_; refine T_local (.there (.there (.there (.there .here)))) ?_; refine T_str ?_; intro _; refine T_eqs ?_; refine T_truthy_bool ?_)
      refine If2.dec (fun h' => ?_) fun h' => ?_
      · rw [lit32] at h'
        (refine T_and_nil ?_)
        refine If2.t ?_
        (refine T_str ?_; intro _)
        exact ⟨⟨_, by unfold effGap; rw [if_pos ⟨hm1, S_inj h'⟩, lit_]⟩, rfl, rfl⟩
      · rw [lit32] at h'
        refine If2.f ?_
        (refine T_local (.there (.there (.there (.there .here)))) ?_)
        exact ⟨⟨_, by unfold effGap; rw [if_neg (fun q => h' (by rw [q.2]))]⟩, rfl, rfl⟩
    · have hm1 : m ≠ 1 := by intro q; subst q; exact absurd h (by decide)
      refine If2.f ?_
      (refine T_local (.there (.there (.there (.there .here)))) ?_)
      exact ⟨⟨_, by unfold effGap; rw [if_neg (fun q => hm1 q.1)]⟩, rfl, rfl⟩
  rintro _ _ _ ⟨⟨t2', rfl⟩, rfl, rfl⟩
  (refine T_local .here ?_; refine T_int ?_; intro _)
  refine T_set_at (j := 2) (vs := [.ref p, .str (S tx') t1', .str (S gp) t2, .ref e]) (fun _ => by walk_at "upd") (by simp) (by simp) ?_
  intro n1''
  show Kn fm 1 _ _ _ _ ((a, listOf [.ref p, .str (S tx') t1', .str (S (effGap m g)) t2', .ref e].toArray n1'') :: (p, listOf (pv ++ [part]).toArray (n2 + 1)) :: (e, listOf ev.toArray n3) :: rest)
  (refine K_next ?_; refine T_cons ?_; refine T_Expr (by walk_at "u") ?_; refine T_CallM (by walk_at "u") ?_; refine T_Subscript ?_; refine T_local .here ?_; refine T_int ?_; intro _)
  refine T_item_list (by walk_at "mem") (by decide) (by decide) (x := .ref e) rfl (by walk_at "u") ?_
  (refine T_meth_list PySem.F.slot_list_append PySem.F.type_list_append (by walk_at "mem") ?_; refine M_mk ?_; refine T_b2 (by walk_at "u") (by walk_at "u") ?_; refine T_args_cons (by walk_at "u") ?_; refine T_BinOp ?_; refine T_CallN ?_; refine T_glob (List.mem_cons_of_mem _ List.mem_cons_self) ?_; refine T_b1 (by walk_at "u") (by walk_at "u") ?_; refine T_args_cons (by walk_at "u") ?_; refine T_Subscript ?_; refine T_local .here ?_; refine T_int ?_; intro _)
  refine T_item_list (by walk_at "mem") (by decide) (by decide) (x := .str (S tx') t1') rfl (by walk_at "u") ?_
  (refine T_args_nil ?_)
  refine T_len_str (line20 (by exact Mine.om_150 _ htl)) ?_
  intro tl
  refine T_mono (P := fun v vals' l' => (∃ t, v = Value.int (endAdd m : Int) t) ∧ vals' = [some (.ref a), some part, some (.str (S w) tw), some (.int (m : Int) tm), some (.str (S g) tg)] ∧ l' = (a, listOf [.ref p, .str (S tx') t1', .str (S (effGap m g)) t2', .ref e].toArray n1'') :: (p, listOf (pv ++ [part]).toArray (n2 + 1)) :: (e, listOf ev.toArray n3) :: rest) ?_ ?_
  · (refine T_IfExp ?_; refine T_isTrue_Compare (by walk_at "u") ?_; refine T_local (.there (.there (.there .here))) ?_; refine T_int ?_; intro _; refine T_eqi ?_; refine T_truthy_bool ?_)
    refine If2.both (fun h => ?_) fun h => ?_
    · have hm1 : m = 1 := by have := beq_iff_eq.mp h; exact Mine.om_38 _ this
      (refine T_int ?_; intro _)
      exact ⟨⟨_, by unfold endAdd; rw [if_pos hm1]; rfl⟩, rfl, rfl⟩
    · have hm1 : m ≠ 1 := by intro q; subst q; exact absurd h (by decide)
      (refine T_int ?_; intro _)
      exact ⟨⟨_, by unfold endAdd; rw [if_neg hm1]; rfl⟩, rfl, rfl⟩
  rintro _ _ _ ⟨⟨te, rfl⟩, rfl, rfl⟩
  refine T_add ?_
  intro te'
  rw [show (tx'.length : Int) + (endAdd m : Int) = ((tx'.length + endAdd m : Nat) : Int) by exact Mine.om_151 _ _]
  (refine T_args_nil ?_)
  refine T_appendL (by walk_at "upd") (line20 (by exact Mine.om_145 _ hev)) ?_
  (refine K_next ?_; refine T_nil ?_)
  exact ⟨[_, _, _], by walk_at "sbl2", rfl, t1', t2', te', n1'', rfl⟩

/-! _law_close -/
noncomputable def nz (fs : List Nat) : List Int := fs.map fun n : Nat => (n : Int)
theorem byteArr_nat {os : List Nat} (h : ∀ o ∈ os, o < 256) : (byteArr (nz os)).toList.map UInt8.toNat = os := by
  induction os with
  | nil => rfl
  | cons o os ih =>
    have ho := h o (by simp)
    have ih := ih fun x hx => h x (by simp [hx])
    simp only [byteArr, nz, List.map_cons, List.map_map] at ih ⊢
    rw [ih]
    congr 1
    simp; exact Mine.om_152 _ ho
/-- what b64encode writes, by signs -/
noncomputable def b64T (os : List Nat) : List Nat := (encOut os).map Int.toNat
theorem nz_b64T (os : List Nat) : nz (b64T os) = encOut os := by
  unfold nz b64T
  rw [List.map_map]
  conv => rhs; rw [← List.map_id (encOut os)]
  apply List.map_congr_left
  intro n hn
  have := encOut_range os n hn
  show ((n.toNat : Nat) : Int) = n
  exact Mine.om_153 _ this
theorem b64T_lt (os : List Nat) : ∀ c ∈ b64T os, c < 256 := by
  intro c hc
  obtain ⟨n, hn, rfl⟩ := List.mem_map.mp hc
  have := encOut_range os n hn
  exact Mine.om_154 _ this
theorem enc_len : ∀ (os : List Nat) (lb lc : Nat), lb < 6 → (enc os lb lc).length * 6 ≤ os.length * 8 + lb + 5 := by
  intro os
  induction os with
  | nil => intro lb lc h; unfold enc; split <;> (try split) <;> simp <;> (first | (rename_i z0; exact Mine.om_155 _ z0) | (rename_i z0; exact Mine.om_156 _ z0))
  | cons b r ih =>
    intro lb lc h
    unfold enc
    have ih := ih ((lb + 2) % 6) ((lc * 256 + b) % 65536) (Nat.mod_lt _ (by decide))
    have he : (emits 3 (lb + 8) ((lc * 256 + b) % 65536)).length * 6 + (lb + 2) % 6 = lb + 8 := by
      generalize (lc * 256 + b) % 65536 = v
      by_cases h1 : 4 ≤ lb
      · have e1 : emits 3 (lb + 8) v = v / 2 ^ (lb + 8 - 6) % 64 :: v / 2 ^ (lb + 8 - 6 - 6) % 64 :: (if 6 ≤ lb + 8 - 6 - 6 then v / 2 ^ (lb + 8 - 6 - 6 - 6) % 64 :: [] else []) := by
          unfold emits; rw [if_pos (by exact Mine.om_157 _)]; unfold emits; rw [if_pos (by exact Mine.om_158 _ h1)]; unfold emits; rfl
        rw [e1, if_neg (by exact Mine.om_159 _ h)]
        simp only [List.length_cons, List.length_nil]; exact Mine.om_160 _ h h1
      · have e1 : emits 3 (lb + 8) v = [v / 2 ^ (lb + 8 - 6) % 64] := by
          unfold emits; rw [if_pos (by exact Mine.om_157 _)]; unfold emits; rw [if_neg (by exact Mine.om_161 _ h1)]
        rw [e1]
        simp only [List.length_cons, List.length_nil]; exact Mine.om_162 _ h1
    simp only [List.length_append, List.length_cons]; exact Mine.om_163 _ _ _ _ ih he
theorem b64T_len (os : List Nat) : (b64T os).length ≤ 2 * os.length + 3 := by
  have := enc_len os 0 0 (by decide)
  unfold b64T encOut pads
  simp only [List.length_map, List.length_append, List.length_replicate]
  exact Mine.om_164 _ _ this
theorem glb_ord (G : Gr) (hK : G.K = Mine.hd.heap_39 G.w.params) : Glb G (Str.ofString "ord") (.builtin "ord") := .inr ⟨by rw [hK]; k_is, by boot_by_name, by decide⟩
theorem glb_chr (G : Gr) (hK : G.K = Mine.hd.heap_39 G.w.params) : Glb G (Str.ofString "chr") (.builtin "chr") := .inr ⟨by rw [hK]; k_is, by boot_by_name, by decide⟩
theorem glb_b64 (G : Gr) (hK : G.K = Mine.hd.heap_39 G.w.params) : Glb G (Str.ofString "b64encode") (.ref 93) := .inl (by rw [hK]; k_is)
theorem glb_put (G : Gr) (hK : G.K = Mine.hd.heap_39 G.w.params) : Glb G (Str.ofString "_law_put") (.ref 112) := .inl (by rw [hK]; k_is)

theorem flat1_len (bt : List Nat) : (bt.map fun c => [c]).flatten.length = bt.length := by
  induction bt with
  | nil => rfl
  | cons c bt ih => simp only [List.map_cons, List.flatten_cons, List.length_append, List.length_cons, List.length_nil] at ih ⊢; exact Mine.om_165 _ _ ih
theorem lit58 : Str.ofString ":" = S [58] := by decide +kernel
theorem close_spec (G : Gr) (hK : G.K = Mine.hd.heap_39 G.w.params) (fr wd tw a1 p1 e1 a2 p2 e2 : Addr) (nf nw : Nat) (fvs wvs : List Value) (m : Nat) (tm : Tok) (g : List Nat) (tg : Tok) (tx gp : List Nat) (t1 t2 : Tok) (n1 n2 n3 : Nat) (pv ev : List Value) (tx2 : List Nat) (u1 : Tok) (x2 : Value) (m1 : Nat)
    (hm : m < 3) (htx : tx.length + gp.length ≤ 300000) (hpv : pv.length ≤ 1000) (hev : ev.length ≤ 1000) (hf : fvs.length ≤ 1000) (hwv : wvs.length ≤ 1000) (h256 : ∀ c ∈ tx2, c < 256) (h2l : tx2.length ≤ 90000) :
    Sp G 6 [(fr, listOf (fvs ++ [Value.ref a1] ++ [Value.ref a2]).toArray nf), (wd, listOf (wvs ++ [Value.ref tw]).toArray nw), (tw, tupOf [Value.int (m : Int) tm, .str (S g) tg].toArray),
        (a1, listOf [.ref p1, .str (S tx) t1, .str (S gp) t2, .ref e1].toArray n1), (p1, listOf pv.toArray n2), (e1, listOf ev.toArray n3), (a2, listOf [.ref p2, .str (S tx2) u1, x2, .ref e2].toArray m1)] (.ref 117) [.ref fr, .ref wd] []
      fun v post => v = .none ∧ ∃ nf' nw' t1' t2' te n1', post = [(fr, listOf (fvs ++ [Value.ref a1]).toArray nf'), (wd, listOf wvs.toArray nw'),
        (a1, listOf [.ref p1, .str (S (tx ++ gp ++ wordOf (58 :: b64T tx2) m)) t1', .str (S (effGap m g)) t2', .ref e1].toArray n1'), (p1, listOf (pv ++ [Value.ref p2]).toArray (n2 + 1)),
        (e1, listOf (ev ++ [Value.int (((tx ++ gp ++ wordOf (58 :: b64T tx2) m).length + endAdd m : Nat) : Int) te]).toArray (n3 + 1))] := by
  refine enter (N := [Str.ofString "frames", Str.ofString "words", Str.ofString "closed", Str.ofString "manner", Str.ofString "gap", Str.ofString "written"]) (Gs := [(Str.ofString "b64encode", .ref 93), (Str.ofString "bytes", .type "bytes"), (Str.ofString "_law_put", .ref 112)]) (binds := [(Str.ofString "frames", .ref fr), (Str.ofString "words", .ref wd)]) (vals := [some (.ref fr), some (.ref wd), none, none, none, none]) (ho := by rw [hK]; k_is) (hcd := by rw [hK]; k_is) (hbind := fun s X => BindsTo.of_eq rfl) [Str.ofString "closed", Str.ofString "manner", Str.ofString "gap", Str.ofString "written"] (hN := rfl) (hv := rfl) (hnd := by decide) (hloc := by decide +kernel)
    (hglb := fun p hp => by
      rcases List.mem_cons.mp hp with rfl | hp
      · exact ⟨by decide +kernel, by decide, glb_b64 G hK⟩
      rcases List.mem_cons.mp hp with rfl | hp
      · exact ⟨by decide +kernel, by decide, glb_bytes G hK⟩
      rcases List.mem_cons.mp hp with rfl | hp
      · exact ⟨by decide +kernel, by decide, glb_put G hK⟩
      cases hp) (hcell := by decide +kernel) (hco := rfl) (hgen := rfl) (hk := rfl) ?_
  intro fm rest
  show T fm 5 _ ((fr, listOf (fvs ++ [Value.ref a1] ++ [Value.ref a2]).toArray nf) :: (wd, listOf (wvs ++ [Value.ref tw]).toArray nw) :: (tw, tupOf [Value.int (m : Int) tm, .str (S g) tg].toArray) ::
        (a1, listOf [.ref p1, .str (S tx) t1, .str (S gp) t2, .ref e1].toArray n1) :: (p1, listOf pv.toArray n2) :: (e1, listOf ev.toArray n3) :: (a2, listOf [.ref p2, .str (S tx2) u1, x2, .ref e2].toArray m1) :: rest) _ _
  (refine T_cons ?_; refine T_Assign (by walk_at "u") ?_; refine T_CallM (by walk_at "u") ?_; refine T_local .here ?_; refine T_meth_list PySem.F.slot_list_pop PySem.F.type_list_pop (by walk_at "mem") ?_; refine M_mk ?_; refine T_b0 ?_)
  refine T_pop (vs := fvs ++ [Value.ref a1]) (fun _ => by walk_at "upd") (by simp; exact Mine.om_166 _ hf) ?_
  intro nf'
  (refine T_store (.there (.there .here)) ?_; refine K_next ?_; refine T_cons ?_; refine T_AssignT (by walk_at "u") (by walk_at "u") ?_; refine T_CallM (by walk_at "u") ?_; refine T_local (.there .here) ?_; refine T_meth_list PySem.F.slot_list_pop PySem.F.type_list_pop (by walk_at "mem") ?_; refine M_mk ?_; refine T_b0 ?_)
  refine T_pop (vs := wvs) (fun _ => by walk_at "upd") (by exact Mine.om_167 _ hwv) ?_
  intro nw'
  refine T_unpack_tup (by walk_at "mem") rfl rfl ?_
  (refine T_asg_cons (by walk_at "u") ?_; refine T_assignN (.there (.there (.there .here))) ?_; refine T_asg_cons (by walk_at "u") ?_; refine T_assignN (.there (.there (.there (.there .here)))) ?_; refine T_asg_nil ?_; refine K_next ?_; refine T_cons ?_; refine T_Assign (by walk_at "u") ?_; refine T_CallN ?_; refine T_glob List.mem_cons_self ?_; refine T_k1 (by rw [hK]; k_is) (by walk_at "u") (by walk_at "u") ?_; refine T_args_cons (by walk_at "u") ?_; refine T_CallN ?_; refine T_glob (List.mem_cons_of_mem _ List.mem_cons_self) ?_; refine T_ty1 (by walk_at "u") (by walk_at "u") ?_; refine T_args_cons (by walk_at "u") ?_)
  refine T_comp [Str.ofString "sign"] [(Str.ofString "ord", .builtin "ord")] (fun _ => rfl) (cl := []) rfl rfl (by decide +kernel) (by decide +kernel) (by decide) (by decide +kernel) (fun p hp => by
    rcases List.mem_cons.mp hp with rfl | hp
    · exact ⟨by decide +kernel, by decide, glb_ord G hK⟩
    cases hp) ?_
  (refine T_Subscript ?_; refine T_local (.there (.there .here)) ?_; refine T_int ?_; intro _)
  refine T_item_list (by walk_at "mem") (by decide) (by decide) (x := .str (S tx2) u1) rfl (by walk_at "u") ?_
  refine T_iter_strG ?_
  intro it oi hoi acc oL cfm hsc
  refine C_compG (fun i ys => IntsAre ys (nz (tx2.take i))) hoi .nil (by exact Mine.om_168 _ h2l) (fun _ => rfl) ?_ ?_
  · intro i c uc o ys e3 hv hj
    (refine T_CallN ?_; refine T_glob List.mem_cons_self ?_; refine T_b1 (by walk_at "u") (by walk_at "u") ?_; refine T_args_cons (by walk_at "u") ?_; refine T_local .here ?_; refine T_args_nil ?_)
    refine T_ord ?_
    intro to
    refine ⟨?_, rfl, by walk_at "sbl"⟩
    have := IntsAre.snoc (n := (c : Int)) (t := to) hj
    rw [← take_snoc hv]
    simpa [nz] using this
  intro u ys e3 hyl hj
  rw [List.take_length] at hj
  refine ⟨(acc, listOf ys.toArray e3) :: (fr, listOf (fvs ++ [Value.ref a1]).toArray nf') :: (wd, listOf wvs.toArray nw') :: (a1, listOf [.ref p1, .str (S tx) t1, .str (S gp) t2, .ref e1].toArray n1) :: (p1, listOf pv.toArray n2) :: (e1, listOf ev.toArray n3) :: (a2, listOf [.ref p2, .str (S tx2) u1, x2, .ref e2].toArray m1) :: rest, by walk_at "sbl", ?_⟩
  (refine T_args_nil ?_)
  refine T_bytes_of (ns := nz tx2) (by walk_at "mem") hj (by
    intro z hz
    obtain ⟨x, hx, rfl⟩ := List.mem_map.mp hz
    have := h256 x hx
    exact Mine.om_169 _ this) (line20 (by exact Mine.om_170 _ _ h2l hyl)) ?_
  (intro _; refine T_args_nil ?_)
  refine T_call (b64_spec G hK (byteArr (nz tx2)) _ (by rw [byteArr_size]; simp [nz]; exact Mine.om_171 _ h2l)) (by decide) .nil ?_
  rintro _ _ ⟨⟨tw', rfl⟩, rfl⟩
  rw [List.nil_append, byteArr_nat h256, ← nz_b64T]
  have hbl := b64T_len tx2
  have hb256 := b64T_lt tx2
  generalize b64T tx2 = bt at hbl hb256
  (refine T_store (.there (.there (.there (.there (.there .here))))) ?_; refine K_next ?_; refine T_cons ?_; refine T_Expr (by walk_at "u") ?_; refine T_CallN ?_; refine T_glob (List.mem_cons_of_mem _ (List.mem_cons_of_mem _ List.mem_cons_self)) ?_; refine T_k1 (by rw [hK]; k_is) (by walk_at "u") (by walk_at "u") ?_; refine T_args_cons (by walk_at "u") ?_; refine T_Subscript ?_; refine T_local .here ?_; refine T_UnaryOp ?_; refine T_int ?_; intro _; refine T_neg ?_; intro _)
  refine T_item_last (by walk_at "mem") (by walk_at "u") ?_
  (refine T_args_cons (by walk_at "u") ?_; refine T_Subscript ?_; refine T_local (.there (.there .here)) ?_; refine T_int ?_; intro _)
  refine T_item_list (by walk_at "mem") (by decide) (by decide) (x := .ref p2) rfl (by walk_at "u") ?_
  (refine T_args_cons (by walk_at "u") ?_; refine T_BinOp ?_; refine T_str ?_; intro _; refine T_CallM (by walk_at "u") ?_; refine T_str ?_; intro _; refine T_meth_str PySem.F.slot_str_join PySem.F.type_str_join ?_; refine M_mk ?_; refine T_b2 (by walk_at "u") (by walk_at "u") ?_; refine T_args_cons (by walk_at "u") ?_)
  refine T_comp [Str.ofString "octet"] [(Str.ofString "chr", .builtin "chr")] (fun _ => rfl) (cl := []) rfl rfl (by decide +kernel) (by decide +kernel) (by decide) (by decide +kernel) (fun p hp => by
    rcases List.mem_cons.mp hp with rfl | hp
    · exact ⟨by decide +kernel, by decide, glb_chr G hK⟩
    cases hp) ?_
  (refine T_local (.there (.there (.there (.there (.there .here))))) ?_)
  refine T_iter_bytes ?_
  intro it4 oi4 hoi4 acc4 oL4 cfm4 hsc4
  have hbs : (byteArr (nz bt)).size = bt.length := by rw [byteArr_size]; simp [nz]
  refine C_compB (fun i ys => StrsAre ys ((bt.take i).map fun c => S [c])) hoi4 .nil (by exact Mine.om_172 _ _ _ h2l hbl hbs) (fun _ => rfl) ?_ ?_
  · intro i c uc o ys e3 hv hj
    have hfi : bt[i]? = some c.toNat := by
      have e1 := byteArr_nat (os := bt) hb256
      rw [← e1, List.getElem?_map, Array.getElem?_toList, hv]; rfl
    have hc256 := hb256 c.toNat (List.mem_of_getElem? hfi)
    (refine T_CallN ?_; refine T_glob List.mem_cons_self ?_; refine T_b1 (by walk_at "u") (by walk_at "u") ?_; refine T_args_cons (by walk_at "u") ?_; refine T_local .here ?_; refine T_args_nil ?_)
    refine T_chr (by exact Mine.om_152 _ hc256) ?_
    intro tc
    refine ⟨?_, rfl, by walk_at "sbl"⟩
    rw [← take_snoc hfi, List.map_append]
    exact sx_app hj (.cons _ _ .nil)
  intro u4 ys4 e4 hyl4 hj4
  rw [hbs, List.take_length] at hj4
  refine ⟨(acc4, listOf ys4.toArray e4) :: (fr, listOf (fvs ++ [Value.ref a1]).toArray nf') :: (wd, listOf wvs.toArray nw') :: (a1, listOf [.ref p1, .str (S tx) t1, .str (S gp) t2, .ref e1].toArray n1) :: (p1, listOf pv.toArray n2) :: (e1, listOf ev.toArray n3) :: rest, by walk_at "sbl", ?_⟩
  (refine T_args_nil ?_)
  rename_i te
  rw [show Value.str (Str.ofString "") te = Value.str (S []) te by rw [lit_]]
  refine T_join (by walk_at "mem") hj4 ?_ ?_
  · have e1 : (bt.map fun c => S [c]) = (bt.map fun c => [c]).map S := by rw [List.map_map]; rfl
    have e2 := flat1_len bt
    rw [e1, sum_len, e2]; simp only [List.length_map]; exact Mine.om_173 _ _ h2l hbl
  rw [join_S1, lit58]
  intro tj
  refine T_adds (by rw [S_app, S_len]; exact line20 (by simp; exact Mine.om_174 _ _ h2l hbl)) ?_
  rw [S_app, show [58] ++ bt = 58 :: bt from rfl]
  (intro _; refine T_args_cons (by walk_at "u") ?_; refine T_local (.there (.there (.there .here))) ?_; refine T_args_cons (by walk_at "u") ?_; refine T_local (.there (.there (.there (.there .here)))) ?_; refine T_args_nil ?_)
  refine T_call (put_spec G hK a1 p1 e1 tx gp t1 t2 n1 n2 n3 pv ev (.ref p2) (58 :: bt) _ m tm g tg hm (by simp; exact Mine.om_175 _ _ h2l hbl) htx hpv hev) (by decide) (by walk_at "sub") ?_
  rintro _ _ ⟨rfl, t1', t2', te', n1', rfl⟩
  simp only [List.cons_append, List.nil_append]
  (refine K_next ?_; refine T_nil ?_)
  exact ⟨[_, _, _, _, _], by walk_at "sbl2", rfl, nf', nw', t1', t2', te', n1', rfl⟩

/-! trees of texts, plain -/
inductive Tr where
  | leaf (s : List Nat)
  | node (ks : List Tr) (tx : List Nat)
noncomputable def wordT : Tr → List Nat
  | .leaf s => 46 :: s
  | .node _ tx => 58 :: b64T tx
noncomputable def kidsT : Tr → List Tr
  | .leaf _ => []
  | .node ks _ => ks
mutual
noncomputable def sizeT : Tr → Nat
  | .leaf _ => 1
  | .node ks _ => 1 + sizeL ks
noncomputable def sizeL : List Tr → Nat
  | [] => 0
  | t :: ts => sizeT t + sizeL ts
end
theorem sizeL_app (a b : List Tr) : sizeL (a ++ b) = sizeL a + sizeL b := by
  induction a with
  | nil => simp [sizeL]
  | cons t a ih => simp [sizeL, ih]; exact Mine.om_176 _ _ _
theorem sizeT_pos (t : Tr) : 1 ≤ sizeT t := by cases t <;> simp [sizeT] <;> omega
theorem sizeT_kids (t : Tr) : sizeT t = 1 + sizeL (kidsT t) := by cases t <;> simp [sizeT, kidsT, sizeL]
theorem len_le_size (ts : List Tr) : ts.length ≤ sizeL ts := by
  induction ts with
  | nil => simp [sizeL]
  | cons t ts ih => have := sizeT_pos t; simp [sizeL]; exact Mine.om_177 _ _ _ ih this
/-- a part of a node: its tree, the word's manner, what follows the word -/
structure It where
  t : Tr
  m : Nat
  g : List Nat
noncomputable def It.w (it : It) : List Nat := wordOf (wordT it.t) it.m
noncomputable def txt : List Nat → List It → List Nat
  | _, [] => []
  | lead, it :: L => lead ++ it.w ++ txt it.g L
noncomputable def lastgap : List Nat → List It → List Nat
  | lead, [] => lead
  | _, it :: L => lastgap it.g L
noncomputable def ent : Nat → List Nat → List It → List Nat
  | _, _, [] => []
  | n, lead, it :: L => (n + lead.length + it.w.length + endAdd it.m) :: ent (n + lead.length + it.w.length) it.g L
theorem txt_snoc (it : It) : ∀ (L : List It) (lead : List Nat), txt lead (L ++ [it]) = txt lead L ++ lastgap lead L ++ it.w
  | [], lead => by simp [txt, lastgap]
  | x :: L, lead => by
    have ih := txt_snoc it L x.g
    simp only [List.cons_append, txt, lastgap, ih, List.append_assoc]
theorem lastgap_snoc (it : It) : ∀ (L : List It) (lead : List Nat), lastgap lead (L ++ [it]) = it.g
  | [], lead => rfl
  | x :: L, lead => lastgap_snoc it L x.g
theorem ent_snoc (it : It) : ∀ (L : List It) (n : Nat) (lead : List Nat), ent n lead (L ++ [it]) = ent n lead L ++ [n + (txt lead L).length + (lastgap lead L).length + it.w.length + endAdd it.m]
  | [], n, lead => by simp [ent, txt, lastgap]
  | x :: L, n, lead => by
    have ih := ent_snoc it L (n + lead.length + x.w.length) x.g
    simp only [List.cons_append, ent, ih, txt, lastgap, List.length_append]
    congr 4
    exact Mine.om_178 _ _ _ _ _ _
theorem ent_length : ∀ (L : List It) (n : Nat) (lead : List Nat), (ent n lead L).length = L.length
  | [], _, _ => rfl
  | x :: L, n, lead => by simp [ent, ent_length L]
/-- what holds of a part -/
structure ItG (it : It) : Prop where
  m : it.m < 3
  g : ∀ c ∈ it.g, wsB c = true
  ne : it.m ≠ 1 → it.g ≠ []
inductive Wf : Tr → Prop
  | leaf {s} : (∀ c ∈ s, c < 256) → Wf (.leaf s)
  | node {its : List It} : (∀ it ∈ its, ItG it) → (∀ it ∈ its, Wf it.t) → Wf (.node (its.map It.t) (txt [] its))
structure ItsOk (its : List It) : Prop where
  g : ∀ it ∈ its, ItG it
  w : ∀ it ∈ its, Wf it.t
theorem ItsOk.nil : ItsOk [] := ⟨fun _ h => (nomatch h), fun _ h => (nomatch h)⟩
theorem ItsOk.snoc {its it} (h : ItsOk its) (g : ItG it) (w : Wf it.t) : ItsOk (its ++ [it]) := by
  refine ⟨fun x hx => ?_, fun x hx => ?_⟩
  all_goals
    rcases List.mem_append.mp hx with q | q
    · first | exact h.g x q | exact h.w x q
    · rw [List.mem_singleton.mp q]; assumption
theorem wsB_lt {c : Nat} (h : wsB c = true) : c < 256 := by
  have := of_decide_eq_true h
  simp at this
  exact Mine.om_179 _ this
theorem wordOf_lt {w : List Nat} {m : Nat} (h : ∀ c ∈ w, c < 256) : ∀ c ∈ wordOf w m, c < 256 := by
  have hb : ∀ c ∈ bsW w, c < 256 := by
    intro c hc
    obtain ⟨l, hl, hcl⟩ := List.mem_flatten.mp hc
    obtain ⟨x, hx, rfl⟩ := List.mem_map.mp hl
    have := h x hx
    simp at hcl
    exact Mine.om_180 _ _ this hcl
  have he : ∀ m, ∀ c ∈ escW m w, c < 256 := by
    intro m c hc
    obtain ⟨l, hl, hcl⟩ := List.mem_flatten.mp hc
    obtain ⟨x, hx, rfl⟩ := List.mem_map.mp hl
    have := h x hx
    unfold escU at hcl
    split at hcl <;> simp at hcl <;> (first | exact Mine.om_180 _ _ this hcl | exact Mine.om_181 _ _ this hcl)
  intro c hc
  unfold wordOf at hc
  split at hc
  · exact hb c hc
  · split at hc
    · rcases List.mem_append.mp hc with hc | hc
      · rcases List.mem_append.mp hc with hc | hc
        · simp at hc; exact Mine.om_182 _ hc
        · exact he 1 c hc
      · simp at hc; exact Mine.om_182 _ hc
    · exact he m c hc
theorem Wf.word_lt {t : Tr} (h : Wf t) : ∀ c ∈ wordT t, c < 256 := by
  intro c hc
  cases h with
  | leaf hs =>
    simp only [wordT, List.mem_cons] at hc
    rcases hc with rfl | hc
    · decide
    · exact hs c hc
  | node _ _ =>
    simp only [wordT, List.mem_cons] at hc
    rcases hc with rfl | hc
    · decide
    · exact b64T_lt _ c hc
theorem txt_lt {its : List It} (h : ItsOk its) : ∀ (lead : List Nat), (∀ c ∈ lead, c < 256) → ∀ c ∈ txt lead its, c < 256 := by
  induction its with
  | nil => intro lead _ c hc; cases hc
  | cons x L ih =>
    intro lead hl c hc
    simp only [txt] at hc
    rcases List.mem_append.mp hc with hc | hc
    · rcases List.mem_append.mp hc with hc | hc
      · exact hl c hc
      · exact wordOf_lt (h.w x List.mem_cons_self).word_lt c hc
    · exact ih ⟨fun y hy => h.g y (List.mem_cons_of_mem _ hy), fun y hy => h.w y (List.mem_cons_of_mem _ hy)⟩ x.g (fun c hc => wsB_lt ((h.g x List.mem_cons_self).g c hc)) c hc
/-! trees in the heap -/
mutual
inductive Has (tl : Led) : Value → Tr → Prop
  | leaf {s t} : Has tl (.str (S s) t) (.leaf s)
  | node {a vs n ks tx} : (a, listOf (List.toArray vs) n) ∈ tl → HasL tl vs ks → Has tl (.ref a) (.node ks tx)
inductive HasL (tl : Led) : List Value → List Tr → Prop
  | nil : HasL tl [] []
  | cons {v t vs ts} : Has tl v t → HasL tl vs ts → HasL tl (v :: vs) (t :: ts)
end
theorem HasL.mono {tl tl' : Led} (h : ∀ p ∈ tl, p ∈ tl') {vs ts} (x : HasL tl vs ts) : HasL tl' vs ts := by
  refine HasL.rec (motive_1 := fun v t _ => Has tl' v t) (motive_2 := fun vs ts _ => HasL tl' vs ts) ?_ ?_ ?_ ?_ x
  · exact .leaf
  · intro a vs n ks tx hm _ ih; exact .node (h _ hm) ih
  · exact .nil
  · intro v t vs ts _ _ i1 i2; exact .cons i1 i2
theorem HasL.snoc {tl : Led} {vs ts v t} (x : HasL tl vs ts) (y : Has tl v t) : HasL tl (vs ++ [v]) (ts ++ [t]) := by
  induction vs generalizing ts with
  | nil => cases x; exact .cons y .nil
  | cons w vs ih =>
    cases x with
    | cons h h' => exact .cons h (ih h')
theorem HasL.len {tl : Led} : ∀ {vs ts}, HasL tl vs ts → vs.length = ts.length
  | [], _, x => by cases x; rfl
  | _ :: vs, _, x => by cases x with | cons _ h => simp [HasL.len h]

/-! frames -/
theorem Pick.app {p : Addr × Obj} {l l' : Led} (tl : Led) (h : Pick p l l') : Pick p (tl ++ l) (tl ++ l') := by
  induction tl with
  | nil => exact h
  | cons q tl ih => exact .tail ih
theorem SubL.app {ps l r : Led} (pre : Led) (h : SubL ps l r) : SubL ps (pre ++ l) (pre ++ r) := by
  induction h with
  | nil => exact .nil
  | cons h _ ih => exact .cons (Pick.app pre h) ih
theorem Sbl.app {a b : Led} (pre : Led) (h : Sbl a b) : Sbl (pre ++ a) (pre ++ b) := by
  induction pre with
  | nil => exact h
  | cons q pre ih => exact .pick .head ih
theorem Sbl.swapApp (X tl rest : Led) : Sbl (X ++ (tl ++ rest)) (tl ++ (X ++ rest)) := by
  induction X with
  | nil => exact .refl
  | cons p X ih => exact .pick (Pick.app tl .head) ih
theorem Sbl.dropApp (tl rest : Led) : Sbl rest (tl ++ rest) := by
  induction tl with
  | nil => exact .refl
  | cons p tl ih => exact .drop ih
theorem Sbl.nilAll (b : Led) : Sbl [] b := by
  induction b with
  | nil => exact .refl
  | cons p b ih => exact .drop ih
theorem Sbl.ofSub : ∀ {a b r : Led}, b.Perm (a ++ r) → Sbl a b
  | [], b, r, _ => Sbl.nilAll b
  | p :: a, b, r, h => by
    have hp : p ∈ b := h.mem_iff.mpr (by simp)
    obtain ⟨b1, b2, rfl⟩ := List.append_of_mem hp
    have h2 : (b1 ++ b2).Perm (a ++ r) := List.Perm.cons_inv ((List.perm_middle.symm).trans h)
    exact .pick (Pick.app b1 .head) (Sbl.ofSub h2)
theorem Sbl.trans {a b c : Led} (h : Sbl a b) (h' : Sbl b c) : Sbl a c := by
  obtain ⟨r, e⟩ := h.sub
  obtain ⟨r', e'⟩ := h'.sub
  exact Sbl.ofSub (r := r ++ r') (e'.trans (by rw [← List.append_assoc]; exact e.append_right r'))
structure Fz where
  a : Addr
  p : Addr
  e : Addr
  n1 : Nat
  n2 : Nat
  n3 : Nat
  t1 : Tok
  t2 : Tok
  pv : List Value
  ev : List Value
  its : List It
noncomputable abbrev Fz.led (f : Fz) (tail : Led) : Led :=
  (f.a, listOf [.ref f.p, .str (S (txt [] f.its)) f.t1, .str (S (lastgap [] f.its)) f.t2, .ref f.e].toArray f.n1) :: (f.p, listOf f.pv.toArray f.n2) :: (f.e, listOf f.ev.toArray f.n3) :: tail
noncomputable def Fz.len (f : Fz) : Nat := (txt [] f.its).length
noncomputable def Fz.sz (f : Fz) : Nat := sizeL (f.its.map It.t)
structure FrOk (tl : Led) (f : Fz) : Prop where
  has : HasL tl f.pv (f.its.map It.t)
  ends : IntsAre f.ev (nz (ent 0 [] f.its))
  ok : ItsOk f.its
  gap : (lastgap [] f.its).length ≤ 3
theorem FrOk.mono {tl tl' f} (h : ∀ p ∈ tl, p ∈ tl') (x : FrOk tl f) : FrOk tl' f := ⟨x.has.mono h, x.ends, x.ok, x.gap⟩
structure Wd where
  a : Addr
  m : Nat
  tm : Tok
  g : List Nat
  tg : Tok
noncomputable abbrev Wd.led (w : Wd) (tail : Led) : Led := (w.a, tupOf [Value.int (w.m : Int) w.tm, .str (S w.g) w.tg].toArray) :: tail
noncomputable def GapOk (g : List Nat) : Prop := g ≠ [] ∧ g.length ≤ 3 ∧ ∀ c ∈ g, wsB c = true
structure WdOk (w : Wd) : Prop where
  m : w.m < 3
  g : GapOk w.g
noncomputable def stk : List (Fz × Wd) → Led → Led
  | [], tail => tail
  | q :: r, tail => q.1.led (q.2.led (stk r tail))
noncomputable def frv (tops : List (Fz × Wd)) (root : Fz) : List Value := [.ref root.a] ++ tops.reverse.map fun q => .ref q.1.a
noncomputable def wdv (tops : List (Fz × Wd)) : List Value := tops.reverse.map fun q => .ref q.2.a
theorem frv_cons (q : Fz × Wd) (tops root) : frv (q :: tops) root = frv tops root ++ [.ref q.1.a] := by simp [frv]
theorem wdv_cons (q : Fz × Wd) (tops) : wdv (q :: tops) = wdv tops ++ [.ref q.2.a] := by simp [wdv]
theorem frv_len (tops root) : (frv tops root).length = tops.length + 1 := by simp [frv]
theorem wdv_len (tops) : (wdv tops).length = tops.length := by simp [wdv]
noncomputable def cur : List (Fz × Wd) → Fz → Fz
  | [], r => r
  | q :: _, _ => q.1
theorem frv_cur (tops root) : ∃ vs, frv tops root = vs ++ [.ref (cur tops root).a] := by
  cases tops with
  | nil => exact ⟨[], rfl⟩
  | cons q t => exact ⟨frv t root, frv_cons q t root⟩
noncomputable def wSum : List (Fz × Wd) → Fz → Nat
  | [], r => r.len
  | q :: t, r => q.1.len + wSum t r
noncomputable def nSum : List (Fz × Wd) → Fz → Nat
  | [], r => r.sz
  | q :: t, r => q.1.sz + 1 + nSum t r
structure StOk (tl : Led) (tops : List (Fz × Wd)) (root : Fz) (x i : Nat) : Prop where
  ht : ∀ q ∈ tops, FrOk tl q.1 ∧ WdOk q.2
  hr : FrOk tl root
  w : wSum tops root + 13 ≤ 13 * 2 ^ x
  hx : x + tops.length ≤ i
  n : nSum tops root ≤ i
noncomputable abbrev LED (FR WD : Addr) (nf nw : Nat) (tops : List (Fz × Wd)) (root : Fz) (tail : Led) : Led :=
  (FR, listOf (frv tops root).toArray nf) :: (WD, listOf (wdv tops).toArray nw) :: stk tops (root.led tail)
theorem pow_le {x y : Nat} (h : x ≤ y) : 2 ^ x ≤ 2 ^ y := Nat.pow_le_pow_right (by decide) h
/-- one more part -/
theorem put_fr {tl : Led} {f : Fz} {v : Value} {t : Tr} {m : Nat} {g : List Nat} {t1' t2' te n1'} (h : FrOk tl f) (hv : Has tl v t) (hw : Wf t) (hm : m < 3) (hg : GapOk g) :
    ∃ f' : Fz, f'.a = f.a ∧ [(f.a, listOf [.ref f.p, .str (S (txt [] f.its ++ lastgap [] f.its ++ wordOf (wordT t) m)) t1', .str (S (effGap m g)) t2', .ref f.e].toArray n1'), (f.p, listOf (f.pv ++ [v]).toArray (f.n2 + 1)),
        (f.e, listOf (f.ev ++ [Value.int (((txt [] f.its ++ lastgap [] f.its ++ wordOf (wordT t) m).length + endAdd m : Nat) : Int) te]).toArray (f.n3 + 1))] = f'.led [] ∧ FrOk tl f' ∧
      f'.len ≤ f.len + 3 + (wordOf (wordT t) m).length ∧ f'.sz = f.sz + sizeT t := by
  refine ⟨{ a := f.a, p := f.p, e := f.e, n1 := n1', n2 := f.n2 + 1, n3 := f.n3 + 1, t1 := t1', t2 := t2', pv := f.pv ++ [v], ev := f.ev ++ [Value.int (((txt [] f.its ++ lastgap [] f.its ++ wordOf (wordT t) m).length + endAdd m : Nat) : Int) te], its := f.its ++ [⟨t, m, effGap m g⟩] }, rfl, ?_, ⟨?_, ?_, ?_, ?_⟩, ?_, ?_⟩
  · rw [Fz.led]
    dsimp only
    rw [txt_snoc, lastgap_snoc]; rfl
  · dsimp only
    rw [List.map_append]
    exact h.has.snoc hv
  · dsimp only
    rw [ent_snoc]
    rw [show 0 + (txt [] f.its).length + (lastgap [] f.its).length + (It.w ⟨t, m, effGap m g⟩).length + endAdd (It.mk t m (effGap m g)).m = (txt [] f.its ++ lastgap [] f.its ++ wordOf (wordT t) m).length + endAdd m by
      simp only [List.length_append, It.w, Nat.zero_add]]
    have := IntsAre.snoc (n := (((txt [] f.its ++ lastgap [] f.its ++ wordOf (wordT t) m).length + endAdd m : Nat) : Int)) (t := te) h.ends
    simpa [nz] using this
  · dsimp only
    refine h.ok.snoc ⟨hm, ?_, ?_⟩ hw
    · dsimp only
      unfold effGap
      split
      · intro c hc; cases hc
      · exact hg.2.2
    · dsimp only
      intro hm1
      unfold effGap
      rw [if_neg (fun q => hm1 q.1)]
      exact hg.1
  · dsimp only
    rw [lastgap_snoc]
    dsimp only
    unfold effGap
    split
    · simp
    · exact hg.2.1
  · have := h.gap
    simp only [Fz.len]
    rw [txt_snoc]
    simp only [List.length_append, It.w]
    exact Mine.om_183 _ _ _ this
  · simp only [Fz.sz]
    rw [List.map_append, sizeL_app]
    simp [sizeL]

theorem stk_app (tops : List (Fz × Wd)) (tail : Led) : ∃ X : Led, ∀ tail, stk tops tail = X ++ tail := by
  induction tops with
  | nil => exact ⟨[], fun _ => rfl⟩
  | cons q t ih =>
    obtain ⟨X, h⟩ := ih
    exact ⟨q.1.led (q.2.led X), fun tail => by show q.1.led (q.2.led (stk t tail)) = _; rw [h]; rfl⟩
theorem stk_tail (tops : List (Fz × Wd)) (root : Fz) (p : Addr × Obj) (tl rest : Led) : Sbl (stk tops (root.led (p :: (tl ++ rest)))) (p :: stk tops (root.led (tl ++ rest))) := by
  obtain ⟨X, h⟩ := stk_app tops []
  rw [h, h]
  have : Sbl ((X ++ root.led []) ++ (([p] : Led) ++ (tl ++ rest))) ([p] ++ ((X ++ root.led []) ++ (tl ++ rest))) := Sbl.swapApp _ _ _
  simpa using this
theorem wSum_pos (tops root) : (cur tops root).len ≤ wSum tops root := by cases tops <;> simp [cur, wSum]
section
variable {G : Gr} {N : List Str} {Gs : List (Str × Value)} {Cs : List (Str × Addr)} {fm : Fm G N Gs Cs} {k : Nat} {vals : List (Option Value)}
theorem FrOk.pvl {tl f} (h : FrOk tl f) : f.pv.length ≤ f.sz := by
  have := h.has.len
  have h2 := len_le_size (f.its.map It.t)
  unfold Fz.sz; exact Mine.om_184 _ _ _ this h2
theorem FrOk.evl {tl f} (h : FrOk tl f) : f.ev.length ≤ f.sz := by
  have := h.ends.length
  have h2 := len_le_size (f.its.map It.t)
  simp [nz, ent_length] at this
  simp at h2
  unfold Fz.sz; exact Mine.om_184 _ _ _ this h2
theorem cur_sz (tops root) : (cur tops root).sz ≤ nSum tops root := by cases tops <;> simp [cur, nSum]; exact Mine.om_185 _ _
theorem T_put {pre rest tl : Led} {FR WD : Addr} {nf nw x i : Nat} {tops : List (Fz × Wd)} {root : Fz} {v : Value} {t : Tr} {tw tm tg : Tok} {m : Nat} {g : List Nat} {P : Po Value} (hK : G.K = Mine.hd.heap_39 G.w.params) (hk : 2 ≤ k) (h : StOk tl tops root x i) (hi : i ≤ 13)
    (hv : Has tl v t) (hw : Wf t) (hwl : (wordT t).length ≤ 3) (hst : sizeT t = 1) (hm : m < 3) (hg : GapOk g)
    (hP : ∀ tops' root' l', StOk tl tops' root' (x + 1) (i + 1) → tops'.length = tops.length → Sbl (pre ++ LED FR WD nf nw tops' root' (tl ++ rest)) l' → P .none vals l') :
    T fm k vals (pre ++ LED FR WD nf nw tops root (tl ++ rest)) (call (.ref 112) [.ref (cur tops root).a, v, .str (S (wordT t)) tw, .int (m : Int) tm, .str (S g) tg]) P := by
  have hx : x ≤ 13 := by have := h.hx; exact Mine.om_186 _ _ _ hi this
  have h213 : 2 ^ x ≤ 8192 := Nat.le_trans (pow_le hx) (by decide)
  have hwo := wordOf_len (wordT t) m
  have hcw := wSum_pos tops root
  have hcs := cur_sz tops root
  have hww := h.w
  have hnn := h.n
  have hpow : 2 ^ (x + 1) = 2 * 2 ^ x := by rw [Nat.pow_succ]; exact Mine.om_187 _
  have hone : 1 ≤ 2 ^ x := Nat.one_le_two_pow
  cases tops with
  | nil =>
    have hf := h.hr
    have h1 := hf.pvl
    have h2 := hf.evl
    have h3 := hf.gap
    simp only [cur, wSum, nSum] at hcw hcs hww hnn ⊢
    have hlen : (txt [] root.its).length = root.len := rfl
    refine T_call (put_spec G hK root.a root.p root.e (txt [] root.its) (lastgap [] root.its) root.t1 root.t2 root.n1 root.n2 root.n3 root.pv root.ev v (wordT t) tw m tm g tg hm (by exact Mine.om_188 _ hwl) (by exact Mine.om_189 _ _ _ _ h213 hww h3 hlen) (by exact Mine.om_190 _ _ _ hi hnn h1) (by exact Mine.om_190 _ _ _ hi hnn h2)) hk (SubL.app pre (r := (FR, listOf (frv [] root).toArray nf) :: (WD, listOf (wdv []).toArray nw) :: (tl ++ rest)) (by show SubL _ ((FR, listOf (frv [] root).toArray nf) :: (WD, listOf (wdv []).toArray nw) :: root.led (tl ++ rest)) _; walk_at "sub")) ?_
    rintro _ _ ⟨rfl, t1', t2', te, n1', rfl⟩
    obtain ⟨f', ha, hled, hok, hl, hs⟩ := put_fr (t1' := t1') (t2' := t2') (te := te) (n1' := n1') hf hv hw hm hg
    rw [hled]
    refine hP [] f' _ ⟨fun q hq => (nomatch hq), hok, ?_, ?_, ?_⟩ rfl ?_
    · simp only [wSum]; omega
    · simp; have := h.hx; simp at this; exact Mine.om_16 _ _ this
    · simp only [nSum]; exact Mine.om_191 _ _ _ _ hst hnn hs
    · refine Sbl.trans ?_ (Sbl.swapApp pre (f'.led []) _)
      refine Sbl.app pre ?_
      show Sbl ((FR, listOf [Value.ref f'.a].toArray nf) :: (WD, listOf (wdv []).toArray nw) :: f'.led (tl ++ rest)) (f'.led ((FR, listOf [Value.ref root.a].toArray nf) :: (WD, listOf (wdv []).toArray nw) :: (tl ++ rest)))
      rw [ha]
      walk_at "sbl"
  | cons q tops =>
    obtain ⟨f, w⟩ := q
    have hf : FrOk tl f := (h.ht (f, w) List.mem_cons_self).1
    have h1 := hf.pvl
    have h2 := hf.evl
    have h3 := hf.gap
    simp only [cur, wSum, nSum] at hcw hcs hww hnn ⊢
    have hlen : (txt [] f.its).length = f.len := rfl
    refine T_call (put_spec G hK f.a f.p f.e (txt [] f.its) (lastgap [] f.its) f.t1 f.t2 f.n1 f.n2 f.n3 f.pv f.ev v (wordT t) tw m tm g tg hm (by exact Mine.om_188 _ hwl) (by exact Mine.om_192 _ _ _ _ _ h213 hww h3 hlen) (by exact Mine.om_193 _ _ _ _ hi hnn h1) (by exact Mine.om_193 _ _ _ _ hi hnn h2)) hk (SubL.app pre (r := (FR, listOf (frv ((f, w) :: tops) root).toArray nf) :: (WD, listOf (wdv ((f, w) :: tops)).toArray nw) :: w.led (stk tops (root.led (tl ++ rest)))) (by show SubL _ ((FR, listOf (frv ((f, w) :: tops) root).toArray nf) :: (WD, listOf (wdv ((f, w) :: tops)).toArray nw) :: f.led (w.led (stk tops (root.led (tl ++ rest))))) _; walk_at "sub")) ?_
    rintro _ _ ⟨rfl, t1', t2', te, n1', rfl⟩
    obtain ⟨f', ha, hled, hok, hl, hs⟩ := put_fr (t1' := t1') (t2' := t2') (te := te) (n1' := n1') hf hv hw hm hg
    rw [hled]
    refine hP ((f', w) :: tops) root _ ⟨fun q hq => ?_, h.hr, ?_, ?_, ?_⟩ rfl ?_
    · rcases List.mem_cons.mp hq with rfl | hq
      · exact ⟨hok, (h.ht (f, w) List.mem_cons_self).2⟩
      · exact h.ht q (List.mem_cons_of_mem _ hq)
    · simp only [wSum]; omega
    · simp; have := h.hx; simp at this; exact Mine.om_194 _ _ _ this
    · simp only [nSum]; exact Mine.om_195 _ _ _ _ _ hst hnn hs
    · refine Sbl.trans ?_ (Sbl.swapApp pre (f'.led []) _)
      refine Sbl.app pre ?_
      show Sbl ((FR, listOf (frv ((f', w) :: tops) root).toArray nf) :: (WD, listOf (wdv ((f', w) :: tops)).toArray nw) :: f'.led (w.led (stk tops (root.led (tl ++ rest))))) (f'.led ((FR, listOf (frv ((f, w) :: tops) root).toArray nf) :: (WD, listOf (wdv ((f, w) :: tops)).toArray nw) :: w.led (stk tops (root.led (tl ++ rest)))))
      rw [frv_cons, frv_cons, wdv_cons, wdv_cons, ha]
      walk_at "sbl"
theorem Wf.frame {tl f} (h : FrOk tl f) : Wf (.node (f.its.map It.t) (txt [] f.its)) := .node h.ok.g h.ok.w
theorem T_close {pre rest tl : Led} {FR WD : Addr} {nf nw x i : Nat} {tops : List (Fz × Wd)} {f2 : Fz} {w2 : Wd} {root : Fz} {P : Po Value} (hK : G.K = Mine.hd.heap_39 G.w.params) (hk : 6 ≤ k) (h : StOk tl ((f2, w2) :: tops) root x i) (hi : i ≤ 13)
    (hP : ∀ tops' root' nf' nw' l', StOk ((f2.p, listOf f2.pv.toArray f2.n2) :: tl) tops' root' (x + 2) (i + 1) → tops'.length = tops.length → Sbl (pre ++ LED FR WD nf' nw' tops' root' ((f2.p, listOf f2.pv.toArray f2.n2) :: tl ++ rest)) l' → P .none vals l') :
    T fm k vals (pre ++ LED FR WD nf nw ((f2, w2) :: tops) root (tl ++ rest)) (call (.ref 117) [.ref FR, .ref WD]) P := by
  have hxt := h.hx
  simp only [List.length_cons] at hxt
  have h213 : 2 ^ x ≤ 4096 := Nat.le_trans (pow_le (show x ≤ 12 by exact Mine.om_196 _ _ _ hi hxt)) (by decide)
  have hpow : 2 ^ (x + 2) = 4 * 2 ^ x := by rw [Nat.pow_add]; exact Mine.om_197 _
  have hww := h.w
  have hnn := h.n
  simp only [wSum, nSum] at hww hnn
  have hf2 : FrOk tl f2 := (h.ht (f2, w2) List.mem_cons_self).1
  have hw2 : WdOk w2 := (h.ht (f2, w2) List.mem_cons_self).2
  have hl2 : (txt [] f2.its).length = f2.len := rfl
  have hmono : ∀ p ∈ tl, p ∈ (f2.p, listOf f2.pv.toArray f2.n2) :: tl := fun p hp => List.mem_cons_of_mem _ hp
  have hnode : Has ((f2.p, listOf f2.pv.toArray f2.n2) :: tl) (.ref f2.p) (.node (f2.its.map It.t) (txt [] f2.its)) := .node List.mem_cons_self (hf2.has.mono hmono)
  have hwf := Wf.frame hf2
  have hb := b64T_len (txt [] f2.its)
  have hwo := wordOf_len (58 :: b64T (txt [] f2.its)) w2.m
  simp only [List.length_cons] at hwo
  have hsz : sizeT (.node (f2.its.map It.t) (txt [] f2.its)) = 1 + f2.sz := by simp [sizeT, Fz.sz]
  cases tops with
  | nil =>
    have hf := h.hr
    have h1 := hf.pvl
    have h2 := hf.evl
    have h3 := hf.gap
    have hlen : (txt [] root.its).length = root.len := rfl
    simp only [wSum, nSum] at hww hnn
    refine T_call (close_spec G hK FR WD w2.a root.a root.p root.e f2.a f2.p f2.e nf nw [] [] w2.m w2.tm w2.g w2.tg (txt [] root.its) (lastgap [] root.its) root.t1 root.t2 root.n1 root.n2 root.n3 root.pv root.ev (txt [] f2.its) f2.t1 (.str (S (lastgap [] f2.its)) f2.t2) f2.n1
      hw2.m (by exact Mine.om_198 _ _ _ _ _ h213 hww h3 hlen) (by exact Mine.om_199 _ _ _ _ hi hnn h1) (by exact Mine.om_199 _ _ _ _ hi hnn h2) (by simp) (by simp) (txt_lt hf2.ok [] (by simp)) (by exact Mine.om_200 _ _ _ _ h213 hl2 hww)) hk
      (SubL.app pre (r := (f2.p, listOf f2.pv.toArray f2.n2) :: (f2.e, listOf f2.ev.toArray f2.n3) :: (tl ++ rest)) (by
        show SubL _ ((FR, listOf (frv [(f2, w2)] root).toArray nf) :: (WD, listOf (wdv [(f2, w2)]).toArray nw) :: f2.led (w2.led (root.led (tl ++ rest)))) _
        rw [frv_cons, wdv_cons]
        show SubL _ ((FR, listOf ([] ++ [Value.ref root.a] ++ [Value.ref f2.a]).toArray nf) :: (WD, listOf ([] ++ [Value.ref w2.a]).toArray nw) :: f2.led (w2.led (root.led (tl ++ rest)))) _
        walk_at "sub")) ?_
    rintro _ _ ⟨rfl, nf', nw', t1', t2', te, n1', rfl⟩
    obtain ⟨f', ha, hled, hok, hl, hs⟩ := put_fr (t1' := t1') (t2' := t2') (te := te) (n1' := n1') (hf.mono hmono) hnode hwf hw2.m hw2.g
    simp only [wordT] at hled hl
    refine hP [] f' nf' nw' _ ⟨fun q hq => (nomatch hq), hok, ?_, ?_, ?_⟩ rfl ?_
    · simp only [wSum]; exact Mine.om_201 _ _ _ _ _ _ _ _ hpow hl2 hb hwo hww hl
    · simp only [List.length_nil]; exact Mine.om_202 _ _ _ hxt
    · simp only [nSum]; exact Mine.om_203 _ _ _ _ _ hsz hnn hs
    · refine Sbl.trans (b := pre ++ ((FR, listOf ([] ++ [Value.ref root.a]).toArray nf') :: (WD, listOf [].toArray nw') :: (f'.led [] ++ ((f2.p, listOf f2.pv.toArray f2.n2) :: (f2.e, listOf f2.ev.toArray f2.n3) :: (tl ++ rest))))) ?_ ?_
      · refine Sbl.app pre ?_
        show Sbl ((FR, listOf [Value.ref f'.a].toArray nf') :: (WD, listOf [].toArray nw') :: f'.led ((f2.p, listOf f2.pv.toArray f2.n2) :: (tl ++ rest))) ((FR, listOf [Value.ref root.a].toArray nf') :: (WD, listOf [].toArray nw') :: f'.led ((f2.p, listOf f2.pv.toArray f2.n2) :: (f2.e, listOf f2.ev.toArray f2.n3) :: (tl ++ rest)))
        rw [ha]
        walk_at "sbl"
      · rw [← hled]
        exact Sbl.swapApp pre [_, _, _, _, _] _
  | cons q tops =>
    obtain ⟨f1, w1⟩ := q
    have hf : FrOk tl f1 := (h.ht (f1, w1) (List.mem_cons_of_mem _ List.mem_cons_self)).1
    have h1 := hf.pvl
    have h2 := hf.evl
    have h3 := hf.gap
    have hlen : (txt [] f1.its).length = f1.len := rfl
    simp only [wSum, nSum, List.length_cons] at hww hnn hxt
    refine T_call (close_spec G hK FR WD w2.a f1.a f1.p f1.e f2.a f2.p f2.e nf nw (frv tops root) (wdv ((f1, w1) :: tops)) w2.m w2.tm w2.g w2.tg (txt [] f1.its) (lastgap [] f1.its) f1.t1 f1.t2 f1.n1 f1.n2 f1.n3 f1.pv f1.ev (txt [] f2.its) f2.t1 (.str (S (lastgap [] f2.its)) f2.t2) f2.n1
      hw2.m (by exact Mine.om_204 _ _ _ _ _ _ h213 hww h3 hlen) (by exact Mine.om_205 _ _ _ _ _ hi hnn h1) (by exact Mine.om_205 _ _ _ _ _ hi hnn h2) (by rw [frv_len]; exact Mine.om_206 _ _ _ hi hxt) (by rw [wdv_len]; simp; exact Mine.om_207 _ _ _ hi hxt) (txt_lt hf2.ok [] (by simp)) (by exact Mine.om_208 _ _ _ _ _ h213 hl2 hww)) hk
      (SubL.app pre (r := (f2.p, listOf f2.pv.toArray f2.n2) :: (f2.e, listOf f2.ev.toArray f2.n3) :: w1.led (stk tops (root.led (tl ++ rest)))) (by
        show SubL _ ((FR, listOf (frv ((f2, w2) :: (f1, w1) :: tops) root).toArray nf) :: (WD, listOf (wdv ((f2, w2) :: (f1, w1) :: tops)).toArray nw) :: f2.led (w2.led (f1.led (w1.led (stk tops (root.led (tl ++ rest))))))) _
        rw [frv_cons, frv_cons, wdv_cons (f2, w2)]
        walk_at "sub")) ?_
    rintro _ _ ⟨rfl, nf', nw', t1', t2', te, n1', rfl⟩
    obtain ⟨f', ha, hled, hok, hl, hs⟩ := put_fr (t1' := t1') (t2' := t2') (te := te) (n1' := n1') (hf.mono hmono) hnode hwf hw2.m hw2.g
    simp only [wordT] at hled hl
    refine hP ((f', w1) :: tops) root nf' nw' _ ⟨fun q hq => ?_, h.hr.mono hmono, ?_, ?_, ?_⟩ rfl ?_
    · rcases List.mem_cons.mp hq with rfl | hq
      · exact ⟨hok, (h.ht (f1, w1) (List.mem_cons_of_mem _ List.mem_cons_self)).2⟩
      · have := h.ht q (List.mem_cons_of_mem _ (List.mem_cons_of_mem _ hq))
        exact ⟨this.1.mono hmono, this.2⟩
    · simp only [wSum]; exact Mine.om_209 _ _ _ _ _ _ _ _ _ hpow hl2 hb hwo hww hl
    · simp only [List.length_cons]; exact Mine.om_210 _ _ _ hxt
    · simp only [nSum]; exact Mine.om_211 _ _ _ _ _ _ hsz hnn hs
    · refine Sbl.trans (b := pre ++ ((FR, listOf (frv tops root ++ [Value.ref f1.a]).toArray nf') :: (WD, listOf (wdv ((f1, w1) :: tops)).toArray nw') :: (f'.led [] ++ ((f2.p, listOf f2.pv.toArray f2.n2) :: (f2.e, listOf f2.ev.toArray f2.n3) :: w1.led (stk tops (root.led (tl ++ rest))))))) ?_ ?_
      · refine Sbl.app pre ?_
        show Sbl ((FR, listOf (frv ((f', w1) :: tops) root).toArray nf') :: (WD, listOf (wdv ((f', w1) :: tops)).toArray nw') :: f'.led (w1.led (stk tops (root.led ((f2.p, listOf f2.pv.toArray f2.n2) :: (tl ++ rest)))))) ((FR, listOf (frv tops root ++ [Value.ref f1.a]).toArray nf') :: (WD, listOf (wdv ((f1, w1) :: tops)).toArray nw') :: f'.led ((f2.p, listOf f2.pv.toArray f2.n2) :: (f2.e, listOf f2.ev.toArray f2.n3) :: w1.led (stk tops (root.led (tl ++ rest)))))
        rw [frv_cons, wdv_cons, wdv_cons, ha]
        refine .pick .head (.pick .head (.pick .head (.pick .head (.pick .head ?_))))
        refine Sbl.trans (b := (f2.p, listOf f2.pv.toArray f2.n2) :: w1.led (stk tops (root.led (tl ++ rest)))) ?_ (.pick .head (.drop .refl))
        refine .pick (.tail .head) ?_
        exact stk_tail tops root _ tl rest
      · rw [← hled]
        exact Sbl.swapApp pre [_, _, _, _, _] _
end

/-! _law_drawn -/
noncomputable def thingsL : List (List Nat) := [[], [97], [32], [10], [34], [92], [58], [233]]
noncomputable def gapsL : List (List Nat) := [[32], [10], [9, 32, 10], [13]]
theorem glb_close (G : Gr) (hK : G.K = Mine.hd.heap_39 G.w.params) : Glb G (Str.ofString "_law_close") (.ref 117) := .inl (by rw [hK]; k_is)

theorem fmod_lt (x : Int) (n : Nat) (h : 0 < n) : ∃ j : Nat, x.fmod (n : Int) = (j : Int) ∧ j < n := by
  have h1 : (0 : Int) ≤ x.fmod (n : Int) := Int.fmod_nonneg_of_pos _ (by exact Mine.om_212 _ h)
  have h2 : x.fmod (n : Int) < (n : Int) := Int.fmod_lt_of_pos _ (by exact Mine.om_212 _ h)
  exact ⟨(x.fmod (n : Int)).toNat, by exact Mine.om_213 _ h1, by exact Mine.om_214 _ _ h1 h2⟩
theorem gaps_ok : ∀ j < 4, GapOk (gapsL.getD j []) := by
  intro j hj
  have : j = 0 ∨ j = 1 ∨ j = 2 ∨ j = 3 := by exact Mine.om_215 _ hj
  rcases this with rfl | rfl | rfl | rfl <;> (refine ⟨by decide, by decide, by decide⟩)
theorem things_ok : ∀ j < 8, (thingsL.getD j []).length ≤ 1 ∧ ∀ c ∈ thingsL.getD j [], c < 256 := by
  intro j hj
  have : j = 0 ∨ j = 1 ∨ j = 2 ∨ j = 3 ∨ j = 4 ∨ j = 5 ∨ j = 6 ∨ j = 7 := by exact Mine.om_216 _ hj
  rcases this with rfl | rfl | rfl | rfl | rfl | rfl | rfl | rfl <;> (refine ⟨by decide, by decide⟩)
theorem getD_some {L : List (List Nat)} {j : Nat} (h : j < L.length) : (L.map S)[j]? = some (S (L.getD j [])) := by
  rw [List.getElem?_map, List.getD_eq_getElem?_getD, List.getElem?_eq_getElem h]; rfl
theorem drawn_spec (G : Gr) (hK : G.K = Mine.hd.heap_39 G.w.params) (dl : Addr) (dvs : List Value) (ds : List Int) (ne : Nat) (hd : IntsAre dvs ds) (hl : ds.length ≤ 11) :
    Sp G 8 [(dl, listOf dvs.toArray ne)] (.ref 124) [.ref dl] [] fun v post => ∃ f tl, v = .ref f.a ∧ post = f.led tl ∧ FrOk tl f ∧ f.len ≤ 213000 ∧ f.sz ≤ 14 := by
  refine enter (N := [Str.ofString "deeds", Str.ofString "things", Str.ofString "frames", Str.ofString "words", Str.ofString "x", Str.ofString "manner", Str.ofString "gap", Str.ofString "leaf"]) (Gs := [(Str.ofString "len", .builtin "len"), (Str.ofString "_law_put", .ref 112), (Str.ofString "_law_close", .ref 117)]) (binds := [(Str.ofString "deeds", .ref dl)]) (vals := [some (.ref dl), none, none, none, none, none, none, none]) (ho := by rw [hK]; k_is) (hcd := by rw [hK]; k_is) (hbind := fun s X => BindsTo.of_eq rfl) [Str.ofString "things", Str.ofString "frames", Str.ofString "words", Str.ofString "x", Str.ofString "manner", Str.ofString "gap", Str.ofString "leaf"] (hN := rfl) (hv := rfl) (hnd := by decide) (hloc := by decide +kernel)
    (hglb := fun p hp => by
      rcases List.mem_cons.mp hp with rfl | hp
      · exact ⟨by decide +kernel, by decide, glb_len G hK⟩
      rcases List.mem_cons.mp hp with rfl | hp
      · exact ⟨by decide +kernel, by decide, glb_put G hK⟩
      rcases List.mem_cons.mp hp with rfl | hp
      · exact ⟨by decide +kernel, by decide, glb_close G hK⟩
      cases hp) (hcell := by decide +kernel) (hco := rfl) (hgen := rfl) (hk := rfl) ?_
  intro fm rest
  rw [List.singleton_append]
  (refine T_cons ?_; refine T_Assign (by walk_at "u") ?_; refine T_Tuple ?_; refine T_args_cons (by walk_at "u") ?_; refine T_str ?_; intro _; refine T_args_cons (by walk_at "u") ?_; refine T_str ?_; intro _; refine T_args_cons (by walk_at "u") ?_; refine T_str ?_; intro _; refine T_args_cons (by walk_at "u") ?_; refine T_str ?_; intro _; refine T_args_cons (by walk_at "u") ?_; refine T_str ?_; intro _; refine T_args_cons (by walk_at "u") ?_; refine T_str ?_; intro _; refine T_args_cons (by walk_at "u") ?_; refine T_str ?_; intro _; refine T_args_cons (by walk_at "u") ?_; refine T_str ?_; intro _; refine T_args_nil ?_)
  refine T_newTuple ?_
  intro TH
  rename_i b1 b2 b3 b4 b5 b6 b7 b8
  obtain ⟨thv, hthv⟩ : ∃ thv : List Value, [Value.str (Str.ofString "") b1, Value.str (Str.ofString "a") b2, Value.str (Str.ofString " ") b3, Value.str (Str.ofString "\n") b4, Value.str (Str.ofString "\"") b5, Value.str (Str.ofString "\\") b6, Value.str (Str.ofString ":") b7, Value.str (Str.ofString "é") b8] = thv := ⟨_, rfl⟩
  have hth : StrsAre thv (thingsL.map S) := by
    rw [← hthv, lit_, show Str.ofString "a" = S [97] by decide +kernel, lit32, show Str.ofString "\n" = S [10] by decide +kernel, lit34, lit92, lit58, show Str.ofString "é" = S [233] by decide +kernel]
    exact .cons _ _ (.cons _ _ (.cons _ _ (.cons _ _ (.cons _ _ (.cons _ _ (.cons _ _ (.cons _ _ .nil)))))))
  rw [hthv]
  clear hthv
  (refine T_store (.there .here) ?_; refine K_next ?_; refine T_cons ?_; refine T_Assign (by walk_at "u") ?_; refine T_List ?_; refine T_args_cons (by walk_at "u") ?_; refine T_List ?_; refine T_args_cons (by walk_at "u") ?_; refine T_List ?_; refine T_args_nil ?_)
  refine T_newList ?_
  intro rp
  (refine T_args_cons (by walk_at "u") ?_; refine T_str ?_; intro _; refine T_args_cons (by walk_at "u") ?_; refine T_str ?_; intro _; refine T_args_cons (by walk_at "u") ?_; refine T_List ?_; refine T_args_nil ?_)
  rename_i s1 s2
  rw [show Value.str (Str.ofString "") s1 = Value.str (S []) s1 by rw [lit_], show Value.str (Str.ofString "") s2 = Value.str (S []) s2 by rw [lit_]]
  refine T_newList ?_
  intro re
  (refine T_args_nil ?_)
  refine T_newList ?_
  intro ra
  (refine T_args_nil ?_)
  refine T_newList ?_
  intro FR
  (refine T_store (.there (.there .here)) ?_; refine K_next ?_; refine T_cons ?_; refine T_Assign (by walk_at "u") ?_; refine T_List ?_; refine T_args_nil ?_)
  refine T_newList ?_
  intro WD
  (refine T_store (.there (.there (.there .here))) ?_; refine K_next ?_; refine T_cons ?_)
  refine T_For (fun _ => rfl) ?_
  (refine T_local .here ?_)
  refine T_iter_list (by walk_at "mem") ?_
  intro it oi hoi
  let root0 : Fz := ⟨ra, rp, re, 0, 0, 0, s1, s2, [], [], []⟩
  refine C_weak (l' := (it, oi) :: (dl, listOf dvs.toArray ne) :: (TH, tupOf thv.toArray) :: LED FR WD 0 0 [] root0 ([] ++ rest)) ?_ ?_
  · show Sbl ((it, oi) :: (dl, listOf dvs.toArray ne) :: (TH, tupOf thv.toArray) :: (FR, listOf [Value.ref ra].toArray 0) :: (WD, listOf [].toArray 0) :: (ra, listOf [.ref rp, .str (S []) s1, .str (S []) s2, .ref re].toArray 0) :: (rp, listOf [].toArray 0) :: (re, listOf [].toArray 0) :: rest) _
    walk_at "sbl"
  have hst0 : StOk [] [] root0 0 0 := ⟨fun q hq => (nomatch hq), ⟨.nil, .nil, .nil, Nat.zero_le 3⟩, Nat.le_refl 13, Nat.le_refl 0, Nat.le_refl 0⟩
  have hdl : dvs.length = ds.length := hd.length
  refine C_any fun cc P hc hP => ?_
  have fin : ∀ (tops : List (Fz × Wd)) (root : Fz) (tl : Led) (nf nw x i : Nat) (x1 x2 x3 x4 : Option Value), StOk tl tops root x i → i ≤ 11 → tops.length ≤ 3 →
      P .next [some (.ref dl), some (.ref TH), some (.ref FR), some (.ref WD), x1, x2, x3, x4] ((dl, listOf dvs.toArray ne) :: (TH, tupOf thv.toArray) :: LED FR WD nf nw tops root (tl ++ rest)) := by
    subst hP
    intro tops root tl nf nw x i x1 x2 x3 x4 hst hi ht3
    (refine K_next ?_; refine T_cons ?_)
    refine T_While (C_any fun c2 P2 hc2 hP2 => ?_)
    have key2 : ∀ (m : Nat) (tops : List (Fz × Wd)) (root : Fz) (tl : Led) (nf nw x i : Nat), tops.length = m → StOk tl tops root x i → i + tops.length ≤ 14 →
        C fm 7 [some (.ref dl), some (.ref TH), some (.ref FR), some (.ref WD), x1, x2, x3, x4] ((dl, listOf dvs.toArray ne) :: (TH, tupOf thv.toArray) :: LED FR WD nf nw tops root (tl ++ rest)) c2 P2 := by
      subst hc2
      intro m
      induction m with
      | zero =>
        intro tops root tl nf nw x i hm hst hi
        obtain rfl : tops = [] := List.eq_nil_of_length_eq_zero hm
        refine C_while ?_
        (refine T_isTrue_val (by walk_at "u") ?_; refine T_local (.there (.there (.there .here))) ?_)
        refine T_truthy_list (by walk_at "mem") (line20 (by simp [wdv_len])) ?_
        refine If2.neg (by simp [wdv]) ?_
        subst hP2
        (refine T_nil ?_; refine K_next ?_; refine T_cons ?_; refine T_Return ?_; refine T_Subscript ?_; refine T_local (.there (.there .here)) ?_; refine T_int ?_; intro _)
        refine T_item_list (by walk_at "mem") (by decide) (by decide) (x := .ref root.a) rfl (by walk_at "u") ?_
        (refine K_ret ?_)
        refine ⟨root.led tl, ?_, root, tl, rfl, rfl, hst.hr, ?_, ?_⟩
        · exact .drop (.drop (.drop (.drop (.refl))))
        · have h1 := hst.w
          have h2 := hst.hx
          have h3 : 2 ^ x ≤ 16384 := Nat.le_trans (pow_le (show x ≤ 14 by simp at h2 hi; exact Mine.om_217 _ _ hi h2)) (by decide)
          simp only [wSum] at h1
          exact Mine.om_218 _ _ h1 h3
        · have h1 := hst.n
          simp only [nSum] at h1
          simp at hi
          exact Mine.om_217 _ _ hi h1
      | succ m ih =>
        intro tops root tl nf nw x i hm hst hi
        obtain ⟨⟨f2, w2⟩, tops, rfl⟩ : ∃ q t, tops = q :: t := by
          cases tops with
          | nil => cases hm
          | cons q t => exact ⟨q, t, rfl⟩
        refine C_while ?_
        (refine T_isTrue_val (by walk_at "u") ?_; refine T_local (.there (.there (.there .here))) ?_)
        refine T_truthy_list (by walk_at "mem") (line20 (by simp [wdv_len]; simp at hi; exact Mine.om_219 _ _ hi)) ?_
        refine If2.pos (by simp [wdv]) ?_
        (refine T_cons ?_; refine T_Expr (by walk_at "u") ?_; refine T_CallN ?_; refine T_glob (List.mem_cons_of_mem _ (List.mem_cons_of_mem _ List.mem_cons_self)) ?_; refine T_k1 (by rw [hK]; k_is) (by walk_at "u") (by walk_at "u") ?_; refine T_args_cons (by walk_at "u") ?_; refine T_local (.there (.there .here)) ?_; refine T_args_cons (by walk_at "u") ?_; refine T_local (.there (.there (.there .here))) ?_; refine T_args_nil ?_)
        simp only [List.length_cons] at hi hm
        refine T_close (pre := [(dl, listOf dvs.toArray ne), (TH, tupOf thv.toArray)]) hK (by decide) hst (by exact Mine.om_220 _ _ hi) ?_
        intro tops' root' nf' nw' l' hst' hle hsb
        refine K_next ?_
        refine T_nil ?_
        refine L_next ?_
        refine C_weak hsb ?_
        exact ih tops' root' _ nf' nw' (x + 2) (i + 1) (by exact Mine.om_221 _ _ _ hm hle) hst' (by exact Mine.om_222 _ _ _ hi hle)
    exact key2 tops.length tops root tl nf nw x i rfl hst (by exact Mine.om_223 _ _ hi ht3)
  have key : ∀ (m i : Nat) (o : Obj) (tops : List (Fz × Wd)) (root : Fz) (tl : Led) (nf nw x : Nat) (x1 x2 x3 x4 : Option Value), ds.length - i = m → i ≤ ds.length → ListIt o dl i → StOk tl tops root x i → tops.length ≤ 3 →
      C fm 7 [some (.ref dl), some (.ref TH), some (.ref FR), some (.ref WD), x1, x2, x3, x4] ((it, o) :: (dl, listOf dvs.toArray ne) :: (TH, tupOf thv.toArray) :: LED FR WD nf nw tops root (tl ++ rest)) cc P := by
    subst hc
    intro m
    induction m with
    | zero =>
      intro i o tops root tl nf nw x x1 x2 x3 x4 hm hi ho hst ht3
      refine C_for (T_end_list ho .head (by walk_at "mem") (by simp [hdl]; exact Mine.om_224 _ _ hm) (F_none ?_))
      (refine T_nil ?_)
      exact fin tops root tl nf nw x i x1 x2 x3 x4 hst (by exact Mine.om_225 _ _ hl hi) ht3
    | succ m ih =>
      intro i o tops root tl nf nw x x1 x2 x3 x4 hm hi ho hst ht3
      have hii : i < dvs.length := by exact Mine.om_226 _ _ _ _ hdl hm
      obtain ⟨d, td, hdv, hdd⟩ := IntsAre.get hd i dvs[i] (by simp [hii])
      refine C_for (T_next_list ho (fun o' => .head) (by walk_at "mem") (x := .int d td) (by simp [hii, hdv]) fun o' ho' => F_some rfl ?_)
      (refine T_assignN (.there (.there (.there (.there .here)))) ?_; refine T_cons ?_; refine T_Assign (by walk_at "u") ?_; refine T_BinOp ?_; refine T_BinOp ?_; refine T_local (.there (.there (.there (.there .here)))) ?_; refine T_int ?_; intro _; refine T_fdiv (by decide) (by decide) ?_; intro _; refine T_int ?_; intro _; refine T_mod (by decide) ?_; intro _; refine T_store (.there (.there (.there (.there (.there .here))))) ?_; refine K_next ?_; refine T_cons ?_; refine T_Assign (by walk_at "u") ?_; refine T_Subscript ?_; refine T_Tuple ?_; refine T_args_cons (by walk_at "u") ?_; refine T_str ?_; intro _; refine T_args_cons (by walk_at "u") ?_; refine T_str ?_; intro _; refine T_args_cons (by walk_at "u") ?_; refine T_str ?_; intro _; refine T_args_cons (by walk_at "u") ?_; refine T_str ?_; intro _; refine T_args_nil ?_)
      rename_i g1 g2 g3 g4
      obtain ⟨gv, hgv⟩ : ∃ gv : List Value, [Value.str (Str.ofString " ") g1, Value.str (Str.ofString "\n") g2, Value.str (Str.ofString "\t \n") g3, Value.str (Str.ofString "\x0d") g4] = gv := ⟨_, rfl⟩
      have hgs : StrsAre gv (gapsL.map S) := by
        rw [← hgv, lit32, show Str.ofString "\n" = S [10] by decide +kernel, show Str.ofString "\t \n" = S [9, 32, 10] by decide +kernel, show Str.ofString "\x0d" = S [13] by decide +kernel]
        exact .cons _ _ (.cons _ _ (.cons _ _ (.cons _ _ .nil)))
      show T _ _ _ _ (newTuple _) _
      rw [hgv]
      clear hgv
      obtain ⟨mn, hmn, hmn3⟩ := fmod_lt (d.fdiv 32) 3 (by decide)
      obtain ⟨jg, hjg, hjg4⟩ := fmod_lt (d.fdiv 96) 4 (by decide)
      obtain ⟨r4, hr4, hr44⟩ := fmod_lt d 4 (by decide)
      obtain ⟨ja, hja, hja8⟩ := fmod_lt (d.fdiv 4) 8 (by decide)
      obtain ⟨jb, hjb, hjb8⟩ := fmod_lt (d.fdiv 384) 8 (by decide)
      rw [show (d.fdiv 32).fmod 3 = (mn : Int) from hmn]
      refine T_newTuple ?_
      intro GT
      (refine T_BinOp ?_; refine T_BinOp ?_; refine T_local (.there (.there (.there (.there .here)))) ?_; refine T_int ?_; intro _; refine T_fdiv (by decide) (by decide) ?_; intro _; refine T_int ?_; intro _; refine T_mod (by decide) ?_; intro _)
      rw [show (d.fdiv 96).fmod 4 = (jg : Int) from hjg]
      obtain ⟨tg, hgx⟩ := sx_get hgs jg _ (getD_some (L := gapsL) (by show jg < 4; exact Mine.om_227 _ hjg4))
      refine T_item_tup (by walk_at "mem") hgx (by exact Mine.om_228 _ hjg4) (by walk_at "u") ?_
      have hgok := gaps_ok jg hjg4
      generalize gapsL.getD jg [] = gp at hgok
      (refine T_store (.there (.there (.there (.there (.there (.there .here)))))) ?_)
      refine K_next ?_
      refine T_weak (l' := (it, o') :: (dl, listOf dvs.toArray ne) :: (TH, tupOf thv.toArray) :: LED FR WD nf nw tops root (tl ++ rest)) (by walk_at "sbl") ?_
      (refine T_cons ?_; refine T_If ?_; refine T_isTrue_Compare (by walk_at "u") ?_; refine T_BinOp ?_; refine T_local (.there (.there (.there (.there .here)))) ?_; refine T_int ?_; intro _; refine T_mod (by decide) ?_; intro _; refine T_int ?_; intro _; refine T_lt ?_; refine T_truthy_bool ?_)
      rw [show d.fmod 4 = (r4 : Int) from hr4]
      refine If2.dec (fun h => ?_) fun h => ?_
      · (refine T_cons ?_; refine T_Assign (by walk_at "u") ?_; refine T_BinOp ?_; refine T_Subscript ?_; refine T_local (.there .here) ?_; refine T_BinOp ?_; refine T_BinOp ?_; refine T_local (.there (.there (.there (.there .here)))) ?_; refine T_int ?_; intro _; refine T_fdiv (by decide) (by decide) ?_; intro _; refine T_int ?_; intro _; refine T_mod (by decide) ?_; intro _)
        rw [show (d.fdiv 4).fmod 8 = (ja : Int) from hja]
        obtain ⟨ta, hax⟩ := sx_get hth ja _ (getD_some (L := thingsL) (by show ja < 8; exact Mine.om_229 _ hja8))
        refine T_item_tup (by walk_at "mem") hax (by exact Mine.om_230 _ hja8) (by walk_at "u") ?_
        (refine T_Subscript ?_; refine T_local (.there .here) ?_; refine T_BinOp ?_; refine T_BinOp ?_; refine T_local (.there (.there (.there (.there .here)))) ?_; refine T_int ?_; intro _; refine T_fdiv (by decide) (by decide) ?_; intro _; refine T_int ?_; intro _; refine T_mod (by decide) ?_; intro _)
        rw [show (d.fdiv 384).fmod 8 = (jb : Int) from hjb]
        obtain ⟨tb, hbx⟩ := sx_get hth jb _ (getD_some (L := thingsL) (by show jb < 8; exact Mine.om_229 _ hjb8))
        refine T_item_tup (by walk_at "mem") hbx (by exact Mine.om_230 _ hjb8) (by walk_at "u") ?_
        have hao := things_ok ja hja8
        have hbo := things_ok jb hjb8
        generalize thingsL.getD ja [] = sa at hao
        generalize thingsL.getD jb [] = sb at hbo
        refine T_adds (by rw [S_app, S_len]; exact line20 (by simp; omega)) ?_
        rw [S_app]
        intro tlf
        (refine T_store (.there (.there (.there (.there (.there (.there (.there .here))))))) ?_; refine K_next ?_; refine T_cons ?_; refine T_Expr (by walk_at "u") ?_; refine T_CallN ?_; refine T_glob (List.mem_cons_of_mem _ List.mem_cons_self) ?_; refine T_k1 (by rw [hK]; k_is) (by walk_at "u") (by walk_at "u") ?_; refine T_args_cons (by walk_at "u") ?_; refine T_Subscript ?_; refine T_local (.there (.there .here)) ?_; refine T_UnaryOp ?_; refine T_int ?_; intro _; refine T_neg ?_; intro _)
        obtain ⟨cvs, hcv⟩ := frv_cur tops root
        refine T_item_last (vs := cvs) (by rw [← hcv]; walk_at "mem") (by walk_at "u") ?_
        (refine T_args_cons (by walk_at "u") ?_; refine T_local (.there (.there (.there (.there (.there (.there (.there .here))))))) ?_; refine T_args_cons (by walk_at "u") ?_; refine T_BinOp ?_; refine T_str ?_; intro _; refine T_local (.there (.there (.there (.there (.there (.there (.there .here))))))) ?_)
        rw [show Str.ofString "." = S [46] by decide +kernel]
        refine T_adds (by rw [S_app, S_len]; exact line20 (by simp; omega)) ?_
        rw [S_app]
        (intro _; refine T_args_cons (by walk_at "u") ?_; refine T_local (.there (.there (.there (.there (.there .here))))) ?_; refine T_args_cons (by walk_at "u") ?_; refine T_local (.there (.there (.there (.there (.there (.there .here)))))) ?_; refine T_args_nil ?_)
        refine T_put (pre := [(it, o'), (dl, listOf dvs.toArray ne), (TH, tupOf thv.toArray)]) (t := .leaf (sa ++ sb)) hK (by decide) hst (by exact Mine.om_231 _ _ _ hl hdl hii) .leaf (.leaf (by
          intro c hc
          rcases List.mem_append.mp hc with hc | hc
          · exact hao.2 c hc
          · exact hbo.2 c hc)) (by simp [wordT]; omega) rfl hmn3 hgok ?_
        intro tops' root' l' hst' hle hsb
        (refine K_next ?_; refine T_nil ?_; refine K_next ?_; refine T_nil ?_; refine L_next ?_)
        refine C_weak hsb ?_
        exact ih (i + 1) o' tops' root' tl nf nw (x + 1) _ _ _ _ (by exact Mine.om_108 _ _ _ hm) (by exact Mine.om_232 _ _ _ hdl hii) ho' hst' (by exact Mine.om_233 _ _ ht3 hle)
      · (refine T_cons ?_; refine T_If ?_; refine T_isTrue_BoolOp ?_; refine T_and_cons ?_; refine T_isTrue_Compare (by walk_at "u") ?_; refine T_BinOp ?_; refine T_local (.there (.there (.there (.there .here)))) ?_; refine T_int ?_; intro _; refine T_mod (by decide) ?_; intro _; refine T_int ?_; intro _; refine T_eqi ?_; refine T_truthy_bool ?_)
        rw [show d.fmod 4 = (r4 : Int) from hr4]
        have hstep : StOk tl tops root x (i + 1) := ⟨hst.ht, hst.hr, hst.w, by have := hst.hx; exact Mine.om_234 _ _ _ this, by have := hst.n; exact Mine.om_50 _ _ this⟩
        by_cases h2 : r4 = 2
        · subst h2
          refine If2.pos (by decide) ?_
          (refine T_and_cons ?_; refine T_isTrue_Compare (by walk_at "u") ?_; refine T_CallN ?_; refine T_glob List.mem_cons_self ?_; refine T_b1 (by walk_at "u") (by walk_at "u") ?_; refine T_args_cons (by walk_at "u") ?_; refine T_local (.there (.there (.there .here))) ?_; refine T_args_nil ?_)
          refine T_len_list (by walk_at "mem") (line20 (by simp [wdv_len]; exact Mine.om_235 _ ht3)) ?_
          (intro _; refine T_int ?_; intro _; refine T_lt ?_; refine T_truthy_bool ?_)
          refine If2.dec (fun h3 => ?_) fun h3 => ?_
          · have hlt3 : tops.length < 3 := by simp [wdv_len] at h3; exact Mine.om_236 _ h3
            (refine T_and_nil ?_)
            refine If2.t ?_
            (refine T_cons ?_; refine T_Expr (by walk_at "u") ?_; refine T_CallM (by walk_at "u") ?_; refine T_local (.there (.there .here)) ?_; refine T_meth_list PySem.F.slot_list_append PySem.F.type_list_append (by walk_at "mem") ?_; refine M_mk ?_; refine T_b2 (by walk_at "u") (by walk_at "u") ?_; refine T_args_cons (by walk_at "u") ?_; refine T_List ?_; refine T_args_cons (by walk_at "u") ?_; refine T_List ?_; refine T_args_nil ?_)
            refine T_newList ?_
            intro np
            (refine T_args_cons (by walk_at "u") ?_; refine T_str ?_; intro _; refine T_args_cons (by walk_at "u") ?_; refine T_str ?_; intro _; refine T_args_cons (by walk_at "u") ?_; refine T_List ?_; refine T_args_nil ?_)
            rename_i s3 s4
            rw [show Value.str (Str.ofString "") s3 = Value.str (S []) s3 by rw [lit_], show Value.str (Str.ofString "") s4 = Value.str (S []) s4 by rw [lit_]]
            refine T_newList ?_
            intro nE
            (refine T_args_nil ?_)
            refine T_newList ?_
            intro na
            (refine T_args_nil ?_)
            refine T_appendL (by walk_at "upd") (line20 (by rw [frv_len]; exact Mine.om_237 _ hlt3)) ?_
            (refine K_next ?_; refine T_cons ?_; refine T_Expr (by walk_at "u") ?_; refine T_CallM (by walk_at "u") ?_; refine T_local (.there (.there (.there .here))) ?_; refine T_meth_list PySem.F.slot_list_append PySem.F.type_list_append (by walk_at "mem") ?_; refine M_mk ?_; refine T_b2 (by walk_at "u") (by walk_at "u") ?_; refine T_args_cons (by walk_at "u") ?_; refine T_Tuple ?_; refine T_args_cons (by walk_at "u") ?_; refine T_BinOp ?_; refine T_local (.there (.there (.there (.there (.there .here))))) ?_; refine T_int ?_; intro _; refine T_mod (by decide) ?_; intro _; refine T_args_cons (by walk_at "u") ?_; refine T_local (.there (.there (.there (.there (.there (.there .here)))))) ?_; refine T_args_nil ?_)
            obtain ⟨m2, hm2, hm22⟩ := fmod_lt (mn : Int) 2 (by decide)
            rw [show (mn : Int).fmod 2 = (m2 : Int) from hm2]
            rename_i tm2
            refine T_newTuple ?_
            intro nw2
            (refine T_args_nil ?_)
            refine T_appendL (by walk_at "upd") (line20 (by rw [wdv_len]; exact Mine.om_238 _ hlt3)) ?_
            (refine K_next ?_; refine T_nil ?_; refine K_next ?_; refine T_nil ?_; refine K_next ?_; refine T_nil ?_; refine L_next ?_)
            let f2 : Fz := ⟨na, np, nE, 0, 0, 0, s3, s4, [], [], []⟩
            let w2 : Wd := ⟨nw2, m2, tm2, gp, tg⟩
            have hst2 : StOk tl ((f2, w2) :: tops) root x (i + 1) := by
              refine ⟨fun q hq => ?_, hst.hr, ?_, ?_, ?_⟩
              · rcases List.mem_cons.mp hq with rfl | hq
                · exact ⟨⟨.nil, .nil, .nil, Nat.zero_le 3⟩, ⟨by show m2 < 3; exact Mine.om_239 _ hm22, hgok⟩⟩
                · exact hst.ht q hq
              · show 0 + wSum tops root + 13 ≤ _
                have := hst.w
                exact Mine.om_240 _ _ this
              · have := hst.hx
                simp only [List.length_cons]; exact Mine.om_241 _ _ _ this
              · show 0 + 1 + nSum tops root ≤ _
                have := hst.n
                exact Mine.om_242 _ _ this
            refine C_weak ?_ (ih (i + 1) o' ((f2, w2) :: tops) root tl (nf + 1) (nw + 1) x _ _ _ _ (by exact Mine.om_108 _ _ _ hm) (by exact Mine.om_232 _ _ _ hdl hii) ho' hst2 (by simp only [List.length_cons]; exact Mine.om_243 _ hlt3))
            show Sbl ((it, o') :: (dl, listOf dvs.toArray ne) :: (TH, tupOf thv.toArray) :: (FR, listOf (frv ((f2, w2) :: tops) root).toArray (nf + 1)) :: (WD, listOf (wdv ((f2, w2) :: tops)).toArray (nw + 1)) :: (na, listOf [.ref np, .str (S []) s3, .str (S []) s4, .ref nE].toArray 0) :: (np, listOf [].toArray 0) :: (nE, listOf [].toArray 0) :: (nw2, tupOf [Value.int (m2 : Int) tm2, .str (S gp) tg].toArray) :: stk tops (root.led (tl ++ rest))) _
            rw [frv_cons, wdv_cons]
            walk_at "sbl"
          · refine If2.f ?_
            (refine T_cons ?_; refine T_If ?_; refine T_isTrue_BoolOp ?_; refine T_and_cons ?_; refine T_isTrue_Compare (by walk_at "u") ?_; refine T_BinOp ?_; refine T_local (.there (.there (.there (.there .here)))) ?_; refine T_int ?_; intro _; refine T_mod (by decide) ?_; intro _; refine T_int ?_; intro _; refine T_eqi ?_; refine T_truthy_bool ?_)
            rw [show d.fmod 4 = ((2 : Nat) : Int) from hr4]
            refine If2.neg (by decide) ?_
            refine If2.f ?_
            (refine T_nil ?_; refine K_next ?_; refine T_nil ?_; refine K_next ?_; refine T_nil ?_; refine K_next ?_; refine T_nil ?_; refine L_next ?_)
            exact ih (i + 1) o' tops root tl nf nw x _ _ _ _ (by exact Mine.om_108 _ _ _ hm) (by exact Mine.om_232 _ _ _ hdl hii) ho' hstep ht3
        · have h3 : r4 = 3 := by exact Mine.om_244 _ hr44 h h2
          subst h3
          refine If2.neg (by decide) ?_
          refine If2.f ?_
          (refine T_cons ?_; refine T_If ?_; refine T_isTrue_BoolOp ?_; refine T_and_cons ?_; refine T_isTrue_Compare (by walk_at "u") ?_; refine T_BinOp ?_; refine T_local (.there (.there (.there (.there .here)))) ?_; refine T_int ?_; intro _; refine T_mod (by decide) ?_; intro _; refine T_int ?_; intro _; refine T_eqi ?_; refine T_truthy_bool ?_)
          rw [show d.fmod 4 = ((3 : Nat) : Int) from hr4]
          refine If2.pos (by decide) ?_
          (refine T_and_cons ?_; refine T_isTrue_val (by walk_at "u") ?_; refine T_local (.there (.there (.there .here))) ?_)
          refine T_truthy_list (by walk_at "mem") (line20 (by simp [wdv_len]; exact Mine.om_235 _ ht3)) ?_
          cases tops with
          | nil =>
            refine If2.neg (by simp [wdv]) ?_
            refine If2.f ?_
            (refine T_nil ?_; refine K_next ?_; refine T_nil ?_; refine K_next ?_; refine T_nil ?_; refine K_next ?_; refine T_nil ?_; refine L_next ?_)
            exact ih (i + 1) o' [] root tl nf nw x _ _ _ _ (by exact Mine.om_108 _ _ _ hm) (by exact Mine.om_232 _ _ _ hdl hii) ho' hstep ht3
          | cons q tops =>
            obtain ⟨f2, w2⟩ := q
            refine If2.pos (by simp [wdv]) ?_
            (refine T_and_nil ?_)
            refine If2.t ?_
            (refine T_cons ?_; refine T_Expr (by walk_at "u") ?_; refine T_CallN ?_; refine T_glob (List.mem_cons_of_mem _ (List.mem_cons_of_mem _ List.mem_cons_self)) ?_; refine T_k1 (by rw [hK]; k_is) (by walk_at "u") (by walk_at "u") ?_; refine T_args_cons (by walk_at "u") ?_; refine T_local (.there (.there .here)) ?_; refine T_args_cons (by walk_at "u") ?_; refine T_local (.there (.there (.there .here))) ?_; refine T_args_nil ?_)
            refine T_close (pre := [(it, o'), (dl, listOf dvs.toArray ne), (TH, tupOf thv.toArray)]) hK (by decide) hst (by exact Mine.om_231 _ _ _ hl hdl hii) ?_
            intro tops' root' nf' nw' l' hst' hle hsb
            (refine K_next ?_; refine T_nil ?_; refine K_next ?_; refine T_nil ?_; refine K_next ?_; refine T_nil ?_; refine K_next ?_; refine T_nil ?_; refine L_next ?_)
            refine C_weak hsb ?_
            simp only [List.length_cons] at ht3
            exact ih (i + 1) o' tops' root' _ nf' nw' (x + 2) _ _ _ _ (by exact Mine.om_108 _ _ _ hm) (by exact Mine.om_232 _ _ _ hdl hii) ho' hst' (by exact Mine.om_245 _ _ ht3 hle)
  exact key ds.length 0 oi [] root0 [] 0 0 0 none none none none (by exact Mine.om_132 _) (by exact Mine.om_133 _) hoi hst0 (by decide)

/-! base 64 read by hand, plain -/
noncomputable def ch (f : Nat) : Nat := (b64c f).toNat
noncomputable def encS : List Nat → List Nat
  | x :: y :: z :: r => (x / 4) :: (x % 4 * 16 + y / 16) :: (y % 16 * 4 + z / 64) :: (z % 64) :: encS r
  | [x, y] => [x / 4, x % 4 * 16 + y / 16, y % 16 * 4]
  | [x] => [x / 4, x % 4 * 16]
  | [] => []
theorem emits8 (v : Nat) : emits 3 8 v = [v / 4 % 64] := by simp [emits]
theorem emits10 (v : Nat) : emits 3 10 v = [v / 16 % 64] := by simp [emits]
theorem emits12 (v : Nat) : emits 3 12 v = [v / 64 % 64, v % 64] := by simp [emits]
theorem enc_S : ∀ (os : List Nat), (∀ o ∈ os, o < 256) → ∀ lc, enc os 0 lc = encS os
  | x :: y :: z :: r, h, lc => by
    have hx := h x (by simp); have hy := h y (by simp); have hz := h z (by simp)
    have ih := enc_S r (fun f hf => h f (by simp [hf]))
    simp only [enc, encS]
    rw [show (0 + 8) = 8 from rfl, show ((0 + 2) % 6) = 2 from rfl, show (2 + 8) = 10 from rfl, show ((2 + 2) % 6) = 4 from rfl, show (4 + 8) = 12 from rfl, show ((4 + 2) % 6) = 0 from rfl, emits8, emits10, emits12, ih]
    generalize hv1 : (lc * 256 + x) % 65536 = v1
    generalize hv2 : (v1 * 256 + y) % 65536 = v2
    generalize hv3 : (v2 * 256 + z) % 65536 = v3
    have e1 : v1 / 4 % 64 = x / 4 := by exact Mine.om_246 _ _ _ hx hv1
    have e2 : v2 / 16 % 64 = x % 4 * 16 + y / 16 := by exact Mine.om_247 _ _ _ _ _ hy hv1 hv2
    have e3 : v3 / 64 % 64 = y % 16 * 4 + z / 64 := by exact Mine.om_248 _ _ _ _ _ hz hv2 hv3
    have e4 : v3 % 64 = z % 64 := by exact Mine.om_249 _ _ _ hv3
    rw [e1, e2, e3, e4]; rfl
  | [x, y], h, lc => by
    have hx := h x (by simp); have hy := h y (by simp)
    simp only [enc, encS]
    rw [show (0 + 8) = 8 from rfl, show ((0 + 2) % 6) = 2 from rfl, show (2 + 8) = 10 from rfl, show ((2 + 2) % 6) = 4 from rfl, emits8, emits10, if_neg (by decide), if_pos trivial]
    generalize hv1 : (lc * 256 + x) % 65536 = v1
    generalize hv2 : (v1 * 256 + y) % 65536 = v2
    have e1 : v1 / 4 % 64 = x / 4 := by exact Mine.om_246 _ _ _ hx hv1
    have e2 : v2 / 16 % 64 = x % 4 * 16 + y / 16 := by exact Mine.om_247 _ _ _ _ _ hy hv1 hv2
    have e3 : v2 % 16 * 4 = y % 16 * 4 := by exact Mine.om_250 _ _ _ hv2
    rw [e1, e2, e3]; rfl
  | [x], h, lc => by
    have hx := h x (by simp)
    simp only [enc, encS]
    rw [show (0 + 8) = 8 from rfl, show ((0 + 2) % 6) = 2 from rfl, emits8, if_pos trivial]
    generalize hv1 : (lc * 256 + x) % 65536 = v1
    have e1 : v1 / 4 % 64 = x / 4 := by exact Mine.om_246 _ _ _ hx hv1
    have e3 : v1 % 4 * 16 = x % 4 * 16 := by exact Mine.om_251 _ _ _ hv1
    rw [e1, e3]; rfl
  | [], h, lc => by simp [enc, encS]
theorem b64T_S {os : List Nat} (h : ∀ o ∈ os, o < 256) : b64T os = (encS os).map ch ++ List.replicate ((3 - os.length % 3) % 3) 61 := by
  unfold b64T encOut pads
  rw [enc_S os h 0, List.map_append, List.map_map, List.map_replicate]; rfl
theorem ch_ne : ∀ f < 64, ch f ≠ 61 := by decide +kernel
/-- the next four signs and the octets that they hold -/
theorem group {rem : List Nat} (h : ∀ o ∈ rem, o < 256) (hne : rem ≠ []) : ∃ a b c d m : Nat, 2 ≤ m ∧ m ≤ 4 ∧ a < 64 ∧ b < 64 ∧ c < 64 ∧ d < 64 ∧
    b64T rem = ([a, b, c, d].take m).map ch ++ List.replicate (4 - m) 61 ++ b64T (rem.drop 3) ∧ [a * 4 + b / 16, b % 16 * 16 + c / 4, c % 4 * 64 + d].take (m - 1) = rem.take 3 ∧
    [a * 4 + b / 16, b % 16 * 16 + c / 4, c % 4 * 64 + d].drop (m - 1) = List.replicate (4 - m) 0 ∧ ([a, b, c, d].take m ++ [0, 0, 0, 0]).take 4 = [a, b, c, d] ∧ (m < 4 → rem.length < 3) := by
  match rem, h, hne with
  | x :: y :: z :: r, h, _ =>
    have hx := h x (by simp); have hy := h y (by simp); have hz := h z (by simp)
    refine ⟨x / 4, x % 4 * 16 + y / 16, y % 16 * 4 + z / 64, z % 64, 4, by decide, by decide, by exact Mine.om_252 _ hx, by exact Mine.om_253 _ _ hy, by exact Mine.om_254 _ _ hz, by exact Mine.om_255 _, ?_, ?_, rfl, rfl, by exact Mine.om_256 _⟩
    · rw [b64T_S h, b64T_S (os := (x :: y :: z :: r).drop 3) (fun o ho => h o (List.mem_of_mem_drop ho))]
      have : (3 - (x :: y :: z :: r).length % 3) % 3 = (3 - r.length % 3) % 3 := by simp only [List.length_cons]; exact Mine.om_257 _
      rw [this]
      simp [encS]
    · have e1 : x / 4 * 4 + (x % 4 * 16 + y / 16) / 16 = x := by exact Mine.om_258 _ _ hy
      have e2 : (x % 4 * 16 + y / 16) % 16 * 16 + (y % 16 * 4 + z / 64) / 4 = y := by exact Mine.om_259 _ _ _ hz e1
      have e3 : (y % 16 * 4 + z / 64) % 4 * 64 + z % 64 = z := by exact Mine.om_260 _ _ _ e1 e2
      rw [e1, e2, e3]; simp
  | [x, y], h, _ =>
    have hx := h x (by simp); have hy := h y (by simp)
    refine ⟨x / 4, x % 4 * 16 + y / 16, y % 16 * 4, 0, 3, by decide, by decide, by exact Mine.om_252 _ hx, by exact Mine.om_253 _ _ hy, by exact Mine.om_261 _, by exact Mine.om_262, ?_, ?_, ?_, rfl, by simp⟩
    · rw [b64T_S h]
      simp [encS, b64T, encOut, enc, pads]
    · have e1 : x / 4 * 4 + (x % 4 * 16 + y / 16) / 16 = x := by exact Mine.om_258 _ _ hy
      have e2 : (x % 4 * 16 + y / 16) % 16 * 16 + y % 16 * 4 / 4 = y := by exact Mine.om_263 _ _ e1
      rw [e1, e2]; simp
    · have e3 : y % 16 * 4 % 4 * 64 + 0 = 0 := by exact Mine.om_264 _
      rw [e3]; rfl
  | [x], h, _ =>
    have hx := h x (by simp)
    refine ⟨x / 4, x % 4 * 16, 0, 0, 2, by decide, by decide, by exact Mine.om_252 _ hx, by exact Mine.om_265 _, by exact Mine.om_262, by exact Mine.om_262, ?_, ?_, ?_, rfl, by simp⟩
    · rw [b64T_S h]
      simp [encS, b64T, encOut, enc, pads]
    · have e1 : x / 4 * 4 + x % 4 * 16 / 16 = x := by exact Mine.om_266 _
      rw [e1]; simp
    · have e3 : x % 4 * 16 % 16 * 16 + 0 / 4 = 0 := by exact Mine.om_267 _
      rw [e3]; rfl
theorem b64T_mod {os : List Nat} (h : ∀ o ∈ os, o < 256) : (b64T os).length % 4 = 0 := by
  have key : ∀ (n : Nat) (os : List Nat), os.length ≤ n → (∀ o ∈ os, o < 256) → (b64T os).length % 4 = 0 := by
    intro n
    induction n with
    | zero =>
      intro os hl h
      obtain rfl : os = [] := List.eq_nil_of_length_eq_zero (by exact Mine.om_268 _ hl)
      rfl
    | succ n ih =>
      intro os hl h
      by_cases hne : os = []
      · subst hne; rfl
      · obtain ⟨a, b, c, d, m, h2, h4, _, _, _, _, hb, _⟩ := group h hne
        have := ih (os.drop 3) (by have := List.length_pos_iff.mpr hne; simp; exact Mine.om_269 _ _ hl) (fun o ho => h o (List.mem_of_mem_drop ho))
        rw [hb]
        simp only [List.length_append, List.length_map, List.length_take, List.length_replicate, List.length_cons, List.length_nil]
        exact Mine.om_270 _ _ this
  exact key os.length os (Nat.le_refl _) h
theorem b64T_nil_iff {os : List Nat} (h : ∀ o ∈ os, o < 256) : (b64T os).length ≤ 0 → os = [] := by
  intro hl
  by_cases hne : os = []
  · exact hne
  · obtain ⟨a, b, c, d, m, h2, h4, _, _, _, _, hb, _⟩ := group h hne
    rw [hb] at hl
    simp at hl
    omega
theorem rstrip_S {fs : List Nat} (h : fs ≠ []) (h64 : ∀ f ∈ fs, f < 64) (j : Nat) : Txt.rstripChars (S (fs.map ch ++ List.replicate j 61)) (S [61]) = S (fs.map ch) := by
  unfold Txt.rstripChars
  rw [PyProof.Rows.stripBy_eq]
  have hlo : stripLo (S [61]).cps.contains false (S (fs.map ch ++ List.replicate j 61)) = 0 := rfl
  rw [hlo]
  have htw : (((fs.map ch ++ List.replicate j 61).reverse).takeWhile (S [61]).cps.contains).length = j := by
    rw [List.reverse_append, List.reverse_replicate]
    have hrep : ∀ (n : Nat) (L : List Nat), (List.replicate n 61 ++ L).takeWhile (S [61]).cps.contains = List.replicate n 61 ++ L.takeWhile (S [61]).cps.contains := by
      intro n L
      induction n with
      | zero => simp
      | succ n ih =>
        rw [List.replicate_succ, List.cons_append, List.takeWhile_cons, if_pos (by simp [S]), ih]; rfl
    rw [hrep, List.length_append, List.length_replicate]
    have : ((fs.map ch).reverse).takeWhile (S [61]).cps.contains = [] := by
      obtain ⟨gs, x, rfl⟩ : ∃ gs x, fs = gs ++ [x] := ⟨fs.dropLast, fs.getLast h, (List.dropLast_concat_getLast h).symm⟩
      have hx := ch_ne x (h64 x (by simp))
      rw [List.map_append, List.reverse_append]
      simp only [List.map_cons, List.map_nil, List.reverse_cons, List.reverse_nil, List.nil_append, List.cons_append]
      rw [List.takeWhile_cons, if_neg]
      simp [S]; exact fun q => hx q
    rw [this]; simp
  have hhi : stripHi (S [61]).cps.contains true (S (fs.map ch ++ List.replicate j 61)) 0 = (fs.map ch).length := by
    unfold stripHi
    rw [if_pos rfl, S_cps, List.drop_zero, htw, S_len]
    simp
  rw [hhi]
  unfold Builtin.Str.strSub
  show (⟨(S (fs.map ch ++ List.replicate j 61)).cps.extract 0 (fs.map ch).length⟩ : Str) = ⟨(fs.map ch).toArray⟩
  congr 1
  apply Array.ext'
  simp [S]
theorem find_ch : ∀ f < 64, Txt.find (S b64L) (S [ch f]) = (f : Int) := by
  intro f hf
  unfold Txt.find
  have hget : ∀ g < 64, b64L[g]? = some (ch g) := by decide +kernel
  have hinj : ∀ g < 64, ∀ f < 64, ch g = ch f → g = f := by decide +kernel
  rcases StrLaws.occ_head (S b64L) (S [ch f]) 1 (Nat.le_refl 1) with ⟨h0, hn⟩ | ⟨i, r, h0, hat, _⟩
  · exact absurd ((StrLaws.subAt_one (S b64L) (ch f) f).mpr (by rw [S_cps]; exact hget f hf)) (hn f)
  · rw [h0]
    have hi := (StrLaws.subAt_one (S b64L) (ch f) i).mp hat
    rw [S_cps] at hi
    have hi64 : i < 64 := by
      obtain ⟨q, _⟩ := List.getElem?_eq_some_iff.mp hi
      exact q
    rw [hget i hi64] at hi
    show (i : Int) = (f : Int)
    rw [hinj i hi64 f hf (Option.some.inj hi)]

/-! _law_text -/
theorem fdivN (a b : Nat) : (a : Int).fdiv (b : Int) = ((a / b : Nat) : Int) := by
  rw [Int.fdiv_eq_ediv_of_nonneg _ (by exact Mine.om_55 _)]; rfl
theorem fmodN (a b : Nat) : (a : Int).fmod (b : Int) = ((a % b : Nat) : Int) := by
  rw [Int.fmod_eq_emod_of_nonneg _ (by exact Mine.om_55 _)]; rfl
theorem alpha_str : Str.ofString "ABCDEFGHIJKLMNOPQRSTUVWXYZabcdefghijklmnopqrstuvwxyz0123456789+/" = S b64L := by decide +kernel
theorem lit_v (t : Tok) : Value.str (Str.ofString "") t = Value.str (S []) t := by rw [lit_]
theorem lit61 : Str.ofString "=" = S [61] := by decide +kernel
theorem lit65 : Str.ofString "AAAA" = S ([0, 0, 0, 0].map ch) := by decide +kernel
theorem glb_range (G : Gr) (hK : G.K = Mine.hd.heap_39 G.w.params) : Glb G (Str.ofString "range") (.type "range") := .inr ⟨by rw [hK]; k_is, by boot_by_name, by decide⟩
theorem glb_min (G : Gr) (hK : G.K = Mine.hd.heap_39 G.w.params) : Glb G (Str.ofString "min") (.builtin "min") := .inr ⟨by rw [hK]; k_is, by boot_by_name, by decide⟩

theorem text_spec (G : Gr) (hK : G.K = Mine.hd.heap_39 G.w.params) (os : List Nat) (tw : Tok) (h256 : ∀ o ∈ os, o < 256) (hlen : os.length ≤ 250000) :
    Sp G 1 [] (.ref 129) [.str (S (b64T os)) tw] [] fun v post => (∃ t, v = .str (S os) t) ∧ post = [] := by
  refine enterC (N := [Str.ofString "written", Str.ofString "text", Str.ofString "k", Str.ofString "four", Str.ofString "a", Str.ofString "b", Str.ofString "c", Str.ofString "d", Str.ofString "three"]) (Gs := [(Str.ofString "range", .type "range"), (Str.ofString "len", .builtin "len"), (Str.ofString "min", .builtin "min")]) (binds := [(Str.ofString "written", .str (S (b64T os)) tw)]) (vals := [some (.str (S (b64T os)) tw), none, none, none, none, none, none, none, none]) (x := Str.ofString "alphabet") (cv := none)
    (ho := by rw [hK]; k_is) (hcd := by rw [hK]; k_is) (hbind := fun s X => BindsTo.of_eq rfl) rfl (hL := fun y => ?_) rfl (fun _ => rfl) rfl rfl (hnd := by decide) (hloc := by decide +kernel)
    (hglb := fun p hp => by
      rcases List.mem_cons.mp hp with rfl | hp
      · exact ⟨by decide +kernel, by decide, glb_range G hK⟩
      rcases List.mem_cons.mp hp with rfl | hp
      · exact ⟨by decide +kernel, by decide, glb_len G hK⟩
      rcases List.mem_cons.mp hp with rfl | hp
      · exact ⟨by decide +kernel, by decide, glb_min G hK⟩
      cases hp) (hco := rfl) (hgen := rfl) (hk := rfl) ?_
  · refine congrFun (a := y) ?_
    rw [loc_nones [Str.ofString "written", Str.ofString "text", Str.ofString "k", Str.ofString "four", Str.ofString "a", Str.ofString "b", Str.ofString "c", Str.ofString "d", Str.ofString "three"]]
    exact bindL_step (by decide) (by decide +kernel) .here
  intro L o fm rest ho hE
  have hcl : ∀ n p, closureFor { kind := .function, names := [(Str.ofString ".0", .local), (n, .local), (Str.ofString "alphabet", .free)], isGenerator := false, isCoroutine := false, more := p } fm.env = pure [(Str.ofString "alphabet", L + 1)] := by rw [hE]; intro n p; rfl
  have hce : fm.env.scope.names.lookup (Str.ofString "alphabet") = some .cell := by rw [hE]; rfl
  generalize hc : L + 1 = cA at fm hcl ⊢
  clear hE
  show T fm 0 _ ((cA, o) :: rest) _ _
  have hbl := b64T_len os
  have hb4 := b64T_mod h256
  (refine T_cons ?_; refine T_Assign (by walk_at "u") ?_; refine T_str ?_; intro _)
  rw [alpha_str]
  refine T_storeCell (c := cA) hce (by simp [List.lookup]) (fun _ => by walk_at "upd") ho ?_
  intro o1 ho1
  (refine K_next ?_; refine T_cons ?_; refine T_Assign (by walk_at "u") ?_; refine T_str ?_; intro _; refine T_store (.there .here) ?_; refine K_next ?_; refine T_cons ?_)
  rename_i tt0
  rw [show Value.str (Str.ofString "") tt0 = Value.str (S []) tt0 by rw [lit_]]
  refine T_For (fun _ => rfl) ?_
  (refine T_CallN ?_; refine T_glob List.mem_cons_self ?_; refine T_ty1 (by walk_at "u") (by walk_at "u") ?_; refine T_args_cons (by walk_at "u") ?_; refine T_int ?_; intro _; refine T_args_cons (by walk_at "u") ?_; refine T_CallN ?_; refine T_glob (List.mem_cons_of_mem _ List.mem_cons_self) ?_; refine T_b1 (by walk_at "u") (by walk_at "u") ?_; refine T_args_cons (by walk_at "u") ?_; refine T_local .here ?_; refine T_args_nil ?_)
  refine T_len_str (line20 (by exact Mine.om_271 _ _ hlen hbl)) ?_
  (intro _; refine T_args_cons (by walk_at "u") ?_; refine T_int ?_; intro _; refine T_args_nil ?_)
  refine T_range3 (by decide) (PyProof.noPylong_small (by decide)) ?_
  intro D
  have hrs : Builtin.Range.rangeSize 0 ((b64T os).length : Int) 4 = (((b64T os).length / 4 : Nat) : Int) := by
    unfold Builtin.Range.rangeSize
    rw [if_pos (by decide)]
    split <;> (first | exact Mine.om_272 _ hb4 | (rename_i z0; exact Mine.om_273 _ z0))
  refine T_iter_range (by walk_at "mem") ?_ ?_
  · unfold Builtin.Range.small
    rw [hrs]
    unfold Builtin.Range.rangeFitsLong
    simp
    exact Mine.om_274 _ _ hlen hbl
  intro it
  rw [hrs]
  rename_i ta tb tc
  refine C_any fun cc P hc hP => ?_
  have key : ∀ (m i : Nat) (done rem : List Nat) (tt : Tok) (xk xf xa xb xc xd x3 : Option Value), m = (b64T rem).length / 4 → os = done ++ rem → (b64T os).length = 4 * i + (b64T rem).length → (b64T os).drop (4 * i) = b64T rem →
      C fm 0 [some (.str (S (b64T os)) tw), some (.str (S done) tt), xk, xf, xa, xb, xc, xd, x3] ((it, rangeIt ((4 * i : Nat) : Int) (m : Int) 4) :: (cA, o1) :: rest) cc P := by
    subst hc hP
    intro m
    induction m with
    | zero =>
      intro i done rem tt xk xf xa xb xc xd x3 hm hos hl hdr
      have h256r : ∀ x ∈ rem, x < 256 := fun x hx => h256 x (by rw [hos]; exact List.mem_append_right _ hx)
      have hmod := b64T_mod h256r
      obtain rfl := b64T_nil_iff h256r (by exact Mine.om_275 _ _ _ hb4 hm hl)
      rw [List.append_nil] at hos
      refine C_for (T_end_range (by walk_at "pick") (by decide) (F_none ?_))
      (refine T_nil ?_; refine K_next ?_; refine T_cons ?_; refine T_Return ?_; refine T_local (.there .here) ?_; refine K_ret ?_)
      exact ⟨[], by walk_at "sbl2", ⟨_, by rw [hos]; rfl⟩, rfl⟩
    | succ m ih =>
      intro i done rem tt xk xf xa xb xc xd x3 hm hos hl hdr
      have h256r : ∀ x ∈ rem, x < 256 := fun x hx => h256 x (by rw [hos]; exact List.mem_append_right _ hx)
      have hmod := b64T_mod h256r
      have hne : rem ≠ [] := by intro q; subst q; simp [b64T, encOut, enc, pads] at hm
      obtain ⟨a, b, c, d, mm, h2, h4, ha, hb, hcc, hd, hgb, ht1, ht2, hpad, hlast⟩ := group h256r hne
      have hdl : done.length + rem.length = os.length := by rw [hos]; simp
      refine C_for (T_next_range (by walk_at "upd") (by exact Mine.om_276 _) fun tk => F_some rfl ?_)
      obtain ⟨oit, hoit⟩ : ∃ o, rangeIt (((4 * i : Nat) : Int) + 4) (((m + 1 : Nat) : Int) - 1) 4 = o := ⟨_, rfl⟩
      rw [hoit]
      rw [show ((m + 1 : Nat) : Int) - 1 = (m : Int) by exact Mine.om_277 _, show ((4 * i : Nat) : Int) + 4 = ((4 * (i + 1) : Nat) : Int) by exact Mine.om_278 _] at hoit
      have hG : ((b64T os).drop (4 * i)).take 4 = ([a, b, c, d].take mm).map ch ++ List.replicate (4 - mm) 61 := by
        rw [hdr, hgb]
        refine List.take_left' ?_
        simp; exact Mine.om_279 _
      have hgl : (b64T rem).length = 4 + (b64T (rem.drop 3)).length := by
        rw [hgb]; simp; exact Mine.om_280 _ _
      have hfig : ∀ f ∈ [a, b, c, d].take mm, f < 64 := by
        intro f hf
        have := List.mem_of_mem_take hf
        simp at this
        rcases this with rfl | rfl | rfl | rfl <;> assumption
      have hfne : [a, b, c, d].take mm ≠ [] := by
        intro q
        have := congrArg List.length q
        simp at this
        omega
      have hfl : (([a, b, c, d].take mm).map ch).length = mm := by simp; exact Mine.om_281 _ h4
      (refine T_assignN (.there (.there .here)) ?_)
      refine T_cons ?_
      refine T_Assign (by walk_at "u") ?_
      obtain ⟨fq, hfq⟩ : ∃ f, ([a, b, c, d].take mm).map ch = f := ⟨_, rfl⟩
      refine T_mono (P := fun v vals' l' => (∃ t, v = Value.str (S fq) t) ∧ vals' = [some (.str (S (b64T os)) tw), some (.str (S done) tt), some (.int ((4 * i : Nat) : Int) tk), xf, xa, xb, xc, xd, x3] ∧ Sbl ((it, oit) :: (cA, o1) :: rest) l') ?_ ?_
      · (refine T_IfExp ?_; refine T_isTrue_Compare (by walk_at "u") ?_; refine T_BinOp ?_; refine T_local (.there (.there .here)) ?_; refine T_int ?_; intro _; refine T_add ?_; intro _; refine T_CallN ?_; refine T_glob (List.mem_cons_of_mem _ List.mem_cons_self) ?_; refine T_b1 (by walk_at "u") (by walk_at "u") ?_; refine T_args_cons (by walk_at "u") ?_; refine T_local .here ?_; refine T_args_nil ?_)
        refine T_len_str (line20 (by exact Mine.om_271 _ _ hlen hbl)) ?_
        (intro _; refine T_eqi ?_; refine T_truthy_bool ?_)
        refine If2.both (fun h => ?_) fun h => ?_
        · (refine T_CallM (by walk_at "u") ?_; refine T_Subscript ?_; refine T_local .here ?_; refine T_Slice ?_; refine T_part_some ?_; refine T_local (.there (.there .here)) ?_; refine T_part_some ?_; refine T_BinOp ?_; refine T_local (.there (.there .here)) ?_; refine T_int ?_; intro _; refine T_add ?_; intro _; intro _)
          refine T_slice_str (lo := some ((4 * i : Nat) : Int)) (hi := some (((4 * i : Nat) : Int) + 4)) (by walk_at "mem") (.int _ _) (.int _ _) (line20 (by exact Mine.om_271 _ _ hlen hbl)) ?_
          rw [show ((4 * i : Nat) : Int) + 4 = ((4 * i + 4 : Nat) : Int) by exact Mine.om_282 _, slc_both, show 4 * i + 4 - 4 * i = 4 by exact Mine.om_283 _, hG]
          (intro _; refine T_meth_str PySem.F.slot_str_rstrip PySem.F.type_str_rstrip ?_; refine M_mk ?_; refine T_b2 (by walk_at "u") (by walk_at "u") ?_; refine T_args_cons (by walk_at "u") ?_; refine T_str ?_; intro _; refine T_args_nil ?_)
          rw [lit61]
          refine T_rstrip (by rw [S_len]; exact line20 (by simp; exact Mine.om_284 _)) ?_
          rw [rstrip_S hfne hfig]
          intro tv
          exact ⟨⟨tv, by rw [hfq]⟩, rfl, by walk_at "sbl"⟩
        · have hmm4 : mm = 4 := by
            refine Nat.le_antisymm h4 (Nat.le_of_not_lt fun q => ?_)
            have hr3 := hlast q
            have hnil : rem.drop 3 = [] := List.drop_eq_nil_of_le (by exact Mine.om_285 _ hr3)
            rw [hnil] at hgl
            have e0 : (b64T []).length = 0 := rfl
            rw [beq_eq_false_iff_ne] at h
            exact h (by omega)
          (refine T_Subscript ?_; refine T_local .here ?_; refine T_Slice ?_; refine T_part_some ?_; refine T_local (.there (.there .here)) ?_; refine T_part_some ?_; refine T_BinOp ?_; refine T_local (.there (.there .here)) ?_; refine T_int ?_; intro _; refine T_add ?_; intro _; intro _)
          refine T_slice_str (lo := some ((4 * i : Nat) : Int)) (hi := some (((4 * i : Nat) : Int) + 4)) (by walk_at "mem") (.int _ _) (.int _ _) (line20 (by exact Mine.om_271 _ _ hlen hbl)) ?_
          rw [show ((4 * i : Nat) : Int) + 4 = ((4 * i + 4 : Nat) : Int) by exact Mine.om_282 _, slc_both, show 4 * i + 4 - 4 * i = 4 by exact Mine.om_283 _, hG]
          intro tv
          subst hmm4
          exact ⟨⟨tv, by rw [← hfq]; simp⟩, rfl, by walk_at "sbl"⟩
      rintro _ _ _ ⟨⟨tf, rfl⟩, rfl, hsb⟩
      refine T_weak hsb ?_
      clear hsb
      rw [hfq] at hfl
      (refine T_store (.there (.there (.there .here))) ?_; refine K_next ?_; refine T_cons ?_; refine T_AssignT (by walk_at "u") (by walk_at "u") ?_)
      refine T_comp [Str.ofString "sign"] [] (fun _ => rfl) (hcl _ _) rfl (by decide +kernel) (by decide +kernel) (by decide) (by decide +kernel) (fun p hp => nomatch hp) ?_
      (refine T_Subscript ?_; refine T_BinOp ?_; refine T_local (.there (.there (.there .here))) ?_; refine T_str ?_; intro _)
      rename_i t65
      rw [show Value.str (Str.ofString "AAAA") t65 = Value.str (S ([0, 0, 0, 0].map ch)) t65 by rw [lit65]]
      have hslc : slc (([a, b, c, d].take mm ++ [0, 0, 0, 0]).map ch) none (some (4 : Int)) = [a, b, c, d].map ch := by
        rw [show (some (4 : Int)) = some ((4 : Nat) : Int) from rfl, slc_to, ← List.map_take, hpad]
      rw [List.map_append, hfq] at hslc
      refine T_adds (by rw [S_app, S_len]; exact line20 (by simp; exact Mine.om_286 _ _ h4 hfl)) ?_
      rw [S_app]
      (intro _; refine T_Slice ?_; refine T_part_none ?_; refine T_part_some ?_; refine T_int ?_; intro _; intro _)
      refine T_slice_str (lo := none) (hi := some 4) (by walk_at "mem") .none (.int _ _) (line20 (by simp; exact Mine.om_286 _ _ h4 hfl)) ?_
      rw [hslc]
      intro tq
      refine T_iter_strG ?_
      intro it2 oi2 hoi2 acc2 oL2 cfm2 hsc2
      refine C_compG (fun i ys => IntsAre ys (nz ([a, b, c, d].take i))) hoi2 .nil (by simp) (fun _ => rfl) ?_ ?_
      · intro i2 cx ux ox ys e3 hv hj
        obtain ⟨f, hf, rfl⟩ : ∃ f, [a, b, c, d][i2]? = some f ∧ cx = ch f := by
          rw [List.getElem?_map] at hv
          cases hq : [a, b, c, d][i2]? with
          | none => rw [hq] at hv; cases hv
          | some f => rw [hq] at hv; exact ⟨f, rfl, (Option.some.inj hv).symm⟩
        have hf64 : f < 64 := by
          have := List.mem_of_getElem? hf
          simp at this
          rcases this with rfl | rfl | rfl | rfl <;> assumption
        (refine T_CallM (by walk_at "u") ?_)
        refine T_cell (c := cA) (by rw [hsc2]; exact lookup_relabel_free rfl fm.kind hce) (by decide) (by simp [List.lookup]) (by walk_at "mem") ho1 ?_
        (refine T_meth_str PySem.F.slot_str_find PySem.F.type_str_find ?_; refine M_mk ?_; refine T_b2 (by walk_at "u") (by walk_at "u") ?_; refine T_args_cons (by walk_at "u") ?_; refine T_local .here ?_; refine T_args_nil ?_)
        refine T_find ?_
        rw [find_ch f hf64]
        intro tfi
        refine ⟨?_, rfl, by walk_at "sbl"⟩
        have := IntsAre.snoc (n := (f : Int)) (t := tfi) hj
        rw [← take_snoc hf]
        simpa [nz] using this
      intro u2 ys2 e2 hyl2 hj2
      have hj2' : IntsAre ys2 (nz [a, b, c, d]) := by simpa using hj2
      obtain ⟨qa, y1, rfl, hj3⟩ := IntsAre.cons_inv hj2'
      obtain ⟨qb, y2, rfl, hj4⟩ := IntsAre.cons_inv hj3
      obtain ⟨qc, y3, rfl, hj5⟩ := IntsAre.cons_inv hj4
      obtain ⟨qd, y4, rfl, hj6⟩ := IntsAre.cons_inv hj5
      obtain rfl := IntsAre.nil_inv hj6
      clear hj2 hj2' hj3 hj4 hj5 hj6 hyl2
      refine ⟨(acc2, listOf [Value.int (a : Int) qa, .int (b : Int) qb, .int (c : Int) qc, .int (d : Int) qd].toArray e2) :: (it, oit) :: (cA, o1) :: rest, by walk_at "sbl", ?_⟩
      refine T_unpack_list (by walk_at "mem") rfl rfl ?_
      refine T_weak (.drop .refl) ?_
      (refine T_asg_cons (by walk_at "u") ?_; refine T_assignN (.there (.there (.there (.there .here)))) ?_; refine T_asg_cons (by walk_at "u") ?_; refine T_assignN (.there (.there (.there (.there (.there .here))))) ?_; refine T_asg_cons (by walk_at "u") ?_; refine T_assignN (.there (.there (.there (.there (.there (.there .here)))))) ?_; refine T_asg_cons (by walk_at "u") ?_; refine T_assignN (.there (.there (.there (.there (.there (.there (.there .here))))))) ?_; refine T_asg_nil ?_; refine K_next ?_; refine T_cons ?_; refine T_Assign (by walk_at "u") ?_; refine T_List ?_; refine T_args_cons (by walk_at "u") ?_; refine T_BinOp ?_; refine T_BinOp ?_; refine T_local (.there (.there (.there (.there .here)))) ?_; refine T_int ?_; intro _)
      refine T_mul (.of_right (by decide)) ?_
      (intro _; refine T_BinOp ?_; refine T_local (.there (.there (.there (.there (.there .here))))) ?_; refine T_int ?_; intro _; refine T_fdiv (by decide) (by decide) ?_; intro _; refine T_add ?_; intro _; refine T_args_cons (by walk_at "u") ?_; refine T_BinOp ?_; refine T_BinOp ?_; refine T_BinOp ?_; refine T_local (.there (.there (.there (.there (.there .here))))) ?_; refine T_int ?_; intro _; refine T_mod (by decide) ?_; intro _; refine T_int ?_; intro _)
      refine T_mul (.of_right (by decide)) ?_
      (intro _; refine T_BinOp ?_; refine T_local (.there (.there (.there (.there (.there (.there .here)))))) ?_; refine T_int ?_; intro _; refine T_fdiv (by decide) (by decide) ?_; intro _; refine T_add ?_; intro _; refine T_args_cons (by walk_at "u") ?_; refine T_BinOp ?_; refine T_BinOp ?_; refine T_BinOp ?_; refine T_local (.there (.there (.there (.there (.there (.there .here)))))) ?_; refine T_int ?_; intro _; refine T_mod (by decide) ?_; intro _; refine T_int ?_; intro _)
      refine T_mul (.of_right (by decide)) ?_
      (intro _; refine T_local (.there (.there (.there (.there (.there (.there (.there .here))))))) ?_; refine T_add ?_; intro _; refine T_args_nil ?_)
      refine T_newList ?_
      intro T3
      rename_i r1 _ _ _ _ _ _ r2 _ _ _ _ r3
      have hv3 : IntsAre [Value.int ((a : Int) * 4 + (b : Int).fdiv 16) r1, Value.int ((b : Int).fmod 16 * 16 + (c : Int).fdiv 4) r2, Value.int ((c : Int).fmod 4 * 64 + (d : Int)) r3] (nz [a * 4 + b / 16, b % 16 * 16 + c / 4, c % 4 * 64 + d]) := by
        have e1 : (a : Int) * 4 + (b : Int).fdiv 16 = ((a * 4 + b / 16 : Nat) : Int) := by rw [show (16 : Int) = ((16 : Nat) : Int) from rfl, fdivN]; exact Mine.om_287 _ _
        have e2 : (b : Int).fmod 16 * 16 + (c : Int).fdiv 4 = ((b % 16 * 16 + c / 4 : Nat) : Int) := by rw [show (b : Int).fmod 16 = (b : Int).fmod ((16 : Nat) : Int) from rfl, fmodN, show (c : Int).fdiv 4 = (c : Int).fdiv ((4 : Nat) : Int) from rfl, fdivN]; exact Mine.om_288 _ _
        have e3 : (c : Int).fmod 4 * 64 + (d : Int) = ((c % 4 * 64 + d : Nat) : Int) := by rw [show (c : Int).fmod 4 = (c : Int).fmod ((4 : Nat) : Int) from rfl, fmodN]; exact Mine.om_289 _ _
        rw [e1, e2, e3]
        exact .cons _ _ (.cons _ _ (.cons _ _ .nil))
      generalize [Value.int ((a : Int) * 4 + (b : Int).fdiv 16) r1, Value.int ((b : Int).fmod 16 * 16 + (c : Int).fdiv 4) r2, Value.int ((c : Int).fmod 4 * 64 + (d : Int)) r3] = v3 at hv3
      have hv3l : v3.length = 3 := by rw [hv3.length]; rfl
      (refine T_store (.there (.there (.there (.there (.there (.there (.there (.there .here)))))))) ?_; refine K_next ?_; refine T_cons ?_; refine T_If ?_; refine T_isTrue_BoolOp ?_; refine T_or_cons ?_; refine T_isTrue_val (by walk_at "u") ?_; refine T_BinOp ?_; refine T_CallN ?_; refine T_glob (List.mem_cons_of_mem _ List.mem_cons_self) ?_; refine T_b1 (by walk_at "u") (by walk_at "u") ?_; refine T_args_cons (by walk_at "u") ?_; refine T_local .here ?_; refine T_args_nil ?_)
      refine T_len_str (line20 (by exact Mine.om_271 _ _ hlen hbl)) ?_
      (intro _; refine T_int ?_; intro _; refine T_mod (by decide) ?_; intro _; refine T_truthy_int ?_)
      refine If2.neg (by
        rw [show ((b64T os).length : Int).fmod 4 = (((b64T os).length % 4 : Nat) : Int) from fmodN _ 4, hb4]; rfl) ?_
      (refine T_or_cons ?_; refine T_isTrue_Compare (by walk_at "u") ?_; refine T_CallN ?_; refine T_glob (List.mem_cons_of_mem _ List.mem_cons_self) ?_; refine T_b1 (by walk_at "u") (by walk_at "u") ?_; refine T_args_cons (by walk_at "u") ?_; refine T_local (.there (.there (.there .here))) ?_; refine T_args_nil ?_)
      refine T_len_str (line20 (by exact Mine.om_290 _ _ h4 hfl)) ?_
      (intro _; refine T_int ?_; intro _; refine T_lt ?_; refine T_truthy_bool ?_)
      refine If2.neg (decide_eq_false (by rw [hfl]; exact Mine.om_291 _ h2)) ?_
      (refine T_or_cons ?_; refine T_isTrue_Compare (by walk_at "u") ?_; refine T_CallN ?_; refine T_glob (List.mem_cons_of_mem _ (List.mem_cons_of_mem _ List.mem_cons_self)) ?_; refine T_b1 (by walk_at "u") (by walk_at "u") ?_; refine T_args_cons (by walk_at "u") ?_; refine T_local (.there (.there (.there (.there .here)))) ?_; refine T_args_cons (by walk_at "u") ?_; refine T_local (.there (.there (.there (.there (.there .here))))) ?_; refine T_args_cons (by walk_at "u") ?_; refine T_local (.there (.there (.there (.there (.there (.there .here)))))) ?_; refine T_args_cons (by walk_at "u") ?_; refine T_local (.there (.there (.there (.there (.there (.there (.there .here))))))) ?_; refine T_args_nil ?_)
      refine T_min4 ?_
      intro vm hvm
      obtain ⟨zm, tz, rfl, hz0⟩ : ∃ z t, vm = Value.int z t ∧ 0 ≤ z := by
        simp only [List.mem_cons, List.not_mem_nil, or_false] at hvm
        rcases hvm with rfl | rfl | rfl | rfl <;> exact ⟨_, _, rfl, by exact Mine.om_55 _⟩
      (refine T_int ?_; intro _; refine T_lt ?_; refine T_truthy_bool ?_)
      refine If2.neg (decide_eq_false (by exact Mine.om_292 _ hz0)) ?_
      (refine T_or_nil ?_)
      refine If2.f ?_
      (refine T_nil ?_; refine K_next ?_; refine T_cons ?_; refine T_If ?_; refine T_isTrue_Compare (by walk_at "u") ?_; refine T_Subscript ?_; refine T_local (.there (.there (.there (.there (.there (.there (.there (.there .here)))))))) ?_; refine T_Slice ?_; refine T_part_some ?_; refine T_BinOp ?_; refine T_CallN ?_; refine T_glob (List.mem_cons_of_mem _ List.mem_cons_self) ?_; refine T_b1 (by walk_at "u") (by walk_at "u") ?_; refine T_args_cons (by walk_at "u") ?_; refine T_local (.there (.there (.there .here))) ?_; refine T_args_nil ?_)
      refine T_len_str (line20 (by exact Mine.om_290 _ _ h4 hfl)) ?_
      (intro _; refine T_int ?_; intro _; refine T_subi ?_; intro _; refine T_part_none ?_; intro _)
      rename_i sl4
      refine T_slice_list (lo := some ((mm - 1 : Nat) : Int)) (hi := none) (by walk_at "mem") (by walk_at "mem") (by rw [hfl, show (mm : Int) - 1 = ((mm - 1 : Nat) : Int) by exact Mine.om_293 _ h2]; exact .int _ _) .none (line20 (by exact Mine.om_294 _ hv3l)) ?_
      intro D4
      rw [slc_from]
      (refine T_BinOp ?_; refine T_List ?_; refine T_args_cons (by walk_at "u") ?_; refine T_int ?_; intro _; refine T_args_nil ?_)
      refine T_newList ?_
      intro Z1
      rename_i tz0
      (refine T_BinOp ?_; refine T_int ?_; intro _; refine T_CallN ?_; refine T_glob (List.mem_cons_of_mem _ List.mem_cons_self) ?_; refine T_b1 (by walk_at "u") (by walk_at "u") ?_; refine T_args_cons (by walk_at "u") ?_; refine T_local (.there (.there (.there .here))) ?_; refine T_args_nil ?_)
      refine T_len_str (line20 (by exact Mine.om_290 _ _ h4 hfl)) ?_
      (intro _; refine T_subi ?_; intro _)
      rw [hfl, show (4 : Int) - (mm : Int) = ((4 - mm : Nat) : Int) by exact Mine.om_295 _ h4]
      refine T_mul_list (by walk_at "mem") (by simp) (by simp; exact Mine.om_296 _) (by exact Mine.om_297 _) ?_
      intro Z2
      have hz2 : IntsAre (List.replicate (4 - mm) [Value.int 0 tz0]).flatten (nz (List.replicate (4 - mm) 0)) := by
        generalize 4 - mm = q
        induction q with
        | zero => exact .nil
        | succ q ih =>
          rw [List.replicate_succ, List.flatten_cons, List.replicate_succ]
          exact .cons _ _ ih
      have hd2 : IntsAre (v3.drop (mm - 1)) (nz (List.replicate (4 - mm) 0)) := by
        have := hv3.drop (mm - 1)
        rw [← ht2]
        simpa [nz] using this
      refine T_ne_ints (by walk_at "mem") (by walk_at "mem") hd2 hz2 ?_
      refine T_weak (l' := (T3, listOf v3.toArray 0) :: (it, oit) :: (cA, o1) :: rest) (by walk_at "sbl") ?_
      (refine T_truthy_bool ?_)
      refine If2.neg (by simp) ?_
      (refine T_nil ?_; refine K_next ?_; refine T_cons ?_; refine T_Aug ?_; refine T_loadName (.there .here) ?_; refine T_CallM (by walk_at "u") ?_; refine T_str ?_; intro _; refine T_meth_str PySem.F.slot_str_join PySem.F.type_str_join ?_; refine M_mk ?_; refine T_b2 (by walk_at "u") (by walk_at "u") ?_; refine T_args_cons (by walk_at "u") ?_)
      refine T_comp [Str.ofString "octet"] [(Str.ofString "chr", .builtin "chr")] (fun _ => rfl) (cl := []) rfl rfl (by decide +kernel) (by decide +kernel) (by decide) (by decide +kernel) (fun p hp => by
        rcases List.mem_cons.mp hp with rfl | hp
        · exact ⟨by decide +kernel, by decide, glb_chr G hK⟩
        cases hp) ?_
      (refine T_Subscript ?_; refine T_local (.there (.there (.there (.there (.there (.there (.there (.there .here)))))))) ?_; refine T_Slice ?_; refine T_part_none ?_; refine T_part_some ?_; refine T_BinOp ?_; refine T_CallN ?_; refine T_glob (List.mem_cons_of_mem _ List.mem_cons_self) ?_; refine T_b1 (by walk_at "u") (by walk_at "u") ?_; refine T_args_cons (by walk_at "u") ?_; refine T_local (.there (.there (.there .here))) ?_; refine T_args_nil ?_)
      refine T_len_str (line20 (by exact Mine.om_290 _ _ h4 hfl)) ?_
      (intro _; refine T_int ?_; intro _; refine T_subi ?_; intro _; intro _)
      refine T_slice_list (lo := none) (hi := some ((mm - 1 : Nat) : Int)) (by walk_at "mem") (by walk_at "mem") .none (by rw [hfl, show (mm : Int) - 1 = ((mm - 1 : Nat) : Int) by exact Mine.om_293 _ h2]; exact .int _ _) (line20 (by exact Mine.om_294 _ hv3l)) ?_
      intro D5
      rw [slc_to]
      have hv4 : IntsAre (v3.take (mm - 1)) (nz (rem.take 3)) := by
        have := hv3.take (mm - 1)
        rw [← ht1]
        simpa [nz] using this
      have hv4l : (v3.take (mm - 1)).length ≤ 3 := by simp; exact Mine.om_298 _ _ hv3l
      generalize v3.take (mm - 1) = v4 at hv4 hv4l
      have hv4n : v4.length = (rem.take 3).length := by rw [hv4.length]; simp [nz]
      have hr256 : ∀ x ∈ rem.take 3, x < 256 := fun x hx => h256r x (List.mem_of_mem_take hx)
      refine T_iter_list (by walk_at "mem") ?_
      intro it5 oi5 hoi5 acc5 oL5 cfm5 hsc5
      refine C_compL (fun i ys => StrsAre ys (((rem.take 3).take i).map fun c => S [c])) (by walk_at "mem") hoi5 .nil (by exact Mine.om_235 _ hv4l) (fun _ => rfl) ?_ ?_
      · intro i5 v5 o5 ys e5 hv hj
        obtain ⟨z, tz, rfl, hz⟩ := IntsAre.get hv4 i5 v5 hv
        obtain ⟨x, hx, rfl⟩ : ∃ x, (rem.take 3)[i5]? = some x ∧ z = (x : Int) := by
          simp only [nz, List.getElem?_map] at hz
          cases hq : (rem.take 3)[i5]? with
          | none => rw [hq] at hz; cases hz
          | some x => rw [hq] at hz; exact ⟨x, rfl, (Option.some.inj hz).symm⟩
        have hx256 := hr256 x (List.mem_of_getElem? hx)
        (refine T_CallN ?_; refine T_glob List.mem_cons_self ?_; refine T_b1 (by walk_at "u") (by walk_at "u") ?_; refine T_args_cons (by walk_at "u") ?_; refine T_local .here ?_; refine T_args_nil ?_)
        refine T_chr hx256 ?_
        intro tc5
        refine ⟨?_, rfl, by walk_at "sbl"⟩
        rw [← take_snoc hx, List.map_append]
        exact sx_app hj (.cons _ _ .nil)
      intro u5 ys5 e5 hyl5 hj5
      rw [hv4n, List.take_length] at hj5
      refine ⟨(acc5, listOf ys5.toArray e5) :: (it, oit) :: (cA, o1) :: rest, by walk_at "sbl", ?_⟩
      (refine T_args_nil ?_)
      rw [lit_v]
      refine T_join (by walk_at "mem") hj5 ?_ ?_
      · have e1 : ((rem.take 3).map fun c => S [c]) = ((rem.take 3).map fun c => [c]).map S := by rw [List.map_map]; rfl
        have e2 := flat1_len (rem.take 3)
        rw [e1, sum_len, e2]; simp only [List.length_map, List.length_take]; exact Mine.om_299 _
      rw [join_S1]
      (intro _)
      refine T_iadds (by rw [S_app, S_len]; exact line20 (by simp; exact Mine.om_300 _ _ _ hlen hdl)) ?_
      rw [S_app]
      (intro _; refine T_store (.there .here) ?_; refine K_next ?_; refine T_nil ?_; refine L_next ?_)
      subst hoit
      refine C_weak ?_ (ih (i + 1) (done ++ rem.take 3) (rem.drop 3) _ _ _ _ _ _ _ _ (by exact Mine.om_301 _ _ _ hm hgl) (by rw [hos, List.append_assoc, List.take_append_drop]) (by exact Mine.om_302 _ _ _ _ hl hgl) ?_)
      · walk_at "sbl"
      · rw [show 4 * (i + 1) = 4 * i + 4 by exact Mine.om_303 _, ← List.drop_drop, hdr, hgb]
        refine List.drop_left' ?_
        simp; exact Mine.om_279 _
  exact C_weak (.pick .head (.drop .refl)) (key ((b64T os).length / 4) 0 [] os tt0 none none none none none none none rfl rfl (by exact Mine.om_304 _) rfl)

/-! the words of a text, plain -/
theorem wRun_esc {R R' : List Nat} (hR : (R = [] ∧ R' = []) ∨ ∃ b, R = b :: R' ∧ wsB b = true) : ∀ (cs acc : List Nat), wRun (escW 0 cs ++ R) (S acc) = (S (acc ++ cs), R')
  | [], acc => by
    rcases hR with ⟨rfl, rfl⟩ | ⟨b, rfl, hb⟩
    · simp [escW, wRun]
    · show wRun (b :: R') (S acc) = _
      rw [w_w hb, List.append_nil]
  | c :: cs, acc => by
    have ih := wRun_esc hR cs (acc ++ [c])
    have e1 : escW 0 (c :: cs) ++ R = escU 0 c ++ (escW 0 cs ++ R) := by simp [escW]
    rw [e1]
    have hsp : specB 0 c = decide (c ∈ [10, 9, 13, 32, 92]) := rfl
    cases hs : specB 0 c with
    | true =>
      have : escU 0 c = [92, c] := by unfold escU; rw [if_pos hs]
      rw [this]
      show wRun (92 :: c :: (escW 0 cs ++ R)) (S acc) = _
      rw [w_e, S_app, ih]; simp
    | false =>
      have : escU 0 c = [c] := by unfold escU; rw [if_neg (by simp [hs])]
      rw [this]
      rw [hsp] at hs
      have hs' := of_decide_eq_false hs
      simp at hs'
      show wRun (c :: (escW 0 cs ++ R)) (S acc) = _
      rw [w_c (decide_eq_false (by simp; exact Mine.om_305 _ hs')) (by exact Mine.om_306 _ hs'), S_app, ih]; simp
theorem wRun_bs {R R' : List Nat} (hR : (R = [] ∧ R' = []) ∨ ∃ b, R = b :: R' ∧ wsB b = true) : ∀ (cs acc : List Nat), wRun (bsW cs ++ R) (S acc) = (S (acc ++ cs), R')
  | [], acc => by
    rcases hR with ⟨rfl, rfl⟩ | ⟨b, rfl, hb⟩
    · simp [bsW, wRun]
    · show wRun (b :: R') (S acc) = _
      rw [w_w hb, List.append_nil]
  | c :: cs, acc => by
    have ih := wRun_bs hR cs (acc ++ [c])
    have e1 : bsW (c :: cs) ++ R = 92 :: c :: (bsW cs ++ R) := by simp [bsW]
    rw [e1, w_e, S_app, ih]; simp
theorem qRun_esc (R : List Nat) : ∀ (cs acc : List Nat), qRun (escW 1 cs ++ 34 :: R) (S acc) = (S (acc ++ cs), R)
  | [], acc => by
    show qRun (34 :: R) (S acc) = _
    rw [q_q, List.append_nil]
  | c :: cs, acc => by
    have ih := qRun_esc R cs (acc ++ [c])
    have e1 : escW 1 (c :: cs) ++ 34 :: R = escU 1 c ++ (escW 1 cs ++ 34 :: R) := by simp [escW]
    rw [e1]
    have hsp : specB 1 c = decide (c ∈ [34, 92]) := rfl
    cases hs : specB 1 c with
    | true =>
      have : escU 1 c = [92, c] := by unfold escU; rw [if_pos hs]
      rw [this]
      show qRun (92 :: c :: (escW 1 cs ++ 34 :: R)) (S acc) = _
      rw [q_e, S_app, ih]; simp
    | false =>
      have : escU 1 c = [c] := by unfold escU; rw [if_neg (by simp [hs])]
      rw [this]
      rw [hsp] at hs
      have hs' := of_decide_eq_false hs
      simp at hs'
      show qRun (c :: (escW 1 cs ++ 34 :: R)) (S acc) = _
      rw [q_c (by exact Mine.om_307 _ hs') (by exact Mine.om_308 _ hs'), S_app, ih]; simp
theorem tok_lead {lead X : List Nat} (h : ∀ c ∈ lead, wsB c = true) : tokRun (lead ++ X) = tokRun X := by
  induction lead with
  | nil => rfl
  | cons c lead ih =>
    show tokRun (c :: (lead ++ X)) = _
    rw [tok_ws (h c List.mem_cons_self), ih fun x hx => h x (List.mem_cons_of_mem _ hx)]
theorem word_head (t : Tr) : ∃ c cs, wordT t = c :: cs ∧ (c = 46 ∨ c = 58) := by
  cases t with
  | leaf s => exact ⟨46, s, rfl, .inl rfl⟩
  | node ks tx => exact ⟨58, _, rfl, .inr rfl⟩
/-- a bare word or one of backslashes -/
theorem tok_bare {t : Tr} {m : Nat} {R R' : List Nat} (hm : m < 3) (hm1 : m ≠ 1) (hR : (R = [] ∧ R' = []) ∨ ∃ b, R = b :: R' ∧ wsB b = true) : tokRun (wordOf (wordT t) m ++ R) = (S (wordT t), R') := by
  obtain ⟨c, cs, e, hc⟩ := word_head t
  rw [e]
  have hm02 : m = 0 ∨ m = 2 := by exact Mine.om_309 _ hm hm1
  rcases hm02 with rfl | rfl
  · have hsp : escU 0 c = [c] := by rcases hc with rfl | rfl <;> rfl
    have e1 : wordOf (c :: cs) 0 ++ R = c :: (escW 0 cs ++ R) := by
      show escW 0 (c :: cs) ++ R = _
      have : escW 0 (c :: cs) = escU 0 c ++ escW 0 cs := by simp [escW]
      rw [this, hsp]; rfl
    rw [e1, tok_w (by rcases hc with rfl | rfl <;> decide) (by exact Mine.om_310 _ hc) (by exact Mine.om_311 _ hc), wRun_esc hR]; rfl
  · have e1 : wordOf (c :: cs) 2 ++ R = 92 :: c :: (bsW cs ++ R) := by
      show bsW (c :: cs) ++ R = _
      simp [bsW]
    rw [e1, tok_e, wRun_bs hR]; rfl
theorem tok_quoted {t : Tr} {R : List Nat} : tokRun (wordOf (wordT t) 1 ++ R) = (S (wordT t), R) := by
  have e1 : wordOf (wordT t) 1 ++ R = 34 :: (escW 1 (wordT t) ++ 34 :: R) := by
    show [34] ++ escW 1 (wordT t) ++ [34] ++ R = _
    simp
  rw [e1, tok_q, qRun_esc]; rfl
/-- one word behind the other, each with the place where it ends -/
inductive TokC (full : List Nat) : List Nat → List (Tr × Nat) → Prop
  | nil : TokC full [] []
  | cons {cs cs' t e L} : tokRun cs = (S (wordT t), cs') → cs' = full.drop e → TokC full cs' L → TokC full cs ((t, e) :: L)
theorem txt_chain {items : List It} (h : ItsOk items) : ∀ (full pre lead0 lead : List Nat), (items ≠ [] → full = pre ++ lead0 ++ txt lead items) → (∀ c ∈ lead, wsB c = true) →
    TokC full (txt lead items) ((items.map It.t).zip (ent pre.length (lead0 ++ lead) items)) := by
  induction items with
  | nil => intro full pre lead0 lead _ _; exact .nil
  | cons it L ih =>
    intro full pre lead0 lead hf hl
    have hf := hf (by simp)
    have hg := h.g it List.mem_cons_self
    have ih := ih ⟨fun y hy => h.g y (List.mem_cons_of_mem _ hy), fun y hy => h.w y (List.mem_cons_of_mem _ hy)⟩ full
    have hlen : (pre ++ lead0 ++ lead ++ it.w).length = pre.length + (lead0 ++ lead).length + it.w.length := by simp only [List.length_append]; exact Mine.om_312 _ _ _ _
    have hfull : full = (pre ++ lead0 ++ lead ++ it.w) ++ txt it.g L := by
      rw [hf]; simp only [txt, List.append_assoc]
    show TokC full (lead ++ it.w ++ txt it.g L) ((it.t, pre.length + (lead0 ++ lead).length + it.w.length + endAdd it.m) :: (L.map It.t).zip (ent (pre.length + (lead0 ++ lead).length + it.w.length) it.g L))
    rw [← hlen, List.append_assoc]
    by_cases hm1 : it.m = 1
    · refine .cons (cs' := txt it.g L) ?_ ?_ ?_
      · rw [tok_lead hl]
        unfold It.w
        rw [hm1]; exact tok_quoted
      · unfold endAdd
        rw [if_pos hm1, Nat.add_zero, hfull, List.drop_left' rfl]
      · have := ih (pre ++ lead0 ++ lead ++ it.w) [] it.g (fun _ => by rw [List.append_nil]; exact hfull) hg.g
        simpa using this
    · have hend : endAdd it.m = 1 := by unfold endAdd; rw [if_neg hm1]
      rw [hend]
      cases L with
      | nil =>
        refine .cons (cs' := []) ?_ ?_ .nil
        · rw [tok_lead hl]
          exact tok_bare hg.m hm1 (.inl ⟨rfl, rfl⟩)
        · rw [hfull]
          simp only [txt, List.append_nil]
          rw [List.drop_eq_nil_of_le (by exact Mine.om_313 _)]
      | cons it2 L2 =>
        obtain ⟨b, g', hbg⟩ : ∃ b g', it.g = b :: g' := by
          cases hq : it.g with
          | nil => exact absurd hq (hg.ne hm1)
          | cons b g' => exact ⟨b, g', rfl⟩
        have hbw : wsB b = true := hg.g b (by rw [hbg]; exact List.mem_cons_self)
        have e2 : txt it.g (it2 :: L2) = b :: txt g' (it2 :: L2) := by rw [hbg]; rfl
        refine .cons (cs' := txt g' (it2 :: L2)) ?_ ?_ ?_
        · rw [tok_lead hl, e2]
          exact tok_bare hg.m hm1 (.inr ⟨b, rfl, hbw⟩)
        · rw [hfull, e2, List.drop_append]
          simp
        · have := ih (pre ++ lead0 ++ lead ++ it.w) [b] g' (fun _ => by rw [hfull, e2]; simp) (fun c hc => hg.g c (by rw [hbg]; exact List.mem_cons_of_mem _ hc))
          rw [show [b] ++ g' = it.g by rw [hbg]; rfl] at this
          exact this
theorem frame_chain {its : List It} (h : ItsOk its) : TokC (txt [] its) (txt [] its) ((its.map It.t).zip (ent 0 [] its)) := by
  have := txt_chain h (txt [] its) [] [] [] (fun _ => rfl) (fun c hc => nomatch hc)
  simpa using this

/-! _law_words -/
theorem Signs.ofList : ∀ (vs : List Value) (cs : List Nat), vs.length = cs.length → (∀ (j : Nat) (v : Value), vs[j]? = some v → ∃ c u, cs[j]? = some c ∧ v = .str (S [c]) u) → Signs vs cs
  | [], [], _, _ => .nil
  | [], _ :: _, h, _ => by cases h
  | _ :: _, [], h, _ => by cases h
  | v :: vs, c :: cs, h, hv => by
    obtain ⟨c', u, e1, rfl⟩ := hv 0 v rfl
    have : c = c' := Option.some.inj e1
    subst this
    exact .cons (Signs.ofList vs cs (by simpa using h) fun j w hw => by simpa using hv (j + 1) w (by simpa using hw))
theorem wordT_ne (t : Tr) : wordT t ≠ [] := by cases t <;> simp [wordT]
theorem glb_list (G : Gr) (hK : G.K = Mine.hd.heap_39 G.w.params) : Glb G (Str.ofString "list") (.type "list") := .inr ⟨by rw [hK]; k_is, by boot_by_name, by decide⟩
theorem glb_machine (G : Gr) (hK : G.K = Mine.hd.heap_39 G.w.params) : Glb G (Str.ofString "_law_machine") (.ref 100) := .inl (by rw [hK]; k_is)
theorem glb_netrclex (G : Gr) (hK : G.K = Mine.hd.heap_39 G.w.params) : Glb G (Str.ofString "_netrclex") (.ref 59) := .inl (by rw [hK]; k_is)

theorem words_spec (G : Gr) (hK : G.K = Mine.hd.heap_39 G.w.params) (hC : CodeHd G.base 99 95) (ps : Array Value) (cc : Addr) (occ : Obj) (htab : TabOk ps cc occ) (its : List It) (hits : ItsOk its) (tx : List Nat) (htx : tx = txt [] its) (tt : Tok) (hlen : tx.length ≤ 300000) (hn : its.length ≤ 1000) :
    Sp G 7 [(95, tabObj ps), (cc, occ)] (.ref 136) [.str (S tx) tt] [] fun v post => ∃ W vs n, v = .ref W ∧ post = [(W, listOf (List.toArray vs) n), (95, tabObj ps), (cc, occ)] ∧ StrsAre vs ((its.map It.t).map fun t => S (wordT t)) := by
  refine enter (N := [Str.ofString "text", Str.ofString "machine", Str.ofString "words"]) (Gs := [(Str.ofString "list", .type "list"), (Str.ofString "_law_machine", .ref 100)]) (binds := [(Str.ofString "text", .str (S tx) tt)]) (vals := [some (.str (S tx) tt), none, none]) (ho := by rw [hK]; k_is) (hcd := by rw [hK]; k_is) (hbind := fun s X => BindsTo.of_eq rfl) [Str.ofString "machine", Str.ofString "words"] (hN := rfl) (hv := rfl) (hnd := by decide) (hloc := by decide +kernel)
    (hglb := fun p hp => by
      rcases List.mem_cons.mp hp with rfl | hp
      · exact ⟨by decide +kernel, by decide, glb_list G hK⟩
      rcases List.mem_cons.mp hp with rfl | hp
      · exact ⟨by decide +kernel, by decide, glb_machine G hK⟩
      cases hp) (hcell := by decide +kernel) (hco := rfl) (hgen := rfl) (hk := rfl) ?_
  intro fm rest
  show T fm 6 _ ((95, tabObj ps) :: (cc, occ) :: rest) _ _
  (refine T_cons ?_; refine T_Assign (by walk_at "u") ?_; refine T_CallN ?_; refine T_glob (List.mem_cons_of_mem _ List.mem_cons_self) ?_; refine T_k1 (by rw [hK]; k_is) (by walk_at "u") (by walk_at "u") ?_; refine T_args_cons (by walk_at "u") ?_; refine T_CallN ?_; refine T_glob List.mem_cons_self ?_; refine T_ty1 (by walk_at "u") (by walk_at "u") ?_; refine T_args_cons (by walk_at "u") ?_; refine T_local .here ?_; refine T_args_nil ?_)
  refine T_list_str (line20 (by exact Mine.om_140 _ hlen)) ?_
  intro SG ng svs hsl hsv
  have hsg := Signs.ofList svs tx hsl hsv
  clear hsv
  (refine T_args_nil ?_)
  refine T_call (machine_spec2 G hK hC (glb_netrclex G hK) ps cc occ htab SG svs ng) (by decide) (by walk_at "sub") ?_
  rintro _ _ ⟨mc, tm, hmsg, hmcc, hmocc, rfl, rfl⟩
  subst hmsg hmcc hmocc
  show T fm 6 _ (mled mc 1 tm svs ng [] 0 ((95, tabObj ps) :: rest)) _ _
  have hch := frame_chain hits
  rw [← htx] at hch
  have hzl : ((its.map It.t).zip (ent 0 [] its)).map (·.1) = its.map It.t := by
    rw [List.map_fst_zip]; simp [ent_length]
  have hzn : ((its.map It.t).zip (ent 0 [] its)).length ≤ 1000 := by simp [ent_length]; exact Mine.om_314 _ hn
  generalize (its.map It.t).zip (ent 0 [] its) = L at hch hzl hzn
  rw [← hzl]
  (refine T_store (.there .here) ?_; refine K_next ?_; refine T_cons ?_; refine T_Assign (by walk_at "u") ?_; refine T_List ?_; refine T_args_cons (by walk_at "u") ?_; refine T_CallM (by walk_at "u") ?_; refine T_local (.there .here) ?_)
  refine T_method (by walk_at "mem") (by walk_at "mem") (hK ▸ meth_get_token _) (md_get_token ..) ?_
  (refine M_mk ?_; refine T_k0 (by rw [hK]; k_is) ?_)
  refine T_call (get_token_spec G hK mc 1 tm svs tx ng 0 (by exact Mine.om_315 _ _ hlen hsl) hsg) (by decide) (by walk_at "sub") ?_
  rintro _ _ ⟨ut, n6, t6, its6, e6, rfl, hsi6, hn6, rfl⟩
  show T fm 6 _ (mled mc n6 t6 its6 e6 [] 0 ((95, tabObj ps) :: rest)) _ _
  (refine T_args_nil ?_)
  refine T_newList ?_
  intro Wd
  (refine T_store (.there (.there .here)) ?_; refine K_next ?_; refine T_cons ?_)
  refine T_While (C_any fun c2 P2 hc2 hP2 => ?_)
  have fin : ∀ (vs : List Value) (u : Tok) (we : Nat) (n : Int) (t : Tok) (its : List Value) (e : Nat), StrsAre vs ((L.map (·.1)).map fun t => S (wordT t)) →
      C fm 6 [some (.str (S tx) tt), some (.ref mc.m), some (.ref Wd)] ((Wd, listOf (vs ++ [Value.str (S []) u]).toArray we) :: mled mc n t its e [] 0 ((95, tabObj ps) :: rest)) c2 P2 := by
    subst hc2
    intro vs u we n t its e hvs
    have hvl : vs.length ≤ 1000 := by have := sx_len hvs; simp at this; exact Mine.om_316 _ _ hzn this
    refine C_while ?_
    (refine T_isTrue_Compare (by walk_at "u") ?_; refine T_Subscript ?_; refine T_local (.there (.there .here)) ?_; refine T_UnaryOp ?_; refine T_int ?_; intro _; refine T_neg ?_; intro _)
    refine T_item_last (by walk_at "mem") (by walk_at "u") ?_
    (refine T_str ?_; intro _; refine T_nes ?_; refine T_truthy_bool ?_)
    refine If2.neg (by simp [lit_]) ?_
    subst hP2
    (refine T_nil ?_; refine K_next ?_; refine T_cons ?_; refine T_Return ?_; refine T_Subscript ?_; refine T_local (.there (.there .here)) ?_; refine T_Slice ?_; refine T_part_none ?_; refine T_part_some ?_; refine T_UnaryOp ?_; refine T_int ?_; intro _; refine T_neg ?_; intro _; intro _)
    rename_i sl
    refine T_slice_list (lo := none) (hi := some (-1)) (by walk_at "mem") (by walk_at "mem") .none (.int _ _) (line20 (by simp; exact Mine.om_317 _ hvl)) ?_
    intro W
    have hslc : slc (vs ++ [Value.str (S []) u]) none (some (-1)) = vs := by
      have : clipAt (vs ++ [Value.str (S []) u]).length (-1) = vs.length := by
        have := clipAt_cast (vs ++ [Value.str (S []) u]).length (-1)
        simp at this ⊢
        exact Mine.om_318 _ _ this
      simp only [slc, Option.elim, List.drop_zero, Nat.sub_zero]
      rw [this]; simp
    rw [hslc]
    (refine K_ret ?_)
    exact ⟨[(W, listOf vs.toArray 0), (95, tabObj ps), (mc.cc, mc.occ)], by walk_at "sbl2", W, vs, 0, rfl, rfl, hvs⟩
  have key : ∀ (R done : List (Tr × Nat)) (t : Tr) (e0 : Nat) (vs : List Value) (u : Tok) (we : Nat) (n : Int) (tn : Tok) (its : List Value) (cs : List Nat) (e : Nat), L = done ++ (t, e0) :: R → StrsAre vs ((done.map (·.1)).map fun t => S (wordT t)) → Signs its cs → TokC tx cs R → its.length ≤ 300000 →
      C fm 6 [some (.str (S tx) tt), some (.ref mc.m), some (.ref Wd)] ((Wd, listOf (vs ++ [Value.str (S (wordT t)) u]).toArray we) :: mled mc n tn its e [] 0 ((95, tabObj ps) :: rest)) c2 P2 := by
    intro R
    induction R with
    | nil =>
      intro done t e0 vs u we n tn its cs e hL hvs hsi hch hil
      cases hch
      have htok : tokRun [] = (S [], []) := rfl
      have hdl : done.length < 1000 := by have := congrArg List.length hL; simp at this; exact Mine.om_319 _ _ hzn this
      have hvl : vs.length = done.length := by have := sx_len hvs; simpa using this
      subst hc2
      refine C_while ?_
      (refine T_isTrue_Compare (by walk_at "u") ?_; refine T_Subscript ?_; refine T_local (.there (.there .here)) ?_; refine T_UnaryOp ?_; refine T_int ?_; intro _; refine T_neg ?_; intro _)
      refine T_item_last (by walk_at "mem") (by walk_at "u") ?_
      (refine T_str ?_; intro _; refine T_nes ?_; refine T_truthy_bool ?_)
      refine If2.pos (by simp [lit_, S_eq, wordT_ne]) ?_
      (refine T_cons ?_; refine T_Expr (by walk_at "u") ?_; refine T_CallM (by walk_at "u") ?_; refine T_local (.there (.there .here)) ?_; refine T_meth_list PySem.F.slot_list_append PySem.F.type_list_append (by walk_at "mem") ?_; refine M_mk ?_; refine T_b2 (by walk_at "u") (by walk_at "u") ?_; refine T_args_cons (by walk_at "u") ?_; refine T_CallM (by walk_at "u") ?_; refine T_local (.there .here) ?_)
      refine T_method (by walk_at "mem") (by walk_at "mem") (hK ▸ meth_get_token _) (md_get_token ..) ?_
      (refine M_mk ?_; refine T_k0 (by rw [hK]; k_is) ?_)
      refine T_call (get_token_spec G hK mc n tn its [] e 0 (by exact Mine.om_320 _ hil) hsi) (by decide) (by walk_at "sub") ?_
      rintro _ _ ⟨ut, n7, t7, its7, e7, rfl, hsi7, hn7, rfl⟩
      show T fm 6 _ (mled mc n7 t7 its7 e7 [] 0 ((Wd, listOf (vs ++ [Value.str (S (wordT t)) u]).toArray we) :: (95, tabObj ps) :: rest)) _ _
      (refine T_args_nil ?_)
      refine T_appendL (by walk_at "upd") (line20 (by simp; exact Mine.om_321 _ _ hdl hvl)) ?_
      (refine K_next ?_; refine T_nil ?_; refine L_next ?_)
      have hvs' : StrsAre (vs ++ [Value.str (S (wordT t)) u]) (((done ++ [(t, e0)]).map (·.1)).map fun t => S (wordT t)) := by
        rw [List.map_append, List.map_append]
        exact sx_app hvs (.cons _ _ .nil)
      rw [htok] at hsi7 ⊢
      dsimp only at hsi7 ⊢
      rw [← hL] at hvs'
      refine C_weak ?_ (fin (vs ++ [Value.str (S (wordT t)) u]) ut (we + 1) n7 t7 its7 e7 hvs')
      walk_at "sbl"
    | cons q R ih =>
      intro done t e0 vs u we n tn its cs e hL hvs hsi hch hil
      obtain ⟨t2, e2⟩ := q
      cases hch with
      | cons htok hcs' hch' =>
      rename_i cs'
      have hlc : cs'.length ≤ tx.length := by rw [hcs']; simp
      have hdl : done.length < 1000 := by have := congrArg List.length hL; simp at this; exact Mine.om_322 _ _ _ hzn this
      have hvl : vs.length = done.length := by have := sx_len hvs; simpa using this
      subst hc2
      refine C_while ?_
      (refine T_isTrue_Compare (by walk_at "u") ?_; refine T_Subscript ?_; refine T_local (.there (.there .here)) ?_; refine T_UnaryOp ?_; refine T_int ?_; intro _; refine T_neg ?_; intro _)
      refine T_item_last (by walk_at "mem") (by walk_at "u") ?_
      (refine T_str ?_; intro _; refine T_nes ?_; refine T_truthy_bool ?_)
      refine If2.pos (by simp [lit_, S_eq, wordT_ne]) ?_
      (refine T_cons ?_; refine T_Expr (by walk_at "u") ?_; refine T_CallM (by walk_at "u") ?_; refine T_local (.there (.there .here)) ?_; refine T_meth_list PySem.F.slot_list_append PySem.F.type_list_append (by walk_at "mem") ?_; refine M_mk ?_; refine T_b2 (by walk_at "u") (by walk_at "u") ?_; refine T_args_cons (by walk_at "u") ?_; refine T_CallM (by walk_at "u") ?_; refine T_local (.there .here) ?_)
      refine T_method (by walk_at "mem") (by walk_at "mem") (hK ▸ meth_get_token _) (md_get_token ..) ?_
      (refine M_mk ?_; refine T_k0 (by rw [hK]; k_is) ?_)
      refine T_call (get_token_spec G hK mc n tn its cs e 0 (by exact Mine.om_320 _ hil) hsi) (by decide) (by walk_at "sub") ?_
      rintro _ _ ⟨ut, n7, t7, its7, e7, rfl, hsi7, hn7, rfl⟩
      show T fm 6 _ (mled mc n7 t7 its7 e7 [] 0 ((Wd, listOf (vs ++ [Value.str (S (wordT t)) u]).toArray we) :: (95, tabObj ps) :: rest)) _ _
      (refine T_args_nil ?_)
      refine T_appendL (by walk_at "upd") (line20 (by simp; exact Mine.om_321 _ _ hdl hvl)) ?_
      (refine K_next ?_; refine T_nil ?_; refine L_next ?_)
      have hvs' : StrsAre (vs ++ [Value.str (S (wordT t)) u]) (((done ++ [(t, e0)]).map (·.1)).map fun t => S (wordT t)) := by
        rw [List.map_append, List.map_append]
        exact sx_app hvs (.cons _ _ .nil)
      rw [htok] at hsi7 ⊢
      dsimp only at hsi7 ⊢
      have hl7 := hsi7.len
      refine C_weak ?_ (ih (done ++ [(t, e0)]) t2 e2 (vs ++ [Value.str (S (wordT t)) u]) ut (we + 1) n7 t7 its7 cs' e7 (by rw [hL]; simp) hvs' hsi7 hch' (by exact Mine.om_323 _ _ _ hlen hlc hl7))
      walk_at "sbl"
  cases hch with
  | nil =>
    exact fin [] ut 0 n6 t6 its6 e6 .nil
  | cons htok hcs' hch' =>
    rename_i cs' t2 e2 L2
    have hlc : cs'.length ≤ tx.length := by rw [hcs']; simp
    rw [htok] at hsi6 ⊢
    dsimp only at hsi6 ⊢
    have hl7 := hsi6.len
    exact key L2 [] t2 e2 [] ut 0 n6 t6 its6 cs' e6 rfl .nil hsi6 hch' (by exact Mine.om_323 _ _ _ hlen hlc hl7)

/-! the tree told, plain -/
noncomputable def bfsF : Nat → List Tr → List Tr
  | 0, _ => []
  | _ + 1, [] => []
  | n + 1, t :: Q => t :: bfsF n (Q ++ kidsT t)
noncomputable def bfsT (Q : List Tr) : List Tr := bfsF (sizeL Q) Q
theorem bfsT_nil : bfsT [] = [] := rfl
theorem bfsT_cons (t : Tr) (Q : List Tr) : bfsT (t :: Q) = t :: bfsT (Q ++ kidsT t) := by
  unfold bfsT
  have : sizeL (t :: Q) = sizeL (Q ++ kidsT t) + 1 := by
    rw [sizeL_app]; simp only [sizeL]; rw [sizeT_kids]; exact Mine.om_324 _ _
  rw [this]; rfl
/-- level by level -/
noncomputable def kidsL (L : List Tr) : List Tr := (L.map kidsT).flatten
theorem kidsL_size (L : List Tr) : sizeL (kidsL L) + L.length = sizeL L := by
  induction L with
  | nil => rfl
  | cons t L ih =>
    show sizeL (kidsT t ++ kidsL L) + (L.length + 1) = sizeT t + sizeL L
    rw [sizeL_app, sizeT_kids]; exact Mine.om_325 _ _ _ _ ih
theorem bfsT_level : ∀ (A B : List Tr), bfsT (A ++ B) = A ++ bfsT (B ++ kidsL A)
  | [], B => by simp [kidsL]
  | t :: A, B => by
    rw [List.cons_append, bfsT_cons, List.append_assoc, bfsT_level A (B ++ kidsT t)]
    simp [kidsL]
theorem bfsT_step (L : List Tr) : bfsT L = L ++ bfsT (kidsL L) := by
  have := bfsT_level L []
  simpa using this
noncomputable def posn (tx : List Nat) (e : Nat) : Int × Int := (((tx.drop e).length : Int), 1 + ((tx.take e).count 10 : Int))
noncomputable def outT (tx : List Nat) (e : Nat) (Q : List Tr) : List (Tr × Int × Int) := Q.map fun x => (x, posn tx e)
noncomputable def toldO (tx : List Nat) (L : List (Tr × Nat)) : List (Tr × Int × Int) := (L.map fun q => outT tx q.2 (bfsT [q.1])).flatten
/-- the value found for a part -/
noncomputable def FoundV (v : Value) (t : Tr) : Prop :=
  match t with
  | .leaf s => ∃ u, v = .str (S s) u
  | .node ks _ => ∃ u, v = .int (ks.length : Int) u
noncomputable def EntV (tl : Led) (v : Value) (x : Tr × Int × Int) : Prop := ∃ a fv t2 t3, v = .ref a ∧ (a, tupOf [fv, .int x.2.1 t2, .int x.2.2 t3].toArray) ∈ tl ∧ FoundV fv x.1
inductive Es (tl : Led) : List Value → List (Tr × Int × Int) → Prop
  | nil : Es tl [] []
  | cons {v x vs xs} : EntV tl v x → Es tl vs xs → Es tl (v :: vs) (x :: xs)
theorem Es.mono {tl tl' : Led} (h : ∀ p ∈ tl, p ∈ tl') {vs xs} (x : Es tl vs xs) : Es tl' vs xs := by
  induction x with
  | nil => exact .nil
  | cons hv _ ih =>
    obtain ⟨a, fv, t2, t3, e, hm, hf⟩ := hv
    exact .cons ⟨a, fv, t2, t3, e, h _ hm, hf⟩ ih
theorem Es.snoc {tl : Led} {vs xs v x} (h : Es tl vs xs) (hv : EntV tl v x) : Es tl (vs ++ [v]) (xs ++ [x]) := by
  induction h with
  | nil => exact .cons hv .nil
  | cons h' _ ih => exact .cons h' ih
theorem Es.len {tl : Led} {vs xs} (h : Es tl vs xs) : vs.length = xs.length := by
  induction h with
  | nil => rfl
  | cons _ _ ih => simp [ih]
theorem line_pos {tx cs : List Nat} {e : Nat} {n : Int} (h : n + (cs.count 10 : Int) = 1 + (tx.count 10 : Int)) (hc : cs = tx.drop e) : n = (posn tx e).2 := by
  have : tx.count 10 = (tx.take e).count 10 + (tx.drop e).count 10 := by
    rw [← List.count_append, List.take_append_drop]
  subst hc
  simp only [posn]
  exact Mine.om_326 _ _ _ _ this h
/-! sizes -/
theorem encS_len : ∀ os : List Nat, os.length ≤ (encS os).length
  | x :: y :: z :: r => by have := encS_len r; simp [encS]; exact Mine.om_50 _ _ this
  | [x, y] => by simp [encS]
  | [x] => by simp [encS]
  | [] => by simp [encS]
theorem b64T_ge {os : List Nat} (h : ∀ o ∈ os, o < 256) : os.length ≤ (b64T os).length := by
  have := encS_len os
  rw [b64T_S h]
  simp; exact Mine.om_327 _ _ this
theorem wordOf_ge (w : List Nat) (m : Nat) : w.length ≤ (wordOf w m).length := by
  have h1 := bsW_len w
  have h2 : ∀ m, w.length ≤ (escW m w).length := by
    intro m
    unfold escW
    induction w with
    | nil => simp
    | cons c w ih =>
      have : 1 ≤ (escU m c).length := by unfold escU; split <;> simp
      have ih := ih (bsW_len w)
      simp only [List.map_cons, List.flatten_cons, List.length_append, List.length_cons] at ih ⊢; exact Mine.om_328 _ _ _ this ih
  unfold wordOf
  split
  · exact Mine.om_329 _ _ h1
  · split
    · have := h2 1
      simp only [List.length_append, List.length_cons, List.length_nil]; exact Mine.om_330 _ _ this
    · exact h2 m
theorem item_le : ∀ (its : List It) (lead : List Nat), ∀ it ∈ its, (wordT it.t).length ≤ (txt lead its).length
  | [], _, _, h => nomatch h
  | x :: L, lead, it, h => by
    rcases List.mem_cons.mp h with rfl | h
    · have := wordOf_ge (wordT it.t) it.m
      simp only [txt, It.w, List.length_append]; exact Mine.om_331 _ _ _ _ this
    · have := item_le L x.g it h
      simp only [txt, List.length_append]; exact Mine.om_332 _ _ _ _ this
structure TrOk (B : Nat) (t : Tr) : Prop where
  wf : Wf t
  le : (wordT t).length ≤ B
theorem kids_ok {B : Nat} {ks : List Tr} {tx : List Nat} (h : TrOk B (.node ks tx)) : ∃ its, ks = its.map It.t ∧ tx = txt [] its ∧ ItsOk its ∧ tx.length ≤ B ∧ (∀ c ∈ tx, c < 256) ∧ ∀ k ∈ ks, TrOk B k := by
  have hle := h.le
  generalize hn : Tr.node ks tx = nd at h
  have hwf := h.wf
  cases hwf with
  | leaf _ => cases hn
  | node hg hw =>
    rename_i its
    injection hn with e1 e2
    subst e1 e2
    have hok : ItsOk its := ⟨hg, hw⟩
    have hlt := txt_lt hok [] (fun c hc => nomatch hc)
    have hb := b64T_ge hlt
    simp only [wordT, List.length_cons] at hle
    refine ⟨its, rfl, rfl, hok, by exact Mine.om_333 _ _ _ hle hb, hlt, fun k hk => ?_⟩
    obtain ⟨it, hit, rfl⟩ := List.mem_map.mp hk
    have := item_le its [] it hit
    exact ⟨hw it hit, by exact Mine.om_334 _ _ _ _ hle hb this⟩

/-! _law_told -/
theorem glb_text (G : Gr) (hK : G.K = Mine.hd.heap_39 G.w.params) : Glb G (Str.ofString "_law_text") (.ref 129) := .inl (by rw [hK]; k_is)
theorem glb_words (G : Gr) (hK : G.K = Mine.hd.heap_39 G.w.params) : Glb G (Str.ofString "_law_words") (.ref 136) := .inl (by rw [hK]; k_is)

theorem sizeL_mem {t : Tr} {L : List Tr} (h : t ∈ L) : sizeT t ≤ sizeL L := by
  induction L with
  | nil => cases h
  | cons x L ih =>
    simp only [sizeL]
    rcases List.mem_cons.mp h with rfl | h
    · exact Mine.om_335 _ _
    · have := ih h; exact Mine.om_336 _ _ _ this
theorem told_spec (G : Gr) (hK : G.K = Mine.hd.heap_39 G.w.params) (hC : CodeHd G.base 99 95) (its : List It) (hits : ItsOk its) (tx : List Nat) (htx : tx = txt [] its) (tt : Tok) (hlen : tx.length ≤ 213000) (hsz : sizeL (its.map It.t) ≤ 14) :
    Sp G 8 [(95, tabObj #[])] (.ref 143) [.str (S tx) tt] [] fun v post => ∃ TL vs ne tl ps, v = .ref TL ∧ post = (TL, listOf (List.toArray vs) ne) :: (95, tabObj ps) :: tl ∧ Es tl vs (toldO tx ((its.map It.t).zip (ent 0 [] its))) := by
  refine enter (N := [Str.ofString "text", Str.ofString "signs", Str.ofString "machine", Str.ofString "told", Str.ofString "word", Str.ofString "found", Str.ofString "inner", Str.ofString "one"]) (Gs := [(Str.ofString "list", .type "list"), (Str.ofString "_law_machine", .ref 100), (Str.ofString "_law_text", .ref 129), (Str.ofString "_law_words", .ref 136), (Str.ofString "len", .builtin "len")]) (binds := [(Str.ofString "text", .str (S tx) tt)]) (vals := [some (.str (S tx) tt), none, none, none, none, none, none, none]) (ho := by rw [hK]; k_is) (hcd := by rw [hK]; k_is) (hbind := fun s X => BindsTo.of_eq rfl) [Str.ofString "signs", Str.ofString "machine", Str.ofString "told", Str.ofString "word", Str.ofString "found", Str.ofString "inner", Str.ofString "one"] (hN := rfl) (hv := rfl) (hnd := by decide) (hloc := by decide +kernel)
    (hglb := fun p hp => by
      rcases List.mem_cons.mp hp with rfl | hp
      · exact ⟨by decide +kernel, by decide, glb_list G hK⟩
      rcases List.mem_cons.mp hp with rfl | hp
      · exact ⟨by decide +kernel, by decide, glb_machine G hK⟩
      rcases List.mem_cons.mp hp with rfl | hp
      · exact ⟨by decide +kernel, by decide, glb_text G hK⟩
      rcases List.mem_cons.mp hp with rfl | hp
      · exact ⟨by decide +kernel, by decide, glb_words G hK⟩
      rcases List.mem_cons.mp hp with rfl | hp
      · exact ⟨by decide +kernel, by decide, glb_len G hK⟩
      cases hp) (hcell := by decide +kernel) (hco := rfl) (hgen := rfl) (hk := rfl) ?_
  intro fm rest
  rw [List.singleton_append]
  (refine T_cons ?_; refine T_Assign (by walk_at "u") ?_; refine T_CallN ?_; refine T_glob List.mem_cons_self ?_; refine T_ty1 (by walk_at "u") (by walk_at "u") ?_; refine T_args_cons (by walk_at "u") ?_; refine T_local .here ?_; refine T_args_nil ?_)
  refine T_list_str (line20 (by exact Mine.om_337 _ hlen)) ?_
  intro SG ng svs hsl hsv
  have hsg := Signs.ofList svs tx hsl hsv
  clear hsv
  (refine T_store (.there .here) ?_; refine K_next ?_; refine T_cons ?_; refine T_Assign (by walk_at "u") ?_; refine T_CallN ?_; refine T_glob (List.mem_cons_of_mem _ List.mem_cons_self) ?_; refine T_k1 (by rw [hK]; k_is) (by walk_at "u") (by walk_at "u") ?_; refine T_args_cons (by walk_at "u") ?_; refine T_local (.there .here) ?_; refine T_args_nil ?_)
  refine T_call (machine_spec G hK hC (glb_netrclex G hK) SG svs ng) (by decide) (by walk_at "sub") ?_
  rintro _ _ ⟨mc, tm, ps, hmsg, htab, rfl, rfl⟩
  subst hmsg
  show T fm 7 _ (mled mc 1 tm svs ng [] 0 ((95, tabObj ps) :: rest)) _ _
  (refine T_store (.there (.there .here)) ?_; refine K_next ?_; refine T_cons ?_; refine T_Assign (by walk_at "u") ?_; refine T_List ?_; refine T_args_nil ?_)
  refine T_newList ?_
  intro TL
  have hch := frame_chain hits
  rw [← htx] at hch
  have hzl : ((its.map It.t).zip (ent 0 [] its)).map (·.1) = its.map It.t := by
    rw [List.map_fst_zip]; simp [ent_length]
  have hall : ∀ q ∈ (its.map It.t).zip (ent 0 [] its), TrOk 213000 q.1 := by
    intro q hq
    have hm : q.1 ∈ its.map It.t := by rw [← hzl]; exact List.mem_map_of_mem hq
    obtain ⟨it, hit, e⟩ := List.mem_map.mp hm
    rw [← e]
    have := item_le its [] it hit
    rw [← htx] at this
    exact ⟨hits.w it hit, by exact Mine.om_338 _ _ hlen this⟩
  generalize hL0 : (its.map It.t).zip (ent 0 [] its) = L0 at hch hzl hall
  rw [← hzl] at hsz
  generalize htgt : toldO tx L0 = tgt
  (refine T_store (.there (.there (.there .here))) ?_; refine K_next ?_; refine T_cons ?_; refine T_Assign (by walk_at "u") ?_; refine T_CallM (by walk_at "u") ?_; refine T_local (.there (.there .here)) ?_)
  refine T_method (by walk_at "mem") (by walk_at "mem") (hK ▸ meth_get_token _) (md_get_token ..) ?_
  (refine M_mk ?_; refine T_k0 (by rw [hK]; k_is) ?_)
  refine T_call (get_token_spec G hK mc 1 tm svs tx ng 0 (by exact Mine.om_339 _ _ hlen hsl) hsg) (by decide) (by walk_at "sub") ?_
  rintro _ _ ⟨ut, n6, t6, its6, e6, rfl, hsi6, hn6, rfl⟩
  show T fm 7 _ (mled mc n6 t6 its6 e6 [] 0 ((TL, listOf #[] 0) :: (95, tabObj ps) :: rest)) _ _
  (refine T_store (.there (.there (.there (.there .here)))) ?_; refine K_next ?_; refine T_cons ?_)
  refine T_While (C_any fun c2 P2 hc2 hP2 => ?_)
  have fin : ∀ (vs : List Value) (u : Tok) (ve : Nat) (tl : Led) (n : Int) (t : Tok) (items : List Value) (e : Nat) (pe : Nat) (x1 x2 x3 : Option Value), Es tl vs tgt →
      C fm 7 [some (.str (S tx) tt), some (.ref mc.sg), some (.ref mc.m), some (.ref TL), some (.str (S []) u), x1, x2, x3] ((TL, listOf vs.toArray ve) :: mled mc n t items e [] pe ((95, tabObj ps) :: (tl ++ rest))) c2 P2 := by
    subst hc2
    intro vs u ve tl n t items e pe x1 x2 x3 hvs
    refine C_while ?_
    (refine T_isTrue_Compare (by walk_at "u") ?_; refine T_local (.there (.there (.there (.there .here)))) ?_; refine T_str ?_; intro _; refine T_nes ?_; refine T_truthy_bool ?_)
    refine If2.neg (by simp [lit_]) ?_
    subst hP2
    (refine T_nil ?_; refine K_next ?_; refine T_cons ?_; refine T_Return ?_; refine T_local (.there (.there (.there .here))) ?_; refine K_ret ?_)
    refine ⟨(TL, listOf vs.toArray ve) :: (95, tabObj ps) :: tl, ?_, TL, vs, ve, tl, ps, rfl, rfl, hvs⟩
    show Sbl ((TL, listOf vs.toArray ve) :: (95, tabObj ps) :: (tl ++ rest)) _
    walk_at "sbl"
  have key : ∀ (m : Nat) (t : Tr) (Q : List Tr) (L : List (Tr × Nat)) (e0 : Nat) (xs : List (Tr × Int × Int)) (vs : List Value) (u : Tok) (ve : Nat) (tl : Led) (n : Int) (tn : Tok) (items : List Value) (cs : List Nat) (e pe : Nat) (pbs : List Value) (x1 x2 x3 : Option Value),
      sizeL (t :: Q) + sizeL (L.map (·.1)) = m → xs.length + m ≤ 14 → (∀ q ∈ t :: Q, TrOk 213000 q) → (∀ q ∈ L, TrOk 213000 q.1) → Es tl vs xs → xs ++ outT tx e0 (bfsT (t :: Q)) ++ toldO tx L = tgt →
      Signs items cs → cs = tx.drop e0 → TokC tx cs L → n + (cs.count 10 : Int) = 1 + (tx.count 10 : Int) → StrsAre pbs (Q.map fun t => S (wordT t)) →
      C fm 7 [some (.str (S tx) tt), some (.ref mc.sg), some (.ref mc.m), some (.ref TL), some (.str (S (wordT t)) u), x1, x2, x3] ((TL, listOf vs.toArray ve) :: mled mc n tn items e pbs pe ((95, tabObj ps) :: (tl ++ rest))) c2 P2 := by
    intro m
    induction m with
    | zero =>
      intro t Q L e0 xs vs u ve tl n tn items cs e pe pbs x1 x2 x3 hm
      have := sizeT_pos t
      simp only [sizeL] at hm
      omega
    | succ m ih =>
      intro t Q L e0 xs vs u ve tl n tn items cs e pe pbs x1 x2 x3 hm hxm hQ hLok hvs hout hsi hcs hch hn hpb
      have hvl := hvs.len
      have hpl : pbs.length = Q.length := by have := sx_len hpb; simpa using this
      have hQl := len_le_size Q
      have htok := hQ t List.mem_cons_self
      have hwle := htok.le
      have hil : items.length = cs.length := hsi.len
      have hcl : cs.length ≤ tx.length := by rw [hcs]; simp
      have hsz1 : sizeL (t :: Q) = sizeT t + sizeL Q := rfl
      have htk := sizeT_kids t
      have hkl := len_le_size (kidsT t)
      subst hc2
      refine C_while ?_
      (refine T_isTrue_Compare (by walk_at "u") ?_; refine T_local (.there (.there (.there (.there .here)))) ?_; refine T_str ?_; intro _; refine T_nes ?_; refine T_truthy_bool ?_)
      refine If2.pos (by simp [lit_, S_eq, wordT_ne]) ?_
      (refine T_cons ?_; refine T_Assign (by walk_at "u") ?_; refine T_Subscript ?_; refine T_local (.there (.there (.there (.there .here)))) ?_; refine T_Slice ?_; refine T_part_some ?_; refine T_int ?_; intro _; refine T_part_none ?_; intro _)
      rename_i sl
      refine T_slice_str (lo := some 1) (hi := none) (by walk_at "mem") (.int _ _) .none (line20 (by exact Mine.om_337 _ hwle)) ?_
      rw [show slc (wordT t) (some 1) none = (wordT t).drop 1 from slc_from (wordT t) 1]
      intro tfd
      (refine T_store (.there (.there (.there (.there (.there .here))))) ?_)
      refine K_next ?_
      refine T_weak (l' := (TL, listOf vs.toArray ve) :: mled mc n tn items e pbs pe ((95, tabObj ps) :: (tl ++ rest))) (by walk_at "sbl") ?_
      refine T_cons ?_
      refine T_mono (P := fun f vals' l' => f = .next ∧ ∃ fv x2' x3' pbs' pe', vals' = [some (.str (S tx) tt), some (.ref mc.sg), some (.ref mc.m), some (.ref TL), some (.str (S (wordT t)) u), some fv, x2', x3'] ∧ FoundV fv t ∧ StrsAre pbs' ((Q ++ kidsT t).map fun t => S (wordT t)) ∧
        Sbl ((TL, listOf vs.toArray ve) :: mled mc n tn items e pbs' pe' ((95, tabObj ps) :: (tl ++ rest))) l') ?_ ?_
      · cases t with
        | leaf s =>
          (refine T_If ?_; refine T_isTrue_Compare (by walk_at "u") ?_; refine T_Subscript ?_; refine T_local (.there (.there (.there (.there .here)))) ?_; refine T_int ?_; intro _)
          refine T_item_str (cs := 46 :: s) (i := 0) rfl (by decide) (by walk_at "u") ?_
          (intro _; refine T_str ?_; intro _; refine T_eqs ?_; refine T_truthy_bool ?_)
          refine If2.neg (by rw [lit58]; simp [S_eq]) ?_
          (refine T_nil ?_)
          exact ⟨rfl, _, x2, x3, pbs, pe, rfl, ⟨tfd, rfl⟩, by simpa [kidsT] using hpb, by walk_at "sbl"⟩
        | node ks tx2 =>
          obtain ⟨kits, rfl, rfl, hkok, hk2l, hk256, _⟩ := kids_ok htok
          have hksz : kits.length ≤ 14 := by
            have h1 := len_le_size (kits.map It.t)
            simp only [List.length_map] at h1
            simp only [kidsT] at htk
            exact Mine.om_340 _ _ _ _ _ _ _ _ hxm hm hsz1 htk h1
          (refine T_If ?_; refine T_isTrue_Compare (by walk_at "u") ?_; refine T_Subscript ?_; refine T_local (.there (.there (.there (.there .here)))) ?_; refine T_int ?_; intro _)
          refine T_item_str (cs := 58 :: b64T (txt [] kits)) (i := 0) rfl (by decide) (by walk_at "u") ?_
          (intro _; refine T_str ?_; intro _; refine T_eqs ?_; refine T_truthy_bool ?_)
          refine If2.pos (by rw [lit58]; simp) ?_
          (refine T_cons ?_; refine T_Assign (by walk_at "u") ?_; refine T_CallN ?_; refine T_glob (List.mem_cons_of_mem _ (List.mem_cons_of_mem _ (List.mem_cons_of_mem _ List.mem_cons_self))) ?_; refine T_k1 (by rw [hK]; k_is) (by walk_at "u") (by walk_at "u") ?_; refine T_args_cons (by walk_at "u") ?_; refine T_CallN ?_; refine T_glob (List.mem_cons_of_mem _ (List.mem_cons_of_mem _ List.mem_cons_self)) ?_; refine T_k1 (by rw [hK]; k_is) (by walk_at "u") (by walk_at "u") ?_; refine T_args_cons (by walk_at "u") ?_; refine T_local (.there (.there (.there (.there (.there .here))))) ?_; refine T_args_nil ?_)
          refine T_call (text_spec G hK (txt [] kits) tfd hk256 (by exact Mine.om_341 _ hk2l)) (by decide) .nil ?_
          rintro _ _ ⟨⟨td, rfl⟩, rfl⟩
          rw [List.nil_append]
          (refine T_args_nil ?_)
          refine T_call (words_spec G hK hC ps mc.cc mc.occ htab kits hkok (txt [] kits) rfl td (by exact Mine.om_342 _ hk2l) (by exact Mine.om_343 _ hksz)) (by decide) (by walk_at "sub") ?_
          rintro _ _ ⟨W, wvs, nW, rfl, rfl, hwv⟩
          refine T_store (.there (.there (.there (.there (.there (.there .here)))))) ?_
          refine T_weak (l' := (W, listOf wvs.toArray nW) :: (TL, listOf vs.toArray ve) :: mled mc n tn items e pbs pe ((95, tabObj ps) :: (tl ++ rest))) (by walk_at "sbl2") ?_
          have hwl : wvs.length = kits.length := by have := sx_len hwv; simpa using this
          (refine T_cons ?_)
          refine T_For (fun _ => rfl) ?_
          (refine T_local (.there (.there (.there (.there (.there (.there .here)))))) ?_)
          refine T_iter_list (by walk_at "mem") ?_
          intro it oi hoi
          refine C_any fun c3 P3 hc3 hP3 => ?_
          have key3 : ∀ (j i : Nat) (o : Obj) (pbs2 : List Value) (pe2 : Nat) (x3 : Option Value), kits.length - i = j → i ≤ kits.length → ListIt o W i → StrsAre pbs2 ((Q ++ (kits.map It.t).take i).map fun t => S (wordT t)) →
              C fm 7 [some (.str (S tx) tt), some (.ref mc.sg), some (.ref mc.m), some (.ref TL), some (.str (S (wordT (Tr.node (List.map It.t kits) (txt [] kits)))) u), some (Value.str (S (List.drop 1 (wordT (Tr.node (List.map It.t kits) (txt [] kits))))) tfd), some (.ref W), x3]
                ((it, o) :: (W, listOf wvs.toArray nW) :: (TL, listOf vs.toArray ve) :: mled mc n tn items e pbs2 pe2 ((95, tabObj ps) :: (tl ++ rest))) c3 P3 := by
            subst hc3 hP3
            intro j
            induction j with
            | zero =>
              intro i o pbs2 pe2 x3 hj hi ho hpb2
              have hik : i = kits.length := by exact Mine.om_89 _ _ hj hi
              refine C_for (T_end_list ho .head (by walk_at "mem") (by simp [hwl]; exact Mine.om_344 _ _ hik) (F_none ?_))
              (refine T_nil ?_; refine K_next ?_; refine T_cons ?_; refine T_Assign (by walk_at "u") ?_; refine T_CallN ?_; refine T_glob (List.mem_cons_of_mem _ (List.mem_cons_of_mem _ (List.mem_cons_of_mem _ (List.mem_cons_of_mem _ List.mem_cons_self)))) ?_; refine T_b1 (by walk_at "u") (by walk_at "u") ?_; refine T_args_cons (by walk_at "u") ?_; refine T_local (.there (.there (.there (.there (.there (.there .here)))))) ?_; refine T_args_nil ?_)
              refine T_len_list (by walk_at "mem") (line20 (by simp; exact Mine.om_345 _ _ hksz hwl)) ?_
              (intro _; refine T_store (.there (.there (.there (.there (.there .here))))) ?_; refine K_next ?_; refine T_nil ?_)
              refine ⟨rfl, _, some (.ref W), x3, pbs2, pe2, rfl, ⟨_, by simp [hwl]; rfl⟩, ?_, by walk_at "sbl"⟩
              rw [hik, List.take_of_length_le (by simp)] at hpb2
              exact hpb2
            | succ j ih3 =>
              intro i o pbs2 pe2 x3 hj hi ho hpb2
              have hii : i < kits.length := by exact Mine.om_106 _ _ _ hj
              have hp2l : pbs2.length ≤ 1000 := by
                have := sx_len hpb2
                simp only [List.length_map, List.length_append, List.length_take] at this
                exact Mine.om_346 _ _ _ _ _ _ _ _ _ _ hxm hQl hm hsz1 hksz this
              obtain ⟨ti, hki⟩ : ∃ ti, (kits.map It.t)[i]? = some ti := ⟨_, List.getElem?_eq_getElem (by simpa using hii)⟩
              obtain ⟨tw, hwx⟩ := sx_get hwv i (S (wordT ti)) (by rw [List.getElem?_map, hki]; rfl)
              refine C_for (T_next_list ho (fun o' => .head) (by walk_at "mem") (x := .str (S (wordT ti)) tw) (by simpa using hwx) fun o' ho' => F_some rfl ?_)
              (refine T_assignN (.there (.there (.there (.there (.there (.there (.there .here))))))) ?_; refine T_cons ?_; refine T_Expr (by walk_at "u") ?_; refine T_CallM (by walk_at "u") ?_; refine T_local (.there (.there .here)) ?_)
              refine T_method (by walk_at "mem") (by walk_at "mem") (hK ▸ meth_push_token _) (md_push_token ..) ?_
              (refine M_mk ?_; refine T_k2 (by rw [hK]; k_is) (by walk_at "u") (by walk_at "u") ?_; refine T_args_cons (by walk_at "u") ?_; refine T_local (.there (.there (.there (.there (.there (.there (.there .here))))))) ?_; refine T_args_nil ?_)
              refine T_call (push_token_spec G hK mc n tn items e _ pbs2 pe2 (by exact Mine.om_347 _ hp2l)) (by decide) (by walk_at "sub") ?_
              rintro _ _ ⟨rfl, rfl⟩
              show Kn fm 7 _ _ _ _ (mled mc n tn items e (pbs2 ++ [.str (S (wordT ti)) tw]) (pe2 + 1) ((it, o') :: (W, listOf wvs.toArray nW) :: (TL, listOf vs.toArray ve) :: (95, tabObj ps) :: (tl ++ rest)))
              (refine K_next ?_; refine T_nil ?_; refine L_next ?_)
              refine C_weak ?_ (ih3 (i + 1) o' (pbs2 ++ [.str (S (wordT ti)) tw]) (pe2 + 1) _ (by exact Mine.om_108 _ _ _ hj) (by exact Mine.om_109 _ _ hii) ho' ?_)
              · walk_at "sbl"
              · rw [← take_snoc hki, ← List.append_assoc, List.map_append]
                exact sx_app hpb2 (.cons _ _ .nil)
          exact key3 kits.length 0 oi pbs pe x3 (by exact Mine.om_132 _) (by exact Mine.om_133 _) hoi (by simpa using hpb)
      rintro _ _ _ ⟨rfl, fv, x2', x3', pbs', pe', rfl, hfv, hpb', hsb⟩
      refine K_next ?_
      refine T_weak hsb ?_
      clear hsb
      have hpl' : pbs'.length = (Q ++ kidsT t).length := by have := sx_len hpb'; simpa using this
      (refine T_cons ?_; refine T_Expr (by walk_at "u") ?_; refine T_CallM (by walk_at "u") ?_; refine T_local (.there (.there (.there .here))) ?_; refine T_meth_list PySem.F.slot_list_append PySem.F.type_list_append (by walk_at "mem") ?_; refine M_mk ?_; refine T_b2 (by walk_at "u") (by walk_at "u") ?_; refine T_args_cons (by walk_at "u") ?_; refine T_Tuple ?_; refine T_args_cons (by walk_at "u") ?_; refine T_local (.there (.there (.there (.there (.there .here))))) ?_; refine T_args_cons (by walk_at "u") ?_; refine T_CallN ?_; refine T_glob (List.mem_cons_of_mem _ (List.mem_cons_of_mem _ (List.mem_cons_of_mem _ (List.mem_cons_of_mem _ List.mem_cons_self)))) ?_; refine T_b1 (by walk_at "u") (by walk_at "u") ?_; refine T_args_cons (by walk_at "u") ?_; refine T_local (.there .here) ?_; refine T_args_nil ?_)
      refine T_len_list (by walk_at "mem") (line20 (by simp; exact Mine.om_348 _ _ _ hlen hil hcl)) ?_
      (intro _; refine T_args_cons (by walk_at "u") ?_; refine T_Attr (by walk_at "u") ?_; refine T_local (.there (.there .here)) ?_)
      refine T_getown (by walk_at "mem") (by walk_at "mem") (hK ▸ own_lineno _) (md_lineno ..) rfl ?_
      (refine T_args_nil ?_)
      refine T_newTuple ?_
      intro A
      rename_i tl3
      (refine T_args_nil ?_)
      refine T_appendL (by walk_at "upd") (line20 (by exact Mine.om_349 _ _ _ hxm hvl)) ?_
      (refine K_next ?_; refine T_cons ?_; refine T_Assign (by walk_at "u") ?_; refine T_CallM (by walk_at "u") ?_; refine T_local (.there (.there .here)) ?_)
      have hent : EntV ((A, tupOf [fv, .int (items.toArray.size : Int) tl3, .int n tn].toArray) :: tl) (.ref A) (t, posn tx e0) := by
        refine ⟨A, fv, tl3, tn, rfl, ?_, hfv⟩
        have e1 : (posn tx e0).1 = (items.toArray.size : Int) := by
          simp only [posn, List.size_toArray]
          rw [hil, hcs]
        have e2 : (posn tx e0).2 = n := (line_pos hn hcs).symm
        dsimp only
        rw [e1, e2]
        exact List.mem_cons_self
      have hvs' : Es ((A, tupOf [fv, .int (items.toArray.size : Int) tl3, .int n tn].toArray) :: tl) (vs ++ [.ref A]) (xs ++ [(t, posn tx e0)]) := (hvs.mono fun p hp => List.mem_cons_of_mem _ hp).snoc hent
      have hout' : xs ++ [(t, posn tx e0)] ++ outT tx e0 (bfsT (Q ++ kidsT t)) ++ toldO tx L = tgt := by
        rw [← hout, bfsT_cons]
        simp [outT]
      have hszk : sizeL (Q ++ kidsT t) + sizeL (L.map (·.1)) = m := by rw [sizeL_app]; exact Mine.om_350 _ _ _ _ _ _ hm hsz1 htk
      have hok' : ∀ q ∈ Q ++ kidsT t, TrOk 213000 q := by
        intro q hq
        rcases List.mem_append.mp hq with hq | hq
        · exact hQ q (List.mem_cons_of_mem _ hq)
        · cases t with
          | leaf s => cases hq
          | node ks tx2 =>
            obtain ⟨_, _, _, _, _, _, hkk⟩ := kids_ok htok
            exact hkk q hq
      refine T_weak (l' := (TL, listOf (vs ++ [Value.ref A]).toArray (ve + 1)) :: mled mc n tn items e pbs' pe' ((95, tabObj ps) :: (((A, tupOf [fv, .int (items.toArray.size : Int) tl3, .int n tn].toArray) :: tl) ++ rest))) (by walk_at "sbl2") ?_
      refine T_method (by walk_at "mem") (by walk_at "mem") (hK ▸ meth_get_token _) (md_get_token ..) ?_
      generalize Q ++ kidsT t = Q' at hpb' hout' hszk hok' hpl'
      (refine M_mk ?_; refine T_k0 (by rw [hK]; k_is) ?_)
      cases Q' with
      | nil =>
        cases hpb'
        refine T_call (get_token_spec G hK mc n tn items cs e pe' (by exact Mine.om_351 _ _ _ hlen hil hcl) hsi) (by decide) (by walk_at "sub") ?_
        rintro _ _ ⟨ut, n7, t7, its7, e7, rfl, hsi7, hn7, rfl⟩
        show T fm 7 _ (mled mc n7 t7 its7 e7 [] pe' ((TL, listOf (vs ++ [Value.ref A]).toArray (ve + 1)) :: (95, tabObj ps) :: (((A, tupOf [fv, .int (items.toArray.size : Int) tl3, .int n tn].toArray) :: tl) ++ rest))) _ _
        (refine T_store (.there (.there (.there (.there .here)))) ?_; refine K_next ?_; refine T_nil ?_; refine L_next ?_)
        cases hch with
        | nil =>
          have htok0 : tokRun [] = (S [], []) := rfl
          rw [htok0]
          dsimp only
          have hfin : xs ++ [(t, posn tx e0)] = tgt := by rw [← hout']; simp [bfsT_nil, outT, toldO]
          rw [hfin] at hvs'
          refine C_weak ?_ (fin (vs ++ [Value.ref A]) ut (ve + 1) ((A, tupOf [fv, .int (items.toArray.size : Int) tl3, .int n tn].toArray) :: tl) n7 t7 its7 e7 pe' _ _ _ hvs')
          walk_at "sbl2"
        | cons htok7 hcs7 hch7 =>
          rename_i cs7 t7' e7' L7
          rw [htok7] at hsi7 hn7 ⊢
          dsimp only at hsi7 hn7 ⊢
          refine C_weak ?_ (ih t7' [] L7 e7' (xs ++ [(t, posn tx e0)]) (vs ++ [Value.ref A]) ut (ve + 1) ((A, tupOf [fv, .int (items.toArray.size : Int) tl3, .int n tn].toArray) :: tl) n7 t7 its7 cs7 e7 pe' [] _ _ _ ?_ ?_ ?_ (fun q hq => hLok q (List.mem_cons_of_mem _ hq)) hvs' ?_ hsi7 hcs7 hch7 (by exact Mine.om_352 _ _ _ _ _ hn hn7) .nil)
          · walk_at "sbl2"
          · simp only [List.map_cons, sizeL] at hszk ⊢; exact Mine.om_353 _ _ _ hszk
          · simp only [List.length_append, List.length_cons, List.length_nil]; exact Mine.om_354 _ _ hxm
          · intro q hq
            rw [List.mem_singleton.mp hq]
            exact hLok (t7', e7') List.mem_cons_self
          · rw [← hout']
            simp [bfsT_nil, outT, toldO]
      | cons t' Q'' =>
        cases hpb' with
        | cons y ty hpb'' =>
        rename_i pbs''
        refine T_call (get_token_pb G hK mc n tn items e (.str (S (wordT t')) ty) pbs'' pe' (by simp only [List.length_cons] at hpl'; have := len_le_size (t' :: Q''); simp only [List.length_cons] at this; exact Mine.om_355 _ _ _ _ _ _ hxm hszk hpl' this)) (by decide) (by walk_at "sub") ?_
        rintro _ _ ⟨rfl, rfl⟩
        show T fm 7 _ (mled mc n tn items e pbs'' (pe' + 1) ((TL, listOf (vs ++ [Value.ref A]).toArray (ve + 1)) :: (95, tabObj ps) :: (((A, tupOf [fv, .int (items.toArray.size : Int) tl3, .int n tn].toArray) :: tl) ++ rest))) _ _
        (refine T_store (.there (.there (.there (.there .here)))) ?_; refine K_next ?_; refine T_nil ?_; refine L_next ?_)
        refine C_weak ?_ (ih t' Q'' L e0 (xs ++ [(t, posn tx e0)]) (vs ++ [Value.ref A]) ty (ve + 1) ((A, tupOf [fv, .int (items.toArray.size : Int) tl3, .int n tn].toArray) :: tl) n tn items cs e (pe' + 1) pbs'' _ _ _ hszk ?_ hok' hLok hvs' hout' hsi hcs hch hn hpb'')
        · walk_at "sbl2"
        · simp only [List.length_append, List.length_cons, List.length_nil]; exact Mine.om_354 _ _ hxm
  cases hch with
  | nil =>
    refine C_weak ?_ (fin [] ut 0 [] n6 t6 its6 e6 0 none none none (by rw [← htgt]; exact .nil))
    walk_at "sbl2"
  | cons htok hcs' hch' =>
    rename_i cs' t2 e2 L2
    rw [htok] at hsi6 hn6 ⊢
    dsimp only at hsi6 hn6 ⊢
    refine C_weak ?_ (key _ t2 [] L2 e2 [] [] ut 0 [] n6 t6 its6 cs' e6 0 [] none none none rfl ?_ ?_ (fun q hq => hall q (List.mem_cons_of_mem _ hq)) .nil ?_ hsi6 hcs' hch' (by exact Mine.om_356 _ _ _ hn6) .nil)
    · walk_at "sbl2"
    · simp only [List.map_cons, sizeL, List.length_nil] at hsz ⊢; exact Mine.om_357 _ _ hsz
    · intro q hq
      rw [List.mem_singleton.mp hq]
      exact hall (t2, e2) List.mem_cons_self
    · rw [← htgt]; rfl

/-! what is due, plain -/
theorem bfsF_len : ∀ (n : Nat) (Q : List Tr), (bfsF n Q).length ≤ n
  | 0, _ => Nat.le_refl 0
  | n + 1, [] => Nat.zero_le _
  | n + 1, t :: Q => by have := bfsF_len n (Q ++ kidsT t); simp [bfsF]; exact Mine.om_16 _ _ this
theorem toldO_len (tx : List Nat) : ∀ L : List (Tr × Nat), (toldO tx L).length ≤ sizeL (L.map (·.1))
  | [] => Nat.le_refl 0
  | q :: L => by
    have ih := toldO_len tx L
    have h1 := bfsF_len (sizeL [q.1]) [q.1]
    have h2 : sizeL [q.1] = sizeT q.1 := by simp [sizeL]
    have e : toldO tx (q :: L) = outT tx q.2 (bfsT [q.1]) ++ toldO tx L := by simp [toldO]
    rw [e, List.length_append]
    have e2 : (outT tx q.2 (bfsT [q.1])).length = (bfsF (sizeL [q.1]) [q.1]).length := by simp [outT, bfsT]
    have e3 : sizeL (List.map (fun x => x.1) (q :: L)) = sizeT q.1 + sizeL (L.map (·.1)) := rfl
    rw [e2, e3]
    exact Mine.om_358 _ _ _ _ _ ih h1 h2
noncomputable def foundD : Tr → PyData
  | .leaf s => .str (S s)
  | .node ks _ => .int (ks.length : Int)
noncomputable def entD (x : Tr × Int × Int) : PyData := .tuple [foundD x.1, .int x.2.1, .int x.2.2]
theorem FoundV.reads {h : Heap} {v : Value} {t : Tr} (hf : FoundV v t) : Reads h v (foundD t) [] := by
  cases t with
  | leaf s => obtain ⟨u, rfl⟩ := hf; exact .str _ _
  | node ks tx => obtain ⟨u, rfl⟩ := hf; exact .int _ _
theorem Es.reads {h : Heap} {tl : Led} {vs xs} (hl : ∀ p ∈ tl, h.get? p.1 = some p.2) (x : Es tl vs xs) : ReadsAll h vs (xs.map entD) [] := by
  induction x with
  | nil => exact .nil
  | cons hv _ ih =>
    obtain ⟨a, fv, t2, t3, rfl, hm, hf⟩ := hv
    exact .cons (as := []) (bs := []) (.tuple (hl _ hm) rfl rfl (.cons (as := []) (bs := []) hf.reads (.cons (as := []) (bs := []) (.int _ _) (.cons (as := []) (bs := []) (.int _ _) .nil)))) ih
noncomputable def TrD (t : Tr) : Prop := (foundD t).canLay0 = true
theorem Wf.d {t : Tr} (h : Wf t) : TrD t := by
  cases h with
  | leaf hs =>
    rename_i s
    unfold TrD foundD
    simp only [PyData.canLay0]
    unfold PyData.strOk
    rw [Array.all_eq_true]
    intro i hi
    have hm : (S s).cps[i] ∈ s := by simp [S]
    have := hs _ hm
    exact decide_eq_true (by exact Mine.om_359 _ this)
  | node _ _ => rfl
theorem shaped_ents {xs : List (Tr × Int × Int)} (h : ∀ x ∈ xs, TrD x.1) : PySem.SeqAt.shaped (.list (xs.map entD)) = true := by
  have h1 : PyData.canLayAll0 (xs.map entD) = true := by
    induction xs with
    | nil => rfl
    | cons x xs ih =>
      have hx := h x List.mem_cons_self
      have ih := ih fun y hy => h y (List.mem_cons_of_mem _ hy)
      simp only [List.map_cons, PyData.canLayAll0, ih, Bool.and_true]
      simp only [entD, PyData.canLay0, PyData.canLayAll0, Bool.and_true]
      exact hx
  have h2 : PyData.depthAll (xs.map entD) ≤ 1 := by
    clear h h1
    induction xs with
    | nil => exact Nat.zero_le _
    | cons x xs ih =>
      simp only [List.map_cons, PyData.depthAll]
      have : (entD x).depth = 1 := by
        simp only [entD, PyData.depth, PyData.depthAll]
        cases x.1 <;> simp [foundD, PyData.depth]
      exact Mine.om_360 _ _ ih this
  have h3 : (PyData.list (xs.map entD)).depth ≤ 64 := by
    simp only [PyData.depth]; exact Mine.om_361 _ h2
  have h4 : (PyData.list (xs.map entD)).canLay0 = true := by simp only [PyData.canLay0]; exact h1
  unfold PySem.SeqAt.shaped
  rw [h4, decide_eq_true h3]; rfl
theorem bfsF_ok {B : Nat} : ∀ (n : Nat) (Q : List Tr), (∀ t ∈ Q, TrOk B t) → ∀ t ∈ bfsF n Q, TrOk B t
  | 0, _, _, _, h => nomatch h
  | n + 1, [], _, _, h => nomatch h
  | n + 1, t :: Q, hQ, x, hx => by
    rcases List.mem_cons.mp hx with rfl | hx
    · exact hQ x List.mem_cons_self
    · refine bfsF_ok n (Q ++ kidsT t) (fun y hy => ?_) x hx
      rcases List.mem_append.mp hy with hy | hy
      · exact hQ y (List.mem_cons_of_mem _ hy)
      · have ht := hQ t List.mem_cons_self
        cases t with
        | leaf s => cases hy
        | node ks tx =>
          obtain ⟨_, _, _, _, _, _, hkk⟩ := kids_ok ht
          exact hkk y hy
theorem toldO_ok {B : Nat} {tx : List Nat} {L : List (Tr × Nat)} (h : ∀ q ∈ L, TrOk B q.1) : ∀ x ∈ toldO tx L, TrD x.1 := by
  intro x hx
  obtain ⟨l, hl, hxl⟩ := List.mem_flatten.mp hx
  obtain ⟨q, hq, rfl⟩ := List.mem_map.mp hl
  obtain ⟨t, ht, rfl⟩ := List.mem_map.mp hxl
  exact (bfsF_ok (B := B) _ [q.1] (fun y hy => by rw [List.mem_singleton.mp hy]; exact h q hq) t ht).wf.d

/-! law -/
theorem glb_zip (G : Gr) (hK : G.K = Mine.hd.heap_39 G.w.params) : Glb G (Str.ofString "zip") (.type "zip") := .inr ⟨by rw [hK]; k_is, by boot_by_name, by decide⟩
theorem glb_isinstance (G : Gr) (hK : G.K = Mine.hd.heap_39 G.w.params) : Glb G (Str.ofString "isinstance") (.builtin "isinstance") := .inr ⟨by rw [hK]; k_is, by boot_by_name, by decide⟩
theorem glb_drawn (G : Gr) (hK : G.K = Mine.hd.heap_39 G.w.params) : Glb G (Str.ofString "_law_drawn") (.ref 124) := .inl (by rw [hK]; k_is)
theorem glb_told (G : Gr) (hK : G.K = Mine.hd.heap_39 G.w.params) : Glb G (Str.ofString "_law_told") (.ref 143) := .inl (by rw [hK]; k_is)

theorem HasL.get {tl : Led} : ∀ {vs ts}, HasL tl vs ts → ∀ (i : Nat) (v : Value), vs[i]? = some v → ∃ t, ts[i]? = some t ∧ Has tl v t
  | [], _, x, i, v, h => by simp at h
  | w :: vs, _, x, i, v, h => by
    cases x with
    | cons h1 h2 =>
      cases i with
      | zero => simp at h; subst h; exact ⟨_, rfl, h1⟩
      | succ i => simpa using HasL.get h2 i v (by simpa using h)
theorem eqv_refl_ents {d : PyData} (h : PySem.SeqAt.shaped d = true) : PyData.eqv d d = true := PySem.SeqAt.eqv_refl d (PySem.SeqAt.canLay_of_shaped h)
theorem kidsL_snoc (L : List Tr) (t : Tr) : kidsL (L ++ [t]) = kidsL L ++ kidsT t := by simp [kidsL]
theorem law_spec (G : Gr) (hK : G.K = Mine.hd.heap_39 G.w.params) (hC : CodeHd G.base 99 95) (sa : Addr) (items : List Value) (ns : List Int) (hb : G.base.IsList sa items.toArray) (hi : IntsAre items ns) (hl : ns.length ≤ 63) :
    Sp G 10 [(95, tabObj #[])] (.ref 148) [.ref sa] [] fun v post => v = .bool true ∧ ∃ ps, post = [(95, tabObj ps)] := by
  refine enter (N := [Str.ofString "script", Str.ofString "root", Str.ofString "text", Str.ofString "due", Str.ofString "part", Str.ofString "end", Str.ofString "level", Str.ofString "one", Str.ofString "found"]) (Gs := [(Str.ofString "_law_drawn", .ref 124), (Str.ofString "zip", .type "zip"), (Str.ofString "isinstance", .builtin "isinstance"), (Str.ofString "list", .type "list"), (Str.ofString "len", .builtin "len"), (Str.ofString "_law_told", .ref 143)]) (binds := [(Str.ofString "script", .ref sa)]) (vals := [some (.ref sa), none, none, none, none, none, none, none, none]) (ho := by rw [hK]; k_is) (hcd := by rw [hK]; k_is) (hbind := fun s X => BindsTo.of_eq rfl) [Str.ofString "root", Str.ofString "text", Str.ofString "due", Str.ofString "part", Str.ofString "end", Str.ofString "level", Str.ofString "one", Str.ofString "found"] (hN := rfl) (hv := rfl) (hnd := by decide) (hloc := by decide +kernel)
    (hglb := fun p hp => by
      rcases List.mem_cons.mp hp with rfl | hp
      · exact ⟨by decide +kernel, by decide, glb_drawn G hK⟩
      rcases List.mem_cons.mp hp with rfl | hp
      · exact ⟨by decide +kernel, by decide, glb_zip G hK⟩
      rcases List.mem_cons.mp hp with rfl | hp
      · exact ⟨by decide +kernel, by decide, glb_isinstance G hK⟩
      rcases List.mem_cons.mp hp with rfl | hp
      · exact ⟨by decide +kernel, by decide, glb_list G hK⟩
      rcases List.mem_cons.mp hp with rfl | hp
      · exact ⟨by decide +kernel, by decide, glb_len G hK⟩
      rcases List.mem_cons.mp hp with rfl | hp
      · exact ⟨by decide +kernel, by decide, glb_told G hK⟩
      cases hp) (hcell := by decide +kernel) (hco := rfl) (hgen := rfl) (hk := rfl) ?_
  intro fm rest
  rw [List.singleton_append]
  have hil : items.length = ns.length := hi.length
  (refine T_cons ?_; refine T_Assign (by walk_at "u") ?_; refine T_CallN ?_; refine T_glob List.mem_cons_self ?_; refine T_k1 (by rw [hK]; k_is) (by walk_at "u") (by walk_at "u") ?_; refine T_args_cons (by walk_at "u") ?_; refine T_BinOp ?_; refine T_List ?_; refine T_args_cons (by walk_at "u") ?_; refine T_int ?_; intro _; refine T_args_cons (by walk_at "u") ?_; refine T_int ?_; intro _; refine T_args_cons (by walk_at "u") ?_; refine T_int ?_; intro _; refine T_args_nil ?_)
  refine T_newList ?_
  intro D3
  rename_i u1 u2 u3
  have h3 : IntsAre [Value.int 2 u1, .int 1544 u2, .int 3 u3] [2, 1544, 3] := .cons _ _ (.cons _ _ (.cons _ _ .nil))
  generalize hv3 : [Value.int 2 u1, .int 1544 u2, .int 3 u3] = v3 at h3
  have hv3l : v3.length = 3 := by rw [← hv3]; rfl
  clear hv3
  (refine T_Subscript ?_; refine T_local .here ?_; refine T_Slice ?_; refine T_part_none ?_; refine T_part_some ?_; refine T_int ?_; intro _; intro _)
  refine T_slice_base (lo := none) (hi := some 8) hb (by walk_at "mem") .none (.int _ _) (line20 (by exact Mine.om_362 _ _ hl hil)) ?_
  intro D8
  rw [show slc items none (some 8) = items.take 8 from slc_to items 8]
  refine T_add_lists (by walk_at "mem") (by walk_at "mem") (line20 (by simp; exact Mine.om_363 _ _ hv3l)) ?_
  intro DL
  (refine T_args_nil ?_)
  refine T_call (drawn_spec G hK DL (v3 ++ items.take 8) ([2, 1544, 3] ++ ns.take 8) 0 (IntsAre.app h3 (hi.take 8)) (by simp; exact Mine.om_364 _)) (by decide) (by walk_at "sub") ?_
  rintro _ _ ⟨f, tl, rfl, rfl, hf, hfl, hfs⟩
  refine T_store (.there .here) ?_
  refine K_next ?_
  refine T_weak (l' := f.led ((95, tabObj #[]) :: (tl ++ rest))) ?_ ?_
  · show Sbl (f.led ((95, tabObj #[]) :: (tl ++ rest))) (f.led (tl ++ _))
    refine .pick .head (.pick .head (.pick .head ?_))
    refine Sbl.trans (b := tl ++ ((95, tabObj #[]) :: rest)) (Sbl.swapApp [_] tl rest) (Sbl.app tl ?_)
    walk_at "sbl"
  clear h3 hv3l
  have htx : (txt [] f.its).length ≤ 213000 := hfl
  (refine T_cons ?_; refine T_Assign (by walk_at "u") ?_; refine T_Subscript ?_; refine T_local (.there .here) ?_; refine T_int ?_; intro _)
  refine T_item_list (by walk_at "mem") (by decide) (by decide) (x := .str (S (txt [] f.its)) f.t1) rfl (by walk_at "u") ?_
  (refine T_store (.there (.there .here)) ?_; refine K_next ?_; refine T_cons ?_; refine T_Assign (by walk_at "u") ?_; refine T_List ?_; refine T_args_nil ?_)
  refine T_newList ?_
  intro DU
  (refine T_store (.there (.there (.there .here))) ?_; refine K_next ?_; refine T_cons ?_)
  refine T_For (fun _ => rfl) ?_
  (refine T_CallN ?_; refine T_glob (List.mem_cons_of_mem _ List.mem_cons_self) ?_; refine T_ty1 (by walk_at "u") (by walk_at "u") ?_; refine T_args_cons (by walk_at "u") ?_; refine T_Subscript ?_; refine T_local (.there .here) ?_; refine T_int ?_; intro _)
  refine T_item_list (by walk_at "mem") (by decide) (by decide) (x := .ref f.p) rfl (by walk_at "u") ?_
  (refine T_args_cons (by walk_at "u") ?_; refine T_Subscript ?_; refine T_local (.there .here) ?_; refine T_int ?_; intro _)
  refine T_item_list (by walk_at "mem") (by decide) (by decide) (x := .ref f.e) rfl (by walk_at "u") ?_
  (refine T_args_nil ?_)
  refine T_zip (by walk_at "mem") (by walk_at "mem") ?_
  intro z TI TO i1 i2 o1 o2 ho1 ho2
  refine T_iter_zip (by walk_at "mem") ?_
  have htxe : ∃ tx, tx = txt [] f.its := ⟨_, rfl⟩
  obtain ⟨tx, htxe⟩ := htxe
  generalize hLe : (f.its.map It.t).zip (ent 0 [] f.its) = L
  have hLall : ∀ q ∈ L, TrOk 213000 q.1 := by
    intro q hq
    have hm : q.1 ∈ f.its.map It.t := by
      rw [← hLe] at hq
      exact (List.of_mem_zip hq).1
    obtain ⟨it, hit, e⟩ := List.mem_map.mp hm
    rw [← e]
    have := item_le f.its [] it hit
    exact ⟨hf.ok.w it hit, by exact Mine.om_338 _ _ htx this⟩
  have hL1 : L.map (·.1) = f.its.map It.t := by rw [← hLe, List.map_fst_zip]; simp [ent_length]
  have hLs : sizeL (L.map (·.1)) ≤ 14 := by rw [hL1]; exact hfs
  have hpl : f.pv.length = f.its.length := by have := hf.has.len; simpa using this
  have hel : f.ev.length = f.its.length := by have := hf.ends.length; simpa [nz, ent_length] using this
  have hLl : L.length = f.its.length := by rw [← hLe]; simp [ent_length]
  have hnl := len_le_size (L.map (·.1))
  generalize htg : toldO tx L = tgt
  have htgl : tgt.length ≤ 14 := by rw [← htg]; exact Nat.le_trans (toldO_len tx L) hLs
  rw [← htxe]
  refine C_any fun cc P hc hP => ?_
  have fin : ∀ (dvs : List Value) (de : Nat) (dtl : Led) (x1 x2 x3 x4 x5 : Option Value), Es dtl dvs tgt →
      P .next [some (.ref sa), some (.ref f.a), some (.str (S tx) f.t1), some (.ref DU), x1, x2, x3, x4, x5] ((DU, listOf dvs.toArray de) :: f.led ((95, tabObj #[]) :: (dtl ++ (tl ++ rest)))) := by
    subst hP
    intro dvs de dtl x1 x2 x3 x4 x5 hdu
    (refine K_next ?_; refine T_cons ?_; refine T_Return ?_; refine T_Compare (by walk_at "u") ?_; refine T_CallN ?_; refine T_glob (List.mem_cons_of_mem _ (List.mem_cons_of_mem _ (List.mem_cons_of_mem _ (List.mem_cons_of_mem _ (List.mem_cons_of_mem _ List.mem_cons_self))))) ?_; refine T_k1 (by rw [hK]; k_is) (by walk_at "u") (by walk_at "u") ?_; refine T_args_cons (by walk_at "u") ?_; refine T_local (.there (.there .here)) ?_; refine T_args_nil ?_)
    refine T_call (told_spec G hK hC f.its hf.ok tx htxe f.t1 (by rw [htxe]; exact htx) hfs) (by decide) (by walk_at "sub") ?_
    rintro _ _ ⟨TL, tvs, tne, ttl, ps, rfl, rfl, htd⟩
    rw [hLe, htg] at htd
    (refine T_local (.there (.there (.there .here))) ?_)
    have hm1 : ∀ p ∈ ttl, p ∈ (TL, listOf tvs.toArray tne) :: (95, tabObj ps) :: ttl ++ (DU, listOf dvs.toArray de) :: f.led (dtl ++ (tl ++ rest)) := fun p hp => by
      rw [List.cons_append, List.cons_append]
      exact .tail _ (.tail _ (List.mem_append_left _ hp))
    have hm2 : ∀ p ∈ (DU, listOf dvs.toArray de) :: dtl, p ∈ (TL, listOf tvs.toArray tne) :: (95, tabObj ps) :: ttl ++ (DU, listOf dvs.toArray de) :: f.led (dtl ++ (tl ++ rest)) := fun p hp => by
      rw [List.cons_append, List.cons_append]
      refine .tail _ (.tail _ (List.mem_append_right _ ?_))
      rcases List.mem_cons.mp hp with rfl | hp
      · exact .head _
      · exact .tail _ (.tail _ (.tail _ (.tail _ (List.mem_append_left _ hp))))
    have hsh : PySem.SeqAt.shaped (.list (tgt.map entD)) = true := shaped_ents (by rw [← htg]; exact toldO_ok hLall)
    refine T_eq_data (da := .list (tgt.map entD)) (db := .list (tgt.map entD)) (as := [TL]) (bs := [DU]) (fun s H => .list (H.at (.head _)) rfl rfl (htd.reads fun p hp => H.at (hm1 p hp))) (fun s H => .list (H.at (hm2 _ (.head _))) rfl rfl (hdu.reads fun p hp => H.at (hm2 _ (.tail _ hp)))) hsh hsh ?_
    rw [eqv_refl_ents hsh]
    (refine K_ret ?_)
    refine ⟨[(95, tabObj ps)], ?_, rfl, ps, rfl⟩
    show Sbl ((95, tabObj ps) :: rest) ((TL, listOf tvs.toArray tne) :: (95, tabObj ps) :: (ttl ++ ((DU, listOf dvs.toArray de) :: f.led (dtl ++ (tl ++ rest)))))
    refine .drop (.pick .head ?_)
    exact Sbl.trans (Sbl.trans (Sbl.dropApp tl rest) (Sbl.trans (Sbl.dropApp dtl _) (.drop (.drop (.drop (.drop .refl)))))) (Sbl.dropApp ttl _)
  have key : ∀ (m i : Nat) (o1 o2 : Obj) (zu zv : Value) (xs : List (Tr × Int × Int)) (dvs : List Value) (de : Nat) (dtl : Led) (x1 x2 x3 x4 x5 : Option Value), L.length - i = m → i ≤ L.length → ListIt o1 f.p i → ListIt o2 f.e i → Es dtl dvs xs → xs ++ toldO tx (L.drop i) = tgt →
      C fm 9 [some (.ref sa), some (.ref f.a), some (.str (S tx) f.t1), some (.ref DU), x1, x2, x3, x4, x5] ((z, zipO .none TI TO) :: (TO, tupOf [zu, zv].toArray) :: (i1, o1) :: (i2, o2) :: (TI, tupOf [Value.ref i1, .ref i2].toArray) :: (DU, listOf dvs.toArray de) :: f.led ((95, tabObj #[]) :: (dtl ++ (tl ++ rest)))) cc P := by
    subst hc
    intro m
    induction m with
    | zero =>
      intro i o1 o2 zu zv xs dvs de dtl x1 x2 x3 x4 x5 hm hi ho1 ho2 hdu hxs
      have hxt : xs = tgt := by rw [← hxs, List.drop_eq_nil_of_le (by exact Mine.om_224 _ _ hm)]; simp [toldO]
      subst hxt
      refine C_for (T_end_zip ho1 ho2 (by walk_at "mem") (by walk_at "mem") (by simp; exact Mine.om_365 _ _ _ _ hpl hLl hm) (F_none ?_))
      (refine T_nil ?_)
      exact fin dvs de dtl x1 x2 x3 x4 x5 hdu
    | succ m ih =>
      intro i o1 o2 zu zv xs dvs de dtl x1 x2 x3 x4 x5 hm hi ho1 ho2 hdu hxs
      have hii : i < L.length := by exact Mine.om_106 _ _ _ hm
      obtain ⟨pt, hpt⟩ : ∃ v, f.pv[i]? = some v := ⟨_, List.getElem?_eq_getElem (by exact Mine.om_366 _ _ _ _ hpl hLl hii)⟩
      obtain ⟨ev, hev⟩ : ∃ v, f.ev[i]? = some v := ⟨_, List.getElem?_eq_getElem (by exact Mine.om_366 _ _ _ _ hel hLl hii)⟩
      obtain ⟨t, hti, htv⟩ := HasL.get hf.has i pt hpt
      obtain ⟨en, ten, rfl, hen⟩ := IntsAre.get hf.ends i ev hev
      obtain ⟨e, hee, rfl⟩ : ∃ e, (ent 0 [] f.its)[i]? = some e ∧ en = ((e : Nat) : Int) := by
        simp only [nz, List.getElem?_map] at hen
        cases hq : (ent 0 [] f.its)[i]? with
        | none => rw [hq] at hen; cases hen
        | some e => rw [hq] at hen; exact ⟨e, rfl, (Option.some.inj hen).symm⟩
      have hLi : L[i]? = some (t, e) := by rw [← hLe, List.getElem?_zip_eq_some]; exact ⟨hti, hee⟩
      have htok := hLall (t, e) (List.mem_of_getElem? hLi)
      have hst : sizeT t ≤ 14 := Nat.le_trans (sizeL_mem (List.mem_map_of_mem (f := (·.1)) (List.mem_of_getElem? hLi))) hLs
      have hdrop : L.drop i = (t, e) :: L.drop (i + 1) := by
        obtain ⟨h1, h2⟩ := List.getElem?_eq_some_iff.mp hLi
        rw [List.drop_eq_getElem_cons h1, h2]
      have hxs' : xs ++ outT tx e (bfsT [t]) ++ toldO tx (L.drop (i + 1)) = tgt := by
        rw [← hxs, hdrop]; simp [toldO]
      generalize hRe : toldO tx (L.drop (i + 1)) = R at hxs'
      refine C_for (T_next_zip ho1 ho2 (by walk_at "mem") (by walk_at "mem") hpt hev fun T0 o1' o2' ho1' ho2' => F_someT ?_)
      refine T_owned_zip (by walk_at "upd") ?_
      refine T_unpack_tup (by walk_at "mem") rfl rfl ?_
      (refine T_asg_cons (by walk_at "u") ?_; refine T_assignN (.there (.there (.there (.there .here)))) ?_; refine T_asg_cons (by walk_at "u") ?_; refine T_assignN (.there (.there (.there (.there (.there .here))))) ?_; refine T_asg_nil ?_; refine T_cons ?_; refine T_Assign (by walk_at "u") ?_; refine T_List ?_; refine T_args_cons (by walk_at "u") ?_; refine T_local (.there (.there (.there (.there .here)))) ?_; refine T_args_nil ?_)
      refine T_newList ?_
      intro LV
      (refine T_store (.there (.there (.there (.there (.there (.there .here)))))) ?_; refine K_next ?_; refine T_cons ?_)
      refine T_While (C_any fun c2 P2 hc2 hP2 => ?_)
      have finW : ∀ (xs : List (Tr × Int × Int)) (dvs : List Value) (de : Nat) (dtl : Led) (x3 x4 x5 : Option Value), Es dtl dvs xs → xs ++ R = tgt → P2 .next [some (.ref sa), some (.ref f.a), some (.str (S tx) f.t1), some (.ref DU), some pt, some (.int (e : Int) ten), x3, x4, x5] ((z, zipO .none TI TO) :: (TO, tupOf [pt, Value.int (e : Int) ten].toArray) :: (i1, o1') :: (i2, o2') :: (TI, tupOf [Value.ref i1, .ref i2].toArray) :: (DU, listOf dvs.toArray de) :: f.led ((95, tabObj #[]) :: (dtl ++ (tl ++ rest)))) := by
        subst hP2
        intro xs dvs de dtl x3 x4 x5 hdu hxs
        (refine K_next ?_; refine T_nil ?_; refine L_next ?_)
        exact ih (i + 1) o1' o2' pt (.int (e : Int) ten) xs dvs de dtl _ _ _ _ _ (by exact Mine.om_108 _ _ _ hm) (by exact Mine.om_109 _ _ hii) ho1' ho2' hdu (by rw [hRe]; exact hxs)
      have key2 : ∀ (m2 : Nat) (ts : List Tr) (lvs : List Value) (LV : Addr) (lne : Nat) (xs : List (Tr × Int × Int)) (dvs : List Value) (de : Nat) (dtl : Led) (x4 x5 : Option Value), sizeL ts ≤ m2 → m2 ≤ 14 → HasL tl lvs ts → Es dtl dvs xs → xs ++ outT tx e (bfsT ts) ++ R = tgt →
          C fm 9 [some (.ref sa), some (.ref f.a), some (.str (S tx) f.t1), some (.ref DU), some pt, some (.int (e : Int) ten), some (.ref LV), x4, x5] ((LV, listOf lvs.toArray lne) :: (z, zipO .none TI TO) :: (TO, tupOf [pt, Value.int (e : Int) ten].toArray) :: (i1, o1') :: (i2, o2') :: (TI, tupOf [Value.ref i1, .ref i2].toArray) :: (DU, listOf dvs.toArray de) :: f.led ((95, tabObj #[]) :: (dtl ++ (tl ++ rest)))) c2 P2 := by
        subst hc2
        intro m2
        induction m2 with
        | zero =>
          intro ts lvs LV lne xs dvs de dtl x4 x5 hm2 hm14 hhas hdu hxs
          have htn : ts = [] := by
            have := len_le_size ts
            exact List.eq_nil_of_length_eq_zero (by exact Mine.om_367 _ _ hm2 this)
          subst htn
          cases hhas
          refine C_while ?_
          (refine T_isTrue_val (by walk_at "u") ?_; refine T_local (.there (.there (.there (.there (.there (.there .here)))))) ?_)
          refine T_truthy_list (by walk_at "mem") (line20 (by simp)) ?_
          refine If2.neg rfl ?_
          refine T_weak (l' := (z, zipO .none TI TO) :: (TO, tupOf [pt, Value.int (e : Int) ten].toArray) :: (i1, o1') :: (i2, o2') :: (TI, tupOf [Value.ref i1, .ref i2].toArray) :: (DU, listOf dvs.toArray de) :: f.led ((95, tabObj #[]) :: (dtl ++ (tl ++ rest)))) (by walk_at "sbl") ?_
          (refine T_nil ?_)
          exact finW xs dvs de dtl _ _ _ hdu (by rw [← hxs]; simp [bfsT_nil, outT])
        | succ m2 ih2 =>
          intro ts lvs LV lne xs dvs de dtl x4 x5 hm2 hm14 hhas hdu hxs
          have hll := hhas.len
          have hts := len_le_size ts
          refine C_while ?_
          (refine T_isTrue_val (by walk_at "u") ?_; refine T_local (.there (.there (.there (.there (.there (.there .here)))))) ?_)
          refine T_truthy_list (by walk_at "mem") (line20 (by simp; exact Mine.om_368 _ _ _ _ hm2 hm14 hll hts)) ?_
          by_cases htn : ts = []
          · subst htn
            cases hhas
            refine If2.neg rfl ?_
            refine T_weak (l' := (z, zipO .none TI TO) :: (TO, tupOf [pt, Value.int (e : Int) ten].toArray) :: (i1, o1') :: (i2, o2') :: (TI, tupOf [Value.ref i1, .ref i2].toArray) :: (DU, listOf dvs.toArray de) :: f.led ((95, tabObj #[]) :: (dtl ++ (tl ++ rest)))) (by walk_at "sbl") ?_
            (refine T_nil ?_)
            exact finW xs dvs de dtl _ _ _ hdu (by rw [← hxs]; simp [bfsT_nil, outT])
          have htp := List.length_pos_iff.mpr htn
          refine If2.pos (by
            cases lvs with
            | nil => simp at hll; omega
            | cons _ _ => rfl) ?_
          have hks := kidsL_size ts
          rw [bfsT_step] at hxs
          have hxs2 : xs ++ outT tx e ts ++ (outT tx e (bfsT (kidsL ts)) ++ R) = tgt := by rw [← hxs]; simp [outT]
          clear hxs
          (refine T_cons ?_)
          refine T_For (fun _ => rfl) ?_
          (refine T_local (.there (.there (.there (.there (.there (.there .here)))))) ?_)
          refine T_iter_list (by walk_at "mem") ?_
          intro it3 oi3 hoi3
          refine C_any fun c3 P3 hc3 hP3 => ?_
          have fin3 : ∀ (xs : List (Tr × Int × Int)) (dvs : List Value) (de : Nat) (dtl : Led) (x4 x5 : Option Value), Es dtl dvs xs → xs ++ (outT tx e (bfsT (kidsL ts)) ++ R) = tgt →
              P3 .next [some (.ref sa), some (.ref f.a), some (.str (S tx) f.t1), some (.ref DU), some pt, some (.int (e : Int) ten), some (.ref LV), x4, x5] ((LV, listOf lvs.toArray lne) :: (z, zipO .none TI TO) :: (TO, tupOf [pt, Value.int (e : Int) ten].toArray) :: (i1, o1') :: (i2, o2') :: (TI, tupOf [Value.ref i1, .ref i2].toArray) :: (DU, listOf dvs.toArray de) :: f.led ((95, tabObj #[]) :: (dtl ++ (tl ++ rest)))) := by
            subst hP3
            intro xs dvs de dtl x4 x5 hdu hxs
            (refine K_next ?_; refine T_cons ?_)
            refine T_AssignCompG [Str.ofString "one", Str.ofString "leaf"] [(Str.ofString "isinstance", .builtin "isinstance"), (Str.ofString "list", .type "list")] (by decide +kernel) (by simp) (fun _ => rfl) (cl := []) rfl rfl (by decide +kernel) (by decide +kernel) (by decide) (by decide +kernel) (fun p hp => by
              rcases List.mem_cons.mp hp with rfl | hp
              · exact ⟨by decide +kernel, by decide, glb_isinstance G hK⟩
              rcases List.mem_cons.mp hp with rfl | hp
              · exact ⟨by decide +kernel, by decide, glb_list G hK⟩
              cases hp) ?_
            (refine T_local (.there (.there (.there (.there (.there (.there .here)))))) ?_)
            refine T_iter_list (by walk_at "mem") ?_
            intro it4 oi4 hoi4 acc oL cfm hsc
            refine C_2start0 ?_ (T_iter_listiter hoi4 (by walk_at "mem") ⟨rfl, rfl, rfl⟩)
            generalize fm.env.locals = LOC
            refine C_any fun c4 P4 hc4 hP4 => ?_
            have fin4 : ∀ (ys : List Value) (ye : Nat) (y1 y2 : Option Value), HasL tl ys (kidsL ts) → P4 .next [y1, y2] ((acc, listOf ys.toArray ye) :: (LOC, oL) :: (LV, listOf lvs.toArray lne) :: (z, zipO .none TI TO) :: (TO, tupOf [pt, Value.int (e : Int) ten].toArray) :: (i1, o1') :: (i2, o2') :: (TI, tupOf [Value.ref i1, .ref i2].toArray) :: (DU, listOf dvs.toArray de) :: f.led ((95, tabObj #[]) :: (dtl ++ (tl ++ rest)))) := by
              subst hP4
              intro ys ye y1 y2 hys
              refine ⟨(acc, listOf ys.toArray ye) :: (z, zipO .none TI TO) :: (TO, tupOf [pt, Value.int (e : Int) ten].toArray) :: (i1, o1') :: (i2, o2') :: (TI, tupOf [Value.ref i1, .ref i2].toArray) :: (DU, listOf dvs.toArray de) :: f.led ((95, tabObj #[]) :: (dtl ++ (tl ++ rest))), by walk_at "sbl", _, .there (.there (.there (.there (.there (.there .here))))), ?_⟩
              (refine K_next ?_; refine T_nil ?_; refine L_next ?_)
              exact ih2 (kidsL ts) ys acc ye xs dvs de dtl _ _ (by exact Mine.om_369 _ _ _ _ hm2 htp hks) (by exact Mine.om_370 _ hm14) hys hdu (by rw [← hxs]; simp)
            have key4 : ∀ (m4 j : Nat) (o4 : Obj) (ys : List Value) (ye : Nat) (y1 y2 : Option Value), ts.length - j = m4 → j ≤ ts.length → ListIt o4 LV j → HasL tl ys (kidsL (ts.take j)) → ys.length ≤ 14 →
                C cfm 9 [y1, y2] ((acc, listOf ys.toArray ye) :: (LOC, oL) :: (it4, o4) :: (LV, listOf lvs.toArray lne) :: (z, zipO .none TI TO) :: (TO, tupOf [pt, Value.int (e : Int) ten].toArray) :: (i1, o1') :: (i2, o2') :: (TI, tupOf [Value.ref i1, .ref i2].toArray) :: (DU, listOf dvs.toArray de) :: f.led ((95, tabObj #[]) :: (dtl ++ (tl ++ rest)))) c4 P4 := by
              subst hc4
              intro m4
              induction m4 with
              | zero =>
                intro j o4 ys ye y1 y2 hm4 hj ho4 hys hyl
                have hjt : j = ts.length := by exact Mine.om_89 _ _ hm4 hj
                rw [hjt, List.take_length] at hys
                refine C_2loop0 (fun _ => rfl) (T_end_list ho4 (.tail (.tail .head)) (by walk_at "mem") (by simp; exact Mine.om_371 _ _ _ hll hjt) ?_)
                exact fin4 ys ye y1 y2 hys
              | succ m4 ih4 =>
                intro j o4 ys ye y1 y2 hm4 hj ho4 hys hyl
                have hjj : j < ts.length := by exact Mine.om_106 _ _ _ hm4
                obtain ⟨v, hvj⟩ : ∃ v, lvs[j]? = some v := ⟨_, List.getElem?_eq_getElem (by exact Mine.om_372 _ _ _ hll hjj)⟩
                obtain ⟨tj, htj, hhv⟩ := HasL.get hhas j v hvj
                have hkj : kidsL (ts.take (j + 1)) = kidsL (ts.take j) ++ kidsT tj := by rw [← take_snoc htj, kidsL_snoc]
                have hkle : (kidsL (ts.take (j + 1))).length ≤ 14 := by
                  have h1 := len_le_size (kidsL (ts.take (j + 1)))
                  have h2 := kidsL_size (ts.take (j + 1))
                  have h3 : sizeL (ts.take (j + 1)) ≤ sizeL ts := by
                    have := sizeL_app (ts.take (j + 1)) (ts.drop (j + 1))
                    rw [List.take_append_drop] at this
                    exact Mine.om_373 _ _ _ this
                  exact Mine.om_374 _ _ _ _ _ _ hm2 hm14 h1 h2 h3
                refine C_2loop0 (fun _ => rfl) (T_next_list ho4 (fun o' => .tail (.tail .head)) (by walk_at "mem") (x := v) (by simpa using hvj) fun o4' ho4' => ⟨rfl, ?_⟩)
                cases hhv with
                | leaf =>
                  (refine T_assignN .here ?_; refine T_isTrue_val (by walk_at "u") ?_; refine T_CallN ?_; refine T_glob List.mem_cons_self ?_; refine T_b1 (by walk_at "u") (by walk_at "u") ?_; refine T_args_cons (by walk_at "u") ?_; refine T_local .here ?_; refine T_args_cons (by walk_at "u") ?_; refine T_glob (List.mem_cons_of_mem _ List.mem_cons_self) ?_; refine T_args_nil ?_)
                  refine T_not_list ?_
                  (refine T_truthy_bool ?_)
                  refine If2.f ?_
                  exact ih4 (j + 1) o4' ys ye _ _ (by exact Mine.om_108 _ _ _ hm4) (by exact Mine.om_109 _ _ hjj) ho4' (by rw [hkj]; simpa [kidsT] using hys) hyl
                | node hma hka =>
                  rename_i av kvs kn ks ktx
                  have hkl := hka.len
                  rw [hkj, List.length_append] at hkle
                  simp only [kidsT] at hkle hkj
                  have hysl := hys.len
                  (refine T_assignN .here ?_; refine T_isTrue_val (by walk_at "u") ?_; refine T_CallN ?_; refine T_glob List.mem_cons_self ?_; refine T_b1 (by walk_at "u") (by walk_at "u") ?_; refine T_args_cons (by walk_at "u") ?_; refine T_local .here ?_; refine T_args_cons (by walk_at "u") ?_; refine T_glob (List.mem_cons_of_mem _ List.mem_cons_self) ?_; refine T_args_nil ?_)
                  refine T_is_list (its := kvs.toArray) (n := kn) (by repeat (first | exact List.mem_append_right _ (List.mem_append_left _ hma) | apply List.mem_cons_of_mem)) ?_
                  (refine T_truthy_bool ?_)
                  refine If2.t ?_
                  (refine T_local .here ?_)
                  refine T_iter_list (its := kvs.toArray) (n := kn) (by repeat (first | exact List.mem_append_right _ (List.mem_append_left _ hma) | apply List.mem_cons_of_mem)) ?_
                  intro it5 oi5 hoi5
                  refine C_2start1 ?_ (T_iter_listiter hoi5 (by walk_at "mem") ⟨rfl, rfl, rfl⟩)
                  refine C_any fun c5 P5 hc5 hP5 => ?_
                  have key5 : ∀ (m5 q : Nat) (o5 : Obj) (ys5 : List Value) (ye5 : Nat) (y2 : Option Value), kvs.length - q = m5 → q ≤ kvs.length → ListIt o5 av q → HasL tl ys5 (kidsL (ts.take j) ++ ks.take q) →
                      C cfm 9 [some (.ref av), y2] ((it5, o5) :: (acc, listOf ys5.toArray ye5) :: (LOC, oL) :: (it4, o4') :: (LV, listOf lvs.toArray lne) :: (z, zipO .none TI TO) :: (TO, tupOf [pt, Value.int (e : Int) ten].toArray) :: (i1, o1') :: (i2, o2') :: (TI, tupOf [Value.ref i1, .ref i2].toArray) :: (DU, listOf dvs.toArray de) :: f.led ((95, tabObj #[]) :: (dtl ++ (tl ++ rest)))) c5 P5 := by
                    subst hc5 hP5
                    intro m5
                    induction m5 with
                    | zero =>
                      intro q o5 ys5 ye5 y2 hm5 hq ho5 hys5
                      have hqk : q = kvs.length := by exact Mine.om_89 _ _ hm5 hq
                      refine C_2loop1 (T_end_list (its := kvs.toArray) (n := kn) ho5 .head (by repeat (first | exact List.mem_append_right _ (List.mem_append_left _ hma) | apply List.mem_cons_of_mem)) (by simp; exact Mine.om_344 _ _ hqk) ?_)
                      rw [hqk, hkl, List.take_length, ← hkj] at hys5
                      have hl5 := hys5.len
                      rw [hkj, List.length_append] at hl5
                      exact ih4 (j + 1) o4' ys5 ye5 _ _ (by exact Mine.om_108 _ _ _ hm4) (by exact Mine.om_109 _ _ hjj) ho4' hys5 (by exact Mine.om_375 _ _ _ hkle hl5)
                    | succ m5 ih5 =>
                      intro q o5 ys5 ye5 y2 hm5 hq ho5 hys5
                      have hl5 := hys5.len
                      simp only [List.length_append, List.length_take] at hl5
                      obtain ⟨v5, hv5⟩ : ∃ v, kvs[q]? = some v := ⟨_, List.getElem?_eq_getElem (by exact Mine.om_106 _ _ _ hm5)⟩
                      obtain ⟨t5, ht5, hh5⟩ := HasL.get hka q v5 hv5
                      refine C_2loop1 (T_next_list (its := kvs.toArray) (n := kn) ho5 (fun o' => .head) (by repeat (first | exact List.mem_append_right _ (List.mem_append_left _ hma) | apply List.mem_cons_of_mem)) (x := v5) (by simpa using hv5) fun o5' ho5' => ⟨rfl, ?_⟩)
                      (refine T_assignN (.there .here) ?_; refine T_local (.there .here) ?_)
                      refine T_appendL (by walk_at "upd") (line20 (by exact Mine.om_376 _ _ _ _ hkle hl5)) ?_
                      refine ih5 (q + 1) o5' (ys5 ++ [v5]) _ _ (by exact Mine.om_108 _ _ _ hm5) (by exact Mine.om_377 _ _ _ hm5) ho5' ?_
                      rw [← take_snoc ht5, ← List.append_assoc]
                      exact hys5.snoc hh5
                  exact key5 kvs.length 0 oi5 ys ye _ (by exact Mine.om_132 _) (by exact Mine.om_133 _) hoi5 (by simpa using hys)
            exact key4 ts.length 0 oi4 [] 0 none none (by exact Mine.om_132 _) (by exact Mine.om_133 _) hoi4 .nil (by decide)
          have key3 : ∀ (m3 j : Nat) (o3 : Obj) (xs : List (Tr × Int × Int)) (dvs : List Value) (de : Nat) (dtl : Led) (x4 x5 : Option Value), ts.length - j = m3 → j ≤ ts.length → ListIt o3 LV j → Es dtl dvs xs → xs ++ outT tx e (ts.drop j) ++ (outT tx e (bfsT (kidsL ts)) ++ R) = tgt →
              C fm 9 [some (.ref sa), some (.ref f.a), some (.str (S tx) f.t1), some (.ref DU), some pt, some (.int (e : Int) ten), some (.ref LV), x4, x5] ((it3, o3) :: (LV, listOf lvs.toArray lne) :: (z, zipO .none TI TO) :: (TO, tupOf [pt, Value.int (e : Int) ten].toArray) :: (i1, o1') :: (i2, o2') :: (TI, tupOf [Value.ref i1, .ref i2].toArray) :: (DU, listOf dvs.toArray de) :: f.led ((95, tabObj #[]) :: (dtl ++ (tl ++ rest)))) c3 P3 := by
            subst hc3
            intro m3
            induction m3 with
            | zero =>
              intro j o3 xs dvs de dtl x4 x5 hm3 hj ho3 hdu hxs
              refine C_for (T_end_list ho3 .head (by walk_at "mem") (by simp; exact Mine.om_378 _ _ _ hll hm3) (F_none ?_))
              (refine T_nil ?_)
              refine fin3 xs dvs de dtl x4 x5 hdu ?_
              rw [← hxs, List.drop_eq_nil_of_le (by exact Mine.om_224 _ _ hm3)]
              simp [outT]
            | succ m3 ih3 =>
              intro j o3 xs dvs de dtl x4 x5 hm3 hj ho3 hdu hxs
              have hjj : j < ts.length := by exact Mine.om_106 _ _ _ hm3
              obtain ⟨v, hvj⟩ : ∃ v, lvs[j]? = some v := ⟨_, List.getElem?_eq_getElem (by exact Mine.om_372 _ _ _ hll hjj)⟩
              obtain ⟨tj, htj, hhv⟩ := HasL.get hhas j v hvj
              have hdropj : ts.drop j = tj :: ts.drop (j + 1) := by
                obtain ⟨h1, h2⟩ := List.getElem?_eq_some_iff.mp htj
                rw [List.drop_eq_getElem_cons h1, h2]
              have hxs3 : (xs ++ [(tj, posn tx e)]) ++ outT tx e (ts.drop (j + 1)) ++ (outT tx e (bfsT (kidsL ts)) ++ R) = tgt := by
                rw [← hxs, hdropj]; simp [outT]
              have hdl := hdu.len
              have hxl : xs.length ≤ 14 := by
                have := congrArg List.length hxs3
                simp only [List.length_append] at this
                exact Mine.om_379 _ _ _ _ _ _ htgl this
              refine C_for (T_next_list ho3 (fun o' => .head) (by walk_at "mem") (x := v) (by simpa using hvj) fun o3' ho3' => F_some rfl ?_)
              (refine T_assignN (.there (.there (.there (.there (.there (.there (.there .here))))))) ?_)
              refine T_cons ?_
              refine T_Assign (by walk_at "u") ?_
              refine T_mono (P := fun fv vals' l' => FoundV fv tj ∧ vals' = [some (.ref sa), some (.ref f.a), some (.str (S tx) f.t1), some (.ref DU), some pt, some (.int (e : Int) ten), some (.ref LV), some v, x5] ∧ l' = (it3, o3') :: (LV, listOf lvs.toArray lne) :: (z, zipO .none TI TO) :: (TO, tupOf [pt, Value.int (e : Int) ten].toArray) :: (i1, o1') :: (i2, o2') :: (TI, tupOf [Value.ref i1, .ref i2].toArray) :: (DU, listOf dvs.toArray de) :: f.led ((95, tabObj #[]) :: (dtl ++ (tl ++ rest)))) ?_ ?_
              · have hsj : sizeT tj ≤ 14 := Nat.le_trans (sizeL_mem (List.mem_of_getElem? htj)) (by exact Mine.om_380 _ _ hm2 hm14)
                cases hhv with
                | leaf =>
                  (refine T_IfExp ?_; refine T_isTrue_val (by walk_at "u") ?_; refine T_CallN ?_; refine T_glob (List.mem_cons_of_mem _ (List.mem_cons_of_mem _ List.mem_cons_self)) ?_; refine T_b1 (by walk_at "u") (by walk_at "u") ?_; refine T_args_cons (by walk_at "u") ?_; refine T_local (.there (.there (.there (.there (.there (.there (.there .here))))))) ?_; refine T_args_cons (by walk_at "u") ?_; refine T_glob (List.mem_cons_of_mem _ (List.mem_cons_of_mem _ (List.mem_cons_of_mem _ List.mem_cons_self))) ?_; refine T_args_nil ?_)
                  refine T_not_list ?_
                  (refine T_truthy_bool ?_)
                  refine If2.f ?_
                  (refine T_local (.there (.there (.there (.there (.there (.there (.there .here))))))) ?_)
                  exact ⟨⟨_, rfl⟩, rfl, rfl⟩
                | node hma hka =>
                  rename_i av kvs kn ks ktx
                  have hkl := hka.len
                  have hks14 : ks.length ≤ 14 := by
                    have := len_le_size ks
                    simp only [sizeT] at hsj
                    exact Mine.om_381 _ _ hsj this
                  (refine T_IfExp ?_; refine T_isTrue_val (by walk_at "u") ?_; refine T_CallN ?_; refine T_glob (List.mem_cons_of_mem _ (List.mem_cons_of_mem _ List.mem_cons_self)) ?_; refine T_b1 (by walk_at "u") (by walk_at "u") ?_; refine T_args_cons (by walk_at "u") ?_; refine T_local (.there (.there (.there (.there (.there (.there (.there .here))))))) ?_; refine T_args_cons (by walk_at "u") ?_; refine T_glob (List.mem_cons_of_mem _ (List.mem_cons_of_mem _ (List.mem_cons_of_mem _ List.mem_cons_self))) ?_; refine T_args_nil ?_)
                  refine T_is_list (its := kvs.toArray) (n := kn) (by repeat (first | exact List.mem_append_right _ (List.mem_append_left _ hma) | apply List.mem_cons_of_mem)) ?_
                  (refine T_truthy_bool ?_)
                  refine If2.t ?_
                  (refine T_CallN ?_; refine T_glob (List.mem_cons_of_mem _ (List.mem_cons_of_mem _ (List.mem_cons_of_mem _ (List.mem_cons_of_mem _ List.mem_cons_self)))) ?_; refine T_b1 (by walk_at "u") (by walk_at "u") ?_; refine T_args_cons (by walk_at "u") ?_; refine T_local (.there (.there (.there (.there (.there (.there (.there .here))))))) ?_; refine T_args_nil ?_)
                  refine T_len_list (its := kvs.toArray) (n := kn) (by repeat (first | exact List.mem_append_right _ (List.mem_append_left _ hma) | apply List.mem_cons_of_mem)) (line20 (by simp; exact Mine.om_382 _ _ hkl hks14)) ?_
                  intro tl9
                  exact ⟨⟨tl9, by simp [hkl]⟩, rfl, rfl⟩
              rintro fv _ _ ⟨hfv, rfl, rfl⟩
              have htx2 : tx.length ≤ 213000 := by rw [htxe]; exact htx
              (refine T_store (.there (.there (.there (.there (.there (.there (.there (.there .here)))))))) ?_; refine K_next ?_; refine T_cons ?_; refine T_Expr (by walk_at "u") ?_; refine T_CallM (by walk_at "u") ?_; refine T_local (.there (.there (.there .here))) ?_; refine T_meth_list PySem.F.slot_list_append PySem.F.type_list_append (by walk_at "mem") ?_; refine M_mk ?_; refine T_b2 (by walk_at "u") (by walk_at "u") ?_; refine T_args_cons (by walk_at "u") ?_; refine T_Tuple ?_; refine T_args_cons (by walk_at "u") ?_; refine T_local (.there (.there (.there (.there (.there (.there (.there (.there .here)))))))) ?_; refine T_args_cons (by walk_at "u") ?_; refine T_CallN ?_; refine T_glob (List.mem_cons_of_mem _ (List.mem_cons_of_mem _ (List.mem_cons_of_mem _ (List.mem_cons_of_mem _ List.mem_cons_self)))) ?_; refine T_b1 (by walk_at "u") (by walk_at "u") ?_; refine T_args_cons (by walk_at "u") ?_; refine T_Subscript ?_; refine T_local (.there (.there .here)) ?_; refine T_Slice ?_; refine T_part_some ?_; refine T_local (.there (.there (.there (.there (.there .here))))) ?_; refine T_part_none ?_; intro _)
              rename_i sl8
              refine T_slice_str (lo := some (e : Int)) (hi := none) (by walk_at "mem") (.int _ _) .none (line20 (by exact Mine.om_337 _ htx2)) ?_
              rw [slc_from]
              (intro _; refine T_args_nil ?_)
              refine T_len_str (line20 (by simp; exact Mine.om_383 _ _ htx2)) ?_
              intro tln
              (refine T_args_cons (by walk_at "u") ?_; refine T_BinOp ?_; refine T_int ?_; intro _; refine T_CallM (by walk_at "u") ?_; refine T_Subscript ?_; refine T_local (.there (.there .here)) ?_; refine T_Slice ?_; refine T_part_none ?_; refine T_part_some ?_; refine T_local (.there (.there (.there (.there (.there .here))))) ?_; intro _)
              refine T_slice_str (lo := none) (hi := some (e : Int)) (by walk_at "mem") .none (.int _ _) (line20 (by exact Mine.om_337 _ htx2)) ?_
              rw [slc_to]
              (intro _; refine T_meth_str PySem.F.slot_str_count PySem.F.type_str_count ?_; refine M_mk ?_; refine T_b2 (by walk_at "u") (by walk_at "u") ?_; refine T_args_cons (by walk_at "u") ?_; refine T_str ?_; intro _; refine T_args_nil ?_)
              rename_i tzz
              rw [show Value.str (Str.ofString "\n") tzz = Value.str (S [10]) tzz by rw [show Str.ofString "\n" = S [10] by decide +kernel]]
              refine T_count ?_
              rw [count_S]
              (intro _)
              refine T_add ?_
              intro tcn
              (refine T_args_nil ?_)
              refine T_newTuple ?_
              intro A
              (refine T_args_nil ?_)
              refine T_appendL (by walk_at "upd") (line20 (by exact Mine.om_382 _ _ hdl hxl)) ?_
              (refine K_next ?_; refine T_nil ?_; refine L_next ?_)
              have hent : EntV ((A, tupOf [fv, .int ((tx.drop e).length : Int) tln, .int (1 + ((tx.take e).count 10 : Int)) tcn].toArray) :: dtl) (.ref A) (tj, posn tx e) := ⟨A, fv, tln, tcn, rfl, List.mem_cons_self, hfv⟩
              refine C_weak ?_ (ih3 (j + 1) o3' (xs ++ [(tj, posn tx e)]) (dvs ++ [Value.ref A]) (de + 1) ((A, tupOf [fv, .int ((tx.drop e).length : Int) tln, .int (1 + ((tx.take e).count 10 : Int)) tcn].toArray) :: dtl) _ _ (by exact Mine.om_108 _ _ _ hm3) (by exact Mine.om_109 _ _ hjj) ho3' ((hdu.mono fun p hp => List.mem_cons_of_mem _ hp).snoc hent) hxs3)
              walk_at "sbl2"
          exact key3 ts.length 0 oi3 xs dvs de dtl x4 x5 (by exact Mine.om_132 _) (by exact Mine.om_133 _) hoi3 hdu (by rw [List.drop_zero]; exact hxs2)
      refine C_weak ?_ (key2 (sizeT t) [t] [pt] LV 0 xs dvs de dtl x4 x5 (by simp [sizeL]) hst (.cons htv .nil) hdu hxs')
      walk_at "sbl"
  refine C_weak ?_ (key L.length 0 o1 o2 .none .none [] [] 0 [] none none none none none (by exact Mine.om_132 _) (by exact Mine.om_133 _) ho1 ho2 .nil (by rw [List.drop_zero]; exact htg))
  walk_at "sbl2"

/-! the end -/
theorem law_ends {w : World} {s₁ : Shared} {mean : ExcName → Option Value} {mg mb : Str → Option Value} {p : Program} {loose : List Str} {fa sa : Addr} {items : List Value} {ns : List Int} {Q : Result → Shared → Prop}
    (KX : (Mine.hd.heap_39 w.params).In s₁.heap) (T : Top p loose mean mg mb s₁.heap) (hT : TabsAt [(99, 95)] s₁.heap) (hmg : mg (Str.ofString "law") = some (.ref fa)) (hg : s₁.gens = #[])
    (hL : s₁.heap.IsList sa items.toArray) (hI : IntsAre items ns) (hl : ns.length ≤ 63)
    (h : ∀ s', (∀ b o, (ghostOf s₁.heap [(99, 95)]).get? b = some o → s'.heap.get? b = some o) → s'.os = s₁.os → s'.gens = #[] → GrownAll [(99, 95)] s'.heap → Q (.ok (.ret (.bool true))) s') :
    codeAny (model PySem.Challenge.pw_nb0059_02 w) callerA (.call (.ref fa) ⟨[.ref sa], []⟩) Q s₁ := by
  have hfa : fa = 148 := by
    have e : mg (Str.ofString "law") = some (.ref 148) := mg_of KX T.g (by k_is)
    rw [hmg] at e
    cases e; rfl
  subst hfa
  let G : Gr := { prog := PySem.Challenge.pw_nb0059_02, w := w, K := Mine.hd.heap_39 w.params, base := ghostOf s₁.heap [(99, 95)], p := topProg, loose := _, mean := mean, mg := mg, mb := mb, os := s₁.os
                  X := ghost_K hT KX (by kernel_rfl), T := ghost_top hT T }
  have hS := law_spec G rfl (ghost_code hT).1 sa items ns (ghost_list hT hL) hI hl
  refine codeAny_mono (hS.go [] callerA s₁ ⟨by decide, by decide, rfl⟩ ?_ (Nat.le_of_eq (hideAll_size _ _))) ?_
  · refine { keep := fun b o e => of_hideAll _ e, nd := by simp, led := fun q hq => ?_, gens := hg, os := rfl }
    rw [List.append_nil] at hq
    rw [List.mem_singleton.mp hq]
    exact ⟨(hT (99, 95) (by simp)).2, hideAll_none _ (by simp)⟩
  · rintro _ s' ⟨_, post, rfl, H, rfl, ps, rfl⟩
    refine h s' H.keep H.os H.gens ⟨⟨ps, (H.led (95, tabObj ps) (by simp)).1⟩, trivial⟩
end Mine
set_option maxRecDepth 100000 in
set_option maxHeartbeats 8000000 in
theorem PySem.Challenge.cw_nb0059_02_holds : PySem.Challenge.rw_nb0059_02.Holds := by
  refine Mine.hd ?_
  intro w s₀ s₁ mg mb G Y fa o pm cd doc dV kV ho hd hcd hD hmg hg args vals as hpre hlay hrd hwl hlo
  have KX := km_in_of Y
  km_tabs Y
  refine Ground.open G ?_
  intro T B D TE TW
  try (refine guard_noD D (by decide +kernel) ?_; clear D)
  km_lay T hmg ho hd cd
  wrow_args hpre hlay hrd hwl hlo
  all_goals (
    first | refine callC_kw (enter_call ?_) | refine enter_call ?_
    w_top on
    kn_posts)
  refine Mine.law_ends KX T hT9 hmg hg (by assumption) (by assumption) (by (rename_i z1 _; exact Mine.om_384 _ z1)) ?_
  intro s' hk hos hgs hgr
  exact ⟨⟨.inl ⟨.bool true, .bool true, [], rfl, fun _ => rfl, .bool _, by first | with_unfolding_all rfl | kernel_rfl, fun _ => ⟨List.nodup_nil, fun _ h => nomatch h⟩⟩, hk, hos, hgs⟩, hgr⟩
