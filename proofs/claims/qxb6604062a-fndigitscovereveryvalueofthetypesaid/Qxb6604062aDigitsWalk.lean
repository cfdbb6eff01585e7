/- The walk of FnDigitsCoverEveryValueOfTheType (3), a case each. -/
import Derived.Test.Qxb6604062aDigits
namespace Go.Proofs.Qxb6604062a.Dg
open Go.RowKit

theorem grown_trans {a b c : World} (h : Grown a b) (k : Grown b c) : Grown a c :=
  ⟨World.keptBut_trans h.1 k.1, fun x => (k.2.1 x).trans (h.2.1 x), Nat.le_trans h.2.2 k.2.2⟩

set_option maxHeartbeats 400000 in
theorem make_any (a0 : Int) (a1 : Bool) (a2 a3 : Int) (w : World) :
    Calls Try.prog 4 #[.int .u8 a0, .bool a1, .int .i64 a2, .int .i64 a3] w fun e w' => e = .returned (.agg #[.int .u8 a0, .bool a1, .int .i64 a2, .int .i64 a3]) ∧ Grown w w' := by
  go_enter Try.func4, Try.ntmps4
  go_wp2
  exact bodyPost_ret (v := .agg #[.int .u8 a0, .bool a1, .int .i64 a2, .int .i64 a3]) (by simp [results, Try.results4, go_sem]) rfl ⟨rfl, by repeat (first | exact Grown.refl _ | apply Grown.drew | apply Grown.alloc)⟩

set_option maxHeartbeats 400000 in
theorem digits_1 (a1 : Bool) (a2 a3 : Int) (w : World) :
    Calls Try.prog 5 #[.agg #[.int .u8 1, .bool a1, .int .i64 a2, .int .i64 a3]] w fun e w' => e = .returned (.int .i64 10) ∧ Grown w w' := by
  go_enter Try.func5, Try.ntmps5
  go_wp2
  go_ret
  exact ⟨rfl, by repeat (first | exact Grown.refl _ | apply Grown.drew | apply Grown.alloc)⟩

set_option maxHeartbeats 400000 in
theorem digits_2t (a2 a3 : Int) (w : World) :
    Calls Try.prog 5 #[.agg #[.int .u8 2, .bool true, .int .i64 a2, .int .i64 a3]] w fun e w' => e = .returned (.int .i64 20) ∧ Grown w w' := by
  go_enter Try.func5, Try.ntmps5
  go_wp2
  go_ret
  exact ⟨rfl, by repeat (first | exact Grown.refl _ | apply Grown.drew | apply Grown.alloc)⟩

set_option maxHeartbeats 400000 in
theorem digits_2f (a2 a3 : Int) (w : World) :
    Calls Try.prog 5 #[.agg #[.int .u8 2, .bool false, .int .i64 a2, .int .i64 a3]] w fun e w' => e = .returned (.int .i64 19) ∧ Grown w w' := by
  go_enter Try.func5, Try.ntmps5
  go_wp2
  go_ret
  exact ⟨rfl, by repeat (first | exact Grown.refl _ | apply Grown.drew | apply Grown.alloc)⟩

set_option maxHeartbeats 400000 in
theorem walk_other (a0 : Int) (a1 : Bool) (a2 a3 a4 a5 : Int) (w : World) (n1 : (a0 != 1) = true) (n2 : (a0 != 2) = true) :
    Calls Try.prog 3 #[.int .u8 a0, .bool a1, .int .i64 a2, .int .i64 a3, .int .i64 a4, .int .u64 a5] w fun e w' => e = .returned (.bool true) ∧ Grown w w' := by
  go_enter Try.func3, Try.ntmps3
  go_wp2
  go_ret
  exact ⟨rfl, Grown.refl _⟩

set_option maxHeartbeats 400000 in
theorem walk_1t (a2 a3 a4 : Int) (a5 : Nat) (w : World) (h5 : (a5 : Int) ≤ 4294967295) :
    Calls Try.prog 3 #[.int .u8 1, .bool true, .int .i64 a2, .int .i64 a3, .int .i64 a4, .int .u64 a5] w fun e w' => e = .returned (.bool true) ∧ Grown w w' := by
  go_enter Try.func3, Try.ntmps3
  go_wp2_with fail
  refine (make_any _ _ _ _ _).mono ?_
  rintro e w1 ⟨rfl, hg1⟩
  go_wp2_with fail
  refine (digits_1 _ _ _ _).mono ?_
  rintro e w2 ⟨rfl, hg2⟩
  go_wp2_with fail
  refine (count_u32 _).mono ?_
  rintro e w4 ⟨rfl, hw4⟩
  rw [hw4]
  go_wp2_with fail
  refine (count_le _ 4294967295 10 _ (by omega) (by omega) cd_u32).mono ?_
  rintro e w5 ⟨k, hk, rfl, hw5⟩
  rw [hw5]
  go_wp2_with fail
  go_ret
  exact ⟨rfl, grown_trans (Grown.alloc hg1 _ _) hg2⟩

set_option maxHeartbeats 400000 in
theorem walk_1tn (a2 a3 a4 : Int) (a5 : Nat) (w : World) (h5 : ¬ (a5 : Int) ≤ 4294967295) :
    Calls Try.prog 3 #[.int .u8 1, .bool true, .int .i64 a2, .int .i64 a3, .int .i64 a4, .int .u64 a5] w fun e w' => e = .returned (.bool true) ∧ Grown w w' := by
  go_enter Try.func3, Try.ntmps3
  go_wp2_with fail
  refine (make_any _ _ _ _ _).mono ?_
  rintro e w1 ⟨rfl, hg1⟩
  go_wp2_with fail
  refine (digits_1 _ _ _ _).mono ?_
  rintro e w2 ⟨rfl, hg2⟩
  go_wp2_with fail
  refine (count_u32 _).mono ?_
  rintro e w4 ⟨rfl, hw4⟩
  rw [hw4]
  go_wp2_with fail
  go_ret
  exact ⟨rfl, grown_trans (Grown.alloc hg1 _ _) hg2⟩

set_option maxHeartbeats 400000 in
theorem walk_2t (a2 a3 a4 : Int) (a5 : Nat) (w : World) (h5 : (a5 : Int) ≤ 18446744073709551615) :
    Calls Try.prog 3 #[.int .u8 2, .bool true, .int .i64 a2, .int .i64 a3, .int .i64 a4, .int .u64 a5] w fun e w' => e = .returned (.bool true) ∧ Grown w w' := by
  go_enter Try.func3, Try.ntmps3
  go_wp2_with fail
  refine (make_any _ _ _ _ _).mono ?_
  rintro e w1 ⟨rfl, hg1⟩
  go_wp2_with fail
  refine (digits_2t _ _ _).mono ?_
  rintro e w2 ⟨rfl, hg2⟩
  go_wp2_with fail
  refine (count_u64 _).mono ?_
  rintro e w4 ⟨rfl, hw4⟩
  rw [hw4]
  go_wp2_with fail
  refine (count_le _ 18446744073709551615 20 _ (by omega) (by omega) cd_u64).mono ?_
  rintro e w5 ⟨k, hk, rfl, hw5⟩
  rw [hw5]
  go_wp2_with fail
  go_ret
  exact ⟨rfl, grown_trans (Grown.alloc hg1 _ _) hg2⟩

set_option maxHeartbeats 400000 in
theorem walk_1f (a2 a3 a4 a5 : Int) (w : World) (h0 : -2147483648 ≤ a4) (h1 : a4 ≤ 2147483647) :
    Calls Try.prog 3 #[.int .u8 1, .bool false, .int .i64 a2, .int .i64 a3, .int .i64 a4, .int .u64 a5] w fun e w' => e = .returned (.bool true) ∧ Grown w w' := by
  go_enter Try.func3, Try.ntmps3
  go_wp2_with fail
  refine (make_any _ _ _ _ _).mono ?_
  rintro e w1 ⟨rfl, hg1⟩
  go_wp2_with fail
  refine (digits_1 _ _ _ _).mono ?_
  rintro e w2 ⟨rfl, hg2⟩
  go_wp2_with fail
  refine (mag_any _ _ (by omega) (by omega)).mono ?_
  rintro e w3 ⟨rfl, hw3⟩
  rw [hw3]
  go_wp2_with fail
  refine (count_i32 _).mono ?_
  rintro e w4 ⟨rfl, hw4⟩
  rw [hw4]
  go_wp2_with fail
  refine (count_le _ 2147483648 10 _ (by omega) (by omega) cd_i32).mono ?_
  rintro e w5 ⟨k, hk, rfl, hw5⟩
  rw [hw5]
  go_wp2_with fail
  go_ret
  exact ⟨rfl, grown_trans (Grown.alloc hg1 _ _) hg2⟩

set_option maxHeartbeats 400000 in
theorem walk_1fl (a2 a3 a4 a5 : Int) (w : World) (h0 : -9223372036854775808 ≤ a4) (h1 : a4 < -2147483648) :
    Calls Try.prog 3 #[.int .u8 1, .bool false, .int .i64 a2, .int .i64 a3, .int .i64 a4, .int .u64 a5] w fun e w' => e = .returned (.bool true) ∧ Grown w w' := by
  go_enter Try.func3, Try.ntmps3
  go_wp2_with fail
  refine (make_any _ _ _ _ _).mono ?_
  rintro e w1 ⟨rfl, hg1⟩
  go_wp2_with fail
  refine (digits_1 _ _ _ _).mono ?_
  rintro e w2 ⟨rfl, hg2⟩
  go_wp2_with fail
  refine (mag_any _ _ (by omega) (by omega)).mono ?_
  rintro e w3 ⟨rfl, hw3⟩
  rw [hw3]
  go_wp2_with fail
  refine (count_i32 _).mono ?_
  rintro e w4 ⟨rfl, hw4⟩
  rw [hw4]
  go_wp2_with fail
  go_ret
  exact ⟨rfl, grown_trans (Grown.alloc hg1 _ _) hg2⟩

set_option maxHeartbeats 400000 in
theorem walk_1fg (a2 a3 a4 a5 : Int) (w : World) (h0 : 2147483647 < a4) (h1 : a4 ≤ 9223372036854775807) :
    Calls Try.prog 3 #[.int .u8 1, .bool false, .int .i64 a2, .int .i64 a3, .int .i64 a4, .int .u64 a5] w fun e w' => e = .returned (.bool true) ∧ Grown w w' := by
  go_enter Try.func3, Try.ntmps3
  go_wp2_with fail
  refine (make_any _ _ _ _ _).mono ?_
  rintro e w1 ⟨rfl, hg1⟩
  go_wp2_with fail
  refine (digits_1 _ _ _ _).mono ?_
  rintro e w2 ⟨rfl, hg2⟩
  go_wp2_with fail
  refine (mag_any _ _ (by omega) (by omega)).mono ?_
  rintro e w3 ⟨rfl, hw3⟩
  rw [hw3]
  go_wp2_with fail
  refine (count_i32 _).mono ?_
  rintro e w4 ⟨rfl, hw4⟩
  rw [hw4]
  go_wp2_with fail
  go_ret
  exact ⟨rfl, grown_trans (Grown.alloc hg1 _ _) hg2⟩

set_option maxHeartbeats 400000 in
theorem walk_2f (a2 a3 a4 a5 : Int) (w : World) (h0 : -9223372036854775808 ≤ a4) (h1 : a4 ≤ 9223372036854775807) :
    Calls Try.prog 3 #[.int .u8 2, .bool false, .int .i64 a2, .int .i64 a3, .int .i64 a4, .int .u64 a5] w fun e w' => e = .returned (.bool true) ∧ Grown w w' := by
  go_enter Try.func3, Try.ntmps3
  go_wp2_with fail
  refine (make_any _ _ _ _ _).mono ?_
  rintro e w1 ⟨rfl, hg1⟩
  go_wp2_with fail
  refine (digits_2f _ _ _).mono ?_
  rintro e w2 ⟨rfl, hg2⟩
  go_wp2_with fail
  refine (mag_any _ _ (by omega) (by omega)).mono ?_
  rintro e w3 ⟨rfl, hw3⟩
  rw [hw3]
  go_wp2_with fail
  refine (count_i64 _).mono ?_
  rintro e w4 ⟨rfl, hw4⟩
  rw [hw4]
  go_wp2_with fail
  refine (count_le _ 9223372036854775808 19 _ (by omega) (by omega) cd_i64).mono ?_
  rintro e w5 ⟨k, hk, rfl, hw5⟩
  rw [hw5]
  go_wp2_with fail
  go_ret
  exact ⟨rfl, grown_trans (Grown.alloc hg1 _ _) hg2⟩

end Go.Proofs.Qxb6604062a.Dg
