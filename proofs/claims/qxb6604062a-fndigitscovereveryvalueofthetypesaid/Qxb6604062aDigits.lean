/- The contracts of zzCountDigits (7) and zzMagnitude (6). -/
import Derived.Test.Qxb6604062aRows
import Derived.WalkKit
namespace Go.Proofs.Qxb6604062a.Dg
open Go.RowKit

/-- The number of decimal digits, reckoned with fuel. -/
def cd : Nat → Nat → Nat
  | 0, _ => 1
  | f + 1, u => if u < 10 then 1 else 1 + cd f (u / 10)

theorem cd_mono (f : Nat) : ∀ a b, a ≤ b → cd f a ≤ cd f b := by
  induction f with
  | zero => intro a b _; simp [cd]
  | succ f ih =>
    intro a b h
    simp only [cd]
    by_cases ha : a < 10
    · rw [if_pos ha]; split <;> omega
    · rw [if_neg ha, if_neg (by omega)]
      have := ih (a / 10) (b / 10) (Nat.div_le_div_right h)
      omega

theorem cd_small (f u : Nat) (h : u < 10) : cd f u = 1 := by
  cases f with
  | zero => rfl
  | succ f => simp [cd, h]

theorem cd_step (f u : Nat) (h : 10 ≤ u) : cd (f + 1) u = 1 + cd f (u / 10) := by
  simp only [cd]; rw [if_neg (by omega)]

theorem cd_le (f : Nat) : ∀ u, cd f u ≤ f + 1 := by
  induction f with
  | zero => intro u; simp [cd]
  | succ f ih =>
    intro u; simp only [cd]; have := ih (u / 10); split <;> omega

theorem div_lt (f u : Nat) (h : u < 10 ^ (f + 1)) : u / 10 < 10 ^ f := by
  rw [Nat.div_lt_iff_lt_mul (by omega), ← Nat.pow_succ]; exact h

theorem pos_of (f u : Nat) (h : u < 10 ^ f) (h1 : 10 ≤ u) : ∃ g, f = g + 1 := by
  cases f with
  | zero => simp at h; omega
  | succ g => exact ⟨g, rfl⟩

theorem ret_int {k : IntKind} {a b : Int} (h : a = b) : Ending.returned (.int k a) = .returned (.int k b) := by rw [h]
theorem wrap_div (x : Nat) (h : x < 18446744073709551616) : IntKind.u64.wrap ((x : Int) / 10) = ((x / 10 : Nat) : Int) := by
  rw [IntKind.wrap_u64]; omega

set_option maxHeartbeats 400000 in
theorem count_any (u : Nat) (w : World) (hu : u < 18446744073709551616) :
    Calls Try.prog 7 #[.int .u64 u] w fun e w' => e = .returned (.int .i64 (cd 20 u)) ∧ w' = w := by
  have HU : Hid (u < 18446744073709551616) := hu
  clear hu
  go_enter Try.func7, Try.ntmps7
  go_wp2
  go_loop [0, 3] (fun v c => ∃ f k x : Nat, k + f = 20 ∧ x ≤ u ∧ x < 10 ^ f ∧ cd 20 u = k + cd f x ∧ v = .int .u64 x ∧ c = .int .i64 (k + 1)) (fun v _ => (intOf v).toNat)
  case atStart => exact ⟨20, 0, u, rfl, Nat.le_refl _, Nat.lt_of_lt_of_le HU.out (by decide), by simp, rfl, rfl⟩
  case round =>
    obtain ⟨f, k, x, hkf, hxu, hx, hc, rfl, rfl⟩ := hrel
    have HX : Hid (x ≤ u ∧ x < 10 ^ f) := ⟨hxu, hx⟩
    have HC : Hid (cd 20 u = k + cd f x) := hc
    clear hx hc hxu
    by_cases hlt : 10 ≤ x
    · have hkk : k ≤ 20 := by omega
      go_wp2
      go_round
      case rel =>
        obtain ⟨hxu, hx⟩ := HX.out
        have hu := HU.out
        have hc := HC.out
        obtain ⟨g, rfl⟩ := pos_of f x hx hlt
        exact ⟨g, k + 1, x / 10, by omega, by omega, div_lt g x hx, by rw [hc, cd_step g x hlt]; omega, by rw [wrap_div x (by omega)], by go_num⟩
      case measure =>
        obtain ⟨hxu, hx⟩ := HX.out
        have hu := HU.out
        simp only [intOf]; rw [wrap_div x (by omega)]; omega
    · go_wp2
      go_ret
      exact ⟨ret_int (by rw [HC.out, cd_small f x (by omega)]; omega), rfl⟩

set_option maxHeartbeats 400000 in
theorem mag_any (n : Int) (w : World) (h0 : -9223372036854775808 ≤ n) (h1 : n ≤ 9223372036854775807) :
    Calls Try.prog 6 #[.int .i64 n] w fun e w' => e = .returned (.int .u64 (n.natAbs : Nat)) ∧ w' = w := by
  by_cases h : n < 0
  · go_enter Try.func6, Try.ntmps6
    go_wp2
    go_ret
    exact ⟨ret_int (by omega), rfl⟩
  · go_enter Try.func6, Try.ntmps6
    go_wp2
    go_ret
    exact ⟨ret_int (by omega), rfl⟩

theorem cd_u32 : cd 20 4294967295 = 10 := by decide +kernel
theorem cd_u64 : cd 20 18446744073709551615 = 20 := by decide +kernel
theorem cd_i32 : cd 20 2147483648 = 10 := by decide +kernel
theorem cd_i64 : cd 20 9223372036854775808 = 19 := by decide +kernel

theorem count_at (u : Int) (n c : Nat) (w : World) (h : u = n) (hn : n < 18446744073709551616) (hc : cd 20 n = c) :
    Calls Try.prog 7 #[.int .u64 u] w fun e w' => e = .returned (.int .i64 c) ∧ w' = w := by
  subst h; subst hc; exact count_any n w hn

theorem count_le (u n c : Nat) (w : World) (h : u ≤ n) (hn : n < 18446744073709551616) (hc : cd 20 n = c) :
    Calls Try.prog 7 #[.int .u64 u] w fun e w' => ∃ k : Nat, (k : Int) ≤ c ∧ e = .returned (.int .i64 k) ∧ w' = w := by
  refine (count_any u w (by omega)).mono ?_
  rintro e w' ⟨rfl, rfl⟩
  exact ⟨_, by have := cd_mono 20 u n h; omega, rfl, rfl⟩

theorem count_u32 (w : World) : Calls Try.prog 7 #[.int .u64 4294967295] w fun e w' => e = .returned (.int .i64 10) ∧ w' = w :=
  count_at _ 4294967295 10 w (by omega) (by omega) cd_u32
theorem count_u64 (w : World) : Calls Try.prog 7 #[.int .u64 18446744073709551615] w fun e w' => e = .returned (.int .i64 20) ∧ w' = w :=
  count_at _ 18446744073709551615 20 w (by omega) (by omega) cd_u64
theorem count_i32 (w : World) : Calls Try.prog 7 #[.int .u64 2147483648] w fun e w' => e = .returned (.int .i64 10) ∧ w' = w :=
  count_at _ 2147483648 10 w (by omega) (by omega) cd_i32
theorem count_i64 (w : World) : Calls Try.prog 7 #[.int .u64 9223372036854775808] w fun e w' => e = .returned (.int .i64 19) ∧ w' = w :=
  count_at _ 9223372036854775808 19 w (by omega) (by omega) cd_i64
end Go.Proofs.Qxb6604062a.Dg
