/- mulFull (10): the full product of two 64-bit numbers. -/
import Derived.Test.Qxb6604118aRec
namespace Go.Proofs.Qxb6604118a
open Go.RowKit Go.Deep Pl
namespace Rec
theorem mask32 (x : Nat) (hx : x < 18446744073709551616) : bits .and .u64 (x : Int) 4294967295 = ((x % 4294967296 : Nat) : Int) := by
  have e : (BitVec.ofInt 64 (x : Int) &&& BitVec.ofInt 64 4294967295).toNat = x % 4294967296 := by
    rw [BitVec.toNat_and]
    have h1 : (BitVec.ofInt 64 (x : Int)).toNat = x := by
      rw [BitVec.toNat_ofInt]; omega
    have h2 : (BitVec.ofInt 64 4294967295).toNat = 2 ^ 32 - 1 := by decide
    rw [h1, h2, Nat.and_two_pow_sub_one_eq_mod]
  unfold bits
  show IntKind.u64.wrap (((BitVec.ofInt 64 (x : Int) &&& BitVec.ofInt 64 4294967295).toNat : Nat) : Int) = _
  rw [e, IntKind.wrap_u64]
  omega

theorem u64_of (n : Nat) (h : n < 18446744073709551616) : IntKind.u64.wrap (n : Int) = n := by rw [IntKind.wrap_u64]; omega

theorem hi_is {x y x0 x1 y0 y1 P Q S U : Nat} (hx : x = x1 * 4294967296 + x0) (hy : y = y1 * 4294967296 + y0) (hP : P = x0 * y0) (hQ : Q = x1 * y0) (hS : S = x0 * y1) (hU : U = x1 * y1) :
    x * y = U * 18446744073709551616 + (Q + S) * 4294967296 + P := by
  subst hx hy hP hQ hS hU
  simp only [Nat.add_mul, Nat.mul_add]
  have e1 : x1 * 4294967296 * (y1 * 4294967296) = x1 * y1 * 18446744073709551616 := by
    rw [Nat.mul_mul_mul_comm]
  have e2 : x1 * 4294967296 * y0 = x1 * y0 * 4294967296 := by rw [Nat.mul_right_comm]
  have e3 : x0 * (y1 * 4294967296) = x0 * y1 * 4294967296 := by rw [Nat.mul_assoc]
  omega

set_option maxRecDepth 100000 in
set_option maxHeartbeats 1000000 in
theorem mul10 (x y : Nat) (w : World) (hx : x < 18446744073709551616) (hy : y < 18446744073709551616) :
    Calls Try.prog 10 #[.int .u64 x, .int .u64 y] w fun e w' => e = .returned (.tuple #[.int .u64 ((x * y / 18446744073709551616 : Nat) : Int), .int .u64 ((x * y % 18446744073709551616 : Nat) : Int)]) ∧ w' = w := by
  obtain ⟨x0, hx0⟩ : ∃ v, v = x % 4294967296 := ⟨_, rfl⟩
  obtain ⟨x1, hx1⟩ : ∃ v, v = x / 4294967296 := ⟨_, rfl⟩
  obtain ⟨y0, hy0⟩ : ∃ v, v = y % 4294967296 := ⟨_, rfl⟩
  obtain ⟨y1, hy1⟩ : ∃ v, v = y / 4294967296 := ⟨_, rfl⟩
  obtain ⟨P, hP⟩ : ∃ v, v = x0 * y0 := ⟨_, rfl⟩
  obtain ⟨Q, hQ⟩ : ∃ v, v = x1 * y0 := ⟨_, rfl⟩
  obtain ⟨S, hS⟩ : ∃ v, v = x0 * y1 := ⟨_, rfl⟩
  obtain ⟨U, hU⟩ : ∃ v, v = x1 * y1 := ⟨_, rfl⟩
  have bP : P ≤ 4294967295 * 4294967295 := hP ▸ Nat.mul_le_mul (by omega) (by omega)
  have bQ : Q ≤ 4294967295 * 4294967295 := hQ ▸ Nat.mul_le_mul (by omega) (by omega)
  have bS : S ≤ 4294967295 * 4294967295 := hS ▸ Nat.mul_le_mul (by omega) (by omega)
  have bU : U ≤ 4294967295 * 4294967295 := hU ▸ Nat.mul_le_mul (by omega) (by omega)
  have hxy := hi_is (x := x) (y := y) (x0 := x0) (x1 := x1) (y0 := y0) (y1 := y1) (by omega) (by omega) hP hQ hS hU
  have hxyb : x * y < 18446744073709551616 * 18446744073709551616 := Nat.mul_lt_mul'' hx hy
  obtain ⟨Z, hZ⟩ : ∃ v, v = x * y := ⟨_, rfl⟩
  obtain ⟨P1, hP1⟩ : ∃ v, v = P / 4294967296 := ⟨_, rfl⟩
  obtain ⟨t, ht⟩ : ∃ v, v = Q + P1 := ⟨_, rfl⟩
  obtain ⟨t0, ht0⟩ : ∃ v, v = t % 4294967296 := ⟨_, rfl⟩
  obtain ⟨t1, ht1⟩ : ∃ v, v = t / 4294967296 := ⟨_, rfl⟩
  obtain ⟨v, hv⟩ : ∃ u, u = t0 + S := ⟨_, rfl⟩
  obtain ⟨v1, hv1⟩ : ∃ u, u = v / 4294967296 := ⟨_, rfl⟩
  obtain ⟨s, hs⟩ : ∃ u, u = U + t1 := ⟨_, rfl⟩
  obtain ⟨g, hg⟩ : ∃ u, u = s + v1 := ⟨_, rfl⟩
  obtain ⟨l, hl⟩ : ∃ u, u = Z % 18446744073709551616 := ⟨_, rfl⟩
  rw [← hZ] at hxy hxyb ⊢
  have HG : Hid (g = Z / 18446744073709551616) := by show _ = _; omega
  have HL : Hid (l = Z % 18446744073709551616) := hl
  have a1 : bits .and .u64 (x : Int) 4294967295 = (x0 : Int) := by rw [mask32 x hx, hx0]
  have a2 : bits .and .u64 (y : Int) 4294967295 = (y0 : Int) := by rw [mask32 y hy, hy0]
  have a3 : (x : Int) / 4294967296 = (x1 : Int) := by omega
  have a4 : (y : Int) / 4294967296 = (y1 : Int) := by omega
  have m1 : IntKind.u64.wrap ((x0 : Int) * (y0 : Int)) = (P : Int) := by rw [← Int.natCast_mul, ← hP]; exact u64_of _ (by omega)
  have m2 : IntKind.u64.wrap ((x1 : Int) * (y0 : Int)) = (Q : Int) := by rw [← Int.natCast_mul, ← hQ]; exact u64_of _ (by omega)
  have m3 : IntKind.u64.wrap ((x0 : Int) * (y1 : Int)) = (S : Int) := by rw [← Int.natCast_mul, ← hS]; exact u64_of _ (by omega)
  have m4 : IntKind.u64.wrap ((x1 : Int) * (y1 : Int)) = (U : Int) := by rw [← Int.natCast_mul, ← hU]; exact u64_of _ (by omega)
  have a5 : (P : Int) / 4294967296 = (P1 : Int) := by omega
  have a6 : IntKind.u64.wrap ((Q : Int) + (P1 : Int)) = (t : Int) := by rw [← Int.natCast_add, ← ht]; exact u64_of _ (by omega)
  have a7 : bits .and .u64 (t : Int) 4294967295 = (t0 : Int) := by rw [mask32 t (by omega), ht0]
  have a8 : (t : Int) / 4294967296 = (t1 : Int) := by omega
  have a9 : IntKind.u64.wrap ((t0 : Int) + (S : Int)) = (v : Int) := by rw [← Int.natCast_add, ← hv]; exact u64_of _ (by omega)
  have b1 : (v : Int) / 4294967296 = (v1 : Int) := by omega
  have b2 : IntKind.u64.wrap ((U : Int) + (t1 : Int)) = (s : Int) := by rw [← Int.natCast_add, ← hs]; exact u64_of _ (by omega)
  have b3 : IntKind.u64.wrap ((s : Int) + (v1 : Int)) = (g : Int) := by rw [← Int.natCast_add, ← hg]; exact u64_of _ (by omega)
  have b4 : IntKind.u64.wrap ((x : Int) * (y : Int)) = (l : Int) := by rw [← Int.natCast_mul, ← hZ, IntKind.wrap_u64]; omega
  clear hx0 hx1 hy0 hy1 hP hQ hS hU bP bQ bS bU hxy hxyb hZ hP1 ht ht0 ht1 hv hv1 hs hg hl hx hy
  go_enter Try.func10, Try.ntmps10
  go_wp2
  go_ret2
  rw [← HG.out, ← HL.out]
  exact ⟨rfl, rfl⟩
end Rec
end Go.Proofs.Qxb6604118a
