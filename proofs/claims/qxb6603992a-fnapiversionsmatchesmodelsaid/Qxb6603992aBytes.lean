/- The contracts of the counting functions: each returns some int, and only draws. -/
import Derived.Test.Qxb6603992aParts
import Derived.Deep.QuietTactic
import Derived.BigQuiet
namespace Go.Proofs.Qxb6603992a
open Go.RowKit

/-- Some int comes back; the world is as it was. -/
def GivesInt (w : World) (e : Ending) (w' : World) : Prop := ∃ r : Int, e = .returned (.int .i64 r) ∧ w' = w
/-- Some int comes back; the world has at most drawn. -/
def DrawsInt (w : World) (e : Ending) (w' : World) : Prop := ∃ r : Int, e = .returned (.int .i64 r) ∧ ∃ n, w' = w.drewN n

/-- What zzAdd gives. -/
def addF (a b : Int) : Int := if 1048576 < a ∨ 1048576 < b then 1048577 else wrap64 (a + b)
theorem ret_int {k : IntKind} {a b : Int} (h : a = b) : Ending.returned (.int k a) = .returned (.int k b) := by rw [h]

set_option maxHeartbeats 400000 in
theorem add_is (a b : Int) (w : World) : Calls Try.prog 12 #[.int .i64 a, .int .i64 b] w fun e w' => e = .returned (.int .i64 (addF a b)) ∧ w' = w := by
  by_cases h1 : 1048576 < a
  · have H : addF a b = 1048577 := by unfold addF; rw [if_pos (Or.inl h1)]
    rw [H]; clear H
    go_enter Try.func12, Try.ntmps12
    go_wp2
    go_ret
    exact ⟨rfl, rfl⟩
  · by_cases h2 : 1048576 < b
    · have H : addF a b = 1048577 := by unfold addF; rw [if_pos (Or.inr h2)]
      rw [H]; clear H
      go_enter Try.func12, Try.ntmps12
      go_wp2
      go_ret
      exact ⟨rfl, rfl⟩
    · have H : addF a b = wrap64 (a + b) := by unfold addF; rw [if_neg (by omega)]
      rw [H]; clear H
      go_enter Try.func12, Try.ntmps12
      go_wp2
      go_ret
      exact ⟨rfl, rfl⟩

theorem add_any (a b : Int) (w : World) : Calls Try.prog 12 #[.int .i64 a, .int .i64 b] w (GivesInt w) :=
  (add_is a b w).mono fun _ _ ⟨h, k⟩ => ⟨_, h, k⟩

set_option maxHeartbeats 400000 in
theorem strs_any (a : Option Addr) (n c : Nat) (w : World) (h : Strs w a n c) : Calls Try.prog 23 #[.slice a n c] w (GivesInt w) := by
  by_cases h1 : 1048576 < (n : Int)
  · go_enter Try.func23, Try.ntmps23
    go_wp2
    go_ret
    exact ⟨_, rfl, rfl⟩
  · obtain ⟨hh, h⟩ := h
    clear hh
    go_enter Try.func23, Try.ntmps23
    go_wp2
    go_loop [3, 13] (fun m i => ∃ (r : Int) (k : Nat), k ≤ n ∧ m = .int .i64 r ∧ i = .int .i64 k) (fun _ i => n - (intOf i).toNat)
    case atStart => exact ⟨_, 0, Nat.zero_le _, rfl, rfl⟩
    case round =>
      obtain ⟨r, k, hk, rfl, rfl⟩ := hrel
      by_cases hlt : k < n
      · rcases h with rfl | ⟨b, o, rfl, hc⟩
        · omega
        · obtain ⟨s, hs⟩ := hc k hlt
          clear hc
          go_wp2_with fail
          refine (add_any _ _ _).mono ?_
          rintro e w1 ⟨q, rfl, hw1⟩
          rw [hw1]
          by_cases hq : 1048576 < q
          · go_wp2
            go_ret
            exact ⟨_, rfl, rfl⟩
          · go_wp2
            go_round
            case rel => exact ⟨q, k + 1, by omega, rfl, by go_num⟩
            case measure => simp [intOf]; omega
      · go_wp2
        go_ret
        exact ⟨_, rfl, rfl⟩

set_option maxHeartbeats 400000 in
theorem gvk_any (p : Option Addr) (w : World) (h : Gvk w p) : Calls Try.prog 22 #[.pointer p] w (DrawsInt w) := by
  rcases h with rfl | ⟨b, o, s0, s1, s2, rfl, h0, h1, h2⟩
  · go_enter Try.func22, Try.ntmps22
    go_wp2
    go_ret
    exact ⟨_, rfl, 0, rfl⟩
  · go_enter Try.func22, Try.ntmps22
    go_wp2
    go_quiet ((go_at_call 12; exact Calls.quiet_of_same (add_is _ _ _)))
    go_wp2
    go_ret
    exact ⟨_, rfl, _, rfl⟩
end Go.Proofs.Qxb6603992a
