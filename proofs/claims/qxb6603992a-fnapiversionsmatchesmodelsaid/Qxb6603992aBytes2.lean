/- The contracts of zzSubsBytes (24), zzResBytes (20), zzVersBytes (15), zzGroupsBytes (6): each gives some int and at most draws. -/
import Derived.Test.Qxb6603992aBytes
namespace Go.Proofs.Qxb6603992a
open Go.RowKit

set_option maxHeartbeats 2000000 in
theorem subs_any (a : Option Addr) (n c : Nat) (w : World) (h : Subs w a n c) : Calls Try.prog 24 #[.slice a n c] w (DrawsInt w) := by
  by_cases h1 : 1048576 < (n : Int)
  · go_enter Try.func24, Try.ntmps24
    go_wp2
    go_ret
    exact ⟨_, rfl, 0, rfl⟩
  · obtain ⟨hh, h⟩ := h
    clear hh
    go_enter Try.func24, Try.ntmps24
    go_wp2
    go_loopw [3, 13] (fun m i wr => ∃ (r : Int) (k q : Nat), k ≤ n ∧ m = .int .i64 r ∧ i = .int .i64 k ∧ wr = w.drewN q) (fun _ i _ => n - (intOf i).toNat)
    case atStart => exact ⟨_, 0, 0, Nat.zero_le _, rfl, rfl, rfl⟩
    case round =>
      obtain ⟨r, k, q, hk, rfl, rfl, rfl⟩ := hrel
      by_cases hlt : k < n
      · rcases h with rfl | ⟨b, o, rfl, hc⟩
        · omega
        · obtain ⟨⟨s0, hs0⟩, ⟨p1, hp1, hg1⟩, ⟨a2, n2, c2, ha2, hx2⟩⟩ := hc k hlt
          clear hc
          have hg1' := fun j => Gvk.stays (Stays.drewN w j) hg1
          clear hg1
          have hx2' := fun j => Strs.stays (Stays.drewN w j) hx2
          clear hx2
          go_wp2_with fail
          refine (add_any _ _ _).mono ?_
          rintro e w1 ⟨t0, rfl, hw⟩
          rw [hw]; clear hw
          go_wp2_with fail
          refine (gvk_any _ _ (hg1' _)).mono ?_
          rintro e w1 ⟨q1, rfl, m1, hw⟩
          rw [hw, World.drewN_drewN]; clear hw
          go_wp2_with fail
          refine (add_any _ _ _).mono ?_
          rintro e w1 ⟨t1, rfl, hw⟩
          rw [hw]; clear hw
          go_wp2_with fail
          refine (strs_any _ _ _ _ (hx2' _)).mono ?_
          rintro e w1 ⟨q2, rfl, hw⟩
          rw [hw]; clear hw
          go_wp2_with fail
          refine (add_any _ _ _).mono ?_
          rintro e w1 ⟨t2, rfl, hw⟩
          rw [hw]; clear hw
          by_cases hq : 1048576 < t2
          · go_wp2
            go_ret
            exact ⟨_, rfl, _, rfl⟩
          · go_wp2
            go_roundw
            case rel => exact ⟨t2, k + 1, _, by omega, rfl, by go_num, rfl⟩
            case measure => simp [intOf]; omega
      · go_wp2
        go_ret
        exact ⟨_, rfl, _, rfl⟩

set_option maxHeartbeats 2000000 in
theorem res_any (a : Option Addr) (n c : Nat) (w : World) (h : Ress w a n c) : Calls Try.prog 20 #[.slice a n c] w (DrawsInt w) := by
  by_cases h1 : 1048576 < (n : Int)
  · go_enter Try.func20, Try.ntmps20
    go_wp2
    go_ret
    exact ⟨_, rfl, 0, rfl⟩
  · obtain ⟨hh, h⟩ := h
    clear hh
    go_enter Try.func20, Try.ntmps20
    go_wp2
    go_loopw [3, 13] (fun m i wr => ∃ (r : Int) (k q : Nat), k ≤ n ∧ m = .int .i64 r ∧ i = .int .i64 k ∧ wr = w.drewN q) (fun _ i _ => n - (intOf i).toNat)
    case atStart => exact ⟨_, 0, 0, Nat.zero_le _, rfl, rfl, rfl⟩
    case round =>
      obtain ⟨r, k, q, hk, rfl, rfl, rfl⟩ := hrel
      by_cases hlt : k < n
      · rcases h with rfl | ⟨b, o, rfl, hc⟩
        · omega
        · obtain ⟨⟨s0, hs0⟩, ⟨p1, hp1, hg1⟩, ⟨s2, hs2⟩, ⟨s3, hs3⟩, ⟨a4, n4, c4, ha4, hx4⟩, ⟨a5, n5, c5, ha5, hx5⟩, ⟨a6, n6, c6, ha6, hx6⟩, ⟨a7, n7, c7, ha7, hx7⟩⟩ := hc k hlt
          clear hc
          have hg1' := fun j => Gvk.stays (Stays.drewN w j) hg1
          clear hg1
          have hx4' := fun j => Strs.stays (Stays.drewN w j) hx4
          clear hx4
          have hx5' := fun j => Strs.stays (Stays.drewN w j) hx5
          clear hx5
          have hx6' := fun j => Strs.stays (Stays.drewN w j) hx6
          clear hx6
          have hx7' := fun j => Subs.stays (Stays.drewN w j) hx7
          clear hx7
          go_wp2_with fail
          refine (add_any _ _ _).mono ?_
          rintro e w1 ⟨t0, rfl, hw⟩
          rw [hw]; clear hw
          go_wp2_with fail
          refine (gvk_any _ _ (hg1' _)).mono ?_
          rintro e w1 ⟨q1, rfl, m1, hw⟩
          rw [hw, World.drewN_drewN]; clear hw
          go_wp2_with fail
          refine (add_any _ _ _).mono ?_
          rintro e w1 ⟨t1, rfl, hw⟩
          rw [hw]; clear hw
          go_wp2_with fail
          refine (add_any _ _ _).mono ?_
          rintro e w1 ⟨t2, rfl, hw⟩
          rw [hw]; clear hw
          go_wp2_with fail
          refine (add_any _ _ _).mono ?_
          rintro e w1 ⟨t3, rfl, hw⟩
          rw [hw]; clear hw
          go_wp2_with fail
          refine (strs_any _ _ _ _ (hx4' _)).mono ?_
          rintro e w1 ⟨q4, rfl, hw⟩
          rw [hw]; clear hw
          go_wp2_with fail
          refine (add_any _ _ _).mono ?_
          rintro e w1 ⟨t4, rfl, hw⟩
          rw [hw]; clear hw
          go_wp2_with fail
          refine (strs_any _ _ _ _ (hx5' _)).mono ?_
          rintro e w1 ⟨q5, rfl, hw⟩
          rw [hw]; clear hw
          go_wp2_with fail
          refine (add_any _ _ _).mono ?_
          rintro e w1 ⟨t5, rfl, hw⟩
          rw [hw]; clear hw
          go_wp2_with fail
          refine (strs_any _ _ _ _ (hx6' _)).mono ?_
          rintro e w1 ⟨q6, rfl, hw⟩
          rw [hw]; clear hw
          go_wp2_with fail
          refine (add_any _ _ _).mono ?_
          rintro e w1 ⟨t6, rfl, hw⟩
          rw [hw]; clear hw
          go_wp2_with fail
          refine (subs_any _ _ _ _ (hx7' _)).mono ?_
          rintro e w1 ⟨q7, rfl, m7, hw⟩
          rw [hw, World.drewN_drewN]; clear hw
          go_wp2_with fail
          refine (add_any _ _ _).mono ?_
          rintro e w1 ⟨t7, rfl, hw⟩
          rw [hw]; clear hw
          by_cases hq : 1048576 < t7
          · go_wp2
            go_ret
            exact ⟨_, rfl, _, rfl⟩
          · go_wp2
            go_roundw
            case rel => exact ⟨t7, k + 1, _, by omega, rfl, by go_num, rfl⟩
            case measure => simp [intOf]; omega
      · go_wp2
        go_ret
        exact ⟨_, rfl, _, rfl⟩

set_option maxHeartbeats 2000000 in
theorem vers_any (a : Option Addr) (n c : Nat) (w : World) (h : Vers w a n c) : Calls Try.prog 15 #[.slice a n c] w (DrawsInt w) := by
  by_cases h1 : 1048576 < (n : Int)
  · go_enter Try.func15, Try.ntmps15
    go_wp2
    go_ret
    exact ⟨_, rfl, 0, rfl⟩
  · obtain ⟨hh, h⟩ := h
    clear hh
    go_enter Try.func15, Try.ntmps15
    go_wp2
    go_loopw [3, 13] (fun m i wr => ∃ (r : Int) (k q : Nat), k ≤ n ∧ m = .int .i64 r ∧ i = .int .i64 k ∧ wr = w.drewN q) (fun _ i _ => n - (intOf i).toNat)
    case atStart => exact ⟨_, 0, 0, Nat.zero_le _, rfl, rfl, rfl⟩
    case round =>
      obtain ⟨r, k, q, hk, rfl, rfl, rfl⟩ := hrel
      by_cases hlt : k < n
      · rcases h with rfl | ⟨b, o, rfl, hc⟩
        · omega
        · obtain ⟨⟨s0, hs0⟩, ⟨a1, n1, c1, ha1, hx1⟩, ⟨s2, hs2⟩⟩ := hc k hlt
          clear hc
          have hx1' := fun j => Ress.stays (Stays.drewN w j) hx1
          clear hx1
          go_wp2_with fail
          refine (add_any _ _ _).mono ?_
          rintro e w1 ⟨t0, rfl, hw⟩
          rw [hw]; clear hw
          go_wp2_with fail
          refine (add_any _ _ _).mono ?_
          rintro e w1 ⟨t2, rfl, hw⟩
          rw [hw]; clear hw
          go_wp2_with fail
          refine (res_any _ _ _ _ (hx1' _)).mono ?_
          rintro e w1 ⟨q1, rfl, m1, hw⟩
          rw [hw, World.drewN_drewN]; clear hw
          go_wp2_with fail
          refine (add_any _ _ _).mono ?_
          rintro e w1 ⟨t1, rfl, hw⟩
          rw [hw]; clear hw
          by_cases hq : 1048576 < t1
          · go_wp2
            go_ret
            exact ⟨_, rfl, _, rfl⟩
          · go_wp2
            go_roundw
            case rel => exact ⟨t1, k + 1, _, by omega, rfl, by go_num, rfl⟩
            case measure => simp [intOf]; omega
      · go_wp2
        go_ret
        exact ⟨_, rfl, _, rfl⟩

set_option maxHeartbeats 2000000 in
theorem groups_any (a : Option Addr) (n c : Nat) (w : World) (h : Grps w a n c) : Calls Try.prog 6 #[.slice a n c] w (DrawsInt w) := by
  by_cases h1 : 1048576 < (n : Int)
  · go_enter Try.func6, Try.ntmps6
    go_wp2
    go_ret
    exact ⟨_, rfl, 0, rfl⟩
  · obtain ⟨hh, h⟩ := h
    clear hh
    go_enter Try.func6, Try.ntmps6
    go_wp2
    go_loopw [3, 13] (fun m i wr => ∃ (r : Int) (k q : Nat), k ≤ n ∧ m = .int .i64 r ∧ i = .int .i64 k ∧ wr = w.drewN q) (fun _ i _ => n - (intOf i).toNat)
    case atStart => exact ⟨_, 0, 0, Nat.zero_le _, rfl, rfl, rfl⟩
    case round =>
      obtain ⟨r, k, q, hk, rfl, rfl, rfl⟩ := hrel
      by_cases hlt : k < n
      · rcases h with rfl | ⟨b, o, rfl, hc⟩
        · omega
        · obtain ⟨⟨s0, hs0⟩, ⟨a1, n1, c1, ha1, hx1⟩⟩ := hc k hlt
          clear hc
          have hx1' := fun j => Vers.stays (Stays.drewN w j) hx1
          clear hx1
          go_wp2_with fail
          refine (add_any _ _ _).mono ?_
          rintro e w1 ⟨t0, rfl, hw⟩
          rw [hw]; clear hw
          go_wp2_with fail
          refine (vers_any _ _ _ _ (hx1' _)).mono ?_
          rintro e w1 ⟨q1, rfl, m1, hw⟩
          rw [hw, World.drewN_drewN]; clear hw
          go_wp2_with fail
          refine (add_any _ _ _).mono ?_
          rintro e w1 ⟨t1, rfl, hw⟩
          rw [hw]; clear hw
          by_cases hq : 1048576 < t1
          · go_wp2
            go_ret
            exact ⟨_, rfl, _, rfl⟩
          · go_wp2
            go_roundw
            case rel => exact ⟨t1, k + 1, _, by omega, rfl, by go_num, rfl⟩
            case measure => simp [intOf]; omega
      · go_wp2
        go_ret
        exact ⟨_, rfl, _, rfl⟩

end Go.Proofs.Qxb6603992a
