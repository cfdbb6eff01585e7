/- zzBytes of FnForeign (8): some answer; memory as it was. -/
import Derived.Test.Qxb6605157aBytes
namespace Go.Proofs.Qxb6605157a
open Go.RowKit Go.Deep

set_option maxRecDepth 100000 in
set_option maxHeartbeats 2000000 in
theorem bytes8 (s0 s1 s2 s4 : ByteArray) (z5 z6 : Int) (a : Option Addr) (n c : Nat) (T : List ByteArray) (w : World) (hn : T.length = n) (h : Src w a T) :
    Calls Try.prog 8 #[.string s0, .string s1, .string s2, .slice a n c, .string s4, .int .i64 z5, .int .i64 z6] w (GB w) := by
  have HN : Hid (T.length = n) := hn
  clear hn
  by_cases t0 : 1048576 < (s0.size : Int)
  · go_enter Try.func8, Try.ntmps8
    go_wp2
    go_ret
    exact ⟨_, rfl, rfl⟩
  by_cases t1 : 1048576 < (s1.size : Int)
  · go_enter Try.func8, Try.ntmps8
    go_wp2
    go_ret
    exact ⟨_, rfl, rfl⟩
  by_cases u1 : 1048576 < (s0.size : Int) + s1.size
  · go_enter Try.func8, Try.ntmps8
    go_wp2
    go_ret
    exact ⟨_, rfl, rfl⟩
  by_cases t2 : 1048576 < (s2.size : Int)
  · go_enter Try.func8, Try.ntmps8
    go_wp2
    go_ret
    exact ⟨_, rfl, rfl⟩
  by_cases u2 : 1048576 < (s0.size : Int) + s1.size + s2.size
  · go_enter Try.func8, Try.ntmps8
    go_wp2
    go_ret
    exact ⟨_, rfl, rfl⟩
  by_cases t3 : 1048576 < (n : Int)
  · go_enter Try.func8, Try.ntmps8
    go_wp2
    go_ret
    exact ⟨_, rfl, rfl⟩
  by_cases u3 : 1048576 < (s0.size : Int) + s1.size + s2.size + n
  · go_enter Try.func8, Try.ntmps8
    go_wp2
    go_ret
    exact ⟨_, rfl, rfl⟩
  go_enter Try.func8, Try.ntmps8
  go_wp2
  go_loop [15, 16] (fun z i => ∃ (k : Nat) (y : Int), k ≤ n ∧ i = .int .i64 k ∧ z = .int .i64 y) (fun _ i => n - (intOf i).toNat)
  case atStart => exact ⟨0, _, Nat.zero_le _, rfl, rfl⟩
  case round =>
    obtain ⟨k, y, hk, rfl, rfl⟩ := hrel
    clear t0 t1 t2 u1 u2 u3
    by_cases hlt : k < n
    · rcases h with rfl | ⟨b, o, rfl, hc⟩
      · have := HN.out; simp at this; omega
      have ck := hc k (by have := HN.out; omega)
      clear hc
      by_cases t0 : 1048576 < ((gs T k).size : Int)
      · go_wp2
        go_ret
        exact ⟨_, rfl, rfl⟩
      by_cases t1 : 1048576 < wrap64 (y + (gs T k).size)
      · go_wp2
        go_ret
        exact ⟨_, rfl, rfl⟩
      · go_wp2
        go_round
        case rel => exact ⟨k + 1, _, by omega, by go_num, rfl⟩
        case measure => simp [intOf]; omega
    · clear h
      by_cases t0 : 1048576 < (s4.size : Int)
      · go_wp2
        go_ret
        exact ⟨_, rfl, rfl⟩
      obtain ⟨y1, hy1⟩ : ∃ y1, wrap64 (y + s4.size) = y1 := ⟨_, rfl⟩
      by_cases t1 : 1048576 < y1
      · go_wp2
        go_ret
        exact ⟨_, rfl, rfl⟩
      · go_wp2
        go_ret
        exact ⟨_, rfl, rfl⟩
end Go.Proofs.Qxb6605157a
