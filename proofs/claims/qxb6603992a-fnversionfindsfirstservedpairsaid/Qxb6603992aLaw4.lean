/- The walk of FnVersionFindsFirstServedPair (4). -/
import Derived.Test.Qxb6603992aFind2
import Derived.Test.Qxb6603992aChk4
import Derived.Test.Qxb6603992aBytes2
import Derived.LaidEqlPtr
namespace Go.Proofs.Qxb6603992a
open Go.RowKit

theorem same_ptr (a : Addr) (w : World) : (binOp .eql 46 (.pointer (some a)) (.pointer (some a))).run Try.prog w = .ok (.bool true) w := by
  obtain ⟨i, hi, _⟩ := Option.map_eq_some_iff.1 Try.info43
  exact run_eql_ptr_same w a Try.underlying46 hi

def True4 (w : World) (e : Ending) (w' : World) : Prop := e = .returned (.bool true) ∧ Below w.heap.size w w'
theorem below_drewN (w : World) (n : Nat) : Below w.heap.size w (w.drewN n) := by
  refine ⟨rfl, rfl, rfl, Nat.le_refl _, fun _ _ => rfl⟩

set_option maxRecDepth 100000 in
set_option maxHeartbeats 2000000 in
theorem walk4 (a : Option Addr) (n c : Nat) (g v : ByteArray) (w : World) (h : Grps w a n c) : Calls Try.prog 4 #[.slice a n c, .string g, .string v] w (True4 w) := by
  go_enter Try.func4, Try.ntmps4
  go_wp2_with fail
  refine (Ck.bytes11 a n c g v w h).mono ?_
  rintro e w1 ⟨b, rfl, hw⟩
  rw [hw]; clear hw
  cases b with
  | false =>
    go_wp2
    go_ret
    exact ⟨rfl, Below.refl _ _⟩
  | true =>
    by_cases hg : 65536 < (g.size : Int)
    · go_wp2
      go_ret
      exact ⟨rfl, Below.refl _ _⟩
    by_cases hv : 65536 < (v.size : Int)
    · go_wp2
      go_ret
      exact ⟨rfl, Below.refl _ _⟩
    have H : Hid (Grps w a n c) := h
    clear h
    go_wp2_with fail
    refine (groups_any a n c w H.out).mono ?_
    rintro e w1 ⟨r, rfl, m, hw⟩
    rw [hw]; clear hw
    go_wp2_with fail
    refine (add_any _ _ _).mono ?_
    rintro e w1 ⟨r1, rfl, hw⟩
    rw [hw]; clear hw
    go_wp2_with fail
    refine (add_any _ _ _).mono ?_
    rintro e w1 ⟨r2, rfl, hw⟩
    rw [hw]; clear hw
    by_cases hr : 1048576 < r2
    · go_wp2
      go_ret
      exact ⟨rfl, below_drewN _ _⟩
    go_wp2_with fail
    refine (wireGroups_any a n c (w.drewN m) (H.out.stays (Stays.drewN w m))).mono ?_
    rintro e w1 ⟨a', n', c', rfl, hb, hW⟩
    have HB : Hid (Below w.heap.size w w1) := (below_drewN w m).trans hb
    have HW : Hid (WGrps w1 a' n') := hW
    clear H hb hW
    go_wp2_with fail
    refine (newSurface_any a' n' c' w1).mono ?_
    rintro e w2 ⟨rfl, hw2⟩
    have HB2 : Hid (Below w1.heap.size w1 w2) := by rw [hw2]; exact (Below.refl _ _).alloc (Nat.le_refl _) _
    have HW2 : Hid (WGrps w2 a' n') := HW.out.stays (Stays.of_below HB2.out)
    have hc2 : w2.cell? ⟨w1.heap.size, 0, none⟩ = some (.slice a' n' c') := by rw [hw2]; simp
    clear HW hw2
    go_wp2_with fail
    refine (zzVersion_any _ _ a' n' c' g v w2 HW2.out hc2).mono ?_
    rintro e w3 ⟨hw, hp⟩
    rw [hw]; clear hw
    rcases hp with ⟨rfl, hN⟩ | ⟨gi, vi, av, nv, cv, b, o, hP, rfl, rfl⟩
    · have HN : Hid (NoPair w2 a' n' g v) := hN
      clear hN
      go_wp2_with fail
      refine (findPair_any a' n' c' g v w2 HW2.out).mono ?_
      rintro e w3 ⟨hw, x, y, rfl, ⟨rfl, _⟩ | ⟨gi, vi, av, nv, cv, rfl, rfl, hP⟩⟩
      · rw [hw]; clear hw
        go_wp2
        go_ret
        exact ⟨rfl, bstep HB.out HB2.out⟩
      · exact (hP.no HN.out).elim
    · have HP : Hid (Pair w2 a' n' g v gi vi (some ⟨b, o, none⟩) nv cv) := hP
      clear hP
      go_wp2_with fail
      refine (findPair_any a' n' c' g v w2 HW2.out).mono ?_
      rintro e w3 ⟨hw, x, y, rfl, ⟨rfl, hN⟩ | ⟨gi', vi', av, nv', cv', rfl, rfl, hP⟩⟩
      · exact (HP.out.no hN).elim
      · rw [hw]; clear hw
        obtain ⟨rfl, rfl, rfl⟩ := HP.out.one hP
        clear hP
        obtain ⟨⟨h1, _, _⟩, ⟨b', o', rfl, h2⟩, ⟨h3, _, _⟩⟩ := HP.out
        clear HP
        have hsame := same_ptr ⟨b, o + vi * 3, none⟩
        go_wp2
        go_ret
        exact ⟨rfl, bstep HB.out HB2.out⟩
end Go.Proofs.Qxb6603992a
