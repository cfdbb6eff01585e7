/- The small functions of FnForeign: groundFieldName (12), groundFieldKind (15), groundFieldGiven (14), groundFieldRank (11), ZZGroundForeign (10). -/
import Derived.Test.Qxb6605157aForeign
namespace Go.Proofs.Qxb6605157a
open Go.RowKit Go.Deep

def SaysStr (w : World) (s : ByteArray) (e : Ending) (w' : World) : Prop := e = .returned (.string s) ∧ w' = w
def SaysInt (w : World) (z : Int) (e : Ending) (w' : World) : Prop := e = .returned (.int .i64 z) ∧ w' = w
def SaysNonneg (w : World) (e : Ending) (w' : World) : Prop := ∃ z : Nat, e = .returned (.int .i64 z) ∧ w' = w

set_option maxRecDepth 100000 in
theorem name12 (j : Nat) (w : World) (h4 : j < 4) : Calls Try.prog 12 #[.int .i64 j] w (SaysStr w (nm j)) := by
  rcases j with _ | _ | _ | _ | j
  · go_enter Try.func12, Try.ntmps12
    go_wp2
    go_ret
    exact ⟨rfl, rfl⟩
  · go_enter Try.func12, Try.ntmps12
    go_wp2
    go_ret
    exact ⟨rfl, rfl⟩
  · go_enter Try.func12, Try.ntmps12
    go_wp2
    go_ret
    exact ⟨rfl, rfl⟩
  · go_enter Try.func12, Try.ntmps12
    go_wp2
    go_ret
    exact ⟨rfl, rfl⟩
  · omega

set_option maxRecDepth 100000 in
theorem kind15 (j : Nat) (w : World) (h4 : j < 4) : Calls Try.prog 15 #[.int .i64 j] w (SaysInt w (kn j)) := by
  rcases j with _ | _ | _ | _ | j
  · go_enter Try.func15, Try.ntmps15
    go_wp2
    go_ret
    exact ⟨rfl, rfl⟩
  · go_enter Try.func15, Try.ntmps15
    go_wp2
    go_ret
    exact ⟨rfl, rfl⟩
  · go_enter Try.func15, Try.ntmps15
    go_wp2
    go_ret
    exact ⟨rfl, rfl⟩
  · go_enter Try.func15, Try.ntmps15
    go_wp2
    go_ret
    exact ⟨rfl, rfl⟩
  · omega

set_option maxRecDepth 100000 in
theorem given14 (j : Nat) (s1 s2 s4 : ByteArray) (a : Option Addr) (n c : Nat) (w : World) (h4 : j < 4) : Calls Try.prog 14 #[.int .i64 j, .string s1, .string s2, .slice a n c, .string s4] w (SaysBool w (gv s1 s2 a.isSome s4 j)) := by
  have hnil := run_neq_nil a n c
  rcases j with _ | _ | _ | _ | j
  · go_enter Try.func14, Try.ntmps14
    go_wp2
    go_ret
    exact ⟨rfl, rfl⟩
  · go_enter Try.func14, Try.ntmps14
    go_wp2
    go_ret
    exact ⟨rfl, rfl⟩
  · go_enter Try.func14, Try.ntmps14
    go_wp2
    go_ret
    exact ⟨rfl, rfl⟩
  · go_enter Try.func14, Try.ntmps14
    go_wp2
    go_ret
    exact ⟨rfl, rfl⟩
  · omega

set_option maxRecDepth 100000 in
set_option maxHeartbeats 1000000 in
theorem rank11 (j : Nat) (w : World) (h4 : j < 4) : Calls Try.prog 11 #[.string (nm j)] w (SaysNonneg w) := by
  obtain ⟨s, hs⟩ : ∃ s, s = nm j := ⟨_, rfl⟩
  rw [← hs]
  have HS : Hid (s = nm j) := hs
  clear hs
  go_enter Try.func11, Try.ntmps11
  go_wp2
  go_loop [3] (fun i => ∃ m : Nat, m ≤ j ∧ i = .int .i64 m) (fun i => 4 - (intOf i).toNat)
  case atStart => exact ⟨0, Nat.zero_le _, rfl⟩
  case round =>
    obtain ⟨m, hm, rfl⟩ := hrel
    have hm4 : m < 4 := by omega
    go_wp2_with fail
    refine (name12 m w hm4).mono ?_
    rintro e w1 ⟨rfl, hw⟩
    rw [hw]; clear hw
    cases he : ((nm m).toList == s.toList)
    · have hne : m ≠ j := fun e => by
        rw [HS.out, e] at he
        simp at he
      go_wp2
      go_round
      case rel => exact ⟨m + 1, by omega, by go_num⟩
      case measure => simp [intOf]; omega
    · go_wp2
      go_ret
      exact ⟨m, rfl, rfl⟩

set_option maxRecDepth 100000 in
theorem foreign10 (s0 s1 s2 s4 : ByteArray) (a : Option Addr) (n c : Nat) (k : Int) (w : World) :
    Calls Try.prog 10 #[.string s0, .string s1, .string s2, .slice a n c, .string s4, .int .i64 k] w (GivesF w (Fl (gv s1 s2 a.isSome s4) k 4)) := by
  go_enter Try.func10, Try.ntmps10
  go_wp2_with fail
  refine (foreign20 s0 s1 s2 s4 a n c k w).mono ?_
  rintro e w1 ⟨x, m, c', rfl, h1, h2, h3⟩
  have H : Hid ((Fl (gv s1 s2 a.isSome s4) k 4).length = m ∧ Below w.heap.size w w1 ∧ Src w1 x (Fl (gv s1 s2 a.isSome s4) k 4)) := ⟨h1, h2, h3⟩
  clear h1 h2 h3
  go_wp2
  go_ret
  exact ⟨_, _, _, rfl, H.out⟩

/-! ### The plain law -/
theorem nm_eq : ∀ a b : Nat, a < 4 → b < 4 → ((nm a).toList == (nm b).toList) = decide (a = b) := by
  intro a b ha hb
  rw [ByteArray.toList_eq, ByteArray.toList_eq]
  rcases a with _ | _ | _ | _ | a <;> rcases b with _ | _ | _ | _ | b <;> first | rfl | omega
theorem has_Fl (g : Nat → Bool) (k : Int) {j : Nat} (h : j < 4) : has (Fl g k 4) (nm j) = (g j && (kn j != k)) := by
  have e : has (Fl g k 4) (nm j) = (List.range 4).any fun i => (g i && (kn i != k)) && decide (j = i) := by
    unfold has Fl
    rw [List.any_map, List.any_filter]
    apply Bool.eq_iff_iff.2
    simp only [List.any_eq_true, List.mem_range, Function.comp, Bool.and_eq_true]
    constructor
    · rintro ⟨i, hi, h1, h2⟩
      rw [nm_eq j i h hi] at h2
      exact ⟨i, hi, h1, h2⟩
    · rintro ⟨i, hi, h1, h2⟩
      exact ⟨i, hi, h1, by rw [nm_eq j i h hi]; exact h2⟩
  rw [e]
  cases hx : (g j && (kn j != k))
  · rw [List.any_eq_false]
    intro i _ hh
    simp only [Bool.and_eq_true, decide_eq_true_eq] at hh
    obtain ⟨⟨h1, h2⟩, rfl⟩ := hh
    rw [h1, h2] at hx
    cases hx
  · rw [List.any_eq_true]
    exact ⟨j, by simpa using h, by rw [hx]; simp⟩
theorem Fl_at (g : Nat → Bool) (k : Int) {i : Nat} (h : i < (Fl g k 4).length) : ∃ j, j < 4 ∧ gs (Fl g k 4) i = nm j := by
  have := List.getElem_mem h
  rw [← gs_eq h] at this
  unfold Fl at this
  obtain ⟨j, hj, e⟩ := List.mem_map.1 this
  exact ⟨j, by simpa using (List.mem_filter.1 hj).1, e.symm⟩
end Go.Proofs.Qxb6605157a
