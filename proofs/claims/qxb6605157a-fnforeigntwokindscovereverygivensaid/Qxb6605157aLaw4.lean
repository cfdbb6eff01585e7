/- The law FnForeignTwoKindsCoverEveryGiven (4). -/
import Derived.Test.Qxb6605157aGround
import Derived.Test.Qxb6605157aBytes8
namespace Go.Proofs.Qxb6605157a
open Go.RowKit Go.Deep

def HoldsF (w : World) (e : Ending) (w' : World) : Prop := e = .returned (.bool true) ∧ Below w.heap.size w w'

theorem isSome_of {x a : Option Addr} (h : x.isNone = a.isNone) : x.isSome = a.isSome := by cases x <;> cases a <;> simp_all

set_option maxRecDepth 100000 in
set_option maxHeartbeats 8000000 in
theorem law4 (s0 s1 s2 s4 : ByteArray) (z5 z6 : Int) (a : Option Addr) (n c : Nat) (T : List ByteArray) (w : World) (hn : T.length = n) (h : Src w a T) (hna : a = none → n = 0 ∧ c = 0) :
    Calls Try.prog 4 #[.string s0, .string s1, .string s2, .slice a n c, .string s4, .int .i64 z5, .int .i64 z6] w (HoldsF w) := by
  have HN : Hid (T.length = n) := hn
  have H0 : Hid (Src w a T ∧ (a = none → n = 0 ∧ c = 0)) := ⟨h, hna⟩
  clear hn h hna
  have HB := bytes8 s0 s1 s2 s4 z5 z6 a n c T w HN.out H0.out.1
  go_enter Try.func4, Try.ntmps4
  go_wp2_with fail
  refine HB.mono ?_
  rintro e w1 ⟨b0, rfl, hw⟩
  rw [hw]; clear hw HB
  cases b0
  · go_wp2
    go_ret
    exact ⟨rfl, Below.refl _ _⟩
  by_cases t0 : 65536 < (s0.size : Int)
  · go_wp2
    go_ret
    exact ⟨rfl, Below.refl _ _⟩
  by_cases t1 : 65536 < (s1.size : Int)
  · go_wp2
    go_ret
    exact ⟨rfl, Below.refl _ _⟩
  by_cases t2 : 65536 < (s2.size : Int)
  · go_wp2
    go_ret
    exact ⟨rfl, Below.refl _ _⟩
  by_cases t4 : 65536 < (s4.size : Int)
  · go_wp2
    go_ret
    exact ⟨rfl, Below.refl _ _⟩
  by_cases t3 : 65536 < (n : Int)
  · go_wp2
    go_ret
    exact ⟨rfl, Below.refl _ _⟩
  by_cases t5 : 1048576 < (s0.size : Int) + s1.size + s2.size + s4.size + 16 * n
  · go_wp2
    go_ret
    exact ⟨rfl, Below.refl _ _⟩
  go_wp2
  clear t0 t1 t2 t4 t5
  go_loop [15, 16] (fun z i => ∃ (k : Nat) (y : Int), k ≤ n ∧ i = .int .i64 k ∧ z = .int .i64 y) (fun _ i => n - (intOf i).toNat)
  case atStart => exact ⟨0, _, Nat.zero_le _, rfl, rfl⟩
  case round =>
    obtain ⟨k, y, hk, rfl, rfl⟩ := hrel
    by_cases hlt : k < n
    · rcases H0.out.1 with hT | ⟨b, o, rfl, hc⟩
      · have := HN.out; rw [hT] at this; simp at this; omega
      have ck := hc k (by have := HN.out; omega)
      clear hc
      by_cases t1 : 1048576 < wrap64 (y + (gs T k).size)
      · go_wp2
        go_ret
        exact ⟨rfl, Below.refl _ _⟩
      · go_wp2
        go_round
        case rel => exact ⟨k + 1, _, by omega, by go_num, rfl⟩
        case measure => simp [intOf]; omega
    · cases h56 : (z5 == z6)
      · have HNE : Hid (z5 ≠ z6) := by show z5 ≠ z6; simpa using h56
        go_wp2_with fail
        refine (clone9 a n c T w HN.out H0.out.2 (by omega) H0.out.1).mono ?_
        rintro e w1 ⟨x3, hx3, rfl, hb1, _⟩
        rw [HN.out]
        have B1 : Hid (Below w.heap.size w w1) := hb1
        clear hb1 hx3
        go_wp2_with fail
        refine (foreign10 s0 s1 s2 s4 x3 n n z5 w1).mono ?_
        rintro e w2 ⟨x5, m5, c5, rfl, hm5, hb2, sx5⟩
        have B2 : Hid (Below w.heap.size w w2) := B1.out.trans (hb2.mono B1.out.size)
        obtain ⟨g, hg⟩ : ∃ g, g = gv s1 s2 x3.isSome s4 := ⟨_, rfl⟩
        rw [← hg] at hm5 sx5
        have HG : Hid (g = gv s1 s2 x3.isSome s4) := hg
        have S5 : Hid (Src w2 x5 (Fl g z5 4) ∧ (Fl g z5 4).length = m5) := ⟨sx5, hm5⟩
        have l5 : m5 ≤ 4 := by rw [← hm5]; exact Fl_len _ _ _
        clear hb2 sx5 hm5 hg B1
        go_wp2_with fail
        refine (foreign10 s0 s1 s2 s4 x3 n n z6 w2).mono ?_
        rintro e w3 ⟨x6, m6, c6, rfl, hm6, hb3, sx6⟩
        have B3 : Hid (Below w.heap.size w w3) := B2.out.trans (hb3.mono B2.out.size)
        rw [← HG.out] at hm6 sx6
        have S6 : Hid (Src w3 x6 (Fl g z6 4) ∧ (Fl g z6 4).length = m6) := ⟨sx6, hm6⟩
        have S5' : Hid (Src w3 x5 (Fl g z5 4) ∧ (Fl g z5 4).length = m5) := ⟨S5.out.1.later hb3, S5.out.2⟩
        have l6 : m6 ≤ 4 := by rw [← hm6]; exact Fl_len _ _ _
        clear hb3 sx6 hm6 S5 B2
        go_wp2
        go_loop [19] (fun i => ∃ p : Nat, p ≤ m5 ∧ i = .int .i64 p) (fun i => m5 - (intOf i).toNat)
        case atStart => exact ⟨0, Nat.zero_le _, rfl⟩
        case round =>
          obtain ⟨p, hp, rfl⟩ := hrel
          by_cases hlt : p < m5
          · rcases S5'.out.1 with hT | ⟨b', o', rfl, hc⟩
            · have := S5'.out.2; rw [hT] at this; simp at this; omega
            have cp := hc p (by have := S5'.out.2; omega)
            obtain ⟨j, hj, ej⟩ := Fl_at g z5 (i := p) (by have := S5'.out.2; omega)
            rw [ej] at cp
            clear hc ej
            go_wp2_with fail
            refine (rank11 j w3 hj).mono ?_
            rintro e w4 ⟨z, rfl, hw⟩
            rw [hw]; clear hw
            go_wp2
            go_round
            case rel => exact ⟨p + 1, by omega, by go_num⟩
            case measure => simp [intOf]; omega
          · go_wp2
            go_loop [20] (fun i => ∃ p : Nat, p ≤ m6 ∧ i = .int .i64 p) (fun i => m6 - (intOf i).toNat)
            case atStart => exact ⟨0, Nat.zero_le _, rfl⟩
            case round =>
              obtain ⟨p, hp, rfl⟩ := hrel
              by_cases hlt : p < m6
              · rcases S6.out.1 with hT | ⟨b', o', rfl, hc⟩
                · have := S6.out.2; rw [hT] at this; simp at this; omega
                have cp := hc p (by have := S6.out.2; omega)
                obtain ⟨j, hj, ej⟩ := Fl_at g z6 (i := p) (by have := S6.out.2; omega)
                rw [ej] at cp
                clear hc ej
                go_wp2_with fail
                refine (rank11 j w3 hj).mono ?_
                rintro e w4 ⟨z, rfl, hw⟩
                rw [hw]; clear hw
                go_wp2
                go_round
                case rel => exact ⟨p + 1, by omega, by go_num⟩
                case measure => simp [intOf]; omega
              · go_wp2
                go_loop [21] (fun i => ∃ j : Nat, j ≤ 4 ∧ i = .int .i64 j) (fun i => 4 - (intOf i).toNat)
                case atStart => exact ⟨0, Nat.zero_le _, rfl⟩
                case round =>
                  obtain ⟨j, hj, rfl⟩ := hrel
                  by_cases hlt : j < 4
                  · have e5 := has_Fl g z5 hlt
                    have e6 := has_Fl g z6 hlt
                    go_wp2_with fail
                    refine (name12 j w3 hlt).mono ?_
                    rintro e w4 ⟨rfl, hw⟩
                    rw [hw]; clear hw
                    go_wp2_with fail
                    refine (has13 x5 m5 c5 (Fl g z5 4) (nm j) w3 S5'.out.2 (by omega) S5'.out.1).mono ?_
                    rintro e w4 ⟨rfl, hw⟩
                    rw [hw, e5]; clear hw e5
                    go_wp2_with fail
                    refine (has13 x6 m6 c6 (Fl g z6 4) (nm j) w3 S6.out.2 (by omega) S6.out.1).mono ?_
                    rintro e w4 ⟨rfl, hw⟩
                    rw [hw, e6]; clear hw e6
                    have hnb : ¬ ((kn j == z5) = true ∧ (kn j == z6) = true) := by
                      rintro ⟨h1, h2⟩
                      have h1 := eq_of_beq h1
                      have h2 := eq_of_beq h2
                      exact HNE.out (h1.symm.trans h2)
                    cases hg : g j <;> cases h5 : (kn j == z5) <;> cases h6 : (kn j == z6)
                    · clear hnb
                      have h5' : (kn j != z5) = !(kn j == z5) := rfl
                      have h6' : (kn j != z6) = !(kn j == z6) := rfl
                      rw [h5', h6', h5, h6]
                      clear h5' h6'
                      simp only [Bool.not_false, Bool.and_true]
                      go_wp2_with fail
                      refine (given14 j s1 s2 s4 x3 n n w3 hlt).mono ?_
                      rintro e w4 ⟨rfl, hw⟩
                      rw [hw, ← HG.out, hg]; clear hw
                      go_wp2_with fail
                      refine (kind15 j w3 hlt).mono ?_
                      rintro e w4 ⟨rfl, hw⟩
                      rw [hw]; clear hw
                      go_wp2_with fail
                      refine (kind15 j w3 hlt).mono ?_
                      rintro e w4 ⟨rfl, hw⟩
                      rw [hw]; clear hw
                      go_wp2
                      go_round
                      case rel => exact ⟨j + 1, by omega, by go_num⟩
                      case measure => simp [intOf]; omega
                    · clear hnb
                      have h5' : (kn j != z5) = !(kn j == z5) := rfl
                      have h6' : (kn j != z6) = !(kn j == z6) := rfl
                      rw [h5', h6', h5, h6]
                      clear h5' h6'
                      simp only [Bool.not_true, Bool.not_false, Bool.and_true, Bool.and_false]
                      go_wp2_with fail
                      refine (given14 j s1 s2 s4 x3 n n w3 hlt).mono ?_
                      rintro e w4 ⟨rfl, hw⟩
                      rw [hw, ← HG.out, hg]; clear hw
                      go_wp2_with fail
                      refine (kind15 j w3 hlt).mono ?_
                      rintro e w4 ⟨rfl, hw⟩
                      rw [hw]; clear hw
                      go_wp2_with fail
                      refine (kind15 j w3 hlt).mono ?_
                      rintro e w4 ⟨rfl, hw⟩
                      rw [hw]; clear hw
                      go_wp2
                      go_round
                      case rel => exact ⟨j + 1, by omega, by go_num⟩
                      case measure => simp [intOf]; omega
                    · clear hnb
                      have h5' : (kn j != z5) = !(kn j == z5) := rfl
                      have h6' : (kn j != z6) = !(kn j == z6) := rfl
                      rw [h5', h6', h5, h6]
                      clear h5' h6'
                      simp only [Bool.not_true, Bool.not_false, Bool.and_true, Bool.and_false]
                      go_wp2_with fail
                      refine (given14 j s1 s2 s4 x3 n n w3 hlt).mono ?_
                      rintro e w4 ⟨rfl, hw⟩
                      rw [hw, ← HG.out, hg]; clear hw
                      go_wp2_with fail
                      refine (kind15 j w3 hlt).mono ?_
                      rintro e w4 ⟨rfl, hw⟩
                      rw [hw]; clear hw
                      go_wp2_with fail
                      refine (kind15 j w3 hlt).mono ?_
                      rintro e w4 ⟨rfl, hw⟩
                      rw [hw]; clear hw
                      go_wp2
                      go_round
                      case rel => exact ⟨j + 1, by omega, by go_num⟩
                      case measure => simp [intOf]; omega
                    · exact absurd ⟨h5, h6⟩ hnb
                    · clear hnb
                      have h5' : (kn j != z5) = !(kn j == z5) := rfl
                      have h6' : (kn j != z6) = !(kn j == z6) := rfl
                      rw [h5', h6', h5, h6]
                      clear h5' h6'
                      simp only [Bool.not_false, Bool.and_true]
                      go_wp2_with fail
                      refine (given14 j s1 s2 s4 x3 n n w3 hlt).mono ?_
                      rintro e w4 ⟨rfl, hw⟩
                      rw [hw, ← HG.out, hg]; clear hw
                      go_wp2_with fail
                      refine (kind15 j w3 hlt).mono ?_
                      rintro e w4 ⟨rfl, hw⟩
                      rw [hw]; clear hw
                      go_wp2_with fail
                      refine (kind15 j w3 hlt).mono ?_
                      rintro e w4 ⟨rfl, hw⟩
                      rw [hw]; clear hw
                      go_wp2
                      go_round
                      case rel => exact ⟨j + 1, by omega, by go_num⟩
                      case measure => simp [intOf]; omega
                    · clear hnb
                      have h5' : (kn j != z5) = !(kn j == z5) := rfl
                      have h6' : (kn j != z6) = !(kn j == z6) := rfl
                      rw [h5', h6', h5, h6]
                      clear h5' h6'
                      simp only [Bool.not_true, Bool.not_false, Bool.and_true, Bool.and_false]
                      go_wp2_with fail
                      refine (given14 j s1 s2 s4 x3 n n w3 hlt).mono ?_
                      rintro e w4 ⟨rfl, hw⟩
                      rw [hw, ← HG.out, hg]; clear hw
                      go_wp2_with fail
                      refine (kind15 j w3 hlt).mono ?_
                      rintro e w4 ⟨rfl, hw⟩
                      rw [hw]; clear hw
                      go_wp2_with fail
                      refine (kind15 j w3 hlt).mono ?_
                      rintro e w4 ⟨rfl, hw⟩
                      rw [hw]; clear hw
                      go_wp2
                      go_round
                      case rel => exact ⟨j + 1, by omega, by go_num⟩
                      case measure => simp [intOf]; omega
                    · clear hnb
                      have h5' : (kn j != z5) = !(kn j == z5) := rfl
                      have h6' : (kn j != z6) = !(kn j == z6) := rfl
                      rw [h5', h6', h5, h6]
                      clear h5' h6'
                      simp only [Bool.not_true, Bool.not_false, Bool.and_true, Bool.and_false]
                      go_wp2_with fail
                      refine (given14 j s1 s2 s4 x3 n n w3 hlt).mono ?_
                      rintro e w4 ⟨rfl, hw⟩
                      rw [hw, ← HG.out, hg]; clear hw
                      go_wp2_with fail
                      refine (kind15 j w3 hlt).mono ?_
                      rintro e w4 ⟨rfl, hw⟩
                      rw [hw]; clear hw
                      go_wp2_with fail
                      refine (kind15 j w3 hlt).mono ?_
                      rintro e w4 ⟨rfl, hw⟩
                      rw [hw]; clear hw
                      go_wp2
                      go_round
                      case rel => exact ⟨j + 1, by omega, by go_num⟩
                      case measure => simp [intOf]; omega
                    · exact absurd ⟨h5, h6⟩ hnb
                  · go_wp2
                    go_ret
                    exact ⟨rfl, B3.out⟩
      · go_wp2
        go_ret
        exact ⟨rfl, Below.refl _ _⟩
end Go.Proofs.Qxb6605157a
