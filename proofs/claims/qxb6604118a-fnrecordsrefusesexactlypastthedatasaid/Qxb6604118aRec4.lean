/- The law FnRecordsRefusesExactlyPastTheData (3). -/
import Derived.Test.Qxb6604118aRec3
namespace Go.Proofs.Qxb6604118a
open Go.RowKit Go.Deep Pl
namespace Rec

theorem Src.later {w w' : World} {a : Option Addr} {X : List Int} (h : Src w a X) (hb : Below w.heap.size w w') : Src w' a X :=
  h.imp id fun ⟨b, o, e, f⟩ => ⟨b, o, e, fun i hi => (hb.cell (p := ⟨b, o + i, none⟩) (World.block_lt_of_cell? w _ (f i hi))).trans (f i hi)⟩
theorem gt_take {X : List Int} {k i : Nat} (h : i < k) : gt (X.take k) i = gt X i := by
  unfold gt; rw [List.getD, List.getD, List.getElem?_take_of_lt h]
theorem gt_drop {X : List Int} {k i : Nat} : gt (X.drop k) i = gt X (k + i) := by
  unfold gt; rw [List.getD, List.getD, List.getElem?_drop]
theorem Src.take {w : World} {a : Option Addr} {X : List Int} (h : Src w a X) (k : Nat) : Src w a (X.take k) := by
  rcases h with rfl | ⟨b, o, e, f⟩
  · exact .inl (by simp)
  · exact .inr ⟨b, o, e, fun i hi => by
      simp at hi
      rw [gt_take (by omega)]; exact f i (by omega)⟩
theorem Src.drop {w : World} {b : Nat} {X : List Int} (h : Src w (some ⟨b, 0, none⟩) X) (k : Nat) : Src w (some ⟨b, k, none⟩) (X.drop k) := by
  rcases h with rfl | ⟨b', o, e, f⟩
  · exact .inl (by simp)
  · simp only [Option.some.injEq, Addr.mk.injEq] at e
    obtain ⟨rfl, rfl, _⟩ := e
    exact .inr ⟨b, k, rfl, fun i hi => by
      simp at hi
      rw [gt_drop]; simpa using f (k + i) (by omega)⟩

/-- A slice of the call's own, its make told. -/
theorem Own.shape {w : World} {lo : Nat} {v : Value} {X : List Int} {nil : Bool} (h : Own w lo v X nil) :
    ∃ x, v = .slice x X.length X.length ∧ x.isNone = nil ∧ Src w x X ∧ ((x = none ∧ X.length = 0) ∨ ∃ B, x = some ⟨B, 0, none⟩) := by
  rcases h with ⟨rfl, rfl, rfl⟩ | ⟨rfl, B, _, rfl, hB⟩
  · exact ⟨none, rfl, rfl, .inl rfl, .inl ⟨rfl, rfl⟩⟩
  · exact ⟨_, rfl, rfl, .inr ⟨B, 0, rfl, fun i hi => by rw [Nat.zero_add]; exact hB.cell hi⟩, .inr ⟨B, rfl⟩⟩

def RHolds (w : World) (e : Ending) (w' : World) : Prop := e = .returned (.bool true) ∧ Below w.heap.size w w'

theorem below_drewN' (w : World) (q lo : Nat) : Below lo w (w.drewN q) := ⟨rfl, rfl, rfl, Nat.le_refl _, fun _ _ => rfl⟩

set_option maxRecDepth 100000 in
set_option maxHeartbeats 4000000 in
theorem law3 (a0 : Option Addr) (L C : Nat) (b : Bool) (n s : Nat) (X : List Int) (w : World) (hL : X.length = L) (h0 : Src w a0 X) (n0 : a0 = none → L = 0 ∧ C = 0) (hn6 : n < 18446744073709551616) (hs6 : s < 18446744073709551616) :
    Calls Try.prog 3 #[.slice a0 L C, .bool b, .int .u64 n, .int .u64 s] w (RHolds w) := by
  have HN : Hid (X.length = L) := hL
  have H0 : Hid (Src w a0 X ∧ (a0 = none → L = 0 ∧ C = 0)) := ⟨h0, n0⟩
  clear hL h0 n0
  have HB5 := bytes5_any a0 L C b n s w
  go_enter Try.func3, Try.ntmps3
  go_wp2_with fail
  refine HB5.mono ?_
  rintro e w1 ⟨b5, rfl, hw⟩
  rw [hw]; clear hw HB5
  cases b5
  · go_wp2
    go_ret
    exact ⟨rfl, Below.refl _ _⟩
  by_cases g1 : 1048576 < L
  · go_wp2
    go_ret
    exact ⟨rfl, Below.refl _ _⟩
  by_cases g2 : s = 0
  · subst g2
    go_wp2
    go_ret
    exact ⟨rfl, Below.refl _ _⟩
  have g2' : ((s : Int) == 0) = false := by simp; omega
  go_wp2_with fail
  refine (clone_any a0 L C X w HN.out H0.out.2 (by omega) H0.out.1).mono ?_
  rintro e w1 ⟨v0, rfl, hb1, hv0⟩
  obtain ⟨x0, rfl, hx0, sx0, kx0⟩ := hv0.shape
  rw [HN.out] at kx0 ⊢
  have B1 : Hid (Below w.heap.size w w1) := hb1
  have S0 : Hid (Src w1 x0 X) := sx0
  have HX0 : Hid ((x0 = none ∧ L = 0) ∨ ∃ B, x0 = some ⟨B, 0, none⟩) := kx0
  clear hb1 hv0 sx0 kx0 hx0
  go_wp2_with fail
  refine (clone_any x0 L L X w1 HN.out (fun e => by
    rcases HX0.out with ⟨_, h⟩ | ⟨B, h⟩
    · exact ⟨h, h⟩
    · rw [h] at e; cases e) (by omega) S0.out).mono ?_
  rintro e w2 ⟨v9, rfl, hb2, hv9⟩
  obtain ⟨x9, rfl, hx9, sx9, kx9⟩ := hv9.shape
  rw [HN.out] at kx9 ⊢
  have B2 : Hid (Below w.heap.size w w2) := B1.out.trans (hb2.mono B1.out.size)
  have S0' : Hid (Src w2 x0 X) := S0.out.later hb2
  have S9 : Hid (Src w2 x9 X) := sx9
  have HX9 : Hid ((x9 = none ∧ L = 0) ∨ ∃ B, x9 = some ⟨B, 0, none⟩) := kx9
  have H09 : Hid (x9.isNone = x0.isNone) := hx9
  clear hb2 hv9 sx9 kx9 hx9 S0 B1
  go_wp2_with fail
  refine (new7 x0 L L b w2).mono ?_
  rintro e w3 ⟨rfl, hw3⟩
  have c0 : w3.cell? ⟨w2.heap.size, 0, none⟩ = some (.slice x0 L L) := by rw [hw3]; simp
  have c1 : w3.cell? ⟨w2.heap.size, 1, none⟩ = some (.bool b) := by rw [hw3]; simp
  have f0 : w3.frozen? ⟨w2.heap.size, 0, none⟩ = false := by rw [hw3]; simp
  have f1 : w3.frozen? ⟨w2.heap.size, 1, none⟩ = false := by rw [hw3]; simp
  have BA : Hid (Below w2.heap.size w2 w3) := by rw [hw3]; exact (Below.refl _ _).alloc (Nat.le_refl _) _
  obtain ⟨R, hR⟩ : ∃ R, R = w2.heap.size := ⟨_, rfl⟩
  rw [← hR] at c0 c1 f0 f1 ⊢
  have HR : Hid (w2.heap.size ≤ R) := by show _ ≤ _; omega
  clear hw3 hR
  obtain ⟨Z, hZ⟩ : ∃ Z, Z = n * s := ⟨_, rfl⟩
  by_cases hz : L < Z
  · go_wp2_with fail
    refine (records8 (P := fun v w' => v = .slice none 0 0 ∧ w' = w3.setCell ⟨R, 1, none⟩ (.bool true)) ((records18_no R x0 n s L b w3 (by omega) hs6 (by rw [← hZ]; exact hz) (by omega) c0 c1 f1).mono ?_)).mono ?_
    · rintro e w' ⟨rfl, rfl⟩
      exact ⟨_, rfl, rfl, rfl⟩
    rintro e w4 ⟨v, rfl, rfl, hw4⟩
    have d0 : w4.cell? ⟨R, 0, none⟩ = some (.slice x0 L L) := by rw [hw4, World.cell?_setCell_other _ _ _ _ (fun e => by simp only [Addr.mk.injEq] at e; omega)]; exact c0
    have d1 : w4.cell? ⟨R, 1, none⟩ = some (.bool true) := by rw [hw4]; exact World.cell?_setCell_same _ _ _ c1
    have BB : Hid (Below w2.heap.size w2 w4) := by rw [hw4]; exact BA.out.setCell HR.out _
    clear hw4 c0 c1 f0 f1 BA
    go_wp2_with fail
    refine (state9 R x0 L L true w4 d0 d1).mono ?_
    rintro e w5 ⟨rfl, q5, hw5⟩
    have BC : Hid (Below w2.heap.size w2 w5) := by rw [hw5]; exact BB.out.trans (below_drewN' _ _ _)
    clear hw5 BB d0 d1
    go_wp2_with fail
    refine (mul10 n s w5 hn6 hs6).mono ?_
    rintro e w6 ⟨rfl, hw6⟩
    rw [hw6, ← hZ]; clear hw6
    obtain ⟨g, hg⟩ : ∃ g, g = Z / 18446744073709551616 := ⟨_, rfl⟩
    obtain ⟨l, hl⟩ : ∃ l, l = Z % 18446744073709551616 := ⟨_, rfl⟩
    rw [← hg, ← hl]
    have HT : Hid (((g : Int) != 0) = true ∨ (((g : Int) != 0) = false ∧ L < l)) := by
      by_cases hg0 : g = 0
      · exact .inr ⟨by simp [hg0], by omega⟩
      · exact .inl (by simp; omega)
    have hnil : ∀ W, (binOp .eql 22 (.slice none 0 0) (.slice none 0 0)).run Try.prog W = .ok (.bool true) W := fun W => Lib.run_eql_slice_nil W 22 5 none 0 0 0 0 Try.underlying22
    clear hg hl hZ hz
    rcases HT.out with t1 | ⟨t1, t2⟩
    · go_wp2_with fail
      refine (same11 x0 x9 L L L X w5 H09.out.symm HN.out (by omega) (S0'.out.later BC.out) (S9.out.later BC.out)).mono ?_
      rintro e w7 ⟨rfl, q7, hw7⟩
      have BD : Hid (Below w.heap.size w w7) := by rw [hw7]; exact (B2.out.trans (BC.out.mono B2.out.size)).trans (below_drewN' _ _ _)
      clear hw7 hnil
      go_wp2
      go_ret
      exact ⟨rfl, BD.out⟩
    · go_wp2_with fail
      refine (same11 x0 x9 L L L X w5 H09.out.symm HN.out (by omega) (S0'.out.later BC.out) (S9.out.later BC.out)).mono ?_
      rintro e w7 ⟨rfl, q7, hw7⟩
      have BD : Hid (Below w.heap.size w w7) := by rw [hw7]; exact (B2.out.trans (BC.out.mono B2.out.size)).trans (below_drewN' _ _ _)
      clear hw7 hnil
      go_wp2
      go_ret
      exact ⟨rfl, BD.out⟩
  · have hz' : Z ≤ L := by omega
    go_wp2_with fail
    refine (records8 (P := fun v w' => Took w3 R x0 Z L (.returned v) w') ((records18_yes R x0 n s L w3 HX0.out (by omega) hs6 (by rw [← hZ]; exact hz') (by omega) c0 f0).mono ?_)).mono ?_
    · rintro e w' ⟨rfl, h⟩
      rw [← hZ] at h ⊢
      exact ⟨_, rfl, rfl, h⟩
    rintro e w4 ⟨v, rfl, hv, a', ha', ha2, hw4⟩
    obtain rfl := Ending.returned.inj hv
    have d0 : w4.cell? ⟨R, 0, none⟩ = some (.slice a' (L - Z) (L - Z)) := by rw [hw4]; exact World.cell?_setCell_same _ _ _ c0
    have d1 : w4.cell? ⟨R, 1, none⟩ = some (.bool b) := by rw [hw4, World.cell?_setCell_other _ _ _ _ (fun e => by simp only [Addr.mk.injEq] at e; omega)]; exact c1
    have BB : Hid (Below w2.heap.size w2 w4) := by rw [hw4]; exact BA.out.setCell HR.out _
    have HT : Hid (a'.isNone = x0.isNone ∧ (Z < L → ∀ b, x0 = some ⟨b, 0, none⟩ → a' = some ⟨b, Z, none⟩)) := ⟨ha', ha2⟩
    clear hw4 c0 c1 f0 f1 BA hv ha' ha2
    go_wp2_with fail
    refine (state9 R a' (L - Z) (L - Z) b w4 d0 d1).mono ?_
    rintro e w5 ⟨rfl, q5, hw5⟩
    have BC : Hid (Below w2.heap.size w2 w5) := by rw [hw5]; exact BB.out.trans (below_drewN' _ _ _)
    clear hw5 BB d0 d1
    go_wp2_with fail
    refine (mul10 n s w5 hn6 hs6).mono ?_
    rintro e w6 ⟨rfl, hw6⟩
    rw [hw6, ← hZ]; clear hw6
    rw [show Z / 18446744073709551616 = 0 by omega, show Z % 18446744073709551616 = Z by omega]
    have S7 : Hid (Src w5 x0 (X.take Z) ∧ Src w5 x9 (X.take Z) ∧ (X.take Z).length = Z) := ⟨(S0'.out.later BC.out).take Z, (S9.out.later BC.out).take Z, by simp; have := HN.out; omega⟩
    have S8 : Hid (Src w5 a' (X.drop Z) ∧ (X.drop Z).length = L - Z) := ⟨by
      by_cases hzl : Z < L
      · rcases HX0.out with ⟨_, h⟩ | ⟨B, h⟩
        · omega
        · rw [HT.out.2 hzl B h]
          exact Src.drop (by rw [← h]; exact S0'.out.later BC.out) Z
      · exact .inl (List.drop_of_length_le (by have := HN.out; omega)), by simp; have := HN.out; omega⟩
    have N8 : Hid (a'.isNone = x9.isNone) := HT.out.1.trans H09.out.symm
    clear hZ HT
    rcases HX9.out with ⟨h9, hL0⟩ | ⟨B9, h9⟩
    · subst h9
      obtain rfl : Z = 0 := by omega
      subst hL0
      go_wp2_with fail
      refine (same11 x0 none 0 0 0 (X.take 0) w5 H09.out.symm S7.out.2.2 (by omega) S7.out.1 S7.out.2.1).mono ?_
      rintro e w7 ⟨rfl, q7, hw7⟩
      have BD : Hid (Below w5.heap.size w5 w7) := by rw [hw7]; exact below_drewN' _ _ _
      clear hw7
      go_wp2_with fail
      refine (same11 a' none 0 0 0 (X.drop 0) w7 N8.out S8.out.2 (by omega) (S8.out.1.later BD.out) (.inl (by have := HN.out; rw [List.eq_nil_of_length_eq_zero this]; rfl))).mono ?_
      rintro e w8 ⟨rfl, q8, hw8⟩
      have BE : Hid (Below w.heap.size w w8) := by rw [hw8]; exact ((B2.out.trans (BC.out.mono B2.out.size)).trans (BD.out.mono (Nat.le_trans B2.out.size BC.out.size))).trans (below_drewN' _ _ _)
      clear hw8
      go_wp2
      go_ret
      exact ⟨rfl, BE.out⟩
    · subst h9
      by_cases hzl : L = Z
      · subst hzl
        have S9' : Hid (X.drop L = []) := List.drop_of_length_le (by have := HN.out; omega)
        go_wp2_with fail
        refine (same11 x0 (some ⟨B9, 0, none⟩) L L L (X.take L) w5 H09.out.symm S7.out.2.2 (by omega) S7.out.1 S7.out.2.1).mono ?_
        rintro e w7 ⟨rfl, q7, hw7⟩
        have BD : Hid (Below w5.heap.size w5 w7) := by rw [hw7]; exact below_drewN' _ _ _
        clear hw7
        go_wp2_with fail
        refine (same11 a' (some ⟨B9, 0, none⟩) 0 0 0 (X.drop L) w7 N8.out (by have := S8.out.2; omega) (by omega) (S8.out.1.later BD.out) (.inl S9'.out)).mono ?_
        rintro e w8 ⟨rfl, q8, hw8⟩
        have BE : Hid (Below w.heap.size w w8) := by rw [hw8]; exact ((B2.out.trans (BC.out.mono B2.out.size)).trans (BD.out.mono (Nat.le_trans B2.out.size BC.out.size))).trans (below_drewN' _ _ _)
        clear hw8
        go_wp2
        go_ret
        exact ⟨rfl, BE.out⟩
      · have S9' : Hid (Src w5 (some ⟨B9, Z, none⟩) (X.drop Z)) := (S9.out.later BC.out).drop Z
        go_wp2_with fail
        refine (same11 x0 (some ⟨B9, 0, none⟩) Z L L (X.take Z) w5 H09.out.symm S7.out.2.2 (by omega) S7.out.1 S7.out.2.1).mono ?_
        rintro e w7 ⟨rfl, q7, hw7⟩
        have BD : Hid (Below w5.heap.size w5 w7) := by rw [hw7]; exact below_drewN' _ _ _
        clear hw7
        go_wp2_with fail
        refine (same11 a' (some ⟨B9, Z, none⟩) (L - Z) (L - Z) (L - Z) (X.drop Z) w7 N8.out S8.out.2 (by omega) (S8.out.1.later BD.out) (S9'.out.later BD.out)).mono ?_
        rintro e w8 ⟨rfl, q8, hw8⟩
        have BE : Hid (Below w.heap.size w w8) := by rw [hw8]; exact ((B2.out.trans (BC.out.mono B2.out.size)).trans (BD.out.mono (Nat.le_trans B2.out.size BC.out.size))).trans (below_drewN' _ _ _)
        clear hw8
        go_wp2
        go_ret
        exact ⟨rfl, BE.out⟩
end Rec
end Go.Proofs.Qxb6604118a
