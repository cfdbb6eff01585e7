/- The law FnMergeRunsEqualsSortModel (4). -/
import Derived.Test.Qxb6604118aLaw
namespace Go.Proofs.Qxb6604118a
open Go.RowKit Go.Deep Pl

def Holds (w : World) (e : Ending) (w' : World) : Prop := e = .returned (.bool true) ∧ Below w.heap.size w w'

set_option maxRecDepth 100000 in
set_option maxHeartbeats 4000000 in
theorem law4 (a0 a1 : Option Addr) (n c0 m c1 : Nat) (X E : List Int) (w : World) (hn : X.length = n) (hm : E.length = m) (h0 : Src w a0 X) (h1 : Src w a1 E) (n0 : a0 = none → n = 0 ∧ c0 = 0) (n1 : a1 = none → m = 0 ∧ c1 = 0) :
    Calls Try.prog 4 #[.slice a0 n c0, .slice a1 m c1] w (Holds w) := by
  have HN : Hid (X.length = n) := hn
  have HM : Hid (E.length = m) := hm
  have H0 : Hid (Src w a0 X ∧ (a0 = none → n = 0 ∧ c0 = 0)) := ⟨h0, n0⟩
  have H1 : Hid (Src w a1 E ∧ (a1 = none → m = 0 ∧ c1 = 0)) := ⟨h1, n1⟩
  clear hn hm h0 h1 n0 n1
  go_enter Try.func4, Try.ntmps4
  go_wp2_with fail
  refine (bytes12_any a0 a1 n c0 m c1 w).mono ?_
  rintro e w1 ⟨b, rfl, hw⟩
  rw [hw]; clear hw
  cases b
  · go_wp2
    go_ret
    exact ⟨rfl, Below.refl _ _⟩
  by_cases g1 : 65536 < n
  · go_wp2
    go_ret
    exact ⟨rfl, Below.refl _ _⟩
  by_cases g2 : 65536 < m
  · go_wp2
    go_ret
    exact ⟨rfl, Below.refl _ _⟩
  have g3 : ¬ 1048576 < 8 * ((n : Int) + m) := by omega
  go_wp2_with fail
  refine (well_any a0 a1 n c0 m c1 X E w HN.out HM.out (by omega) (by omega) H0.out.1 H1.out.1).mono ?_
  rintro e w1 ⟨b, rfl, ⟨q, hw⟩, hb⟩
  rw [hw]; clear hw
  have HW : Hid (b = true → Well X E) := hb
  clear hb
  cases b
  · go_wp2
    go_ret
    exact ⟨rfl, below_drewN _ _ _⟩
  have HA : Hid (Well X E) := HW.out rfl
  clear HW
  have B0 : Hid (Below w.heap.size w (w.drewN q)) := below_drewN _ _ _
  go_wp2_with fail
  refine (clone_any a0 n c0 X (w.drewN q) HN.out H0.out.2 (by omega) (H0.out.1.drewN q)).mono ?_
  rintro e w1 ⟨v0, rfl, hb1, hv0⟩
  have B1 : Hid (Below w.heap.size w w1) := B0.out.trans hb1
  have V0 : Hid (Own w1 w.heap.size v0 X) := hv0
  have S1 : Hid (Src w1 a1 E) := H1.out.1.later B1.out
  clear hb1 hv0 B0
  go_wp2_with fail
  refine (clone_any a1 m c1 E w1 HM.out H1.out.2 (by omega) S1.out).mono ?_
  rintro e w2 ⟨v1, rfl, hb2, hv1⟩
  have B2 : Hid (Below w.heap.size w w2) := B1.out.trans (hb2.mono B1.out.size)
  have V0' : Hid (Own w2 w.heap.size v0 X) := V0.out.later hb2
  have V1 : Hid (Own w2 w.heap.size v1 E) := hv1.mono B1.out.size
  have A01 : Hid (∀ k, At v0 k → ¬ At v1 k) := fun k hk hk' => by have := V0.out.at hk; have := hv1.at hk'; omega
  obtain ⟨ax, cx, hx, sx, nx⟩ := V0'.out.has
  have SX : Hid (Src w2 ax X ∧ (ax = none → X.length = 0 ∧ cx = 0)) := ⟨sx, nx⟩
  have HX : Hid (v0 = .slice ax X.length cx) := hx
  clear hb2 hv1 B1 V0 S1 hx sx nx
  go_wp2_with fail
  rw [HX.out]
  refine (clone_any ax X.length cx X w2 rfl SX.out.2 (by have := HN.out; omega) SX.out.1).mono ?_
  rw [← HX.out]
  rintro e w3 ⟨v5, rfl, hb3, hv5⟩
  have B3 : Hid (Below w.heap.size w w3) := B2.out.trans (hb3.mono B2.out.size)
  have V0 : Hid (Own w3 w.heap.size v0 X) := V0'.out.later hb3
  have V1' : Hid (Own w3 w.heap.size v1 E) := V1.out.later hb3
  have V5 : Hid (Own w3 w.heap.size v5 X) := hv5.mono B2.out.size
  have A05 : Hid (∀ k, At v0 k → ¬ At v5 k) := fun k hk hk' => by have := V0'.out.at hk; have := hv5.at hk'; omega
  have A15 : Hid (∀ k, At v1 k → ¬ At v5 k) := fun k hk hk' => by have := V1.out.at hk; have := hv5.at hk'; omega
  clear hb3 hv5 B2 V0' V1 SX
  go_wp2_with fail
  refine (heap_own V5.out (by have := HN.out; omega)).mono ?_
  rintro e w4 ⟨rfl, Xs, hv5, hps, hos, honly⟩
  have B4 : Hid (Below w.heap.size w w4) := B3.out.trans (honly.below B3.out.size fun k hk => (V5.out.at hk).1)
  have V5' : Hid (Own w4 w.heap.size v5 Xs ∧ Xs.Perm X ∧ Ord Xs) := ⟨hv5, hps, hos⟩
  have V0' : Hid (Own w4 w.heap.size v0 X) := V0.out.only honly fun k hk => A05.out k hk
  have V1 : Hid (Own w4 w.heap.size v1 E) := V1'.out.only honly fun k hk => A15.out k hk
  clear B3 V5 V0 V1' hv5 hps hos honly
  go_wp2_with fail
  refine (merge16 (P := Merges w4 w.heap.size v0 v1 X) (merge_own V0'.out V1.out A01.out HA.out (by have := HN.out; omega) (by have := HM.out; omega))).mono ?_
  rintro e w5 ⟨v6, rfl, Y, Z, a6, c6, rfl, sY, oY, pY, hZ, pZ, honly⟩
  have B5 : Hid (Below w.heap.size w w5) := B4.out.trans (honly.below B4.out.size fun k hk => by
    rcases hk with hk | hk
    · exact (V0'.out.at hk).1
    · exact (V1.out.at hk).1)
  have V5 : Hid (Own w5 w.heap.size v5 Xs) := V5'.out.1.only honly fun k hk hk' => by
    rcases hk' with hk' | hk'
    · exact A05.out k hk' hk
    · exact A15.out k hk' hk
  have V0 : Hid (Own w5 w.heap.size v0 Z ∧ Z.Perm X) := ⟨hZ, pZ⟩
  have hYX : Y = Xs := ord_one oY V5'.out.2.2 (pY.trans V5'.out.2.1.symm)
  subst hYX
  have SY : Hid (Src w5 a6 Y ∧ Y.length = n) := ⟨sY, by rw [pY.length_eq]; exact HN.out⟩
  have OY : Hid (Ord Y ∧ Y.Perm X) := ⟨oY, pY⟩
  clear B4 V5' V0' V1 honly hZ pZ sY oY pY
  obtain ⟨a5, c5, hx5, sx5, nx5⟩ := V5.out.has
  have HX5 : Hid (v5 = .slice a5 Y.length c5) := hx5
  have S5 : Hid (Src w5 a5 Y) := sx5
  clear hx5 sx5 nx5
  go_wp2_with fail
  rw [HX5.out]
  refine (same_any a6 a5 Y.length c6 c5 Y w5 rfl (by have := SY.out.2; omega) SY.out.1 S5.out).mono ?_
  rw [← HX5.out]
  rintro e w6 ⟨rfl, q6, hw6⟩
  rw [hw6]; clear hw6 S5
  have B6 : Hid (Below w.heap.size w (w5.drewN q6)) := B5.out.trans (below_drewN _ _ _)
  have V0' : Hid (Own (w5.drewN q6) w.heap.size v0 Z) := V0.out.1.drewN q6
  have V5' : Hid (Own (w5.drewN q6) w.heap.size v5 Y) := V5.out.drewN q6
  obtain ⟨az, cz, hxz, sxz, nxz⟩ := V0'.out.has
  have HXz : Hid (v0 = .slice az Z.length cz) := hxz
  have Sz : Hid (Src (w5.drewN q6) az Z ∧ (az = none → Z.length = 0 ∧ cz = 0)) := ⟨sxz, nxz⟩
  have PZ : Hid (Z.Perm X ∧ Z.length = n) := ⟨V0.out.2, by rw [V0.out.2.length_eq]; exact HN.out⟩
  clear hxz sxz nxz V5 V0 B5
  go_wp2_with fail
  rw [HXz.out]
  refine (clone_any az Z.length cz Z (w5.drewN q6) rfl Sz.out.2 (by have := PZ.out.2; omega) Sz.out.1).mono ?_
  rw [← HXz.out]
  rintro e w7 ⟨v7, rfl, hb7, hv7⟩
  have B7 : Hid (Below w.heap.size w w7) := B6.out.trans (hb7.mono B6.out.size)
  have V7 : Hid (Own w7 w.heap.size v7 Z) := hv7.mono B6.out.size
  have V5 : Hid (Own w7 w.heap.size v5 Y) := V5'.out.later hb7
  have A57 : Hid (∀ k, At v5 k → ¬ At v7 k) := fun k hk hk' => by have := V5'.out.at hk; have := hv7.at hk'; omega
  clear hb7 hv7 B6 V5' V0' Sz
  go_wp2_with fail
  refine (heap_own V7.out (by have := PZ.out.2; omega)).mono ?_
  rintro e w8 ⟨rfl, Zs, hv7, hps, hos, honly⟩
  have B8 : Hid (Below w.heap.size w w8) := B7.out.trans (honly.below B7.out.size fun k hk => (V7.out.at hk).1)
  have hZY : Zs = Y := ord_one hos OY.out.1 ((hps.trans PZ.out.1).trans OY.out.2.symm)
  subst hZY
  have V7' : Hid (Own w8 w.heap.size v7 Zs) := hv7
  have V5' : Hid (Own w8 w.heap.size v5 Zs) := V5.out.only honly fun k hk => A57.out k hk
  clear B7 V7 V5 hv7 hps hos honly
  obtain ⟨a5', c5', hx5, sx5, nx5⟩ := V5'.out.has
  obtain ⟨a7, c7, hx7, sx7, nx7⟩ := V7'.out.has
  have HX5' : Hid (v5 = .slice a5' Zs.length c5' ∧ Src w8 a5' Zs) := ⟨hx5, sx5⟩
  have HX7 : Hid (v7 = .slice a7 Zs.length c7 ∧ Src w8 a7 Zs) := ⟨hx7, sx7⟩
  clear hx5 sx5 nx5 hx7 sx7 nx7
  go_wp2_with fail
  rw [HX5'.out.1, HX7.out.1]
  refine (same_any a7 a5' Zs.length c7 c5' Zs w8 rfl (by have := SY.out.2; omega) HX7.out.2 HX5'.out.2).mono ?_
  rw [← HX5'.out.1, ← HX7.out.1]
  rintro e w9 ⟨rfl, q9, hw9⟩
  rw [hw9]; clear hw9
  go_wp2
  go_ret
  exact ⟨rfl, B8.out.trans (below_drewN _ _ _)⟩
end Go.Proofs.Qxb6604118a
