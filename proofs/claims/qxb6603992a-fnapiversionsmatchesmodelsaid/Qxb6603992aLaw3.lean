/- The walk of FnAPIVersionsMatchesModel (3). -/
import Derived.Test.Qxb6603992aApi
import Derived.Test.Qxb6603992aChk4
import Derived.Test.Qxb6603992aBytes2
namespace Go.Proofs.Qxb6603992a
open Go.RowKit

def True3 (w : World) (e : Ending) (w' : World) : Prop := e = .returned (.bool true) ∧ Below w.heap.size w w'
theorem below_drewN3 (w : World) (n : Nat) : Below w.heap.size w (w.drewN n) := by
  refine ⟨rfl, rfl, rfl, Nat.le_refl _, fun _ _ => rfl⟩

theorem vers_of {w2 w3 : World} {b o n' gi : Nat} {av : Option Addr} {nv cv g : Nat} (hW : WGrps w2 (some ⟨b, o, none⟩) n') (hs : Stays w2 w3) (hlt : gi < n') (hc : w2.cell? ⟨b, o + gi * 2 + 1, none⟩ = some (.slice av nv cv))
    (hC : ∀ i s, i < nv → Named w2 av 3 s i → w3.cell? ⟨g, i, none⟩ = some (.string s)) :
    nv * 56 ≤ 140737488351232 ∧ (nv = 0 ∨ ∃ b' o', av = some ⟨b', o', none⟩ ∧ ∀ i, i < nv → ∃ s, (∀ o1, (w3.alloc o1).cell? ⟨b', o' + i * 3, none⟩ = some (.string s)) ∧ (∀ o1, (w3.alloc o1).cell? ⟨g, i, none⟩ = some (.string s))) := by
  rcases hW.2 with rfl | ⟨b1, o1, e, f⟩
  · omega
  injection e with e; injection e with e1 e2; subst e1 e2
  obtain ⟨_, av', nv', cv', hc', hV⟩ := f gi hlt
  rw [hc] at hc'; injection hc' with hc'; injection hc' with e1 e2 e3; subst e1 e2 e3
  refine ⟨hV.1, hV.2.imp id ?_⟩
  rintro ⟨b', o', rfl, _, hr⟩
  refine ⟨b', o', rfl, fun i hi => ?_⟩
  obtain ⟨⟨s, h0⟩, _, _⟩ := hr i hi
  have ha : ∀ o1, Stays w3 (w3.alloc o1) := fun o1 => Stays.of_below ((Below.refl _ _).alloc (Nat.le_refl _) _)
  exact ⟨s, fun o1 => ha o1 _ _ _ (hs _ _ _ h0), fun o1 => ha o1 _ _ _ (hC i s hi ⟨b', o', rfl, h0⟩)⟩

set_option maxRecDepth 100000 in
set_option maxHeartbeats 2000000 in
theorem walk3 (a : Option Addr) (n c : Nat) (w : World) (h : Grps w a n c) : Calls Try.prog 3 #[.slice a n c] w (True3 w) := by
  go_enter Try.func3, Try.ntmps3
  go_wp2_with fail
  refine (Ck.bytes5 a n c w h).mono ?_
  rintro e w1 ⟨b, rfl, hw⟩
  rw [hw]; clear hw
  cases b with
  | false =>
    go_wp2
    go_ret
    exact ⟨rfl, Below.refl _ _⟩
  | true =>
    have H : Hid (Grps w a n c) := h
    clear h
    go_wp2_with fail
    refine (groups_any a n c w H.out).mono ?_
    rintro e w1 ⟨r, rfl, m, hw⟩
    rw [hw]; clear hw
    by_cases hr : 1048576 < r
    · go_wp2
      go_ret
      exact ⟨rfl, below_drewN3 _ _⟩
    go_wp2_with fail
    refine (wireGroups_any a n c (w.drewN m) (H.out.stays (Stays.drewN w m))).mono ?_
    rintro e w1 ⟨a', n', c', rfl, hb, hW⟩
    have HB : Hid (Below w.heap.size w w1) := (below_drewN3 w m).trans hb
    have HW : Hid (WGrps w1 a' n') := hW
    clear H hb hW
    go_wp2_with fail
    refine (newSurface_any a' n' c' w1).mono ?_
    rintro e w2 ⟨rfl, hw2⟩
    have HB2 : Hid (Below w.heap.size w w2) := by rw [hw2]; exact HB.out.alloc HB.out.size _
    have HW2 : Hid (WGrps w2 a' n') := by rw [hw2]; exact HW.out.stays (Stays.of_below ((Below.refl _ _).alloc (Nat.le_refl _) _))
    have hc2 : w2.cell? ⟨w1.heap.size, 0, none⟩ = some (.slice a' n' c') := by rw [hw2]; simp
    clear HW hw2 HB
    go_wp2_with fail
    refine (api_any _ _ a' n' c' w2 HW2.out hc2).mono ?_
    rintro e w3 ⟨hb3, hp⟩
    have HB3 : Hid (Below w.heap.size w w3) := bstep HB2.out hb3
    have HS3 : Hid (Stays w2 w3) := Stays.of_below hb3
    have HW3 : Hid (WGrps w3 a' n') := HW2.out.stays HS3.out
    clear hb3 HB2 hc2
    have q29 := fun a n c w => nil_of Try.underlying29 a n c w
    have q30 := fun a n c w => nil_of Try.underlying30 a n c w
    rcases hp with ⟨rfl, hN⟩ | ⟨gi, av, nv, cv, g, y, hF, hV, rfl, hcells⟩
    · have HN : Hid (NoneAt (Named w2 a' 2 ⟨#[]⟩) n') := hN
      clear hN
      go_wp2_with fail
      refine (firstGroup_any a' n' c' _ _ (HW3.out.stays (Stays.of_below ((Below.refl _ _).alloc (Nat.le_refl _) _)))).mono ?_
      rintro e w4 ⟨hw, r4, rfl, ⟨rfl, _⟩ | ⟨gi, rfl, hF⟩⟩
      · rw [hw]; clear hw
        go_wp2
        go_ret
        exact ⟨rfl, HB3.out.alloc HB3.out.size _⟩
      · exact (FirstAt.some (((hF.stays (Stays.of_below ((Below.refl _ _).alloc (Nat.le_refl _) _)) HW3.out.strd).stays HS3.out HW2.out.strd)) HN.out).elim
    · have HF : Hid (FirstAt (Named w2 a' 2 ⟨#[]⟩) n' gi) := hF
      have HV : Hid (VersAt w2 a' gi av nv cv) := hV
      have HC : Hid (∀ i s, i < nv → Named w2 av 3 s i → w3.cell? ⟨g, i, none⟩ = some (.string s)) := hcells
      clear hF hV hcells
      go_wp2_with fail
      refine (firstGroup_any a' n' c' _ _ (HW3.out.stays (Stays.of_below ((Below.refl _ _).alloc (Nat.le_refl _) _)))).mono ?_
      rintro e w4 ⟨hw, r4, rfl, ⟨rfl, hN⟩ | ⟨gi', rfl, hF'⟩⟩
      · exact (FirstAt.some HF.out ((hN.stays (Stays.of_below ((Below.refl _ _).alloc (Nat.le_refl _) _)) HW3.out.strd).stays HS3.out HW2.out.strd)).elim
      · have hF2 := ((hF'.stays (Stays.of_below ((Below.refl _ _).alloc (Nat.le_refl _) _)) HW3.out.strd).stays HS3.out HW2.out.strd)
        have := hF2.one HF.out
        subst this
        rw [hw]; clear hw hF' 
        have hlt : gi' < n' := hF2.1
        clear hF2
        obtain ⟨b, o, rfl, hcv⟩ := HV.out
        obtain ⟨hnv, HK⟩ := vers_of HW2.out HS3.out hlt hcv HC.out
        have hcv4 : ∀ o1, (w3.alloc o1).cell? ⟨b, o + gi' * 2 + 1, none⟩ = some (.slice av nv cv) := fun o1 => Stays.of_below ((Below.refl _ _).alloc (Nat.le_refl _) _) _ _ _ (HS3.out _ _ _ hcv)
        clear HV HC HF hcv HW2 HS3 HW3
        go_wp2
        clear hcv4 q29 q30
        go_loopw [80] (fun i wr => ∃ k q : Nat, k ≤ nv ∧ i = .int .i64 k ∧ wr = (w3.alloc (.cells #[.string kindK, .slice (some ⟨g, 0, none⟩) nv nv, .slice (some y) 0 0] 32)).drewN q) (fun i _ => nv - (intOf i).toNat)
        case atStart => exact ⟨0, 0, Nat.zero_le _, rfl, rfl⟩
        case round =>
          obtain ⟨k, q, hk, rfl, rfl⟩ := hrel
          by_cases hkn : k < nv
          · obtain ⟨b', o', rfl, hK⟩ := HK.resolve_left (by omega)
            obtain ⟨s, h1, h2⟩ := hK k hkn
            have g1 := h1 (.cells #[.string kindK, .slice (some ⟨g, 0, none⟩) nv nv, .slice (some y) 0 0] 32)
            have g2 := h2 (.cells #[.string kindK, .slice (some ⟨g, 0, none⟩) nv nv, .slice (some y) 0 0] 32)
            clear hK h1 h2
            go_wp2
            go_quiet (fail)
            go_wp2
            go_roundw
            case rel => exact ⟨k + 1, _, by omega, by go_num, rfl⟩
            case measure => simp [intOf]; omega
          · clear HK
            go_wp2
            go_ret
            exact ⟨rfl, (HB3.out.alloc HB3.out.size _).trans ((below_drewN3 _ _).mono (by have := HB3.out.size; simp; omega))⟩
end Go.Proofs.Qxb6603992a
