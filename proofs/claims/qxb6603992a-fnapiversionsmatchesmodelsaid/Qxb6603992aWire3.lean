/- The contract of zzWireRes (21). -/
import Derived.Test.Qxb6603992aWire2
namespace Go.Proofs.Qxb6603992a
open Go.RowKit

theorem keep8 {W w' : World} {b o : Nat} {x0 x1 x2 x3 x4 x5 x6 x7 : Value} (h : W.cell? ⟨b, o, none⟩ = some x0 ∧ W.cell? ⟨b, o + 1, none⟩ = some x1 ∧ W.cell? ⟨b, o + 2, none⟩ = some x2 ∧ W.cell? ⟨b, o + 3, none⟩ = some x3 ∧ W.cell? ⟨b, o + 4, none⟩ = some x4 ∧ W.cell? ⟨b, o + 5, none⟩ = some x5 ∧ W.cell? ⟨b, o + 6, none⟩ = some x6 ∧ W.cell? ⟨b, o + 7, none⟩ = some x7) (hb : Below W.heap.size W w') :
    w'.cell? ⟨b, o, none⟩ = some x0 ∧ w'.cell? ⟨b, o + 1, none⟩ = some x1 ∧ w'.cell? ⟨b, o + 2, none⟩ = some x2 ∧ w'.cell? ⟨b, o + 3, none⟩ = some x3 ∧ w'.cell? ⟨b, o + 4, none⟩ = some x4 ∧ w'.cell? ⟨b, o + 5, none⟩ = some x5 ∧ w'.cell? ⟨b, o + 6, none⟩ = some x6 ∧ w'.cell? ⟨b, o + 7, none⟩ = some x7 :=
  ⟨Stays.of_below hb _ _ _ h.1, Stays.of_below hb _ _ _ h.2.1, Stays.of_below hb _ _ _ h.2.2.1, Stays.of_below hb _ _ _ h.2.2.2.1, Stays.of_below hb _ _ _ h.2.2.2.2.1, Stays.of_below hb _ _ _ h.2.2.2.2.2.1, Stays.of_below hb _ _ _ h.2.2.2.2.2.2.1, Stays.of_below hb _ _ _ h.2.2.2.2.2.2.2⟩

set_option maxRecDepth 100000 in
set_option maxHeartbeats 8000000 in
theorem wireRes_any (a : Option Addr) (n c : Nat) (w : World) (h : Ress w a n c) : Calls Try.prog 21 #[.slice a n c] w (GivesSlice w) := by
  obtain ⟨hh, h⟩ := h
  have hnil := nil_of Try.underlying53 a n c
  cases a with
  | none =>
    obtain ⟨rfl, rfl⟩ := hh.nil rfl
    clear hh h
    go_enter Try.func21, Try.ntmps21
    go_wp2
    go_ret
    exact ⟨_, _, _, rfl, Below.refl _ _⟩
  | some x =>
    have hn : n * 152 ≤ 140737488351232 := Nat.le_trans (Nat.mul_le_mul_right _ hh.le) hh.room
    clear hh
    have hmk := make_of Try.underlying41 Try.info83 n (by omega) (by omega)
    go_enter Try.func21, Try.ntmps21
    go_wp2
    clear hmk hnil
    go_loopw [12] (fun i wr => ∃ k : Nat, k ≤ n ∧ i = .int .i64 k ∧ Below w.heap.size w wr ∧ ∃ C, Blk wr w.heap.size 83 (n * 8) C) (fun i _ => n - (intOf i).toNat)
    case atStart => exact ⟨0, Nat.zero_le _, rfl, (Below.refl _ _).alloc (Nat.le_refl _) _, _, Blk.made w _ (n * 8) 83⟩
    case round =>
      obtain ⟨k, hk, rfl, hb, C, hC0⟩ := hrel
      by_cases hlt : k < n
      · rcases h with rfl | ⟨b, o, hx, hc⟩
        · omega
        · obtain rfl := Option.some.inj hx
          have hE := (hc k hlt).stays (Stays.of_below hb)
          have hlb : b < w.heap.size := by obtain ⟨s, hs⟩ := (hc k hlt).c0; exact World.block_lt_of_cell? w _ hs
          obtain ⟨⟨s0, hs0⟩, ⟨p1, hs1, hx1⟩, ⟨s2, hs2⟩, ⟨s3, hs3⟩, ⟨a4, n4, c4, hs4, hx4⟩, ⟨a5, n5, c5, hs5, hx5⟩, ⟨a6, n6, c6, hs6, hx6⟩, ⟨a7, n7, c7, hs7, hx7⟩⟩ := hE
          have hne : w.heap.size ≠ b := by omega
          have hB : Hid (Below w.heap.size w wr) := hb
          have hC : Hid (Blk wr w.heap.size 83 (n * 8) C) := hC0
          have h1 : Hid (Gvk wr p1) := hx1
          have h4 : Hid (Strs wr a4 n4 c4) := hx4
          have h5 : Hid (Strs wr a5 n5 c5) := hx5
          have h6 : Hid (Strs wr a6 n6 c6) := hx6
          have h7 : Hid (Subs wr a7 n7 c7) := hx7
          have hK0 : Below wr.heap.size wr wr.drew := (Below.refl _ _).drew
          clear hc hb hC0 hx hx1 hx4 hx5 hx6 hx7
          go_wp2
          go_region_held3 (fun w' => w'.cell? ⟨b, o + k * 8, none⟩ = some (.string s0) ∧ w'.cell? ⟨b, o + k * 8 + 1, none⟩ = some (.pointer p1) ∧ w'.cell? ⟨b, o + k * 8 + 2, none⟩ = some (.string s2) ∧ w'.cell? ⟨b, o + k * 8 + 3, none⟩ = some (.string s3) ∧ w'.cell? ⟨b, o + k * 8 + 4, none⟩ = some (.slice a4 n4 c4) ∧ w'.cell? ⟨b, o + k * 8 + 5, none⟩ = some (.slice a5 n5 c5) ∧ w'.cell? ⟨b, o + k * 8 + 6, none⟩ = some (.slice a6 n6 c6) ∧ w'.cell? ⟨b, o + k * 8 + 7, none⟩ = some (.slice a7 n7 c7)) (first | exact keep8 (by assumption) (by assumption) | go_keep)
            (first | (go_at_call 25; refine (wireGVK_any _ _ ?_).mono ?_; (first | exact Gvk.stays (Stays.of_below (w := wr) (by assumption)) h1.out); rintro e w1 ⟨p', rfl, hb1⟩; have hK := btrans (wr := wr) (by assumption) hb1) | (go_at_call 26; refine (wireStrs_any _ _ _ _ ?_).mono ?_; (first | exact Strs.stays (Stays.of_below (w := wr) (by assumption)) h4.out | exact Strs.stays (Stays.of_below (w := wr) (by assumption)) h5.out | exact Strs.stays (Stays.of_below (w := wr) (by assumption)) h6.out); rintro e w1 ⟨a', n', c', rfl, hb1⟩; have hK := btrans (wr := wr) (by assumption) hb1) | (go_at_call 27; refine (wireSubs_any _ _ _ _ ?_).mono ?_; (first | exact Subs.stays (Stays.of_below (w := wr) (by assumption)) h7.out); rintro e w1 ⟨a', n', c', rfl, hb1⟩; have hK := btrans (wr := wr) (by assumption) hb1; have hC2 := hC.out.later (w' := w1) (by assumption); obtain ⟨v0, hv0⟩ := hC2.some (j := k * 8) (by omega); have hf0 := hC2.free (k * 8); obtain ⟨v1, hv1⟩ := hC2.some (j := k * 8 + 1) (by omega); have hf1 := hC2.free (k * 8 + 1); obtain ⟨v2, hv2⟩ := hC2.some (j := k * 8 + 2) (by omega); have hf2 := hC2.free (k * 8 + 2); obtain ⟨v3, hv3⟩ := hC2.some (j := k * 8 + 3) (by omega); have hf3 := hC2.free (k * 8 + 3); obtain ⟨v4, hv4⟩ := hC2.some (j := k * 8 + 4) (by omega); have hf4 := hC2.free (k * 8 + 4); obtain ⟨v5, hv5⟩ := hC2.some (j := k * 8 + 5) (by omega); have hf5 := hC2.free (k * 8 + 5); obtain ⟨v6, hv6⟩ := hC2.some (j := k * 8 + 6) (by omega); have hf6 := hC2.free (k * 8 + 6); obtain ⟨v7, hv7⟩ := hC2.some (j := k * 8 + 7) (by omega); have hf7 := hC2.free (k * 8 + 7)))
          have hb2 := bstep hB.out (by assumption)
          have hCw := hC2
          clear hK0
          go_wp2
          go_roundw
          case rel => exact ⟨k + 1, by omega, by go_num, ((((((((hb2).setCell (Nat.le_refl _) _).setCell (Nat.le_refl _) _).setCell (Nat.le_refl _) _).setCell (Nat.le_refl _) _).setCell (Nat.le_refl _) _).setCell (Nat.le_refl _) _).setCell (Nat.le_refl _) _).setCell (Nat.le_refl _) _, _, ((((((((hCw).set _ _).set _ _).set _ _).set _ _).set _ _).set _ _).set _ _).set _ _⟩
          case measure => simp [intOf]; omega
      · go_wp2
        go_ret
        exact ⟨_, _, _, rfl, hb⟩

end Go.Proofs.Qxb6603992a
