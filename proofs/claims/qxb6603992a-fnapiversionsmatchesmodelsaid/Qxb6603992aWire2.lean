/- The contracts of zzWireSubs (27) and zzWireRes (21). -/
import Derived.Test.Qxb6603992aWire
namespace Go.Proofs.Qxb6603992a
open Go.RowKit

theorem Try.info87 : (Try.prog.info? 87).map (fun i => (i.zero, i.size, i.bytes)) = some (some (.agg #[.string ByteArray.empty, .pointer none, .slice none 0 0]), 3, 48) := by kernel_rfl
theorem Try.info83 : (Try.prog.info? 83).map (fun i => (i.zero, i.size, i.bytes)) = some (some (.agg #[.string ByteArray.empty, .pointer none, .string ByteArray.empty, .string ByteArray.empty, .slice none 0 0, .slice none 0 0, .slice none 0 0, .slice none 0 0]), 8, 152) := by kernel_rfl

theorem btrans {wr W w' : World} (h : Below wr.heap.size wr W) (h' : Below W.heap.size W w') : Below wr.heap.size wr w' := h.trans (h'.mono h.size)
theorem bstep {w wr W : World} (h : Below w.heap.size w wr) (h' : Below wr.heap.size wr W) : Below w.heap.size w W := h.trans (h'.mono h.size)

theorem keep3 {W w' : World} {b o : Nat} {x0 x1 x2 : Value} (h : W.cell? ⟨b, o, none⟩ = some x0 ∧ W.cell? ⟨b, o + 1, none⟩ = some x1 ∧ W.cell? ⟨b, o + 2, none⟩ = some x2) (hb : Below W.heap.size W w') :
    w'.cell? ⟨b, o, none⟩ = some x0 ∧ w'.cell? ⟨b, o + 1, none⟩ = some x1 ∧ w'.cell? ⟨b, o + 2, none⟩ = some x2 :=
  ⟨Stays.of_below hb _ _ _ h.1, Stays.of_below hb _ _ _ h.2.1, Stays.of_below hb _ _ _ h.2.2⟩

set_option maxRecDepth 100000 in
set_option maxHeartbeats 8000000 in
theorem wireSubs_any (a : Option Addr) (n c : Nat) (w : World) (h : Subs w a n c) : Calls Try.prog 27 #[.slice a n c] w (GivesSlice w) := by
  obtain ⟨hh, h⟩ := h
  have hnil := nil_of Try.underlying57 a n c
  cases a with
  | none =>
    obtain ⟨rfl, rfl⟩ := hh.nil rfl
    clear hh h
    go_enter Try.func27, Try.ntmps27
    go_wp2
    go_ret
    exact ⟨_, _, _, rfl, Below.refl _ _⟩
  | some x =>
    have hn : n * 48 ≤ 140737488351232 := Nat.le_trans (Nat.mul_le_mul_right _ hh.le) hh.room
    clear hh
    have hmk := make_of Try.underlying80 Try.info87 n (by omega) (by omega)
    go_enter Try.func27, Try.ntmps27
    go_wp2
    clear hmk hnil
    go_loopw [12] (fun i wr => ∃ k : Nat, k ≤ n ∧ i = .int .i64 k ∧ Below w.heap.size w wr ∧ ∃ C, Blk wr w.heap.size 87 (n * 3) C) (fun i _ => n - (intOf i).toNat)
    case atStart => exact ⟨0, Nat.zero_le _, rfl, (Below.refl _ _).alloc (Nat.le_refl _) _, _, Blk.made w _ (n * 3) 87⟩
    case round =>
      obtain ⟨k, hk, rfl, hb, C, hC0⟩ := hrel
      by_cases hlt : k < n
      · rcases h with rfl | ⟨b, o, hx, hc⟩
        · omega
        · obtain rfl := Option.some.inj hx
          have hE := (hc k hlt).stays (Stays.of_below hb)
          have hlb : b < w.heap.size := by obtain ⟨s, hs⟩ := (hc k hlt).c0; exact World.block_lt_of_cell? w _ hs
          obtain ⟨⟨s0, hs0⟩, ⟨p1, hs1, hx1⟩, ⟨a2, n2, c2, hs2, hx2⟩⟩ := hE
          have hne : w.heap.size ≠ b := by omega
          have hB : Hid (Below w.heap.size w wr) := hb
          have hC : Hid (Blk wr w.heap.size 87 (n * 3) C) := hC0
          have h1 : Hid (Gvk wr p1) := hx1
          have h2 : Hid (Strs wr a2 n2 c2) := hx2
          have hK0 : Below wr.heap.size wr wr.drew := (Below.refl _ _).drew
          clear hc hb hC0 hx hx1 hx2
          go_wp2
          go_region_held3 (fun w' => w'.cell? ⟨b, o + k * 3, none⟩ = some (.string s0) ∧ w'.cell? ⟨b, o + k * 3 + 1, none⟩ = some (.pointer p1) ∧ w'.cell? ⟨b, o + k * 3 + 2, none⟩ = some (.slice a2 n2 c2)) (first | exact keep3 (by assumption) (by assumption) | go_keep)
            (first | (go_at_call 25; refine (wireGVK_any _ _ ?_).mono ?_; (first | exact Gvk.stays (Stays.of_below (w := wr) (by assumption)) h1.out); rintro e w1 ⟨p', rfl, hb1⟩; have hK := btrans (wr := wr) (by assumption) hb1) | (go_at_call 26; refine (wireStrs_any _ _ _ _ ?_).mono ?_; (first | exact Strs.stays (Stays.of_below (w := wr) (by assumption)) h2.out); rintro e w1 ⟨a', n', c', rfl, hb1⟩; have hK := btrans (wr := wr) (by assumption) hb1; have hC2 := hC.out.later (w' := w1) (by assumption); obtain ⟨v0, hv0⟩ := hC2.some (j := k * 3) (by omega); have hf0 := hC2.free (k * 3); obtain ⟨v1, hv1⟩ := hC2.some (j := k * 3 + 1) (by omega); have hf1 := hC2.free (k * 3 + 1); obtain ⟨v2, hv2⟩ := hC2.some (j := k * 3 + 2) (by omega); have hf2 := hC2.free (k * 3 + 2)))
          have hb2 := bstep hB.out (by assumption)
          have hCw := hC2
          clear hK0
          go_wp2
          go_roundw
          case rel => exact ⟨k + 1, by omega, by go_num, (((hb2).setCell (Nat.le_refl _) _).setCell (Nat.le_refl _) _).setCell (Nat.le_refl _) _, _, (((hCw).set _ _).set _ _).set _ _⟩
          case measure => simp [intOf]; omega
      · go_wp2
        go_ret
        exact ⟨_, _, _, rfl, hb⟩

end Go.Proofs.Qxb6603992a
