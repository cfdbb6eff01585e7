/- The deep copy: the contracts of zzWireStrs (26), zzWireGVK (25), zzWireSubs (27), zzWireRes (21). Of what they make only this is told: a value of the right make; old memory as it was. -/
import Derived.Test.Qxb6603992aParts
import Derived.WalkSpells
import Derived.Deep.RegionHeld3
namespace Go.Proofs.Qxb6603992a
open Go.RowKit

/-- Block B is a row of m cells, none frozen. -/
def Blk (w : World) (B e m : Nat) (C : Array Value) : Prop := w.heap[B]? = some (.cells C e (0, 0)) ∧ C.size = m
section
variable {w w' : World} {B e m : Nat} {C : Array Value}
theorem Blk.cell (h : Blk w B e m C) (j : Nat) : w.cell? ⟨B, j, none⟩ = C[j]? := by simp [World.cell?, h.1]
theorem Blk.some (h : Blk w B e m C) {j : Nat} (hj : j < m) : ∃ v, w.cell? ⟨B, j, none⟩ = .some v := by
  rw [h.cell, Array.getElem?_eq_getElem (by rw [h.2]; exact hj)]; exact ⟨_, rfl⟩
theorem Blk.free (h : Blk w B e m C) (j : Nat) : w.frozen? ⟨B, j, none⟩ = false := by simp [World.frozen?, h.1]
theorem Blk.lt (h : Blk w B e m C) : B < w.heap.size := lt_of_block h.1
theorem Blk.set (h : Blk w B e m C) (j : Nat) (u : Value) : Blk (w.setCell ⟨B, j, none⟩ u) B e m (C.setIfInBounds j u) := by
  refine ⟨?_, by rw [Array.size_setIfInBounds]; exact h.2⟩
  simp only [World.setCell, Array.getElem?_modify, h.1]
  simp
theorem Blk.below (h : Blk w B e m C) {B' : Nat} (hb : Below B' w w') (hB : B < B') : Blk w' B e m C := ⟨(hb.block B hB).trans h.1, h.2⟩
theorem Blk.later (h : Blk w B e m C) (hb : Below w.heap.size w w') : Blk w' B e m C := h.below hb h.lt
theorem Blk.made (w : World) (z : Array Value) (m e : Nat) : Blk (w.alloc (.cells (madeCells z m) e)) w.heap.size e m (madeCells z m) :=
  ⟨by show (w.heap.push _)[w.heap.size]? = _; simp, size_madeCells z m⟩
theorem Blk.drew (h : Blk w B e m C) : Blk w.drew B e m C := h
end

theorem Try.info9 : (Try.prog.info? 9).map (fun i => (i.zero, i.size, i.bytes)) = some (some (.string ByteArray.empty), 1, 16) := by kernel_rfl

/-- 'make([]T, n)'. -/
theorem make_of {t e : TypeId} {z : Value} {size bytes : Nat} (ht : Try.prog.underlying t = some (.slice e)) (hi : (Try.prog.info? e).map (fun i => (i.zero, i.size, i.bytes)) = some (some z, size, bytes)) (n : Nat) (hb : bytes * n ≤ 281474976710656) (h63 : n ≤ 9223372036854775807) (w : World) :
    (Instr.makeSlice t (.int .i64 (n : Int)) (.int .i64 (n : Int))).run Try.prog w = .ok (.slice (some ⟨w.heap.size, 0, none⟩) n n) (w.alloc (.cells (madeCells z.cells (n * size)) e)) := by
  obtain ⟨i, hi, hz⟩ := Option.map_eq_some_iff.1 hi
  simp only [Prod.mk.injEq] at hz
  obtain ⟨h1, h2, h3⟩ := hz
  have h := run_make (P := Try.prog) w t e i z ht hi h1 .i64 .i64 n n (by omega) (by omega) (by rw [h3]; omega) (by omega)
  rw [h2] at h
  simpa using h

/-- Some slice comes back; old memory is as it was. -/
def GivesSlice (w : World) (e : Ending) (w' : World) : Prop := ∃ a n c, e = .returned (.slice a n c) ∧ Below w.heap.size w w'
def GivesPtr (w : World) (e : Ending) (w' : World) : Prop := ∃ p, e = .returned (.pointer p) ∧ Below w.heap.size w w'

theorem nil_of {t e : TypeId} (ht : Try.prog.underlying t = some (.slice e)) (a : Option Addr) (n c : Nat) (w : World) :
    (binOp .eql t (.slice a n c) (.slice none 0 0)).run Try.prog w = .ok (.bool a.isNone) w := Lib.run_eql_slice_nil w t e a n c 0 0 ht

set_option maxRecDepth 100000 in
set_option maxHeartbeats 400000 in
theorem wireStrs_any (a : Option Addr) (n c : Nat) (w : World) (h : Strs w a n c) : Calls Try.prog 26 #[.slice a n c] w (GivesSlice w) := by
  obtain ⟨hh, h⟩ := h
  have hnil := nil_of Try.underlying29 a n c
  cases a with
  | none =>
    obtain ⟨rfl, rfl⟩ := hh.nil rfl
    clear hh h
    go_enter Try.func26, Try.ntmps26
    go_wp2
    go_ret
    exact ⟨_, _, _, rfl, Below.refl _ _⟩
  | some x =>
    have hn : n * 16 ≤ 140737488351232 := Nat.le_trans (Nat.mul_le_mul_right _ hh.le) hh.room
    clear hh
    have hmk := make_of (z := .string ByteArray.empty) Try.underlying29 Try.info9 n (by omega) (by omega)
    go_enter Try.func26, Try.ntmps26
    go_wp2
    clear hmk hnil
    go_loopw [12] (fun i wr => ∃ k : Nat, k ≤ n ∧ i = .int .i64 k ∧ Below w.heap.size w wr ∧ ∃ C, Blk wr w.heap.size 9 n C) (fun i _ => n - (intOf i).toNat)
    case atStart => exact ⟨0, Nat.zero_le _, rfl, (Below.refl _ _).alloc (Nat.le_refl _) _, _, by simpa using Blk.made w _ (n * 1) 9⟩
    case round =>
      obtain ⟨k, hk, rfl, hb, C, hC⟩ := hrel
      by_cases hlt : k < n
      · rcases h with rfl | ⟨b, o, hx, hc⟩
        · omega
        · obtain rfl := Option.some.inj hx
          obtain ⟨s, hs⟩ := hc k hlt
          have hs' := Stays.of_below hb _ _ _ hs
          obtain ⟨v, hv⟩ := hC.some hlt
          have hf := hC.free k
          have hB : Hid (Below w.heap.size w wr ∧ Blk wr w.heap.size 9 n C) := ⟨hb, hC⟩
          clear hc hs hb hC hx
          go_wp2
          go_roundw
          case rel => exact ⟨k + 1, by omega, by go_num, hB.out.1.setCell (Nat.le_refl _) _, _, hB.out.2.set _ _⟩
          case measure => simp [intOf]; omega
      · go_wp2
        go_ret
        exact ⟨_, _, _, rfl, hb⟩

set_option maxRecDepth 100000 in
set_option maxHeartbeats 400000 in
theorem wireGVK_any (p : Option Addr) (w : World) (h : Gvk w p) : Calls Try.prog 25 #[.pointer p] w (GivesPtr w) := by
  rcases h with rfl | ⟨b, o, s0, s1, s2, rfl, h0, h1, h2⟩
  · go_enter Try.func25, Try.ntmps25
    go_wp2
    go_ret
    exact ⟨_, rfl, Below.refl _ _⟩
  · go_enter Try.func25, Try.ntmps25
    go_wp2
    go_region_held3 (fun w' => w'.cell? ⟨b, o, none⟩ = some (.string s0) ∧ w'.cell? ⟨b, o + 1, none⟩ = some (.string s1) ∧ w'.cell? ⟨b, o + 2, none⟩ = some (.string s2)) (go_keep) (fail)
    go_wp2
    go_ret
    exact ⟨_, rfl, ((Below.refl _ _).alloc (Nat.le_refl _) _).drew⟩
end Go.Proofs.Qxb6603992a
