/- siftDown (20), heapSort (15). -/
import Derived.Test.Qxb6604118aMem
namespace Go.Proofs.Qxb6604118a
open Go.RowKit Go.Deep Pl

theorem grown_set {w wr : World} {B : Nat} (h : w.grownBy wr (some B)) (i : Nat) (v : Value) : w.grownBy (wr.setCell ⟨B, i, none⟩ v) (some B) :=
  ⟨h.os, h.tape, h.output, by simpa [World.setCell] using h.size, fun k hk hne => by
    rw [Below.heap_setCell _ _ _ _ (fun e => hne (by rw [e]))]; exact h.block k hk hne⟩
theorem grown_drewN {w wr : World} {row : Option Nat} (h : w.grownBy wr row) (q : Nat) : w.grownBy (wr.drewN q) row := ⟨h.os, h.tape, h.output, h.size, h.block⟩
theorem grown_trans {w w1 w2 : World} {row : Option Nat} (h : w.grownBy w1 row) (k : w1.grownBy w2 row) : w.grownBy w2 row :=
  ⟨k.os.trans h.os, k.tape.trans h.tape, k.output.trans h.output, Nat.le_trans h.size k.size, fun i hi hne => (k.block i (Nat.lt_of_lt_of_le hi h.size) hne).trans (h.block i hi hne)⟩

def Sifted (w : World) (B : Nat) (X : List Int) (r m : Nat) (e : Ending) (w' : World) : Prop :=
  e = .returned (.tuple #[]) ∧ w.grownBy w' (some B) ∧ ∃ Y, Ints w' B Y ∧ Sw X Y m ∧ Heap Y r m

structure SiftAt (w wr : World) (B : Nat) (X : List Int) (r0 r m : Nat) (Y : List Int) : Prop where
  g : w.grownBy wr (some B)
  ints : Ints wr B Y
  sw : Sw X Y m
  sift : Sift Y r0 r m

theorem SiftAt.step {w wr : World} {B : Nat} {X Y : List Int} {r0 r m c q : Nat} (h : SiftAt w wr B X r0 r m Y) (hm : m ≤ Y.length) (hch : c = 2 * r + 1 ∨ c = 2 * r + 2) (hc : c < m)
    (hmx : ∀ d, (d = 2 * r + 1 ∨ d = 2 * r + 2) → d < m → gt Y d ≤ gt Y c) (hlt : gt Y r < gt Y c) :
    SiftAt w (((wr.drewN q).setCell ⟨B, r, none⟩ (.int .i64 (gt Y c))).setCell ⟨B, c, none⟩ (.int .i64 (gt Y r))) B X r0 c m (swp Y r c) := by
  refine ⟨grown_set (grown_set (grown_drewN h.g _) _ _) _ _, ?_, h.sw.trans (Sw.swap hm (by omega) hc), h.sift.step hm hch hc hmx hlt⟩
  exact (Ints.set (h.ints.drewN q) (i := r) (by omega) _).set (by simp; omega) _

set_option maxRecDepth 100000 in
set_option maxHeartbeats 4000000 in
theorem sift_any (B : Nat) (X : List Int) (n r0 m : Nat) (w : World) (hn : X.length = n) (h8 : n ≤ 65536) (hm : m ≤ n) (hr0 : r0 ≤ 65536) (h : Ints w B X) (hh : Heap X (r0 + 1) m) :
    Calls Try.prog 20 #[.slice (some ⟨B, 0, none⟩) n n, .int .i64 r0, .int .i64 m] w (Sifted w B X r0 m) := by
  have HN : Hid (X.length = n) := hn
  have H0 : Hid (SiftAt w w B X r0 r0 m X) := ⟨World.grownBy.refl _ _, h, Sw.refl _ _, Sift.start hh⟩
  clear hn h hh
  go_enter Try.func20, Try.ntmps20
  go_wp2
  go_loopw [1] (fun i wr => ∃ (r : Nat) (Y : List Int), i = .int .i64 r ∧ r ≤ 65536 ∧ SiftAt w wr B X r0 r m Y) (fun i _ => m - (intOf i).toNat)
  case atStart => exact ⟨r0, X, rfl, hr0, H0.out⟩
  case round =>
    obtain ⟨r, Y, rfl, hr, hS⟩ := hrel
    have HS : Hid (SiftAt w wr B X r0 r m Y) := hS
    have hYl : Hid (Y.length = n) := hS.sw.len.trans HN.out
    by_cases hrm : r < m
    · by_cases hc : 2 * r + 1 < m
      · have cr := hS.ints.cell (i := r) (by have := hYl.out; omega)
        have c1 := hS.ints.cell (i := 2 * r + 1) (by have := hYl.out; omega)
        have fr := hS.ints.free r
        have f1 := hS.ints.free (2 * r + 1)
        by_cases h2 : 2 * r + 2 < m
        · have c2 := hS.ints.cell (i := 2 * r + 2) (by have := hYl.out; omega)
          have f2 := hS.ints.free (2 * r + 2)
          clear hS
          have hd : decide ((2 * (r : Int) + 1 + 1) < m) = true := by simp; omega
          by_cases hlt : gt Y (2 * r + 1) < gt Y (2 * r + 2)
          · have c2' : wr.cell? ⟨B, 2 * r + 1 + 1, none⟩ = some (.int .i64 (gt Y (2 * r + 2))) := c2
            have f2' : wr.frozen? ⟨B, 2 * r + 1 + 1, none⟩ = false := f2
            by_cases hge : gt Y (2 * r + 2) ≤ gt Y r
            · go_wp2
              go_quiet (fail)
              go_wp2
              go_quiet (fail)
              go_wp2
              go_end0
              exact ⟨rfl, grown_drewN (grown_drewN HS.out.g _) _, Y, (HS.out.ints.drewN _).drewN _, HS.out.sw, HS.out.sift.stop (c := (2 * r + 2)) (fun d hd1 hd2 => by rcases hd1 with rfl | rfl <;> omega) hge⟩
            · go_wp2
              go_quiet (fail)
              go_wp2
              go_quiet (fail)
              go_wp2
              go_roundw
              case rel => exact ⟨2 * r + 2, swp Y r (2 * r + 2), by go_num, by omega, HS.out.step (c := 2 * r + 2) (by have := hYl.out; omega) (by omega) (by omega) (fun d hd1 hd2 => by rcases hd1 with rfl | rfl <;> omega) (by omega)⟩
              case measure => simp [intOf]; omega
          · have hlt' : ¬ gt Y (2 * r + 1) < gt Y (2 * r + 2) := hlt
            by_cases hge : gt Y (2 * r + 1) ≤ gt Y r
            · go_wp2
              go_quiet (fail)
              go_wp2
              go_quiet (fail)
              go_wp2
              go_end0
              exact ⟨rfl, grown_drewN (grown_drewN HS.out.g _) _, Y, (HS.out.ints.drewN _).drewN _, HS.out.sw, HS.out.sift.stop (c := (2 * r + 1)) (fun d hd1 hd2 => by rcases hd1 with rfl | rfl <;> omega) hge⟩
            · go_wp2
              go_quiet (fail)
              go_wp2
              go_quiet (fail)
              go_wp2
              go_roundw
              case rel => exact ⟨2 * r + 1, swp Y r (2 * r + 1), by go_num, by omega, HS.out.step (c := 2 * r + 1) (by have := hYl.out; omega) (by omega) (by omega) (fun d hd1 hd2 => by rcases hd1 with rfl | rfl <;> omega) (by omega)⟩
              case measure => simp [intOf]; omega
        · clear hS
          have hd : decide ((2 * (r : Int) + 1 + 1) < m) = false := by simp; omega
          by_cases hge : gt Y (2 * r + 1) ≤ gt Y r
          · go_wp2
            go_quiet (fail)
            go_wp2
            go_quiet (fail)
            go_wp2
            go_end0
            exact ⟨rfl, grown_drewN (grown_drewN HS.out.g _) _, Y, (HS.out.ints.drewN _).drewN _, HS.out.sw, HS.out.sift.stop (c := (2 * r + 1)) (fun d hd1 hd2 => by rcases hd1 with rfl | rfl <;> omega) hge⟩
          · go_wp2
            go_quiet (fail)
            go_wp2
            go_quiet (fail)
            go_wp2
            go_roundw
            case rel => exact ⟨2 * r + 1, swp Y r (2 * r + 1), by go_num, by omega, HS.out.step (c := 2 * r + 1) (by have := hYl.out; omega) (by omega) (by omega) (fun d hd1 hd2 => by rcases hd1 with rfl | rfl <;> omega) (by omega)⟩
            case measure => simp [intOf]; omega
      · clear hS
        go_wp2
        go_end0
        exact ⟨rfl, HS.out.g, Y, HS.out.ints, HS.out.sw, HS.out.sift.leaf (by omega)⟩
    · clear hS
      go_wp2
      go_end0
      exact ⟨rfl, HS.out.g, Y, HS.out.ints, HS.out.sw, HS.out.sift.leaf (by omega)⟩
end Go.Proofs.Qxb6604118a
