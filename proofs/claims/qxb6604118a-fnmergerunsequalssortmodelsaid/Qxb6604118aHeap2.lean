/- heapSort (15). -/
import Derived.Test.Qxb6604118aHeap
namespace Go.Proofs.Qxb6604118a
open Go.RowKit Go.Deep Pl

/-- Block B holds a permutation of X; no other old block has turned. -/
structure PermAt (w wr : World) (B : Nat) (X Y : List Int) : Prop where
  g : w.grownBy wr (some B)
  ints : Ints wr B Y
  perm : Y.Perm X
theorem PermAt.sifted {w wr w' : World} {B : Nat} {X Y Z : List Int} {m : Nat} (h : PermAt w wr B X Y) (hg : wr.grownBy w' (some B)) (hZ : Ints w' B Z) (hs : Sw Y Z m) : PermAt w w' B X Z :=
  ⟨grown_trans h.g hg, hZ, hs.perm.trans h.perm⟩
theorem PermAt.swap {w wr : World} {B : Nat} {X Y : List Int} {i j : Nat} (h : PermAt w wr B X Y) (hi : i < Y.length) (hj : j < Y.length) :
    PermAt w ((wr.setCell ⟨B, i, none⟩ (.int .i64 (gt Y j))).setCell ⟨B, j, none⟩ (.int .i64 (gt Y i))) B X (swp Y i j) :=
  ⟨grown_set (grown_set h.g _ _) _ _, (h.ints.set hi _).set (by simpa using hj) _, (swp_perm hi hj).trans h.perm⟩

def Sorted (w : World) (B : Nat) (X : List Int) (e : Ending) (w' : World) : Prop :=
  e = .returned (.tuple #[]) ∧ ∃ Y, PermAt w w' B X Y ∧ Ord Y

theorem sift_zero (B : Nat) (X : List Int) (n m : Nat) (w : World) (hn : X.length = n) (h8 : n ≤ 65536) (hm : m ≤ n) (h : Ints w B X) (hh : Heap X (0 + 1) m) :
    Calls Try.prog 20 #[.slice (some ⟨B, 0, none⟩) n n, .int .i64 0, .int .i64 m] w (Sifted w B X 0 m) :=
  sift_any B X n 0 m w hn h8 hm (by omega) h hh

set_option maxRecDepth 100000 in
set_option maxHeartbeats 4000000 in
theorem heap_any (B : Nat) (X : List Int) (n : Nat) (w : World) (hn : X.length = n) (h8 : n ≤ 65536) (h : Ints w B X) :
    Calls Try.prog 15 #[.slice (some ⟨B, 0, none⟩) n n] w (Sorted w B X) := by
  have HN : Hid (X.length = n) := hn
  have H0 : Hid (PermAt w w B X X) := ⟨World.grownBy.refl _ _, h, List.Perm.refl _⟩
  clear hn h
  go_enter Try.func15, Try.ntmps15
  go_wp2
  go_loopw [3] (fun i wr => ∃ (j : Nat) (Y : List Int), i = .int .i64 ((j : Int) - 1) ∧ j ≤ n / 2 ∧ PermAt w wr B X Y ∧ Heap Y j n) (fun i _ => (intOf i + 1).toNat)
  case atStart => exact ⟨n / 2, X, by go_num, Nat.le_refl _, H0.out, Heap.leaves X (by omega)⟩
  case round =>
    obtain ⟨j, Y, rfl, hj, hP, hH⟩ := hrel
    have HP : Hid (PermAt w wr B X Y) := hP
    have HH : Hid (Heap Y j n) := hH
    have hYl : Hid (Y.length = n) := hP.perm.length_eq.trans HN.out
    clear hP hH
    cases j with
    | zero =>
      go_wp2
      go_loopw [4] (fun i wr => ∃ (e : Nat) (Y : List Int), i = .int .i64 ((e : Int) - 1) ∧ e ≤ n ∧ PermAt w wr B X Y ∧ Phase Y e) (fun i _ => (intOf i + 1).toNat)
      case atStart => exact ⟨n, Y, rfl, Nat.le_refl _, HP.out, by rw [← hYl.out]; exact Phase.start (by rw [hYl.out]; exact HH.out)⟩
      case round =>
        clear HP HH hYl
        obtain ⟨e, Z, rfl, he, hP, hH⟩ := hrel
        have HP : Hid (PermAt w wr B X Z) := hP
        have HH : Hid (Phase Z e) := hH
        have hZl : Hid (Z.length = n) := hP.perm.length_eq.trans HN.out
        clear hP hH
        by_cases he1 : e ≤ 1
        · go_wp2
          go_end0
          exact ⟨rfl, Z, HP.out, ord_of_srt (HH.out.srt he1)⟩
        · obtain ⟨e, rfl⟩ : ∃ e', e = e' + 1 := ⟨e - 1, by omega⟩
          have c0 := HP.out.ints.cell (i := 0) (by have := hZl.out; omega)
          have ce := HP.out.ints.cell (i := e) (by have := hZl.out; omega)
          have f0 := HP.out.ints.free 0
          have fe := HP.out.ints.free e
          go_wp2_with fail
          have HP1 : Hid (PermAt w ((wr.setCell ⟨B, 0, none⟩ (.int .i64 (gt Z e))).setCell ⟨B, e, none⟩ (.int .i64 (gt Z 0))) B X (swp Z 0 e)) := HP.out.swap (by have := hZl.out; omega) (by have := hZl.out; omega)
          refine (sift_zero B (swp Z 0 e) n e _ (by rw [length_swp]; exact hZl.out) h8 (by omega) HP1.out.ints (HH.out.pre (by omega) (by have := hZl.out; omega))).mono ?_
          rintro e1 w2 ⟨rfl, hg2, Z2, hI2, hs2, hH2⟩
          have HP2 : Hid (PermAt w w2 B X Z2) := HP1.out.sifted hg2 hI2 hs2
          have HH2 : Hid (Phase Z2 e) := HH.out.next (by omega) (by have := hZl.out; omega) hs2 hH2
          clear hg2 hI2 hs2 hH2 c0 ce f0 fe HP HH HP1 hZl
          go_wp2
          go_roundw
          case rel => (repeat apply Exists.intro); exact ⟨⟨e, Z2, rfl, by omega, HP2.out, HH2.out⟩, rfl⟩
          case measure => simp [intOf]
    | succ j =>
      go_wp2_with fail
      refine (sift_any B Y n j n wr hYl.out h8 (Nat.le_refl _) (by omega) HP.out.ints HH.out).mono ?_
      rintro e1 w2 ⟨rfl, hg2, Z2, hI2, hs2, hH2⟩
      have HP2 : Hid (PermAt w w2 B X Z2) := HP.out.sifted hg2 hI2 hs2
      have HH2 : Hid (Heap Z2 j n) := hH2
      clear hg2 hI2 hs2 hH2 HP HH
      go_wp2
      go_roundw
      case rel => exact ⟨j, Z2, rfl, by omega, HP2.out, HH2.out⟩
      case measure => simp [intOf]

set_option maxRecDepth 100000 in
set_option maxHeartbeats 400000 in
theorem heap_nil (w : World) : Calls Try.prog 15 #[.slice none 0 0] w fun e w' => e = .returned (.tuple #[]) ∧ w' = w := by
  go_enter Try.func15, Try.ntmps15
  go_wp2
  go_loop [3] (fun i => i = .int .i64 (-1)) (fun _ => 0)
  case atStart => rfl
  case round =>
    subst hrel
    go_wp2
    go_loop [4] (fun i => i = .int .i64 (-1)) (fun _ => 0)
    case atStart => rfl
    case round =>
      subst hrel
      go_wp2
      go_end0
      exact ⟨rfl, rfl⟩
end Go.Proofs.Qxb6604118a
