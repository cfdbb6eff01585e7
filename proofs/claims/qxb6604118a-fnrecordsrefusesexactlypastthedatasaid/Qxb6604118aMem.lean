/- Rows of integers in memory; the contracts of cloneInts (14), sameInts (17), siftDown (20), heapSort (15). -/
import Derived.Test.Qxb6604118aRows
import Derived.Test.Qxb6604118aPlain
import Derived.WalkKit
import Derived.WalkSpells
import Derived.Deep.OwnRows
import Derived.Deep.Draws
import Derived.Deep.QuietTactic
import Derived.BigQuiet
namespace Go.Proofs.Qxb6604118a
open Go.RowKit Go.Deep Pl

/-- Block B holds just X. -/
def Ints (w : World) (B : Nat) (X : List Int) : Prop := w.rowIs B 3 X.length (fun i => .int .i64 (gt X i))
section
variable {w w' : World} {B : Nat} {X : List Int}
theorem Ints.cell (h : Ints w B X) {i : Nat} (hi : i < X.length) : w.cell? ⟨B, i, none⟩ = some (.int .i64 (gt X i)) := World.rowIs.cell h hi
theorem Ints.free (h : Ints w B X) (i : Nat) : w.frozen? ⟨B, i, none⟩ = false := World.rowIs.frozen h i
theorem Ints.lt (h : Ints w B X) : B < w.heap.size := World.rowIs.lt h
theorem Ints.set (h : Ints w B X) {i : Nat} (hi : i < X.length) (v : Int) : Ints (w.setCell ⟨B, i, none⟩ (.int .i64 v)) B (X.set i v) := by
  unfold Ints
  rw [List.length_set]
  refine (World.rowIs.set h i (.int .i64 v)).congr fun j hj => ?_
  rw [gt_set hi]
  split <;> rfl
theorem Ints.of_block (h : Ints w B X) (e : w'.heap[B]? = w.heap[B]?) : Ints w' B X := World.rowIs.of_block h e
theorem Ints.other (h : Ints w B X) {a : Addr} (ha : B ≠ a.block) (v : Value) : Ints (w.setCell a v) B X := World.rowIs.setOther h ha v
theorem Ints.alloc (h : Ints w B X) (o : Obj) : Ints (w.alloc o) B X := World.rowIs.alloc h o
theorem Ints.drewN (h : Ints w B X) (n : Nat) : Ints (w.drewN n) B X := h.of_block rfl
theorem Ints.later (h : Ints w B X) (hb : Below w.heap.size w w') : Ints w' B X := h.of_block (hb.block B h.lt)
theorem Ints.grown (h : Ints w B X) {row : Option Nat} (hg : w.grownBy w' row) (hr : some B ≠ row) : Ints w' B X := h.of_block (hg.block B h.lt hr)
theorem Ints.made (w : World) (n : Nat) : Ints (w.alloc (.cells (madeCells #[.int .i64 0] n) 3)) w.heap.size (List.replicate n 0) := by
  unfold Ints
  rw [List.length_replicate]
  refine (World.rowIs_made w (.int .i64 0) n 3).congr fun i hi => ?_
  simp [gt, hi, List.getD]
end

/-- A slice that is read: its elements are X. -/
def Src (w : World) (a : Option Addr) (X : List Int) : Prop := X = [] ∨ ∃ b o, a = some ⟨b, o, none⟩ ∧ ∀ i, i < X.length → w.cell? ⟨b, o + i, none⟩ = some (.int .i64 (gt X i))
/-- A slice of the call's own that holds just X. -/
def Own (w : World) (lo : Nat) (v : Value) (X : List Int) : Prop := (v = .slice none 0 0 ∧ X = []) ∨ ∃ B, lo ≤ B ∧ v = .slice (some ⟨B, 0, none⟩) X.length X.length ∧ Ints w B X

theorem Ints.src {w : World} {B : Nat} {X : List Int} (h : Ints w B X) : Src w (some ⟨B, 0, none⟩) X := .inr ⟨B, 0, rfl, fun i hi => by rw [Nat.zero_add]; exact h.cell hi⟩
theorem Src.drewN {w : World} {a : Option Addr} {X : List Int} (h : Src w a X) (n : Nat) : Src (w.drewN n) a X := h.imp id fun ⟨b, o, e, f⟩ => ⟨b, o, e, fun i hi => by simpa using f i hi⟩
theorem Src.later {w w' : World} {a : Option Addr} {X : List Int} (h : Src w a X) (hb : Below w.heap.size w w') : Src w' a X :=
  h.imp id fun ⟨b, o, e, f⟩ => ⟨b, o, e, fun i hi => (hb.cell (p := ⟨b, o + i, none⟩) (World.block_lt_of_cell? w _ (f i hi))).trans (f i hi)⟩

theorem Try.info3 : (Try.prog.info? 3).map (fun i => (i.zero, i.size, i.bytes)) = some (some (.int .i64 0), 1, 8) := by kernel_rfl

theorem take_succ_gt {X : List Int} {k : Nat} (h : k < X.length) : X.take (k + 1) = X.take k ++ [gt X k] := by
  rw [List.take_succ_eq_append_getElem h, gt_eq h]

/-- The copy so far: the first k as X has them. -/
def Copied (w : World) (B : Nat) (X : List Int) (k : Nat) : Prop := ∃ Y, Ints w B Y ∧ Y.length = X.length ∧ ∀ i, i < k → gt Y i = gt X i
theorem Copied.step {w : World} {B : Nat} {X : List Int} {k : Nat} (h : Copied w B X k) (hk : k < X.length) : Copied (w.setCell ⟨B, k, none⟩ (.int .i64 (gt X k))) B X (k + 1) := by
  obtain ⟨Y, hY, hl, he⟩ := h
  refine ⟨_, hY.set (by omega) _, by simpa using hl, fun i hi => ?_⟩
  rw [gt_set (by omega)]
  split
  · rename_i e; rw [e]
  · exact he i (by omega)
theorem Copied.done {w : World} {B : Nat} {X : List Int} (h : Copied w B X X.length) : Ints w B X := by
  obtain ⟨Y, hY, hl, he⟩ := h
  have : Y = X := List.ext_getElem hl fun i h1 h2 => by
    have := he i h2
    rwa [gt_eq h1, gt_eq h2] at this
  rw [← this]; exact hY

def GivesOwn (w : World) (X : List Int) (e : Ending) (w' : World) : Prop := ∃ v, e = .returned v ∧ Below w.heap.size w w' ∧ Own w' w.heap.size v X

set_option maxRecDepth 100000 in
set_option maxHeartbeats 1000000 in
theorem clone_any (a : Option Addr) (n c : Nat) (X : List Int) (w : World) (hn : X.length = n) (hna : a = none → n = 0 ∧ c = 0) (h8 : n ≤ 65536) (h : Src w a X) : Calls Try.prog 14 #[.slice a n c] w (GivesOwn w X) := by
  have hnil : ∀ W, (binOp .eql 34 (.slice a n c) (.slice none 0 0)).run Try.prog W = .ok (.bool a.isNone) W := fun W => Lib.run_eql_slice_nil W 34 3 a n c 0 0 Try.underlying34
  cases a with
  | none =>
    obtain ⟨rfl, rfl⟩ := hna rfl
    have hX : Hid (X = []) := List.eq_nil_of_length_eq_zero hn
    clear h hna hn
    go_enter Try.func14, Try.ntmps14
    go_wp2
    go_ret
    exact ⟨_, rfl, Below.refl _ _, .inl ⟨rfl, hX.out⟩⟩
  | some x =>
    have hmk := fun W => run_make_row' (P := Try.prog) 34 3 (.int .i64 0) 8 Try.underlying34 Try.info3 rfl .i64 .i64 n (by omega) (by omega) W
    have HN : Hid (X.length = n) := hn
    clear hn hna
    go_enter Try.func14, Try.ntmps14
    go_wp2
    clear hmk hnil
    go_loopw [4] (fun i wr => ∃ k : Nat, k ≤ n ∧ i = .int .i64 k ∧ Below w.heap.size w wr ∧ Copied wr w.heap.size X k) (fun i _ => n - (intOf i).toNat)
    case atStart => exact ⟨0, Nat.zero_le _, rfl, (Below.refl _ _).alloc (Nat.le_refl _) _, _, Ints.made w n, by rw [HN.out]; simp, fun i hi => absurd hi (Nat.not_lt_zero _)⟩
    case round =>
      obtain ⟨k, hk, rfl, hb, hC⟩ := hrel
      by_cases hlt : k < n
      · rcases h with rfl | ⟨b, o, hx, hc⟩
        · have := HN.out; simp at this; omega
        obtain rfl := Option.some.inj hx
        have hs := hc k (by have := HN.out; omega)
        have hs' := (hb.cell (p := ⟨b, o + k, none⟩) (World.block_lt_of_cell? w _ hs)).trans hs
        have HB : Hid (Below w.heap.size w wr ∧ Copied wr w.heap.size X k) := ⟨hb, hC⟩
        obtain ⟨Y, hY, hl, _⟩ := hC
        have hv := hY.cell (i := k) (by have := HN.out; omega)
        have hf := hY.free k
        clear hY hl hc hs hx hb
        go_wp2
        go_roundw
        case rel => exact ⟨k + 1, by omega, by go_num, HB.out.1.setCell (Nat.le_refl _) _, HB.out.2.step (by have := HN.out; omega)⟩
        case measure => simp [intOf]; omega
      · have HC : Hid (Copied wr w.heap.size X k) := hC
        clear hC
        go_wp2
        go_ret
        have hnn := HN.out
        have hkn : k = X.length := by omega
        have hI : Ints wr w.heap.size X := by
          have := HC.out
          rw [hkn] at this; exact this.done
        exact ⟨_, rfl, hb, .inr ⟨w.heap.size, Nat.le_refl _, by rw [hnn]; rfl, hI⟩⟩

def SaysTrue (w : World) (e : Ending) (w' : World) : Prop := e = .returned (.bool true) ∧ ∃ q, w' = w.drewN q

set_option maxRecDepth 100000 in
set_option maxHeartbeats 1000000 in
theorem same_any (a b : Option Addr) (n c d : Nat) (X : List Int) (w : World) (hn : X.length = n) (h8 : n ≤ 65536) (h : Src w a X) (k : Src w b X) : Calls Try.prog 17 #[.slice a n c, .slice b n d] w (SaysTrue w) := by
  have HN : Hid (X.length = n) := hn
  clear hn
  go_enter Try.func17, Try.ntmps17
  go_wp2
  go_loopw [5] (fun i wr => ∃ (k q : Nat), k ≤ n ∧ i = .int .i64 k ∧ wr = w.drewN q) (fun i _ => n - (intOf i).toNat)
  case atStart => exact ⟨0, 0, Nat.zero_le _, rfl, rfl⟩
  case round =>
    obtain ⟨i, q, hi, rfl, rfl⟩ := hrel
    by_cases hlt : i < n
    · rcases h with rfl | ⟨b1, o1, rfl, h1⟩
      · have := HN.out; simp at this; omega
      rcases k with rfl | ⟨b2, o2, rfl, h2⟩
      · have := HN.out; simp at this; omega
      have g1 := h1 i (by have := HN.out; omega)
      have g2 := h2 i (by have := HN.out; omega)
      clear h1 h2
      go_wp2
      go_quiet (fail)
      go_wp2
      go_roundw
      case rel => exact ⟨i + 1, _, by omega, by go_num, rfl⟩
      case measure => simp [intOf]; omega
    · clear h k
      go_wp2
      go_ret
      exact ⟨rfl, _, rfl⟩
end Go.Proofs.Qxb6604118a
