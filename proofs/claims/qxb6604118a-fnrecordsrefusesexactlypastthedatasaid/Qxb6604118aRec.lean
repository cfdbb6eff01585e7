/- FnRecords..: bytes in memory; cloneBytes (6), sameBytes (19), sameBytesNil (11), mulFull (10), zzBytes (5). -/
import Derived.Test.Qxb6604118aMem
import Derived.Laws.Entries
namespace Go.Proofs.Qxb6604118a
open Go.RowKit Go.Deep Pl

namespace Rec
/-- A slice of bytes that is read: its elements are X. -/
def Src (w : World) (a : Option Addr) (X : List Int) : Prop := X = [] ∨ ∃ b o, a = some ⟨b, o, none⟩ ∧ ∀ i, i < X.length → w.cell? ⟨b, o + i, none⟩ = some (.int .u8 (gt X i))
/-- Block B holds just X. -/
def Byt (w : World) (B : Nat) (X : List Int) : Prop := w.rowIs B 5 X.length (fun i => .int .u8 (gt X i))
/-- A slice of the call's own that holds just X. -/
def Own (w : World) (lo : Nat) (v : Value) (X : List Int) (nil : Bool) : Prop := (nil = true ∧ v = .slice none 0 0 ∧ X = []) ∨ nil = false ∧ ∃ B, lo ≤ B ∧ v = .slice (some ⟨B, 0, none⟩) X.length X.length ∧ Byt w B X
section
variable {w w' : World} {B : Nat} {X : List Int}
theorem Byt.cell (h : Byt w B X) {i : Nat} (hi : i < X.length) : w.cell? ⟨B, i, none⟩ = some (.int .u8 (gt X i)) := World.rowIs.cell h hi
theorem Byt.free (h : Byt w B X) (i : Nat) : w.frozen? ⟨B, i, none⟩ = false := World.rowIs.frozen h i
theorem Byt.lt (h : Byt w B X) : B < w.heap.size := World.rowIs.lt h
theorem Byt.set (h : Byt w B X) {i : Nat} (hi : i < X.length) (v : Int) : Byt (w.setCell ⟨B, i, none⟩ (.int .u8 v)) B (X.set i v) := by
  unfold Byt
  rw [List.length_set]
  refine (World.rowIs.set h i (.int .u8 v)).congr fun j hj => ?_
  rw [gt_set hi]
  split <;> rfl
theorem Byt.later (h : Byt w B X) (hb : Below w.heap.size w w') : Byt w' B X := World.rowIs.of_block h (hb.block B h.lt)
theorem Byt.made (w : World) (n : Nat) : Byt (w.alloc (.cells (madeCells #[.int .u8 0] n) 5)) w.heap.size (List.replicate n 0) := by
  unfold Byt
  rw [List.length_replicate]
  refine (World.rowIs_made w (.int .u8 0) n 5).congr fun i hi => ?_
  simp [gt, hi, List.getD]
end
theorem Try.info5 : (Try.prog.info? 5).map (fun i => (i.zero, i.size, i.bytes)) = some (some (.int .u8 0), 1, 1) := by kernel_rfl

def Copied (w : World) (B : Nat) (X : List Int) (k : Nat) : Prop := ∃ Y, Byt w B Y ∧ Y.length = X.length ∧ ∀ i, i < k → gt Y i = gt X i
theorem Copied.step {w : World} {B : Nat} {X : List Int} {k : Nat} (h : Copied w B X k) (hk : k < X.length) : Copied (w.setCell ⟨B, k, none⟩ (.int .u8 (gt X k))) B X (k + 1) := by
  obtain ⟨Y, hY, hl, he⟩ := h
  refine ⟨_, hY.set (by omega) _, by simpa using hl, fun i hi => ?_⟩
  rw [gt_set (by omega)]
  split
  · rename_i e; rw [e]
  · exact he i (by omega)
theorem Copied.done {w : World} {B : Nat} {X : List Int} (h : Copied w B X X.length) : Byt w B X := by
  obtain ⟨Y, hY, hl, he⟩ := h
  have : Y = X := List.ext_getElem hl fun i h1 h2 => by
    have := he i h2
    rwa [gt_eq h1, gt_eq h2] at this
  rw [← this]; exact hY

def GivesOwn (w : World) (X : List Int) (nil : Bool) (e : Ending) (w' : World) : Prop := ∃ v, e = .returned v ∧ Below w.heap.size w w' ∧ Own w' w.heap.size v X nil

set_option maxRecDepth 100000 in
set_option maxHeartbeats 1000000 in
theorem clone_any (a : Option Addr) (n c : Nat) (X : List Int) (w : World) (hn : X.length = n) (hna : a = none → n = 0 ∧ c = 0) (h8 : n ≤ 1048576) (h : Src w a X) : Calls Try.prog 6 #[.slice a n c] w (GivesOwn w X a.isNone) := by
  have hnil : ∀ W, (binOp .eql 22 (.slice a n c) (.slice none 0 0)).run Try.prog W = .ok (.bool a.isNone) W := fun W => Lib.run_eql_slice_nil W 22 5 a n c 0 0 Try.underlying22
  cases a with
  | none =>
    obtain ⟨rfl, rfl⟩ := hna rfl
    have hX : Hid (X = []) := List.eq_nil_of_length_eq_zero hn
    clear h hna hn
    go_enter Try.func6, Try.ntmps6
    go_wp2
    go_ret
    exact ⟨_, rfl, Below.refl _ _, .inl ⟨rfl, rfl, hX.out⟩⟩
  | some x =>
    have hmk := fun W => run_make_row' (P := Try.prog) 22 5 (.int .u8 0) 1 Try.underlying22 Try.info5 rfl .i64 .i64 n (by omega) (by omega) W
    have HN : Hid (X.length = n) := hn
    clear hn hna
    go_enter Try.func6, Try.ntmps6
    go_wp2
    clear hmk hnil
    go_loopw [4] (fun i wr => ∃ k : Nat, k ≤ n ∧ i = .int .i64 k ∧ Below w.heap.size w wr ∧ Copied wr w.heap.size X k) (fun i _ => n - (intOf i).toNat)
    case atStart => exact ⟨0, Nat.zero_le _, rfl, (Below.refl _ _).alloc (Nat.le_refl _) _, _, Byt.made w n, by rw [HN.out]; simp, fun i hi => absurd hi (Nat.not_lt_zero _)⟩
    case round =>
      obtain ⟨k, hk, rfl, hb, hC⟩ := hrel
      by_cases hlt : k < n
      · rcases h with rfl | ⟨b, o, hx, hc⟩
        · have := HN.out; simp at this; omega
        obtain rfl := Option.some.inj hx
        have hs := hc k (by have := HN.out; omega)
        have hs' := (hb.cell (p := ⟨b, o + k, none⟩) (World.block_lt_of_cell? w _ hs)).trans hs
        have HB : Hid (Below w.heap.size w wr ∧ Copied wr w.heap.size X k) := ⟨hb, hC⟩
        obtain ⟨Y, hY, hl, _⟩ := hC
        have hv := hY.cell (i := k) (by have := HN.out; omega)
        have hf := hY.free k
        clear hY hl hc hs hx hb
        go_wp2
        go_roundw
        case rel => exact ⟨k + 1, by omega, by go_num, HB.out.1.setCell (Nat.le_refl _) _, HB.out.2.step (by have := HN.out; omega)⟩
        case measure => simp [intOf]; omega
      · have HC : Hid (Copied wr w.heap.size X k) := hC
        clear hC
        go_wp2
        go_ret
        have hnn := HN.out
        have hkn : k = X.length := by omega
        have hI : Byt wr w.heap.size X := by
          have := HC.out
          rw [hkn] at this; exact this.done
        exact ⟨_, rfl, hb, .inr ⟨rfl, w.heap.size, Nat.le_refl _, by rw [hnn]; rfl, hI⟩⟩

set_option maxRecDepth 100000 in
set_option maxHeartbeats 1000000 in
theorem same19 (a b : Option Addr) (n c d : Nat) (X : List Int) (w : World) (hn : X.length = n) (h8 : n ≤ 1048576) (h : Src w a X) (k : Src w b X) : Calls Try.prog 19 #[.slice a n c, .slice b n d] w (SaysTrue w) := by
  have HN : Hid (X.length = n) := hn
  clear hn
  go_enter Try.func19, Try.ntmps19
  go_wp2
  go_loopw [5] (fun i wr => ∃ (k q : Nat), k ≤ n ∧ i = .int .i64 k ∧ wr = w.drewN q) (fun i _ => n - (intOf i).toNat)
  case atStart => exact ⟨0, 0, Nat.zero_le _, rfl, rfl⟩
  case round =>
    obtain ⟨i, q, hi, rfl, rfl⟩ := hrel
    by_cases hlt : i < n
    · rcases h with rfl | ⟨b1, o1, rfl, h1⟩
      · have := HN.out; simp at this; omega
      rcases k with rfl | ⟨b2, o2, rfl, h2⟩
      · have := HN.out; simp at this; omega
      have g1 := h1 i (by have := HN.out; omega)
      have g2 := h2 i (by have := HN.out; omega)
      clear h1 h2
      go_wp2
      go_quiet (fail)
      go_wp2
      go_roundw
      case rel => exact ⟨i + 1, _, by omega, by go_num, rfl⟩
      case measure => simp [intOf]; omega
    · clear h k
      go_wp2
      go_ret
      exact ⟨rfl, _, rfl⟩

set_option maxRecDepth 100000 in
set_option maxHeartbeats 1000000 in
theorem same11 (a b : Option Addr) (n c d : Nat) (X : List Int) (w : World) (hab : a.isNone = b.isNone) (hn : X.length = n) (h8 : n ≤ 1048576) (h : Src w a X) (k : Src w b X) : Calls Try.prog 11 #[.slice a n c, .slice b n d] w (SaysTrue w) := by
  have hnil : ∀ W, (binOp .eql 22 (.slice a n c) (.slice none 0 0)).run Try.prog W = .ok (.bool b.isNone) W := fun W => hab ▸ Lib.run_eql_slice_nil W 22 5 a n c 0 0 Try.underlying22
  have hnil' : ∀ W, (binOp .eql 22 (.slice b n d) (.slice none 0 0)).run Try.prog W = .ok (.bool b.isNone) W := fun W => Lib.run_eql_slice_nil W 22 5 b n d 0 0 Try.underlying22
  have HN : Hid (X.length = n) := hn
  have HS : Hid (Src w a X ∧ Src w b X) := ⟨h, k⟩
  clear hn h k hab
  go_enter Try.func11, Try.ntmps11
  go_wp2_with fail
  refine (same19 a b n c d X w HN.out h8 HS.out.1 HS.out.2).mono ?_
  rintro e w' ⟨rfl, q, hw⟩
  rw [hw]; clear hw hnil hnil'
  go_wp2
  go_ret
  exact ⟨rfl, _, rfl⟩

def GB (w : World) (e : Ending) (w' : World) : Prop := ∃ b : Bool, e = .returned (.bool b) ∧ w' = w
set_option maxHeartbeats 400000 in
theorem bytes5_any (a : Option Addr) (n c : Nat) (b : Bool) (x y : Int) (w : World) : Calls Try.prog 5 #[.slice a n c, .bool b, .int .u64 x, .int .u64 y] w (GB w) := by
  by_cases h1 : 1048576 < (n : Int)
  · go_enter Try.func5, Try.ntmps5
    go_wp2
    go_ret
    exact ⟨_, rfl, rfl⟩
  · go_enter Try.func5, Try.ntmps5
    go_wp2
    go_ret
    exact ⟨_, rfl, rfl⟩
end Rec
end Go.Proofs.Qxb6604118a
