/- Rows of strings; the contracts of slices.Index (22), slices.Contains (21), hasString (13), cloneStrings (9), toCategories (17). -/
import Derived.Test.Qxb6605157aRows
import Derived.WalkKit
import Derived.WalkSpells
import Derived.Below
import Derived.Deep.OwnRows
import Derived.Deep.Draws
import Derived.Deep.QuietTactic
import Derived.BigQuiet
namespace Go.Proofs.Qxb6605157a
open Go.RowKit Go.Deep

def gs (T : List ByteArray) (i : Nat) : ByteArray := T.getD i ByteArray.empty
theorem gs_eq {T : List ByteArray} {i : Nat} (h : i < T.length) : gs T i = T[i] := by simp [gs, h]
/-- A slice that is read: its elements are the strings T. -/
def Src (w : World) (a : Option Addr) (T : List ByteArray) : Prop := T = [] ∨ ∃ b o, a = some ⟨b, o, none⟩ ∧ ∀ i, i < T.length → w.cell? ⟨b, o + i, none⟩ = some (.string (gs T i))
theorem Src.later {w w' : World} {a : Option Addr} {T : List ByteArray} (h : Src w a T) (hb : Below w.heap.size w w') : Src w' a T :=
  h.imp id fun ⟨b, o, e, f⟩ => ⟨b, o, e, fun i hi => (hb.cell (p := ⟨b, o + i, none⟩) (World.block_lt_of_cell? w _ (f i hi))).trans (f i hi)⟩

def has (T : List ByteArray) (s : ByteArray) : Bool := T.any fun t => s.toList == t.toList
theorem has_take_succ {T : List ByteArray} {k : Nat} {s : ByteArray} (h : k < T.length) : has (T.take (k + 1)) s = (has (T.take k) s || s.toList == (gs T k).toList) := by
  unfold has
  rw [List.take_succ_eq_append_getElem h, List.any_append, gs_eq h]
  simp
theorem has_at {T : List ByteArray} {k : Nat} {s : ByteArray} (h : k < T.length) (e : (s.toList == (gs T k).toList) = true) : has T s = true := by
  unfold has
  rw [List.any_eq_true]
  exact ⟨_, List.getElem_mem h, by rw [← gs_eq h]; exact e⟩
theorem has_append (T : List ByteArray) (s : ByteArray) : has (T ++ [s]) s = true := by
  unfold has; simp

def SaysBool (w : World) (b : Bool) (e : Ending) (w' : World) : Prop := e = .returned (.bool b) ∧ w' = w
def SaysIdx (w : World) (b : Bool) (e : Ending) (w' : World) : Prop := (∃ z : Int, e = .returned (.int .i64 z) ∧ decide (0 ≤ z) = b) ∧ w' = w

set_option maxRecDepth 100000 in
set_option maxHeartbeats 1000000 in
theorem index22 (a : Option Addr) (n c : Nat) (T : List ByteArray) (s : ByteArray) (w : World) (hn : T.length = n) (h8 : n ≤ 65537) (h : Src w a T) : Calls Try.prog 22 #[.slice a n c, .string s] w (SaysIdx w (has T s)) := by
  have HN : Hid (T.length = n) := hn
  clear hn
  go_enter Try.func22, Try.ntmps22
  go_wp2
  go_loop [8] (fun i => ∃ k : Nat, k ≤ n ∧ i = .int .i64 k ∧ has (T.take k) s = false) (fun i => n - (intOf i).toNat)
  case atStart => exact ⟨0, Nat.zero_le _, rfl, rfl⟩
  case round =>
    obtain ⟨k, hk, rfl, hno⟩ := hrel
    have HK : Hid (has (T.take k) s = false) := hno
    clear hno
    by_cases hlt : k < n
    · rcases h with rfl | ⟨b, o, rfl, hc⟩
      · have := HN.out; simp at this; omega
      have ck := hc k (by have := HN.out; omega)
      clear hc
      cases he : (s.toList == (gs T k).toList)
      · go_wp2
        go_round
        case rel => exact ⟨k + 1, by omega, by go_num, by rw [has_take_succ (by have := HN.out; omega), HK.out, he]; rfl⟩
        case measure => simp [intOf]; omega
      · go_wp2
        go_ret
        exact ⟨⟨k, rfl, by rw [has_at (by have := HN.out; omega) he]; simp⟩, rfl⟩
    · clear h
      go_wp2
      go_ret
      refine ⟨⟨-1, rfl, ?_⟩, rfl⟩
      have := HK.out
      rw [List.take_of_length_le (by have := HN.out; omega)] at this
      rw [this]; rfl

set_option maxRecDepth 100000 in
set_option maxHeartbeats 1000000 in
theorem contains21 (a : Option Addr) (n c : Nat) (T : List ByteArray) (s : ByteArray) (w : World) (hn : T.length = n) (h8 : n ≤ 65537) (h : Src w a T) : Calls Try.prog 21 #[.slice a n c, .string s] w (SaysBool w (has T s)) := by
  have HN : Hid (T.length = n ∧ Src w a T) := ⟨hn, h⟩
  clear hn h
  go_enter Try.func21, Try.ntmps21
  go_wp2_with fail
  refine (index22 a n c T s w HN.out.1 h8 HN.out.2).mono ?_
  rintro e w' ⟨⟨z, rfl, hz⟩, hw⟩
  rw [hw]; clear hw
  have HZ : Hid (decide (0 ≤ z) = has T s) := hz
  clear hz
  go_wp2
  go_ret
  exact ⟨by rw [← HZ.out]; rfl, rfl⟩

set_option maxRecDepth 100000 in
set_option maxHeartbeats 1000000 in
theorem has13 (a : Option Addr) (n c : Nat) (T : List ByteArray) (s : ByteArray) (w : World) (hn : T.length = n) (h8 : n ≤ 65537) (h : Src w a T) : Calls Try.prog 13 #[.slice a n c, .string s] w (SaysBool w (has T s)) := by
  have HN : Hid (T.length = n) := hn
  clear hn
  go_enter Try.func13, Try.ntmps13
  go_wp2
  go_loop [5] (fun i => ∃ k : Nat, k ≤ n ∧ i = .int .i64 k ∧ has (T.take k) s = false) (fun i => n - (intOf i).toNat)
  case atStart => exact ⟨0, Nat.zero_le _, rfl, rfl⟩
  case round =>
    obtain ⟨k, hk, rfl, hno⟩ := hrel
    have HK : Hid (has (T.take k) s = false) := hno
    clear hno
    by_cases hlt : k < n
    · rcases h with rfl | ⟨b, o, rfl, hc⟩
      · have := HN.out; simp at this; omega
      have ck := hc k (by have := HN.out; omega)
      clear hc
      cases he : ((gs T k).toList == s.toList)
      · have he' : Hid ((s.toList == (gs T k).toList) = false) := by show _ = false; rw [Bool.beq_comm]; exact he
        go_wp2
        go_round
        case rel => exact ⟨k + 1, by omega, by go_num, by rw [has_take_succ (by have := HN.out; omega), HK.out, he'.out]; rfl⟩
        case measure => simp [intOf]; omega
      · have he' : Hid ((s.toList == (gs T k).toList) = true) := by show _ = true; rw [Bool.beq_comm]; exact he
        go_wp2
        go_ret
        exact ⟨by rw [has_at (by have := HN.out; omega) he'.out]; rfl, rfl⟩
    · clear h
      go_wp2
      go_ret
      refine ⟨?_, rfl⟩
      have := HK.out
      rw [List.take_of_length_le (by have := HN.out; omega)] at this
      rw [this]; rfl

theorem Try.info9 : (Try.prog.info? 9).map (fun i => (i.zero, i.size, i.bytes)) = some (some (.string ByteArray.empty), 1, 16) := by kernel_rfl
theorem Try.info36 : (Try.prog.info? 36).map (fun i => (i.zero, i.size, i.bytes)) = some (some (.string ByteArray.empty), 1, 16) := by kernel_rfl

/-- A row of n cells whose first k are T's. -/
def Row (w : World) (B e n : Nat) (T : List ByteArray) (k : Nat) : Prop := ∃ f : Nat → Value, w.rowIs B e n f ∧ ∀ i, i < k → f i = .string (gs T i)
section
variable {w w' : World} {B e n k : Nat} {T : List ByteArray}
theorem Row.made (w : World) (e n : Nat) (T : List ByteArray) : Row (w.alloc (.cells (madeCells #[.string ByteArray.empty] n) e)) w.heap.size e n T 0 :=
  ⟨_, World.rowIs_made w (.string ByteArray.empty) n e, fun _ hi => absurd hi (Nat.not_lt_zero _)⟩
theorem Row.free (h : Row w B e n T k) (i : Nat) : w.frozen? ⟨B, i, none⟩ = false := by obtain ⟨f, h, _⟩ := h; exact World.rowIs.frozen h i
theorem Row.full (h : Row w B e n T k) {i : Nat} (hi : i < n) : ∃ v, w.cell? ⟨B, i, none⟩ = some v := by obtain ⟨f, h, _⟩ := h; exact ⟨_, World.rowIs.cell h hi⟩
theorem Row.step (h : Row w B e n T k) (_ : k < n) : Row (w.setCell ⟨B, k, none⟩ (.string (gs T k))) B e n T (k + 1) := by
  obtain ⟨f, h, hf⟩ := h
  refine ⟨_, World.rowIs.set h k _, fun i hi => ?_⟩
  by_cases e : i = k
  · subst e; simp
  · simp [e]; exact hf i (by omega)
theorem Row.cell (h : Row w B e n T k) (hk : ¬ k < n) {i : Nat} (hi : i < n) : w.cell? ⟨B, i, none⟩ = some (.string (gs T i)) := by
  obtain ⟨f, h, hf⟩ := h
  rw [World.rowIs.cell h hi, hf i (by omega)]
end

def GivesOwn (w : World) (nil : Bool) (T : List ByteArray) (e : Ending) (w' : World) : Prop := ∃ x : Option Addr, x.isNone = nil ∧ e = .returned (.slice x T.length T.length) ∧ Below w.heap.size w w' ∧ Src w' x T

set_option maxRecDepth 100000 in
set_option maxHeartbeats 1000000 in
theorem clone9 (a : Option Addr) (n c : Nat) (T : List ByteArray) (w : World) (hn : T.length = n) (hna : a = none → n = 0 ∧ c = 0) (h8 : n ≤ 65536) (h : Src w a T) : Calls Try.prog 9 #[.slice a n c] w (GivesOwn w a.isNone T) := by
  have hnil : ∀ W, (binOp .eql 24 (.slice a n c) (.slice none 0 0)).run Try.prog W = .ok (.bool a.isNone) W := fun W => Lib.run_eql_slice_nil W 24 9 a n c 0 0 Try.underlying24
  cases a with
  | none =>
    obtain ⟨rfl, rfl⟩ := hna rfl
    have hT : Hid (T = []) := List.eq_nil_of_length_eq_zero hn
    clear h hna hn
    go_enter Try.func9, Try.ntmps9
    go_wp2
    go_ret
    exact ⟨none, rfl, by rw [hT.out]; rfl, Below.refl _ _, .inl hT.out⟩
  | some x =>
    have hmk := fun W => run_make_row' (P := Try.prog) 24 9 (.string ByteArray.empty) 16 Try.underlying24 Try.info9 rfl .i64 .i64 n (by omega) (by omega) W
    have HN : Hid (T.length = n) := hn
    clear hn hna
    go_enter Try.func9, Try.ntmps9
    go_wp2
    clear hmk hnil
    go_loopw [4] (fun i wr => ∃ k : Nat, k ≤ n ∧ i = .int .i64 k ∧ Below w.heap.size w wr ∧ Row wr w.heap.size 9 n T k) (fun i _ => n - (intOf i).toNat)
    case atStart => exact ⟨0, Nat.zero_le _, rfl, (Below.refl _ _).alloc (Nat.le_refl _) _, Row.made w 9 n T⟩
    case round =>
      obtain ⟨k, hk, rfl, hb, hC⟩ := hrel
      by_cases hlt : k < n
      · rcases h with rfl | ⟨b, o, hx, hc⟩
        · have := HN.out; simp at this; omega
        obtain rfl := Option.some.inj hx
        have hs := hc k (by have := HN.out; omega)
        have hs' := (hb.cell (p := ⟨b, o + k, none⟩) (World.block_lt_of_cell? w _ hs)).trans hs
        have HB : Hid (Below w.heap.size w wr ∧ Row wr w.heap.size 9 n T k) := ⟨hb, hC⟩
        obtain ⟨v, hv⟩ := hC.full hlt
        have hf := hC.free k
        clear hC hc hs hx hb
        go_wp2
        go_roundw
        case rel => exact ⟨k + 1, by omega, by go_num, HB.out.1.setCell (Nat.le_refl _) _, HB.out.2.step hlt⟩
        case measure => simp [intOf]; omega
      · have HC : Hid (Row wr w.heap.size 9 n T k) := hC
        clear hC
        go_wp2
        go_ret
        have hnn := HN.out
        exact ⟨some ⟨w.heap.size, 0, none⟩, rfl, by rw [hnn]; rfl, hb, .inr ⟨w.heap.size, 0, rfl, fun i hi => by rw [Nat.zero_add]; exact HC.out.cell (by omega) (by omega)⟩⟩

set_option maxRecDepth 100000 in
set_option maxHeartbeats 1000000 in
theorem cats17 (a : Option Addr) (n c : Nat) (T : List ByteArray) (w : World) (hn : T.length = n) (hna : a = none → n = 0 ∧ c = 0) (h8 : n ≤ 65536) (h : Src w a T) : Calls Try.prog 17 #[.slice a n c] w (GivesOwn w a.isNone T) := by
  have hnil : ∀ W, (binOp .eql 24 (.slice a n c) (.slice none 0 0)).run Try.prog W = .ok (.bool a.isNone) W := fun W => Lib.run_eql_slice_nil W 24 9 a n c 0 0 Try.underlying24
  cases a with
  | none =>
    obtain ⟨rfl, rfl⟩ := hna rfl
    have hT : Hid (T = []) := List.eq_nil_of_length_eq_zero hn
    clear h hna hn
    go_enter Try.func17, Try.ntmps17
    go_wp2
    go_ret
    exact ⟨none, rfl, by rw [hT.out]; rfl, Below.refl _ _, .inl hT.out⟩
  | some x =>
    have hmk := fun W => run_make_row' (P := Try.prog) 34 36 (.string ByteArray.empty) 16 Try.underlying34 Try.info36 rfl .i64 .i64 n (by omega) (by omega) W
    have HN : Hid (T.length = n) := hn
    clear hn hna
    go_enter Try.func17, Try.ntmps17
    go_wp2
    clear hmk hnil
    go_loopw [4] (fun i wr => ∃ k : Nat, k ≤ n ∧ i = .int .i64 k ∧ Below w.heap.size w wr ∧ Row wr w.heap.size 36 n T k) (fun i _ => n - (intOf i).toNat)
    case atStart => exact ⟨0, Nat.zero_le _, rfl, (Below.refl _ _).alloc (Nat.le_refl _) _, Row.made w 36 n T⟩
    case round =>
      obtain ⟨k, hk, rfl, hb, hC⟩ := hrel
      by_cases hlt : k < n
      · rcases h with rfl | ⟨b, o, hx, hc⟩
        · have := HN.out; simp at this; omega
        obtain rfl := Option.some.inj hx
        have hs := hc k (by have := HN.out; omega)
        have hs' := (hb.cell (p := ⟨b, o + k, none⟩) (World.block_lt_of_cell? w _ hs)).trans hs
        have HB : Hid (Below w.heap.size w wr ∧ Row wr w.heap.size 36 n T k) := ⟨hb, hC⟩
        obtain ⟨v, hv⟩ := hC.full hlt
        have hf := hC.free k
        clear hC hc hs hx hb
        go_wp2
        go_roundw
        case rel => exact ⟨k + 1, by omega, by go_num, HB.out.1.setCell (Nat.le_refl _) _, HB.out.2.step hlt⟩
        case measure => simp [intOf]; omega
      · have HC : Hid (Row wr w.heap.size 36 n T k) := hC
        clear hC
        go_wp2
        go_ret
        have hnn := HN.out
        exact ⟨some ⟨w.heap.size, 0, none⟩, rfl, by rw [hnn]; rfl, hb, .inr ⟨w.heap.size, 0, rfl, fun i hi => by rw [Nat.zero_add]; exact HC.out.cell (by omega) (by omega)⟩⟩
end Go.Proofs.Qxb6605157a
