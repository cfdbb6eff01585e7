/-
  A CHECKER for functions that only read a tree of slices of structs in nested loops (zzBytes_..): a Bool-like function over the code, whose 'some' is proved to say:
  the code, run in any frame of which the abstract state tells the truth, leaves the world as it was and ends normally, by an exit, or by a return with a bool.
-/
import Derived.Test.Qxb6603992aOps
namespace Go.Proofs.Qxb6603992a.Ck
open Go.RowKit

/-- A path into the tree, the last step first: '(s + 1, f)': element 'slot s' of the slice, field f; '(0, f)': behind the pointer, field f. -/
abbrev Path := List (Nat × Nat)

structure SV where
  tag : Nat
  path : Path := []
  j : Nat := 0
  f : Nat := 0

def SV.same (x y : SV) : Bool := x.tag == y.tag && (x.path == y.path && (x.j == y.j && x.f == y.f))
theorem SV.same_eq {x y : SV} (h : x.same y = true) : x = y := by
  obtain ⟨a, b, c, d⟩ := x; obtain ⟨a', b', c', d'⟩ := y
  simp only [SV.same, Bool.and_eq_true, beq_iff_eq] at h
  obtain ⟨rfl, rfl, rfl, rfl⟩ := h; rfl

/-- The fields' types of a slice's element, or of what a pointer leads to. -/
def fieldsOf (t : Nat) : List Nat :=
  if t = 22 then [9, 50] else if t = 50 then [9, 53, 9] else if t = 53 then [9, 56, 9, 9, 29, 29, 29, 57] else if t = 57 then [9, 56, 29] else if t = 29 then [9] else if t = 56 then [9, 9, 9] else []
def isSlice (t : Nat) : Bool := t == 22 || (t == 50 || (t == 53 || (t == 57 || t == 29)))
def elemTy (t : Nat) : Nat := if t = 22 then 52 else if t = 50 then 55 else if t = 53 then 59 else if t = 57 then 63 else 0

def tyOf : Path → Nat
  | [] => 22
  | (_, f) :: p => (fieldsOf (tyOf p)).getD f 0

/-- The value at a path. -/
def V (w : World) (root : Value) (k : Nat → Nat) : Path → Value
  | [] => root
  | (0, f) :: p => match V w root k p with
    | .pointer (some x) => (w.cell? ⟨x.block, x.off + f, none⟩).getD undef
    | _ => undef
  | (s + 1, f) :: p => match V w root k p with
    | .slice (some x) _ _ => (w.cell? ⟨x.block, x.off + k s * (fieldsOf (tyOf p)).length + f, none⟩).getD undef
    | _ => undef

/-- A value of type t, with all that it leads to. -/
def ok (w : World) (t : Nat) (v : Value) : Prop :=
  (t = 9 → ∃ s, v = .string s) ∧ (t = 56 → ∃ p, v = .pointer p ∧ Gvk w p) ∧ (t = 29 → ∃ a n c, v = .slice a n c ∧ Strs w a n c) ∧ (t = 57 → ∃ a n c, v = .slice a n c ∧ Subs w a n c) ∧
  (t = 53 → ∃ a n c, v = .slice a n c ∧ Ress w a n c) ∧ (t = 50 → ∃ a n c, v = .slice a n c ∧ Vers w a n c) ∧ (t = 22 → ∃ a n c, v = .slice a n c ∧ Grps w a n c)

theorem ok_9 {w : World} {s : ByteArray} : ok w 9 (.string s) := ⟨fun _ => ⟨s, rfl⟩, by simp, by simp, by simp, by simp, by simp, by simp⟩
theorem ok_56 {w : World} {p : Option Addr} (h : Gvk w p) : ok w 56 (.pointer p) := ⟨by simp, fun _ => ⟨p, rfl, h⟩, by simp, by simp, by simp, by simp, by simp⟩
theorem ok_29 {w : World} {a n c} (h : Strs w a n c) : ok w 29 (.slice a n c) := ⟨by simp, by simp, fun _ => ⟨a, n, c, rfl, h⟩, by simp, by simp, by simp, by simp⟩
theorem ok_57 {w : World} {a n c} (h : Subs w a n c) : ok w 57 (.slice a n c) := ⟨by simp, by simp, by simp, fun _ => ⟨a, n, c, rfl, h⟩, by simp, by simp, by simp⟩
theorem ok_53 {w : World} {a n c} (h : Ress w a n c) : ok w 53 (.slice a n c) := ⟨by simp, by simp, by simp, by simp, fun _ => ⟨a, n, c, rfl, h⟩, by simp, by simp⟩
theorem ok_50 {w : World} {a n c} (h : Vers w a n c) : ok w 50 (.slice a n c) := ⟨by simp, by simp, by simp, by simp, by simp, fun _ => ⟨a, n, c, rfl, h⟩, by simp⟩
theorem ok_22 {w : World} {a n c} (h : Grps w a n c) : ok w 22 (.slice a n c) := ⟨by simp, by simp, by simp, by simp, by simp, by simp, fun _ => ⟨a, n, c, rfl, h⟩⟩

theorem isSlice_cases {t : Nat} (h : isSlice t = true) : t = 22 ∨ t = 50 ∨ t = 53 ∨ t = 57 ∨ t = 29 := by
  simpa [isSlice] using h

theorem head_lim {a : Option Addr} {n c b : Nat} (h : Head a n c b) (hb : 1 ≤ b) : n ≤ 140737488351232 :=
  Nat.le_trans h.le (Nat.le_trans (Nat.le_mul_of_pos_right c hb) h.room)

theorem ok_slice {w : World} {t : Nat} {v : Value} (ht : isSlice t = true) (h : ok w t v) : ∃ a n c, v = .slice a n c ∧ n ≤ 140737488351232 := by
  obtain ⟨_, _, h29, h57, h53, h50, h22⟩ := h
  rcases isSlice_cases ht with rfl | rfl | rfl | rfl | rfl
  · obtain ⟨a, n, c, e, k, _⟩ := h22 rfl; exact ⟨a, n, c, e, head_lim k (by omega)⟩
  · obtain ⟨a, n, c, e, k, _⟩ := h50 rfl; exact ⟨a, n, c, e, head_lim k (by omega)⟩
  · obtain ⟨a, n, c, e, k, _⟩ := h53 rfl; exact ⟨a, n, c, e, head_lim k (by omega)⟩
  · obtain ⟨a, n, c, e, k, _⟩ := h57 rfl; exact ⟨a, n, c, e, head_lim k (by omega)⟩
  · obtain ⟨a, n, c, e, k, _⟩ := h29 rfl; exact ⟨a, n, c, e, head_lim k (by omega)⟩

theorem ok_elem {w : World} {t : Nat} {a : Option Addr} {n c i f : Nat} (ht : isSlice t = true) (h : ok w t (.slice a n c)) (hi : i < n) (hf : f < (fieldsOf t).length) :
    ∃ b o, a = some ⟨b, o, none⟩ ∧ ∃ u, w.cell? ⟨b, o + i * (fieldsOf t).length + f, none⟩ = some u ∧ ok w ((fieldsOf t).getD f 0) u := by
  obtain ⟨_, _, h29, h57, h53, h50, h22⟩ := h
  rcases isSlice_cases ht with rfl | rfl | rfl | rfl | rfl
  · obtain ⟨a', n', c', e, _, k⟩ := h22 rfl
    injection e with e1 e2 e3; subst e1 e2 e3
    rcases k with k | ⟨b, o, rfl, k⟩
    · omega
    obtain ⟨⟨s0, x0⟩, ⟨a1, n1, c1, x1, y1⟩⟩ := k i hi
    refine ⟨b, o, rfl, ?_⟩
    match f, hf with
    | 0, _ => exact ⟨_, x0, ok_9⟩
    | 1, _ => exact ⟨_, x1, ok_50 y1⟩
    | f + 2, hf => simp [fieldsOf] at hf; omega
  · obtain ⟨a', n', c', e, _, k⟩ := h50 rfl
    injection e with e1 e2 e3; subst e1 e2 e3
    rcases k with k | ⟨b, o, rfl, k⟩
    · omega
    obtain ⟨⟨s0, x0⟩, ⟨a1, n1, c1, x1, y1⟩, ⟨s2, x2⟩⟩ := k i hi
    refine ⟨b, o, rfl, ?_⟩
    match f, hf with
    | 0, _ => exact ⟨_, x0, ok_9⟩
    | 1, _ => exact ⟨_, x1, ok_53 y1⟩
    | 2, _ => exact ⟨_, x2, ok_9⟩
    | f + 3, hf => simp [fieldsOf] at hf; omega
  · obtain ⟨a', n', c', e, _, k⟩ := h53 rfl
    injection e with e1 e2 e3; subst e1 e2 e3
    rcases k with k | ⟨b, o, rfl, k⟩
    · omega
    obtain ⟨⟨s0, x0⟩, ⟨p1, x1, y1⟩, ⟨s2, x2⟩, ⟨s3, x3⟩, ⟨a4, n4, c4, x4, y4⟩, ⟨a5, n5, c5, x5, y5⟩, ⟨a6, n6, c6, x6, y6⟩, ⟨a7, n7, c7, x7, y7⟩⟩ := k i hi
    refine ⟨b, o, rfl, ?_⟩
    match f, hf with
    | 0, _ => exact ⟨_, x0, ok_9⟩
    | 1, _ => exact ⟨_, x1, ok_56 y1⟩
    | 2, _ => exact ⟨_, x2, ok_9⟩
    | 3, _ => exact ⟨_, x3, ok_9⟩
    | 4, _ => exact ⟨_, x4, ok_29 y4⟩
    | 5, _ => exact ⟨_, x5, ok_29 y5⟩
    | 6, _ => exact ⟨_, x6, ok_29 y6⟩
    | 7, _ => exact ⟨_, x7, ok_57 y7⟩
    | f + 8, hf => simp [fieldsOf] at hf; omega
  · obtain ⟨a', n', c', e, _, k⟩ := h57 rfl
    injection e with e1 e2 e3; subst e1 e2 e3
    rcases k with k | ⟨b, o, rfl, k⟩
    · omega
    obtain ⟨⟨s0, x0⟩, ⟨p1, x1, y1⟩, ⟨a2, n2, c2, x2, y2⟩⟩ := k i hi
    refine ⟨b, o, rfl, ?_⟩
    match f, hf with
    | 0, _ => exact ⟨_, x0, ok_9⟩
    | 1, _ => exact ⟨_, x1, ok_56 y1⟩
    | 2, _ => exact ⟨_, x2, ok_29 y2⟩
    | f + 3, hf => simp [fieldsOf] at hf; omega
  · obtain ⟨a', n', c', e, _, k⟩ := h29 rfl
    injection e with e1 e2 e3; subst e1 e2 e3
    rcases k with k | ⟨b, o, rfl, k⟩
    · omega
    obtain ⟨s0, x0⟩ := k i hi
    refine ⟨b, o, rfl, ?_⟩
    match f, hf with
    | 0, _ => exact ⟨_, by simpa [fieldsOf] using x0, ok_9⟩
    | f + 1, hf => simp [fieldsOf] at hf

theorem ok_ptr {w : World} {x : Addr} {f : Nat} (h : ok w 56 (.pointer (some x))) (hf : f < 3) :
    ∃ b o, x = ⟨b, o, none⟩ ∧ ∃ u, w.cell? ⟨b, o + f, none⟩ = some u ∧ ok w 9 u := by
  obtain ⟨p, e, k⟩ := h.2.1 rfl
  injection e with e; subst e
  rcases k with k | ⟨b, o, s0, s1, s2, e, x0, x1, x2⟩
  · cases k
  injection e with e; subst e
  refine ⟨b, o, rfl, ?_⟩
  match f, hf with
  | 0, _ => exact ⟨_, x0, ok_9⟩
  | 1, _ => exact ⟨_, x1, ok_9⟩
  | 2, _ => exact ⟨_, x2, ok_9⟩

/-! ### What an abstract value says -/
def sem (w : World) (root : Value) (k : Nat → Nat) (x : SV) (v : Value) : Prop :=
  (x.tag = 1 ∧ v = V w root k x.path ∧ ok w (tyOf x.path) v) ∨
  (x.tag = 2 ∧ ∃ b o n c, V w root k x.path = .slice (some ⟨b, o, none⟩) n c ∧ k x.j < n ∧ v = .pointer (some ⟨b, o + k x.j * (fieldsOf (tyOf x.path)).length, none⟩) ∧ ok w (tyOf x.path) (V w root k x.path)) ∨
  (x.tag = 3 ∧ ∃ b o n c, V w root k x.path = .slice (some ⟨b, o, none⟩) n c ∧ k x.j < n ∧ v = .pointer (some ⟨b, o + k x.j * (fieldsOf (tyOf x.path)).length + x.f, none⟩) ∧ ok w (tyOf x.path) (V w root k x.path)) ∨
  (x.tag = 4 ∧ ∃ b o, V w root k x.path = .pointer (some ⟨b, o, none⟩) ∧ v = .pointer (some ⟨b, o + x.f, none⟩) ∧ ok w 56 (V w root k x.path)) ∨
  (x.tag = 5 ∧ v = .int .i64 (k x.j)) ∨
  (x.tag = 6 ∧ ∃ a n c, V w root k x.path = .slice a n c ∧ v = .int .i64 n ∧ n ≤ 140737488351232) ∨
  (x.tag = 7 ∧ ∃ r : Int, v = .int .i64 r) ∨
  (x.tag = 8 ∧ ∃ b : Bool, v = .bool b) ∨
  (x.tag = 9 ∧ ∃ a n c, V w root k x.path = .slice a n c ∧ n ≤ 140737488351232 ∧ v = .bool (decide ((k x.j : Int) < n))) ∨
  (x.tag = 10 ∧ ∃ q, V w root k x.path = .pointer q ∧ v = .bool q.isSome) ∨
  (x.tag = 11 ∧ v = .int .i64 0) ∨
  (x.tag = 12 ∧ v = .int .i64 (k x.j + 1)) ∨
  (x.tag = 13 ∧ ∃ s, v = .string s) ∨
  (x.tag = 14 ∧ ∃ b o, V w root k x.path = .pointer (some ⟨b, o, none⟩) ∧ v = .pointer (some ⟨b, o, none⟩) ∧ ok w 56 (V w root k x.path)) ∨
  (x.tag = 15 ∧ v = .pointer none) ∨
  (x.tag = 16 ∧ v = .int .i64 1)

def isInt (x : SV) : Bool := x.tag == 5 || (x.tag == 6 || (x.tag == 7 || (x.tag == 11 || (x.tag == 12 || x.tag == 16))))

section
variable {w : World} {root : Value} {k : Nat → Nat}

theorem sem1 {x : SV} {v : Value} (hx : x.tag = 1) (h : sem w root k x v) : v = V w root k x.path ∧ ok w (tyOf x.path) v := by
  unfold sem at h
  rcases h with ⟨e, h⟩ | ⟨e, h⟩ | ⟨e, h⟩ | ⟨e, h⟩ | ⟨e, h⟩ | ⟨e, h⟩ | ⟨e, h⟩ | ⟨e, h⟩ | ⟨e, h⟩ | ⟨e, h⟩ | ⟨e, h⟩ | ⟨e, h⟩ | ⟨e, h⟩ | ⟨e, h⟩ | ⟨e, h⟩ | ⟨e, h⟩
  all_goals first | exact h | (rw [hx] at e; cases e)
theorem sem2 {x : SV} {v : Value} (hx : x.tag = 2) (h : sem w root k x v) : ∃ b o n c, V w root k x.path = .slice (some ⟨b, o, none⟩) n c ∧ k x.j < n ∧ v = .pointer (some ⟨b, o + k x.j * (fieldsOf (tyOf x.path)).length, none⟩) ∧ ok w (tyOf x.path) (V w root k x.path) := by
  unfold sem at h
  rcases h with ⟨e, h⟩ | ⟨e, h⟩ | ⟨e, h⟩ | ⟨e, h⟩ | ⟨e, h⟩ | ⟨e, h⟩ | ⟨e, h⟩ | ⟨e, h⟩ | ⟨e, h⟩ | ⟨e, h⟩ | ⟨e, h⟩ | ⟨e, h⟩ | ⟨e, h⟩ | ⟨e, h⟩ | ⟨e, h⟩ | ⟨e, h⟩
  all_goals first | exact h | (rw [hx] at e; cases e)
theorem sem3 {x : SV} {v : Value} (hx : x.tag = 3) (h : sem w root k x v) : ∃ b o n c, V w root k x.path = .slice (some ⟨b, o, none⟩) n c ∧ k x.j < n ∧ v = .pointer (some ⟨b, o + k x.j * (fieldsOf (tyOf x.path)).length + x.f, none⟩) ∧ ok w (tyOf x.path) (V w root k x.path) := by
  unfold sem at h
  rcases h with ⟨e, h⟩ | ⟨e, h⟩ | ⟨e, h⟩ | ⟨e, h⟩ | ⟨e, h⟩ | ⟨e, h⟩ | ⟨e, h⟩ | ⟨e, h⟩ | ⟨e, h⟩ | ⟨e, h⟩ | ⟨e, h⟩ | ⟨e, h⟩ | ⟨e, h⟩ | ⟨e, h⟩ | ⟨e, h⟩ | ⟨e, h⟩
  all_goals first | exact h | (rw [hx] at e; cases e)
theorem sem4 {x : SV} {v : Value} (hx : x.tag = 4) (h : sem w root k x v) : ∃ b o, V w root k x.path = .pointer (some ⟨b, o, none⟩) ∧ v = .pointer (some ⟨b, o + x.f, none⟩) ∧ ok w 56 (V w root k x.path) := by
  unfold sem at h
  rcases h with ⟨e, h⟩ | ⟨e, h⟩ | ⟨e, h⟩ | ⟨e, h⟩ | ⟨e, h⟩ | ⟨e, h⟩ | ⟨e, h⟩ | ⟨e, h⟩ | ⟨e, h⟩ | ⟨e, h⟩ | ⟨e, h⟩ | ⟨e, h⟩ | ⟨e, h⟩ | ⟨e, h⟩ | ⟨e, h⟩ | ⟨e, h⟩
  all_goals first | exact h | (rw [hx] at e; cases e)
theorem sem5 {x : SV} {v : Value} (hx : x.tag = 5) (h : sem w root k x v) : v = .int .i64 (k x.j) := by
  unfold sem at h
  rcases h with ⟨e, h⟩ | ⟨e, h⟩ | ⟨e, h⟩ | ⟨e, h⟩ | ⟨e, h⟩ | ⟨e, h⟩ | ⟨e, h⟩ | ⟨e, h⟩ | ⟨e, h⟩ | ⟨e, h⟩ | ⟨e, h⟩ | ⟨e, h⟩ | ⟨e, h⟩ | ⟨e, h⟩ | ⟨e, h⟩ | ⟨e, h⟩
  all_goals first | exact h | (rw [hx] at e; cases e)
theorem sem6 {x : SV} {v : Value} (hx : x.tag = 6) (h : sem w root k x v) : ∃ a n c, V w root k x.path = .slice a n c ∧ v = .int .i64 n ∧ n ≤ 140737488351232 := by
  unfold sem at h
  rcases h with ⟨e, h⟩ | ⟨e, h⟩ | ⟨e, h⟩ | ⟨e, h⟩ | ⟨e, h⟩ | ⟨e, h⟩ | ⟨e, h⟩ | ⟨e, h⟩ | ⟨e, h⟩ | ⟨e, h⟩ | ⟨e, h⟩ | ⟨e, h⟩ | ⟨e, h⟩ | ⟨e, h⟩ | ⟨e, h⟩ | ⟨e, h⟩
  all_goals first | exact h | (rw [hx] at e; cases e)
theorem sem7 {x : SV} {v : Value} (hx : x.tag = 7) (h : sem w root k x v) : ∃ r : Int, v = .int .i64 r := by
  unfold sem at h
  rcases h with ⟨e, h⟩ | ⟨e, h⟩ | ⟨e, h⟩ | ⟨e, h⟩ | ⟨e, h⟩ | ⟨e, h⟩ | ⟨e, h⟩ | ⟨e, h⟩ | ⟨e, h⟩ | ⟨e, h⟩ | ⟨e, h⟩ | ⟨e, h⟩ | ⟨e, h⟩ | ⟨e, h⟩ | ⟨e, h⟩ | ⟨e, h⟩
  all_goals first | exact h | (rw [hx] at e; cases e)
theorem sem8 {x : SV} {v : Value} (hx : x.tag = 8) (h : sem w root k x v) : ∃ b : Bool, v = .bool b := by
  unfold sem at h
  rcases h with ⟨e, h⟩ | ⟨e, h⟩ | ⟨e, h⟩ | ⟨e, h⟩ | ⟨e, h⟩ | ⟨e, h⟩ | ⟨e, h⟩ | ⟨e, h⟩ | ⟨e, h⟩ | ⟨e, h⟩ | ⟨e, h⟩ | ⟨e, h⟩ | ⟨e, h⟩ | ⟨e, h⟩ | ⟨e, h⟩ | ⟨e, h⟩
  all_goals first | exact h | (rw [hx] at e; cases e)
theorem sem9 {x : SV} {v : Value} (hx : x.tag = 9) (h : sem w root k x v) : ∃ a n c, V w root k x.path = .slice a n c ∧ n ≤ 140737488351232 ∧ v = .bool (decide ((k x.j : Int) < n)) := by
  unfold sem at h
  rcases h with ⟨e, h⟩ | ⟨e, h⟩ | ⟨e, h⟩ | ⟨e, h⟩ | ⟨e, h⟩ | ⟨e, h⟩ | ⟨e, h⟩ | ⟨e, h⟩ | ⟨e, h⟩ | ⟨e, h⟩ | ⟨e, h⟩ | ⟨e, h⟩ | ⟨e, h⟩ | ⟨e, h⟩ | ⟨e, h⟩ | ⟨e, h⟩
  all_goals first | exact h | (rw [hx] at e; cases e)
theorem sem10 {x : SV} {v : Value} (hx : x.tag = 10) (h : sem w root k x v) : ∃ q, V w root k x.path = .pointer q ∧ v = .bool q.isSome := by
  unfold sem at h
  rcases h with ⟨e, h⟩ | ⟨e, h⟩ | ⟨e, h⟩ | ⟨e, h⟩ | ⟨e, h⟩ | ⟨e, h⟩ | ⟨e, h⟩ | ⟨e, h⟩ | ⟨e, h⟩ | ⟨e, h⟩ | ⟨e, h⟩ | ⟨e, h⟩ | ⟨e, h⟩ | ⟨e, h⟩ | ⟨e, h⟩ | ⟨e, h⟩
  all_goals first | exact h | (rw [hx] at e; cases e)
theorem sem11 {x : SV} {v : Value} (hx : x.tag = 11) (h : sem w root k x v) : v = .int .i64 0 := by
  unfold sem at h
  rcases h with ⟨e, h⟩ | ⟨e, h⟩ | ⟨e, h⟩ | ⟨e, h⟩ | ⟨e, h⟩ | ⟨e, h⟩ | ⟨e, h⟩ | ⟨e, h⟩ | ⟨e, h⟩ | ⟨e, h⟩ | ⟨e, h⟩ | ⟨e, h⟩ | ⟨e, h⟩ | ⟨e, h⟩ | ⟨e, h⟩ | ⟨e, h⟩
  all_goals first | exact h | (rw [hx] at e; cases e)
theorem sem12 {x : SV} {v : Value} (hx : x.tag = 12) (h : sem w root k x v) : v = .int .i64 (k x.j + 1) := by
  unfold sem at h
  rcases h with ⟨e, h⟩ | ⟨e, h⟩ | ⟨e, h⟩ | ⟨e, h⟩ | ⟨e, h⟩ | ⟨e, h⟩ | ⟨e, h⟩ | ⟨e, h⟩ | ⟨e, h⟩ | ⟨e, h⟩ | ⟨e, h⟩ | ⟨e, h⟩ | ⟨e, h⟩ | ⟨e, h⟩ | ⟨e, h⟩ | ⟨e, h⟩
  all_goals first | exact h | (rw [hx] at e; cases e)
theorem sem13 {x : SV} {v : Value} (hx : x.tag = 13) (h : sem w root k x v) : ∃ s, v = .string s := by
  unfold sem at h
  rcases h with ⟨e, h⟩ | ⟨e, h⟩ | ⟨e, h⟩ | ⟨e, h⟩ | ⟨e, h⟩ | ⟨e, h⟩ | ⟨e, h⟩ | ⟨e, h⟩ | ⟨e, h⟩ | ⟨e, h⟩ | ⟨e, h⟩ | ⟨e, h⟩ | ⟨e, h⟩ | ⟨e, h⟩ | ⟨e, h⟩ | ⟨e, h⟩
  all_goals first | exact h | (rw [hx] at e; cases e)
theorem sem14 {x : SV} {v : Value} (hx : x.tag = 14) (h : sem w root k x v) : ∃ b o, V w root k x.path = .pointer (some ⟨b, o, none⟩) ∧ v = .pointer (some ⟨b, o, none⟩) ∧ ok w 56 (V w root k x.path) := by
  unfold sem at h
  rcases h with ⟨e, h⟩ | ⟨e, h⟩ | ⟨e, h⟩ | ⟨e, h⟩ | ⟨e, h⟩ | ⟨e, h⟩ | ⟨e, h⟩ | ⟨e, h⟩ | ⟨e, h⟩ | ⟨e, h⟩ | ⟨e, h⟩ | ⟨e, h⟩ | ⟨e, h⟩ | ⟨e, h⟩ | ⟨e, h⟩ | ⟨e, h⟩
  all_goals first | exact h | (rw [hx] at e; cases e)
theorem sem15 {x : SV} {v : Value} (hx : x.tag = 15) (h : sem w root k x v) : v = .pointer none := by
  unfold sem at h
  rcases h with ⟨e, h⟩ | ⟨e, h⟩ | ⟨e, h⟩ | ⟨e, h⟩ | ⟨e, h⟩ | ⟨e, h⟩ | ⟨e, h⟩ | ⟨e, h⟩ | ⟨e, h⟩ | ⟨e, h⟩ | ⟨e, h⟩ | ⟨e, h⟩ | ⟨e, h⟩ | ⟨e, h⟩ | ⟨e, h⟩ | ⟨e, h⟩
  all_goals first | exact h | (rw [hx] at e; cases e)
theorem sem16 {x : SV} {v : Value} (hx : x.tag = 16) (h : sem w root k x v) : v = .int .i64 1 := by
  unfold sem at h
  rcases h with ⟨e, h⟩ | ⟨e, h⟩ | ⟨e, h⟩ | ⟨e, h⟩ | ⟨e, h⟩ | ⟨e, h⟩ | ⟨e, h⟩ | ⟨e, h⟩ | ⟨e, h⟩ | ⟨e, h⟩ | ⟨e, h⟩ | ⟨e, h⟩ | ⟨e, h⟩ | ⟨e, h⟩ | ⟨e, h⟩ | ⟨e, h⟩
  all_goals first | exact h | (rw [hx] at e; cases e)
theorem mk1 {x : SV} {v : Value} (hx : x.tag = 1) (h : v = V w root k x.path ∧ ok w (tyOf x.path) v) : sem w root k x v := Or.inl ⟨hx, h⟩
theorem mk2 {x : SV} {v : Value} (hx : x.tag = 2) (h : ∃ b o n c, V w root k x.path = .slice (some ⟨b, o, none⟩) n c ∧ k x.j < n ∧ v = .pointer (some ⟨b, o + k x.j * (fieldsOf (tyOf x.path)).length, none⟩) ∧ ok w (tyOf x.path) (V w root k x.path)) : sem w root k x v := Or.inr (Or.inl ⟨hx, h⟩)
theorem mk3 {x : SV} {v : Value} (hx : x.tag = 3) (h : ∃ b o n c, V w root k x.path = .slice (some ⟨b, o, none⟩) n c ∧ k x.j < n ∧ v = .pointer (some ⟨b, o + k x.j * (fieldsOf (tyOf x.path)).length + x.f, none⟩) ∧ ok w (tyOf x.path) (V w root k x.path)) : sem w root k x v := Or.inr (Or.inr (Or.inl ⟨hx, h⟩))
theorem mk4 {x : SV} {v : Value} (hx : x.tag = 4) (h : ∃ b o, V w root k x.path = .pointer (some ⟨b, o, none⟩) ∧ v = .pointer (some ⟨b, o + x.f, none⟩) ∧ ok w 56 (V w root k x.path)) : sem w root k x v := Or.inr (Or.inr (Or.inr (Or.inl ⟨hx, h⟩)))
theorem mk5 {x : SV} {v : Value} (hx : x.tag = 5) (h : v = .int .i64 (k x.j)) : sem w root k x v := Or.inr (Or.inr (Or.inr (Or.inr (Or.inl ⟨hx, h⟩))))
theorem mk6 {x : SV} {v : Value} (hx : x.tag = 6) (h : ∃ a n c, V w root k x.path = .slice a n c ∧ v = .int .i64 n ∧ n ≤ 140737488351232) : sem w root k x v := Or.inr (Or.inr (Or.inr (Or.inr (Or.inr (Or.inl ⟨hx, h⟩)))))
theorem mk7 {x : SV} {v : Value} (hx : x.tag = 7) (h : ∃ r : Int, v = .int .i64 r) : sem w root k x v := Or.inr (Or.inr (Or.inr (Or.inr (Or.inr (Or.inr (Or.inl ⟨hx, h⟩))))))
theorem mk8 {x : SV} {v : Value} (hx : x.tag = 8) (h : ∃ b : Bool, v = .bool b) : sem w root k x v := Or.inr (Or.inr (Or.inr (Or.inr (Or.inr (Or.inr (Or.inr (Or.inl ⟨hx, h⟩)))))))
theorem mk9 {x : SV} {v : Value} (hx : x.tag = 9) (h : ∃ a n c, V w root k x.path = .slice a n c ∧ n ≤ 140737488351232 ∧ v = .bool (decide ((k x.j : Int) < n))) : sem w root k x v := Or.inr (Or.inr (Or.inr (Or.inr (Or.inr (Or.inr (Or.inr (Or.inr (Or.inl ⟨hx, h⟩))))))))
theorem mk10 {x : SV} {v : Value} (hx : x.tag = 10) (h : ∃ q, V w root k x.path = .pointer q ∧ v = .bool q.isSome) : sem w root k x v := Or.inr (Or.inr (Or.inr (Or.inr (Or.inr (Or.inr (Or.inr (Or.inr (Or.inr (Or.inl ⟨hx, h⟩)))))))))
theorem mk11 {x : SV} {v : Value} (hx : x.tag = 11) (h : v = .int .i64 0) : sem w root k x v := Or.inr (Or.inr (Or.inr (Or.inr (Or.inr (Or.inr (Or.inr (Or.inr (Or.inr (Or.inr (Or.inl ⟨hx, h⟩))))))))))
theorem mk12 {x : SV} {v : Value} (hx : x.tag = 12) (h : v = .int .i64 (k x.j + 1)) : sem w root k x v := Or.inr (Or.inr (Or.inr (Or.inr (Or.inr (Or.inr (Or.inr (Or.inr (Or.inr (Or.inr (Or.inr (Or.inl ⟨hx, h⟩)))))))))))
theorem mk13 {x : SV} {v : Value} (hx : x.tag = 13) (h : ∃ s, v = .string s) : sem w root k x v := Or.inr (Or.inr (Or.inr (Or.inr (Or.inr (Or.inr (Or.inr (Or.inr (Or.inr (Or.inr (Or.inr (Or.inr (Or.inl ⟨hx, h⟩))))))))))))
theorem mk14 {x : SV} {v : Value} (hx : x.tag = 14) (h : ∃ b o, V w root k x.path = .pointer (some ⟨b, o, none⟩) ∧ v = .pointer (some ⟨b, o, none⟩) ∧ ok w 56 (V w root k x.path)) : sem w root k x v := Or.inr (Or.inr (Or.inr (Or.inr (Or.inr (Or.inr (Or.inr (Or.inr (Or.inr (Or.inr (Or.inr (Or.inr (Or.inr (Or.inl ⟨hx, h⟩)))))))))))))
theorem mk15 {x : SV} {v : Value} (hx : x.tag = 15) (h : v = .pointer none) : sem w root k x v := Or.inr (Or.inr (Or.inr (Or.inr (Or.inr (Or.inr (Or.inr (Or.inr (Or.inr (Or.inr (Or.inr (Or.inr (Or.inr (Or.inr (Or.inl ⟨hx, h⟩))))))))))))))
theorem mk16 {x : SV} {v : Value} (hx : x.tag = 16) (h : v = .int .i64 1) : sem w root k x v := Or.inr (Or.inr (Or.inr (Or.inr (Or.inr (Or.inr (Or.inr (Or.inr (Or.inr (Or.inr (Or.inr (Or.inr (Or.inr (Or.inr (Or.inr (⟨hx, h⟩)))))))))))))))
theorem sem_int {x : SV} {v : Value} (hx : isInt x = true) (h : sem w root k x v) : ∃ r : Int, v = .int .i64 r := by
  simp only [isInt, Bool.or_eq_true, beq_iff_eq] at hx
  rcases hx with hx | hx | hx | hx | hx | hx
  · exact ⟨_, sem5 hx h⟩
  · obtain ⟨_, n, _, _, h, _⟩ := sem6 hx h; exact ⟨_, h⟩
  · exact sem7 hx h
  · exact ⟨_, sem11 hx h⟩
  · exact ⟨_, sem12 hx h⟩
  · exact ⟨_, sem16 hx h⟩
end
end Go.Proofs.Qxb6603992a.Ck
