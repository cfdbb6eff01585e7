/- The look-ups: (*Surface).group (17), zzFirstGroup (10), zzFirstVersion (19), ZZNewSurface (8). -/
import Derived.Test.Qxb6603992aWire4
namespace Go.Proofs.Qxb6603992a
open Go.RowKit

/-- The first of n that meets P. -/
def FirstAt (P : Nat → Prop) (n i : Nat) : Prop := i < n ∧ P i ∧ ∀ j, j < i → ¬ P j
def NoneAt (P : Nat → Prop) (n : Nat) : Prop := ∀ i, i < n → ¬ P i
theorem FirstAt.one {P : Nat → Prop} {n i j : Nat} (h : FirstAt P n i) (k : FirstAt P n j) : i = j := by
  rcases Nat.lt_trichotomy i j with l | l | l
  · exact absurd h.2.1 (k.2.2 i l)
  · exact l
  · exact absurd k.2.1 (h.2.2 j l)
theorem FirstAt.some {P : Nat → Prop} {n i : Nat} (h : FirstAt P n i) (k : NoneAt P n) : False := k i h.1 h.2.1

/-- Element i of a row of elements of 'size' cells bears the name nm in its first cell. -/
def Named (w : World) (a : Option Addr) (size : Nat) (nm : ByteArray) (i : Nat) : Prop := ∃ b o, a = some ⟨b, o, none⟩ ∧ w.cell? ⟨b, o + i * size, none⟩ = some (.string nm)

theorem named_iff {w : World} {b o size i : Nat} {nm s : ByteArray} (h : w.cell? ⟨b, o + i * size, none⟩ = some (.string s)) : Named w (some ⟨b, o, none⟩) size nm i ↔ s = nm := by
  constructor
  · rintro ⟨b', o', e, k⟩
    injection e with e; injection e with e1 e2; subst e1 e2
    rw [h] at k; injection k with k; injection k
  · rintro rfl; exact ⟨b, o, rfl, h⟩

theorem ne_str {s t : ByteArray} (h : ¬ s = t) : (s.toList == t.toList) = false := by
  rw [beq_eq_false_iff_ne]
  intro e
  rw [ByteArray.toList_eq, ByteArray.toList_eq] at e
  obtain ⟨s⟩ := s; obtain ⟨t⟩ := t
  exact h (by rw [show s = t from Array.toList_inj.1 e])

def GivesGroup (w : World) (a : Option Addr) (n size : Nat) (nm : ByteArray) (e : Ending) (w' : World) : Prop :=
  w' = w ∧ ((e = .returned (.pointer none) ∧ NoneAt (Named w a size nm) n) ∨ ∃ i b o, a = some ⟨b, o, none⟩ ∧ e = .returned (.pointer (some ⟨b, o + i * size, none⟩)) ∧ FirstAt (Named w a size nm) n i)

theorem next_not {P : Nat → Prop} {k : Nat} (h : ∀ j, j < k → ¬ P j) (hk : ¬ P k) : ∀ j, j < k + 1 → ¬ P j := fun j hj => by
  rcases Nat.lt_succ_iff_lt_or_eq.1 hj with l | rfl
  · exact h j l
  · exact hk

set_option maxRecDepth 100000 in
set_option maxHeartbeats 1000000 in
theorem group_any (B O : Nat) (a : Option Addr) (n c : Nat) (nm : ByteArray) (w : World) (h : WGrps w a n) (hs : w.cell? ⟨B, O, none⟩ = some (.slice a n c)) :
    Calls Try.prog 17 #[.pointer (some ⟨B, O, none⟩), .string nm] w (GivesGroup w a n 2 nm) := by
  obtain ⟨hn, h⟩ := h
  go_enter Try.func17, Try.ntmps17
  go_wp2
  go_loop [11] (fun i => ∃ k : Nat, k ≤ n ∧ i = .int .i64 k ∧ ∀ j, j < k → ¬ Named w a 2 nm j) (fun i => n - (intOf i).toNat)
  case atStart => exact ⟨0, Nat.zero_le _, rfl, fun j hj => absurd hj (Nat.not_lt_zero _)⟩
  case round =>
    obtain ⟨k, hk, rfl, hN⟩ := hrel
    by_cases hlt : k < n
    · rcases h with rfl | ⟨b, o, rfl, hc⟩
      · omega
      obtain ⟨⟨s, hs0⟩, _⟩ := hc k hlt
      have HN : Hid (∀ j, j < k → ¬ Named w (some ⟨b, o, none⟩) 2 nm j) := hN
      have HS := named_iff (nm := nm) hs0
      have HS' : Hid (Named w (some ⟨b, o, none⟩) 2 nm k ↔ s = nm) := HS
      clear hc hN HS
      by_cases e : s = nm
      · have HM : Hid (Named w (some ⟨b, o, none⟩) 2 nm k) := HS'.out.2 e
        clear HS'
        subst e
        go_wp2
        go_ret
        exact ⟨rfl, .inr ⟨k, b, o, rfl, rfl, hlt, HM.out, HN.out⟩⟩
      · have HM : Hid (¬ Named w (some ⟨b, o, none⟩) 2 nm k) := fun x => e (HS'.out.1 x)
        have he := ne_str e
        clear HS' e
        go_wp2
        go_round
        case rel => exact ⟨k + 1, by omega, by go_num, next_not HN.out HM.out⟩
        case measure => simp [intOf]; omega
    · go_wp2
      go_ret
      exact ⟨rfl, .inl ⟨rfl, fun i hi => hN i (by omega)⟩⟩

/-! ### The scans from the back -/
def GivesFirst (w : World) (P : Nat → Prop) (n : Nat) (e : Ending) (w' : World) : Prop :=
  w' = w ∧ ∃ r : Int, e = .returned (.int .i64 r) ∧ ((r = -1 ∧ NoneAt P n) ∨ ∃ i : Nat, r = i ∧ FirstAt P n i)

/-- What holds when the elements from j on have been looked at. -/
def Back (P : Nat → Prop) (n j : Nat) (r : Int) : Prop :=
  (r = -1 ∧ ∀ m, j ≤ m → m < n → ¬ P m) ∨ ∃ i : Nat, r = i ∧ j ≤ i ∧ i < n ∧ P i ∧ ∀ m, j ≤ m → m < i → ¬ P m
theorem Back.start (P : Nat → Prop) (n : Nat) : Back P n n (-1) := .inl ⟨rfl, fun m h1 h2 => by omega⟩
theorem Back.hit {P : Nat → Prop} {n j : Nat} {r : Int} (_ : Back P n (j + 1) r) (hj : j < n) (hp : P j) : Back P n j j := .inr ⟨j, rfl, Nat.le_refl _, hj, hp, fun m h1 h2 => by omega⟩
theorem Back.miss {P : Nat → Prop} {n j : Nat} {r : Int} (h : Back P n (j + 1) r) (hp : ¬ P j) : Back P n j r := by
  rcases h with ⟨e, h⟩ | ⟨i, e, h1, h2, h3, h4⟩
  · refine .inl ⟨e, fun m a b => ?_⟩
    by_cases hm : m = j
    · rw [hm]; exact hp
    · exact h m (by omega) b
  · refine .inr ⟨i, e, by omega, h2, h3, fun m a b => ?_⟩
    by_cases hm : m = j
    · rw [hm]; exact hp
    · exact h4 m (by omega) b
theorem Back.done {P : Nat → Prop} {n : Nat} {r : Int} (h : Back P n 0 r) : (r = -1 ∧ NoneAt P n) ∨ ∃ i : Nat, r = i ∧ FirstAt P n i := by
  rcases h with ⟨e, h⟩ | ⟨i, e, h1, h2, h3, h4⟩
  · exact .inl ⟨e, fun i hi => h i (Nat.zero_le _) hi⟩
  · exact .inr ⟨i, e, h2, h3, fun j hj => h4 j (Nat.zero_le _) hj⟩

set_option maxRecDepth 100000 in
set_option maxHeartbeats 1000000 in
theorem firstGroup_any (a : Option Addr) (n c : Nat) (nm : ByteArray) (w : World) (h : WGrps w a n) :
    Calls Try.prog 10 #[.slice a n c, .string nm] w (GivesFirst w (Named w a 2 nm) n) := by
  obtain ⟨hn, h⟩ := h
  go_enter Try.func10, Try.ntmps10
  go_wp2
  go_loop [5, 6] (fun at' i => ∃ (k : Nat) (r : Int), k ≤ n ∧ i = .int .i64 (k - 1) ∧ at' = .int .i64 r ∧ Back (Named w a 2 nm) n k r) (fun _ i => (intOf i + 1).toNat)
  case atStart => exact ⟨n, -1, Nat.le_refl _, rfl, rfl, Back.start _ _⟩
  case round =>
    obtain ⟨k, r, hk, rfl, rfl, hb⟩ := hrel
    have HB : Hid (Back (Named w a 2 nm) n k r) := hb
    clear hb
    cases k with
    | zero =>
      go_wp2
      go_ret
      exact ⟨rfl, r, rfl, HB.out.done⟩
    | succ k =>
      rcases h with rfl | ⟨b, o, rfl, hc⟩
      · omega
      obtain ⟨⟨s, hs0⟩, _⟩ := hc k (by omega)
      have HS : Hid (Named w (some ⟨b, o, none⟩) 2 nm k ↔ s = nm) := named_iff (nm := nm) hs0
      clear hc
      by_cases e : s = nm
      · have HM : Hid (Named w (some ⟨b, o, none⟩) 2 nm k) := HS.out.2 e
        clear HS
        subst e
        go_wp2
        go_round
        case rel => exact ⟨k, k, by omega, rfl, by go_num, HB.out.hit (by omega) HM.out⟩
        case measure => simp [intOf]
      · have HM : Hid (¬ Named w (some ⟨b, o, none⟩) 2 nm k) := fun x => e (HS.out.1 x)
        have he := ne_str e
        clear HS e
        go_wp2
        go_round
        case rel => exact ⟨k, r, by omega, rfl, rfl, HB.out.miss HM.out⟩
        case measure => simp [intOf]

set_option maxRecDepth 100000 in
set_option maxHeartbeats 1000000 in
theorem firstVersion_any (a : Option Addr) (n c : Nat) (nm : ByteArray) (w : World) (h : WVers 0 w a n) :
    Calls Try.prog 19 #[.slice a n c, .string nm] w (GivesFirst w (Named w a 3 nm) n) := by
  obtain ⟨hn, h⟩ := h
  go_enter Try.func19, Try.ntmps19
  go_wp2
  go_loop [5, 6] (fun at' i => ∃ (k : Nat) (r : Int), k ≤ n ∧ i = .int .i64 (k - 1) ∧ at' = .int .i64 r ∧ Back (Named w a 3 nm) n k r) (fun _ i => (intOf i + 1).toNat)
  case atStart => exact ⟨n, -1, Nat.le_refl _, rfl, rfl, Back.start _ _⟩
  case round =>
    obtain ⟨k, r, hk, rfl, rfl, hb⟩ := hrel
    have HB : Hid (Back (Named w a 3 nm) n k r) := hb
    clear hb
    cases k with
    | zero =>
      go_wp2
      go_ret
      exact ⟨rfl, r, rfl, HB.out.done⟩
    | succ k =>
      rcases h with rfl | ⟨b, o, rfl, _, hc⟩
      · omega
      obtain ⟨⟨s, hs0⟩, _, _⟩ := hc k (by omega)
      have HS : Hid (Named w (some ⟨b, o, none⟩) 3 nm k ↔ s = nm) := named_iff (nm := nm) hs0
      clear hc
      by_cases e : s = nm
      · have HM : Hid (Named w (some ⟨b, o, none⟩) 3 nm k) := HS.out.2 e
        clear HS
        subst e
        go_wp2
        go_round
        case rel => exact ⟨k, k, by omega, rfl, by go_num, HB.out.hit (by omega) HM.out⟩
        case measure => simp [intOf]
      · have HM : Hid (¬ Named w (some ⟨b, o, none⟩) 3 nm k) := fun x => e (HS.out.1 x)
        have he := ne_str e
        clear HS e
        go_wp2
        go_round
        case rel => exact ⟨k, r, by omega, rfl, rfl, HB.out.miss HM.out⟩
        case measure => simp [intOf]

set_option maxRecDepth 100000 in
set_option maxHeartbeats 400000 in
theorem newSurface_any (a : Option Addr) (n c : Nat) (w : World) :
    Calls Try.prog 8 #[.slice a n c] w fun e w' => e = .returned (.pointer (some ⟨w.heap.size, 0, none⟩)) ∧ w' = w.alloc (.cells #[.slice a n c] 67) := by
  go_enter Try.func8, Try.ntmps8
  go_wp2
  go_ret
  exact ⟨rfl, rfl⟩
end Go.Proofs.Qxb6603992a
