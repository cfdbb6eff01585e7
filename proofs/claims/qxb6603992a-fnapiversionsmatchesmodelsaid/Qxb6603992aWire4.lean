/- The contracts of zzWireVers (16) and zzWireGroups (7): what they make is told as far as the laws read it. -/
import Derived.Test.Qxb6603992aWire3
namespace Go.Proofs.Qxb6603992a
open Go.RowKit

theorem Try.info43 : (Try.prog.info? 43).map (fun i => (i.zero, i.size, i.bytes)) = some (some (.agg #[.string ByteArray.empty, .slice none 0 0, .string ByteArray.empty]), 3, 56) := by kernel_rfl
theorem Try.info40 : (Try.prog.info? 40).map (fun i => (i.zero, i.size, i.bytes)) = some (some (.agg #[.string ByteArray.empty, .slice none 0 0]), 2, 40) := by kernel_rfl

/-- One version, as the copy holds it. -/
def VerW (w : World) (b o : Nat) : Prop :=
  (∃ s, w.cell? ⟨b, o, none⟩ = some (.string s)) ∧ (∃ a n c, w.cell? ⟨b, o + 1, none⟩ = some (.slice a n c)) ∧ ∃ s, w.cell? ⟨b, o + 2, none⟩ = some (.string s)
/-- A slice of versions in blocks from lo on. -/
def WVers (lo : Nat) (w : World) (a : Option Addr) (n : Nat) : Prop :=
  n * 56 ≤ 140737488351232 ∧ (n = 0 ∨ ∃ b o, a = some ⟨b, o, none⟩ ∧ lo ≤ b ∧ ∀ i, i < n → VerW w b (o + i * 3))

theorem VerW.stays {w w' : World} (h : Stays w w') {b o} (k : VerW w b o) : VerW w' b o := by
  obtain ⟨⟨s, x⟩, ⟨a, n, c, y⟩, ⟨t, z⟩⟩ := k
  exact ⟨⟨s, h _ _ _ x⟩, ⟨a, n, c, h _ _ _ y⟩, ⟨t, h _ _ _ z⟩⟩
theorem WVers.stays {lo : Nat} {w w' : World} (h : Stays w w') {a n} (k : WVers lo w a n) : WVers lo w' a n :=
  ⟨k.1, k.2.imp id fun ⟨b, o, e, l, f⟩ => ⟨b, o, e, l, fun i hi => (f i hi).stays h⟩⟩
theorem WVers.set {lo B j : Nat} {w : World} (u : Value) (hB : B < lo) {a n} (k : WVers lo w a n) : WVers lo (w.setCell ⟨B, j, none⟩ u) a n := by
  refine ⟨k.1, k.2.imp id fun ⟨b, o, e, l, f⟩ => ⟨b, o, e, l, fun i hi => ?_⟩⟩
  have hne : ∀ off, (w.setCell ⟨B, j, none⟩ u).cell? ⟨b, off, none⟩ = w.cell? ⟨b, off, none⟩ := fun off => World.cell?_setCell_far w ⟨B, j, none⟩ ⟨b, off, none⟩ u (show B ≠ b by omega)
  have := f i hi
  unfold VerW at *
  simp only [hne]
  exact this
theorem WVers.mono {lo lo' : Nat} (h : lo' ≤ lo) {w : World} {a n} (k : WVers lo w a n) : WVers lo' w a n :=
  ⟨k.1, k.2.imp id fun ⟨b, o, e, l, f⟩ => ⟨b, o, e, by omega, f⟩⟩

def GivesVers (w : World) (e : Ending) (w' : World) : Prop := ∃ a n c, e = .returned (.slice a n c) ∧ Below w.heap.size w w' ∧ WVers w.heap.size w' a n

def Row3 (C : Array Value) (i : Nat) : Prop :=
  (∃ s, C[i * 3]? = some (.string s)) ∧ (∃ a n c, C[i * 3 + 1]? = some (.slice a n c)) ∧ ∃ s, C[i * 3 + 2]? = some (.string s)

theorem get_set_ne {C : Array Value} {i j : Nat} {u : Value} (h : i ≠ j) : (C.setIfInBounds i u)[j]? = C[j]? := by
  rw [Array.getElem?_setIfInBounds_ne h]
theorem get_set_eq {C : Array Value} {i : Nat} {u : Value} (h : i < C.size) : (C.setIfInBounds i u)[i]? = some u := by
  simp [h]

theorem row3_step {C : Array Value} {n k : Nat} {s t : ByteArray} {a : Option Addr} {m c : Nat} (h : ∀ i, i < k → Row3 C i) (hC : C.size = n * 3) (hk : k < n) :
    ∀ i, i < k + 1 → Row3 (((C.setIfInBounds (k * 3) (.string s)).setIfInBounds (k * 3 + 1) (.slice a m c)).setIfInBounds (k * 3 + 2) (.string t)) i := by
  intro i hi
  by_cases e : i = k
  · subst e
    refine ⟨⟨s, ?_⟩, ⟨a, m, c, ?_⟩, ⟨t, ?_⟩⟩
    · rw [get_set_ne (by omega), get_set_ne (by omega), get_set_eq (by omega)]
    · rw [get_set_ne (by omega), get_set_eq (by simp; omega)]
    · rw [get_set_eq (by simp; omega)]
  · obtain ⟨⟨s', h0⟩, ⟨a', n', c', h1⟩, ⟨t', h2⟩⟩ := h i (by omega)
    refine ⟨⟨s', ?_⟩, ⟨a', n', c', ?_⟩, ⟨t', ?_⟩⟩
    · rw [get_set_ne (by omega), get_set_ne (by omega), get_set_ne (by omega)]; exact h0
    · rw [get_set_ne (by omega), get_set_ne (by omega), get_set_ne (by omega)]; exact h1
    · rw [get_set_ne (by omega), get_set_ne (by omega), get_set_ne (by omega)]; exact h2

theorem wvers_of_rows {w : World} {B e n : Nat} {C : Array Value} (hC : Blk w B e (n * 3) C) (hn : n * 56 ≤ 140737488351232) (h : ∀ i, i < n → Row3 C i) : WVers B w (some ⟨B, 0, none⟩) n := by
  refine ⟨hn, .inr ⟨B, 0, rfl, Nat.le_refl _, fun i hi => ?_⟩⟩
  obtain ⟨⟨s', h0⟩, ⟨a', n', c', h1⟩, ⟨t', h2⟩⟩ := h i hi
  rw [Nat.zero_add]
  exact ⟨⟨s', by rw [hC.cell]; exact h0⟩, ⟨a', n', c', by rw [hC.cell]; exact h1⟩, ⟨t', by rw [hC.cell]; exact h2⟩⟩

set_option maxRecDepth 100000 in
set_option maxHeartbeats 4000000 in
theorem wireVers_any (a : Option Addr) (n c : Nat) (w : World) (h : Vers w a n c) : Calls Try.prog 16 #[.slice a n c] w (GivesVers w) := by
  obtain ⟨hh, h⟩ := h
  have hnil := nil_of Try.underlying50 a n c
  cases a with
  | none =>
    obtain ⟨rfl, rfl⟩ := hh.nil rfl
    clear hh h
    go_enter Try.func16, Try.ntmps16
    go_wp2
    go_ret
    exact ⟨_, _, _, rfl, Below.refl _ _, by omega, .inl rfl⟩
  | some x =>
    have hn : n * 56 ≤ 140737488351232 := Nat.le_trans (Nat.mul_le_mul_right _ hh.le) hh.room
    clear hh
    have hmk := make_of Try.underlying38 Try.info43 n (by omega) (by omega)
    go_enter Try.func16, Try.ntmps16
    go_wp2
    clear hmk hnil
    go_loopw [12] (fun i wr => ∃ k : Nat, k ≤ n ∧ i = .int .i64 k ∧ Below w.heap.size w wr ∧ ∃ C, Blk wr w.heap.size 43 (n * 3) C ∧ ∀ i, i < k → Row3 C i) (fun i _ => n - (intOf i).toNat)
    case atStart => exact ⟨0, Nat.zero_le _, rfl, (Below.refl _ _).alloc (Nat.le_refl _) _, _, Blk.made w _ (n * 3) 43, fun i hi => absurd hi (Nat.not_lt_zero _)⟩
    case round =>
      obtain ⟨k, hk, rfl, hb, C, hC0, hR0⟩ := hrel
      by_cases hlt : k < n
      · rcases h with rfl | ⟨b, o, hx, hc⟩
        · omega
        · obtain rfl := Option.some.inj hx
          have hE := (hc k hlt).stays (Stays.of_below hb)
          have hlb : b < w.heap.size := by obtain ⟨s, hs⟩ := (hc k hlt).c0; exact World.block_lt_of_cell? w _ hs
          obtain ⟨⟨s0, hs0⟩, ⟨a1, n1, c1, hs1, hx1⟩, ⟨s2, hs2⟩⟩ := hE
          have hne : w.heap.size ≠ b := by omega
          have hB : Hid (Below w.heap.size w wr) := hb
          have hC : Hid (Blk wr w.heap.size 43 (n * 3) C) := hC0
          have hR : Hid (∀ i, i < k → Row3 C i) := hR0
          have h1 : Hid (Ress wr a1 n1 c1) := hx1
          have hK0 : Below wr.heap.size wr wr.drew := (Below.refl _ _).drew
          clear hc hb hC0 hx hx1 hR0
          go_wp2
          go_region_held3 (fun w' => w'.cell? ⟨b, o + k * 3, none⟩ = some (.string s0) ∧ w'.cell? ⟨b, o + k * 3 + 1, none⟩ = some (.slice a1 n1 c1) ∧ w'.cell? ⟨b, o + k * 3 + 2, none⟩ = some (.string s2)) (first | exact keep3 (by assumption) (by assumption) | go_keep)
            (first | (go_at_call 21; refine (wireRes_any _ _ _ _ ?_).mono ?_; (exact Ress.stays (Stays.of_below (w := wr) (by assumption)) h1.out); rintro e w1 ⟨a', n', c', rfl, hb1⟩; have hK := btrans (wr := wr) (by assumption) hb1; have hC2 := hC.out.later (w' := w1) (by assumption); obtain ⟨v0, hv0⟩ := hC2.some (j := k * 3) (by omega); have hf0 := hC2.free (k * 3); obtain ⟨v1, hv1⟩ := hC2.some (j := k * 3 + 1) (by omega); have hf1 := hC2.free (k * 3 + 1); obtain ⟨v2, hv2⟩ := hC2.some (j := k * 3 + 2) (by omega); have hf2 := hC2.free (k * 3 + 2)))
          have hb2 := bstep hB.out (by assumption)
          have hCw := hC2
          clear hK0
          go_wp2
          go_roundw
          case rel => exact ⟨k + 1, by omega, by go_num, (((hb2).setCell (Nat.le_refl _) _).setCell (Nat.le_refl _) _).setCell (Nat.le_refl _) _, _, (((hCw).set _ _).set _ _).set _ _, row3_step hR.out hC.out.2 hlt⟩
          case measure => simp [intOf]; omega
      · have hkn : Hid (∀ i, i < n → Row3 C i) := fun i hi => hR0 i (by omega)
        have hCC : Hid (Blk wr w.heap.size 43 (n * 3) C) := hC0
        clear hR0 hC0
        go_wp2
        go_ret
        exact ⟨_, _, _, rfl, hb, wvers_of_rows hCC.out hn hkn.out⟩

/-! ### Groups -/
def GrpW (lo : Nat) (w : World) (b o : Nat) : Prop :=
  (∃ s, w.cell? ⟨b, o, none⟩ = some (.string s)) ∧ ∃ a n c, w.cell? ⟨b, o + 1, none⟩ = some (.slice a n c) ∧ WVers lo w a n
def WGrps (w : World) (a : Option Addr) (n : Nat) : Prop :=
  n * 40 ≤ 140737488351232 ∧ (n = 0 ∨ ∃ b o, a = some ⟨b, o, none⟩ ∧ ∀ i, i < n → GrpW 0 w b (o + i * 2))
theorem GrpW.stays {lo : Nat} {w w' : World} (h : Stays w w') {b o} (k : GrpW lo w b o) : GrpW lo w' b o := by
  obtain ⟨⟨s, x⟩, ⟨a, n, c, y, z⟩⟩ := k
  exact ⟨⟨s, h _ _ _ x⟩, ⟨a, n, c, h _ _ _ y, z.stays h⟩⟩
theorem WGrps.stays {w w' : World} (h : Stays w w') {a n} (k : WGrps w a n) : WGrps w' a n :=
  ⟨k.1, k.2.imp id fun ⟨b, o, e, f⟩ => ⟨b, o, e, fun i hi => (f i hi).stays h⟩⟩
def GivesGrps (w : World) (e : Ending) (w' : World) : Prop := ∃ a n c, e = .returned (.slice a n c) ∧ Below w.heap.size w w' ∧ WGrps w' a n

def Row2 (lo : Nat) (w : World) (C : Array Value) (i : Nat) : Prop :=
  (∃ s, C[i * 2]? = some (.string s)) ∧ ∃ a n c, C[i * 2 + 1]? = some (.slice a n c) ∧ WVers lo w a n

theorem row2_step {lo B : Nat} {w w1 : World} {C : Array Value} {n k : Nat} {s : ByteArray} {a : Option Addr} {m c : Nat} (h : ∀ i, i < k → Row2 lo w C i) (hs : Stays w w1) (hC : C.size = n * 2) (hk : k < n) (hB : B < lo) (hv : WVers lo w1 a m) :
    ∀ i, i < k + 1 → Row2 lo ((w1.setCell ⟨B, k * 2, none⟩ (.string s)).setCell ⟨B, k * 2 + 1, none⟩ (.slice a m c)) ((C.setIfInBounds (k * 2) (.string s)).setIfInBounds (k * 2 + 1) (.slice a m c)) i := by
  intro i hi
  by_cases e : i = k
  · subst e
    refine ⟨⟨s, ?_⟩, ⟨a, m, c, ?_, (hv.set _ hB).set _ hB⟩⟩
    · rw [get_set_ne (by omega), get_set_eq (by omega)]
    · rw [get_set_eq (by simp; omega)]
  · obtain ⟨⟨s', h0⟩, ⟨a', n', c', h1, h2⟩⟩ := h i (by omega)
    refine ⟨⟨s', ?_⟩, ⟨a', n', c', ?_, ((h2.stays hs).set _ hB).set _ hB⟩⟩
    · rw [get_set_ne (by omega), get_set_ne (by omega)]; exact h0
    · rw [get_set_ne (by omega), get_set_ne (by omega)]; exact h1

theorem wgrps_of_rows {lo : Nat} {w : World} {B e n : Nat} {C : Array Value} (hC : Blk w B e (n * 2) C) (hn : n * 40 ≤ 140737488351232) (h : ∀ i, i < n → Row2 lo w C i) : WGrps w (some ⟨B, 0, none⟩) n := by
  refine ⟨hn, .inr ⟨B, 0, rfl, fun i hi => ?_⟩⟩
  obtain ⟨⟨s', h0⟩, ⟨a', n', c', h1, h2⟩⟩ := h i hi
  rw [Nat.zero_add]
  exact ⟨⟨s', by rw [hC.cell]; exact h0⟩, ⟨a', n', c', by rw [hC.cell]; exact h1, h2.mono (Nat.zero_le _)⟩⟩

theorem keep2 {W w' : World} {b o : Nat} {x0 x1 : Value} (h : W.cell? ⟨b, o, none⟩ = some x0 ∧ W.cell? ⟨b, o + 1, none⟩ = some x1) (hb : Below W.heap.size W w') :
    w'.cell? ⟨b, o, none⟩ = some x0 ∧ w'.cell? ⟨b, o + 1, none⟩ = some x1 :=
  ⟨Stays.of_below hb _ _ _ h.1, Stays.of_below hb _ _ _ h.2⟩

set_option maxRecDepth 100000 in
set_option maxHeartbeats 4000000 in
theorem wireGroups_any (a : Option Addr) (n c : Nat) (w : World) (h : Grps w a n c) : Calls Try.prog 7 #[.slice a n c] w (GivesGrps w) := by
  obtain ⟨hh, h⟩ := h
  have hnil := nil_of Try.underlying22 a n c
  cases a with
  | none =>
    obtain ⟨rfl, rfl⟩ := hh.nil rfl
    clear hh h
    go_enter Try.func7, Try.ntmps7
    go_wp2
    go_ret
    exact ⟨_, _, _, rfl, Below.refl _ _, by omega, .inl rfl⟩
  | some x =>
    have hn : n * 40 ≤ 140737488351232 := Nat.le_trans (Nat.mul_le_mul_right _ hh.le) hh.room
    clear hh
    have hmk := make_of Try.underlying25 Try.info40 n (by omega) (by omega)
    go_enter Try.func7, Try.ntmps7
    go_wp2
    clear hmk hnil
    go_loopw [12] (fun i wr => ∃ k : Nat, k ≤ n ∧ i = .int .i64 k ∧ Below w.heap.size w wr ∧ ∃ C, Blk wr w.heap.size 40 (n * 2) C ∧ ∀ i, i < k → Row2 (w.heap.size + 1) wr C i) (fun i _ => n - (intOf i).toNat)
    case atStart => exact ⟨0, Nat.zero_le _, rfl, (Below.refl _ _).alloc (Nat.le_refl _) _, _, Blk.made w _ (n * 2) 40, fun i hi => absurd hi (Nat.not_lt_zero _)⟩
    case round =>
      obtain ⟨k, hk, rfl, hb, C, hC0, hR0⟩ := hrel
      by_cases hlt : k < n
      · rcases h with rfl | ⟨b, o, hx, hc⟩
        · omega
        · obtain rfl := Option.some.inj hx
          have hE := (hc k hlt).stays (Stays.of_below hb)
          have hlb : b < w.heap.size := by obtain ⟨s, hs⟩ := (hc k hlt).c0; exact World.block_lt_of_cell? w _ hs
          obtain ⟨⟨s0, hs0⟩, ⟨a1, n1, c1, hs1, hx1⟩⟩ := hE
          have hne : w.heap.size ≠ b := by omega
          have hB : Hid (Below w.heap.size w wr) := hb
          have hC : Hid (Blk wr w.heap.size 40 (n * 2) C) := hC0
          have hR : Hid (∀ i, i < k → Row2 (w.heap.size + 1) wr C i) := hR0
          have h1 : Hid (Vers wr a1 n1 c1) := hx1
          have hK0 : Below wr.heap.size wr wr.drew := (Below.refl _ _).drew
          clear hc hb hC0 hx hx1 hR0
          go_wp2
          go_region_held3 (fun w' => w'.cell? ⟨b, o + k * 2, none⟩ = some (.string s0) ∧ w'.cell? ⟨b, o + k * 2 + 1, none⟩ = some (.slice a1 n1 c1)) (first | exact keep2 (by assumption) (by assumption) | go_keep)
            (first | (go_at_call 16; refine (wireVers_any _ _ _ _ ?_).mono ?_; (exact Vers.stays (Stays.of_below (w := wr) (by assumption)) h1.out); rintro e w1 ⟨a', n', c', rfl, hb1, hv1⟩; have hWV : Hid (WVers wr.heap.size w1 a' n') := hv1; have hK := btrans (wr := wr) (by assumption) hb1; have hC2 := hC.out.later (w' := w1) (by assumption); clear hv1; obtain ⟨v0, hv0⟩ := hC2.some (j := k * 2) (by omega); have hf0 := hC2.free (k * 2); obtain ⟨v1, hv1⟩ := hC2.some (j := k * 2 + 1) (by omega); have hf1 := hC2.free (k * 2 + 1)))
          have hb2 := bstep hB.out (by assumption)
          have hst := Stays.of_below (w := wr) (w' := w1) (by assumption)
          have hCw := hC2
          clear hK0
          go_wp2
          go_roundw
          case rel => exact ⟨k + 1, by omega, by go_num, ((hb2).setCell (Nat.le_refl _) _).setCell (Nat.le_refl _) _, _, ((hCw).set _ _).set _ _, row2_step hR.out hst hC.out.2 hlt (Nat.lt_succ_self _) (hWV.out.mono (by have := hC.out.lt; omega))⟩
          case measure => simp [intOf]; omega
      · have hkn : Hid (∀ i, i < n → Row2 (w.heap.size + 1) wr C i) := fun i hi => hR0 i (by omega)
        have hCC : Hid (Blk wr w.heap.size 40 (n * 2) C) := hC0
        clear hR0 hC0
        go_wp2
        go_ret
        exact ⟨_, _, _, rfl, hb, wgrps_of_rows hCC.out hn hkn.out⟩
end Go.Proofs.Qxb6603992a
