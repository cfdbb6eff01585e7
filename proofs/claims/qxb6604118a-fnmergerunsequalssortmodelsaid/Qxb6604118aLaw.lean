/- The law FnMergeRunsEqualsSortModel: its callees over slices of the call's own, and the law's walk (4). -/
import Derived.Test.Qxb6604118aMerge
import Derived.Test.Qxb6604118aMerge0
namespace Go.Proofs.Qxb6604118a
open Go.RowKit Go.Deep Pl

def At (v : Value) (k : Nat) : Prop := ∃ l c, v = .slice (some ⟨k, 0, none⟩) l c
/-- Of what was there only the blocks that are 'bad' may have turned. -/
structure Only (w w' : World) (bad : Nat → Prop) : Prop where
  os : w'.os = w.os
  tape : w'.tape = w.tape
  output : w'.output = w.output
  size : w.heap.size ≤ w'.heap.size
  kept : ∀ k, k < w.heap.size → ¬ bad k → w'.heap[k]? = w.heap[k]?
theorem Only.below {w w' : World} {bad : Nat → Prop} {lo : Nat} (h : Only w w' bad) (hlo : lo ≤ w.heap.size) (hb : ∀ k, bad k → lo ≤ k) : Below lo w w' :=
  ⟨h.os, h.tape, h.output, h.size, fun k hk => h.kept k (Nat.lt_of_lt_of_le hk hlo) fun hbad => by have := hb k hbad; omega⟩
section
variable {w w' : World} {lo : Nat} {v : Value} {X : List Int}
theorem Own.at (h : Own w lo v X) {k : Nat} (hk : At v k) : lo ≤ k ∧ k < w.heap.size := by
  obtain ⟨l, c, hv⟩ := hk
  rcases h with ⟨e, _⟩ | ⟨B, hB, e, hI⟩
  · rw [e] at hv; cases hv
  · rw [e] at hv
    simp only [Value.slice.injEq, Option.some.injEq, Addr.mk.injEq] at hv
    obtain ⟨⟨rfl, _⟩, _⟩ := hv
    exact ⟨hB, hI.lt⟩
theorem Own.only {bad : Nat → Prop} (h : Own w lo v X) (ho : Only w w' bad) (hb : ∀ k, At v k → ¬ bad k) : Own w' lo v X :=
  h.imp id fun ⟨B, hB, e, hI⟩ => ⟨B, hB, e, hI.of_block (ho.kept B hI.lt (hb B ⟨_, _, e⟩))⟩
theorem Own.later (h : Own w lo v X) (hb : Below w.heap.size w w') : Own w' lo v X := h.imp id fun ⟨B, hB, e, hI⟩ => ⟨B, hB, e, hI.later hb⟩
theorem Own.mono {lo' : Nat} (h : Own w lo v X) (hl : lo' ≤ lo) : Own w lo' v X := h.imp id fun ⟨B, hB, e, hI⟩ => ⟨B, Nat.le_trans hl hB, e, hI⟩
theorem Own.drewN (h : Own w lo v X) (q : Nat) : Own (w.drewN q) lo v X := h.imp id fun ⟨B, hB, e, hI⟩ => ⟨B, hB, e, hI.drewN q⟩
/-- Read as a slice. -/
theorem Own.has (h : Own w lo v X) : ∃ a c, v = .slice a X.length c ∧ Src w a X ∧ (a = none → X.length = 0 ∧ c = 0) := by
  rcases h with ⟨e, rfl⟩ | ⟨B, _, e, hI⟩
  · exact ⟨none, 0, e, .inl rfl, fun _ => ⟨rfl, rfl⟩⟩
  · exact ⟨_, _, e, hI.src, fun h => by cases h⟩
end
theorem below_drewN (w : World) (q lo : Nat) : Below lo w (w.drewN q) := ⟨rfl, rfl, rfl, Nat.le_refl _, fun _ _ => rfl⟩

def HeapOwn (w : World) (lo : Nat) (v : Value) (X : List Int) (e : Ending) (w' : World) : Prop := e = .returned (.tuple #[]) ∧ ∃ Y, Own w' lo v Y ∧ Y.Perm X ∧ Ord Y ∧ Only w w' (At v)
theorem heap_own {v : Value} {X : List Int} {w : World} {lo : Nat} (h : Own w lo v X) (h8 : X.length ≤ 65536) : Calls Try.prog 15 #[v] w (HeapOwn w lo v X) := by
  rcases h with ⟨rfl, rfl⟩ | ⟨B, hB, rfl, hI⟩
  · refine (heap_nil w).mono ?_
    rintro e w' ⟨rfl, rfl⟩
    exact ⟨rfl, [], .inl ⟨rfl, rfl⟩, List.Perm.refl _, List.Pairwise.nil, rfl, rfl, rfl, Nat.le_refl _, fun _ _ _ => rfl⟩
  · refine (heap_any B X X.length w rfl h8 hI).mono ?_
    rintro e w' ⟨rfl, Y, hP, hO⟩
    refine ⟨rfl, Y, .inr ⟨B, hB, by rw [hP.perm.length_eq], hP.ints⟩, hP.perm, hO, hP.g.os, hP.g.tape, hP.g.output, hP.g.size, fun k hk hn => hP.g.block k hk ?_⟩
    intro e; injection e with e; subst e; exact hn ⟨_, _, rfl⟩

/-! ### From 'well formed' to the cut. -/
theorem Well.nonneg {X E : List Int} (h : Well X E) {k : Nat} (hk : k < E.length) : 0 ≤ gt E k := by
  have := up_nonneg h.up (k + 1) (by omega)
  rwa [prv_succ] at this
theorem nats_toNat {E : List Int} (h : ∀ k, k < E.length → 0 ≤ gt E k) : nats (E.map Int.toNat) = E := by
  apply List.ext_getElem (by simp [nats])
  intro i h1 h2
  have := h i h2
  rw [gt_eq h2] at this
  simp [nats]
  omega
theorem gn_toNat {E : List Int} {k : Nat} (hk : k < E.length) : gn (E.map Int.toNat) k = (gt E k).toNat := by
  unfold gn
  rw [gt_eq hk, List.getD, List.getElem?_map, List.getElem?_eq_getElem hk]; rfl
theorem pn_toNat {E : List Int} {k : Nat} (hk : k < E.length) : pn (E.map Int.toNat) k = (prv E k).toNat := by
  unfold pn prv
  split
  · rfl
  · exact gn_toNat (by omega)
theorem Well.cut {X E : List Int} (h : Well X E) : Cut X (E.map Int.toNat) E.length := by
  have up : ∀ k, k < E.length → pn (E.map Int.toNat) k ≤ gn (E.map Int.toNat) k := fun k hk => by
    rw [pn_toNat hk, gn_toNat hk]; have := h.up k hk; omega
  have last : 0 < E.length → gn (E.map Int.toNat) (E.length - 1) = X.length := fun h0 => by
    rw [gn_toNat (by omega), h.last (fun e => by rw [e] at h0; simp at h0)]; omega
  refine ⟨by simp, fun h0 => h.none (List.eq_nil_of_length_eq_zero h0), last, up, fun k hk => ?_⟩
  rw [pn_toNat hk, gn_toNat hk]
  refine ord_seg (h.run k hk) ?_
  rw [← gn_toNat hk, ← last (by omega)]
  exact mono_of up k (E.length - 1) (by omega) (by omega)
theorem Well.zero {E : List Int} (h : Well [] E) : E = List.replicate E.length 0 := by
  apply List.ext_getElem (by simp)
  intro i h1 h2
  have a := h.nonneg h1
  have b := up_mono h.up i (E.length - 1) (by omega) (by omega)
  rw [h.last (fun e => by rw [e] at h1; simp at h1)] at b
  rw [gt_eq h1] at a b
  simp at b ⊢
  omega

def Merges (w : World) (lo : Nat) (v0 v1 : Value) (X : List Int) (v6 : Value) (w' : World) : Prop :=
  ∃ Y Z a c, v6 = .slice a Y.length c ∧ Src w' a Y ∧ Ord Y ∧ Y.Perm X ∧ Own w' lo v0 Z ∧ Z.Perm X ∧ Only w w' (fun k => At v0 k ∨ At v1 k)

theorem merge_own {v0 v1 : Value} {X E : List Int} {w : World} {lo : Nat} (h0 : Own w lo v0 X) (h1 : Own w lo v1 E) (ha : ∀ k, At v0 k → ¬ At v1 k) (hw : Well X E) (x8 : X.length ≤ 65536) (e8 : E.length ≤ 65536) :
    Calls Try.prog 21 #[v0, v1] w (fun e w' => ∃ v, e = .returned v ∧ Merges w lo v0 v1 X v w') := by
  by_cases hX : X = []
  · subst hX
    obtain ⟨a0, rfl⟩ : ∃ a0, v0 = .slice a0 0 0 := by
      rcases h0 with ⟨e, _⟩ | ⟨B, _, e, _⟩
      · exact ⟨_, e⟩
      · exact ⟨_, e⟩
    rcases h1 with ⟨rfl, rfl⟩ | ⟨B, hB, rfl, hI⟩
    · refine (merge_none a0 w).mono ?_
      rintro e w' ⟨⟨q, rfl⟩, hb⟩
      exact ⟨_, rfl, [], [], _, _, rfl, .inl rfl, List.Pairwise.nil, List.Perm.refl _, h0.later hb, List.Perm.refl _, hb.os, hb.tape, hb.output, hb.size, fun k hk _ => hb.block k hk⟩
    · rw [hw.zero] at hI
      refine (merge_zero a0 B E.length w e8 hI).mono ?_
      rintro e w' ⟨⟨q, rfl⟩, hb⟩
      have ho : Only w w' (fun k => At (.slice a0 0 0) k ∨ At (.slice (some ⟨B, 0, none⟩) E.length E.length) k) := ⟨hb.os, hb.tape, hb.output, hb.size, fun k hk hn => hb.kept k hk fun e => hn (.inr (by subst e; exact ⟨_, _, rfl⟩))⟩
      refine ⟨_, rfl, [], [], _, _, rfl, .inl rfl, List.Pairwise.nil, List.Perm.refl _, ?_, List.Perm.refl _, ho⟩
      refine h0.imp id fun ⟨A, hA, e, hJ⟩ => ⟨A, hA, e, hJ.of_block (hb.kept A hJ.lt fun e2 => ha A ⟨_, _, e⟩ (by subst e2; exact ⟨_, _, rfl⟩))⟩
  · have hE : E ≠ [] := fun e => hX (hw.none e)
    rcases h0 with ⟨_, e⟩ | ⟨A, hA, rfl, hJ⟩
    · exact absurd e hX
    rcases h1 with ⟨_, e⟩ | ⟨B, hB, rfl, hI⟩
    · exact absurd e hE
    have hne : A ≠ B := fun e => ha A ⟨_, _, rfl⟩ (by subst e; exact ⟨_, _, rfl⟩)
    refine (merge_pos A B X (E.map Int.toNat) X.length E.length w rfl (List.length_pos_iff.2 hX) x8 (by simp) e8 hJ (by rw [nats_toNat fun k hk => hw.nonneg hk]; exact hI) hne hw.cut).mono ?_
    rintro e w' ⟨hk, C, Y, Z, rfl, hY, oY, pY, hZ, pZ⟩
    refine ⟨_, rfl, Y, Z, _, _, by rw [pY.length_eq], hY.src, oY, pY, .inr ⟨A, hA, by rw [pZ.length_eq], hZ⟩, pZ, hk.os, hk.tape, hk.output, hk.size, fun k hkl hn => hk.kept k hkl (fun e => hn (.inl (by subst e; exact ⟨_, _, rfl⟩))) fun e => hn (.inr (by subst e; exact ⟨_, _, rfl⟩))⟩

def Gives (P : Value → World → Prop) (e : Ending) (w' : World) : Prop := ∃ v, e = .returned v ∧ P v w'
set_option maxRecDepth 100000 in
theorem merge16 {v0 v1 : Value} {w : World} {P : Value → World → Prop} (h : Calls Try.prog 21 #[v0, v1] w (Gives P)) : Calls Try.prog 16 #[v0, v1] w (Gives P) := by
  go_enter Try.func16, Try.ntmps16
  go_wp2_with fail
  refine h.mono ?_
  rintro e w' ⟨v, rfl, hv⟩
  have HV : Hid (P v w') := hv
  clear hv h
  go_wp2
  go_ret
  exact ⟨_, rfl, HV.out⟩
end Go.Proofs.Qxb6604118a
