/- Plain mathematics, more: the passes of the merge sort. -/
import Derived.Test.Qxb6604118aPlain
namespace Go.Proofs.Qxb6604118a.Pl

def gn (D : List Nat) (i : Nat) : Nat := D.getD i 0
def pn (D : List Nat) (k : Nat) : Nat := if k = 0 then 0 else gn D (k - 1)
theorem pn_zero (D : List Nat) : pn D 0 = 0 := rfl
theorem pn_succ (D : List Nat) (k : Nat) : pn D (k + 1) = gn D k := by simp [pn]
theorem gn_set {D : List Nat} {i j v : Nat} (h : i < D.length) : gn (D.set i v) j = if j = i then v else gn D j := by
  unfold gn
  by_cases e : j = i
  · subst e; simp [h]
  · rw [if_neg e]; simp [List.getD, List.getElem?_set_ne (Ne.symm e)]
def nats (D : List Nat) : List Int := D.map fun (n : Nat) => (n : Int)
theorem length_nats (D : List Nat) : (nats D).length = D.length := by simp [nats]
theorem gt_nats (D : List Nat) (i : Nat) : gt (nats D) i = (gn D i : Int) := by
  unfold gt gn nats
  by_cases h : i < D.length
  · simp [h]
  · simp [List.getD, List.getElem?_eq_none (show D.length ≤ i by omega)]
theorem nats_set (D : List Nat) (i v : Nat) : nats (D.set i v) = (nats D).set i (v : Int) := by simp [nats, List.map_set]

/-- The first L ends cut X into ascending runs. -/
structure Cut (X : List Int) (D : List Nat) (L : Nat) : Prop where
  le : L ≤ D.length
  empty : L = 0 → X = []
  last : 0 < L → gn D (L - 1) = X.length
  up : ∀ k, k < L → pn D k ≤ gn D k
  run : ∀ k, k < L → Ord (seg X (pn D k) (gn D k))

theorem mono_of {D : List Nat} {L : Nat} (h : ∀ k, k < L → pn D k ≤ gn D k) : ∀ j k, j ≤ k → k < L → gn D j ≤ gn D k := by
  intro j k hjk
  induction k with
  | zero => intro _; have : j = 0 := by omega
            subst this; exact Nat.le_refl _
  | succ k ih =>
    intro hk
    by_cases e : j = k + 1
    · subst e; exact Nat.le_refl _
    · have h1 := ih (by omega) (by omega)
      have h2 := h (k + 1) hk
      rw [pn_succ] at h2
      omega
theorem Cut.mono {X : List Int} {D : List Nat} {L : Nat} (h : Cut X D L) {j k : Nat} (hjk : j ≤ k) (hk : k < L) : gn D j ≤ gn D k := mono_of h.up j k hjk hk
theorem Cut.bound {X : List Int} {D : List Nat} {L : Nat} (h : Cut X D L) {k : Nat} (hk : k < L) : gn D k ≤ X.length := by
  rw [← h.last (by omega)]; exact h.mono (by omega) (by omega)
theorem Cut.ord {X : List Int} {D : List Nat} {L : Nat} (h : Cut X D L) (hL : L ≤ 1) : Ord X := by
  by_cases h0 : L = 0
  · rw [h.empty h0]; exact List.Pairwise.nil
  · obtain rfl : L = 1 := by omega
    have h1 := h.run 0 (by omega)
    have h2 := h.last (by omega)
    simp only [Nat.sub_self] at h2
    rw [pn_zero, h2] at h1
    simpa [seg] using h1

/-- Where the pair that begins at 2h ends. -/
def to' (D : List Nat) (L h : Nat) : Nat := gn D (min (2 * h + 1) (L - 1))

/-- Within a pass: h pairs are merged into Y, their ends laid over the first h. -/
structure Pas (X Y : List Int) (D F : List Nat) (L h : Nat) : Prop where
  ylen : Y.length = X.length
  flen : F.length = D.length
  new : ∀ i, i < h → gn F i = to' D L i
  old : ∀ i, h ≤ i → gn F i = gn D i
  hk : 2 * h ≤ L + 1
  perm : (Y.take (pn F h)).Perm (X.take (pn F h))
  run : ∀ i, i < h → Ord (seg Y (pn F i) (gn F i))

theorem Pas.start {X Y : List Int} {D : List Nat} {L : Nat} (hl : Y.length = X.length) : Pas X Y D D L 0 :=
  ⟨hl, rfl, fun i hi => absurd hi (Nat.not_lt_zero _), fun _ _ => rfl, by omega, by rw [pn_zero]; simp, fun i hi => absurd hi (Nat.not_lt_zero _)⟩

section
variable {X Y : List Int} {D F : List Nat} {L h : Nat}
/-- Where the next pair begins: as the ends had it. -/
theorem Pas.fr (p : Pas X Y D F L h) (hh : 2 * h < L) : pn F h = pn D (2 * h) := by
  cases h with
  | zero => rfl
  | succ h =>
    rw [pn_succ, p.new h (by omega), show 2 * (h + 1) = 2 * h + 1 + 1 by omega, pn_succ]
    unfold to'; rw [Nat.min_eq_left (by omega)]
theorem Pas.mid (p : Pas X Y D F L h) : gn F (2 * h) = gn D (2 * h) := p.old _ (by omega)
theorem Pas.to (p : Pas X Y D F L h) (hh : 2 * h < L) : gn F (min (2 * h + 1) (L - 1)) = to' D L h := p.old _ (by omega)
theorem to_mono (c : Cut X D L) {i j : Nat} (hij : i ≤ j) (hL : 0 < L) : to' D L i ≤ to' D L j := by
  unfold to'; exact c.mono (by omega) (by omega)
theorem Pas.fits (p : Pas X Y D F L h) (c : Cut X D L) (hh : 2 * h < L) : pn F h ≤ gn D (2 * h) ∧ gn D (2 * h) ≤ to' D L h ∧ to' D L h ≤ X.length := by
  refine ⟨by rw [p.fr hh]; exact c.up _ hh, ?_, ?_⟩
  · unfold to'; exact c.mono (by omega) (by omega)
  · unfold to'; exact c.bound (by omega)
theorem Pas.step {Y2 : List Int} (p : Pas X Y D F L h) (c : Cut X D L) (hh : 2 * h < L) (hl : Y2.length = X.length)
    (ht : Y2.take (to' D L h) = Y.take (pn F h) ++ mrg (seg X (pn F h) (gn D (2 * h))) (seg X (gn D (2 * h)) (to' D L h))) : Pas X Y2 D (F.set h (to' D L h)) L (h + 1) := by
  obtain ⟨f1, f2, f3⟩ := p.fits c hh
  have hlt : h < F.length := by rw [p.flen]; have := c.le; omega
  have gs := fun j => gn_set (D := F) (i := h) (j := j) (v := to' D L h) hlt
  have hyf : (Y.take (pn F h)).length = pn F h := by simp [p.ylen]; omega
  have tk : Y2.take (pn F h) = Y.take (pn F h) := by
    have := congrArg (List.take (pn F h)) ht
    rwa [List.take_take, Nat.min_eq_left (by omega), List.take_append_of_le_length (by omega), List.take_take, Nat.min_self] at this
  have sg : seg Y2 (pn F h) (to' D L h) = mrg (seg X (pn F h) (gn D (2 * h))) (seg X (gn D (2 * h)) (to' D L h)) := by
    unfold seg at *
    rw [← List.drop_take, ht, List.drop_append_of_le_length (by omega), List.drop_of_length_le (by omega), List.nil_append]
  refine ⟨hl, by simpa using p.flen, fun i hi => ?_, fun i hi => ?_, by omega, ?_, fun i hi => ?_⟩
  · rw [gs]
    split
    · rename_i e; rw [e]
    · exact p.new i (by omega)
  · rw [gs, if_neg (by omega)]; exact p.old i (by omega)
  · rw [pn_succ, gs, if_pos rfl, ht, take_seg (X := X) (show pn F h ≤ to' D L h by omega), seg_seg (X := X) f1 f2]
    exact p.perm.append (mrg_perm _ _)
  · by_cases e : i = h
    · subst e
      have e1 : pn (F.set i (to' D L i)) i = pn F i := by
        cases i with
        | zero => rfl
        | succ i => rw [pn_succ, pn_succ, gs, if_neg (by omega)]
      rw [e1, gs, if_pos rfl, sg]
      refine mrg_ord ?_ ?_
      · rw [p.fr hh]; exact c.run _ hh
      · by_cases h2 : 2 * i + 1 < L
        · have := c.run (2 * i + 1) h2
          rw [pn_succ] at this
          unfold to'; rw [Nat.min_eq_left (by omega)]; exact this
        · have e2 : to' D L i = gn D (2 * i) := by unfold to'; rw [Nat.min_eq_right (by omega), show L - 1 = 2 * i by omega]
          rw [e2, seg_nil (Nat.le_refl _)]; exact List.Pairwise.nil
    · have e1 : pn (F.set h (to' D L h)) i = pn F i := by
        cases i with
        | zero => rfl
        | succ i => rw [pn_succ, pn_succ, gs, if_neg (by omega)]
      rw [e1, gs, if_neg e]
      have hle : gn F i ≤ pn F h := by
        cases h with
        | zero => omega
        | succ h =>
          rw [pn_succ, p.new i (by omega), p.new h (by omega)]
          exact to_mono c (by omega) (by omega)
      rw [seg_mono tk hle]
      exact p.run i (by omega)
theorem Pas.done (p : Pas X Y D F L h) (c : Cut X D L) (hL : 2 ≤ L) (hh : ¬ 2 * h < L) : Cut Y F h ∧ Y.Perm X := by
  have hlast : gn F (h - 1) = X.length := by
    rw [p.new (h - 1) (by omega)]
    unfold to'
    rw [Nat.min_eq_right (by omega)]
    exact c.last (by omega)
  have hk := p.hk
  constructor
  · refine ⟨by rw [p.flen]; have := c.le; omega, fun h0 => by omega, fun _ => by rw [p.ylen]; exact hlast, fun k hk => ?_, p.run⟩
    cases k with
    | zero => exact Nat.zero_le _
    | succ k =>
      rw [pn_succ, p.new k (by omega), p.new (k + 1) hk]
      exact to_mono c (by omega) (by omega)
  · have := p.perm
    have e : pn F h = X.length := by
      cases h with
      | zero => omega
      | succ h => rw [pn_succ]; exact hlast
    rw [e, List.take_of_length_le (by rw [p.ylen]; exact Nat.le_refl _), List.take_of_length_le (Nat.le_refl _)] at this
    exact this
end
end Go.Proofs.Qxb6604118a.Pl
