/- Plain mathematics on lists of integers: no Go in sight. Heaps (sift, the heap sort's two phases), segments, merging. -/
namespace Go.Proofs.Qxb6604118a.Pl

/-- The element at i; 0 beyond the end. -/
def gt (X : List Int) (i : Nat) : Int := X.getD i 0

theorem gt_eq {X : List Int} {i : Nat} (h : i < X.length) : gt X i = X[i] := by simp [gt, h]
theorem gt_set {X : List Int} {i j : Nat} {v : Int} (h : i < X.length) : gt (X.set i v) j = if j = i then v else gt X j := by
  unfold gt
  by_cases e : j = i
  · subst e; simp [h]
  · rw [if_neg e]; simp [List.getD, List.getElem?_set_ne (Ne.symm e)]

def swp (X : List Int) (i j : Nat) : List Int := (X.set i (gt X j)).set j (gt X i)
theorem length_swp (X : List Int) (i j : Nat) : (swp X i j).length = X.length := by simp [swp]
theorem gt_swp {X : List Int} {i j : Nat} (hi : i < X.length) (hj : j < X.length) (k : Nat) : gt (swp X i j) k = if k = j then gt X i else if k = i then gt X j else gt X k := by
  unfold swp
  rw [gt_set (by simpa using hj)]
  split
  · rfl
  · rw [gt_set hi]
theorem swp_perm {X : List Int} {i j : Nat} (hi : i < X.length) (hj : j < X.length) : (swp X i j).Perm X := by
  unfold swp
  rw [gt_eq hi, gt_eq hj]
  exact List.set_set_perm hi hj

/-! ### Changes within the first n places -/
structure Sw (X Y : List Int) (n : Nat) : Prop where
  len : Y.length = X.length
  perm : Y.Perm X
  out : ∀ i, n ≤ i → gt Y i = gt X i
  all : ∀ P : Int → Prop, (∀ i, i < n → P (gt X i)) → ∀ i, i < n → P (gt Y i)
theorem Sw.refl (X : List Int) (n : Nat) : Sw X X n := ⟨rfl, List.Perm.refl _, fun _ _ => rfl, fun _ h => h⟩
theorem Sw.trans {X Y Z : List Int} {n : Nat} (h : Sw X Y n) (k : Sw Y Z n) : Sw X Z n :=
  ⟨k.len.trans h.len, k.perm.trans h.perm, fun i hi => (k.out i hi).trans (h.out i hi), fun P hP => k.all P (h.all P hP)⟩
theorem Sw.swap {X : List Int} {n i j : Nat} (hn : n ≤ X.length) (hi : i < n) (hj : j < n) : Sw X (swp X i j) n := by
  refine ⟨length_swp _ _ _, swp_perm (by omega) (by omega), fun k hk => ?_, fun P hP k hk => ?_⟩
  · rw [gt_swp (by omega) (by omega), if_neg (by omega), if_neg (by omega)]
  · rw [gt_swp (by omega) (by omega)]
    split
    · exact hP i hi
    · split
      · exact hP j hj
      · exact hP k hk

/-! ### Heaps -/
def Heap (X : List Int) (lo n : Nat) : Prop := ∀ i c, lo ≤ i → (c = 2 * i + 1 ∨ c = 2 * i + 2) → c < n → gt X c ≤ gt X i

structure Sift (X : List Int) (lo r n : Nat) : Prop where
  low : lo ≤ r
  rest : ∀ i c, lo ≤ i → i ≠ r → (c = 2 * i + 1 ∨ c = 2 * i + 2) → c < n → gt X c ≤ gt X i
  up : ∀ p c, lo ≤ p → (r = 2 * p + 1 ∨ r = 2 * p + 2) → (c = 2 * r + 1 ∨ c = 2 * r + 2) → c < n → gt X c ≤ gt X p

theorem Sift.start {X : List Int} {lo n : Nat} (h : Heap X (lo + 1) n) : Sift X lo lo n :=
  ⟨Nat.le_refl _, fun i c h1 h2 h3 h4 => h i c (by omega) h3 h4, fun p c h1 h2 => by omega⟩
theorem Sift.leaf {X : List Int} {lo r n : Nat} (h : Sift X lo r n) (hr : n ≤ 2 * r + 1) : Heap X lo n := by
  intro i c h1 h2 h3
  by_cases e : i = r
  · subst e; omega
  · exact h.rest i c h1 e h2 h3
theorem Sift.stop {X : List Int} {lo r n c : Nat} (h : Sift X lo r n) (hm : ∀ d, (d = 2 * r + 1 ∨ d = 2 * r + 2) → d < n → gt X d ≤ gt X c) (hc : gt X c ≤ gt X r) : Heap X lo n := by
  intro i d h1 h2 h3
  by_cases e : i = r
  · subst e; exact Int.le_trans (hm d h2 h3) hc
  · exact h.rest i d h1 e h2 h3
theorem Sift.step {X : List Int} {lo r n c : Nat} (h : Sift X lo r n) (hn : n ≤ X.length) (hch : c = 2 * r + 1 ∨ c = 2 * r + 2) (hcn : c < n)
    (hm : ∀ d, (d = 2 * r + 1 ∨ d = 2 * r + 2) → d < n → gt X d ≤ gt X c) (hlt : gt X r < gt X c) : Sift (swp X r c) lo c n := by
  have g := gt_swp (X := X) (i := r) (j := c) (by omega) (by omega)
  have hlo := h.low
  refine ⟨by omega, fun i d h1 h2 h3 h4 => ?_, fun p d h1 h2 h3 h4 => ?_⟩
  · rw [g d, g i]
    rw [if_neg h2]
    by_cases e : i = r
    · subst e
      rw [if_pos rfl]
      by_cases e2 : d = c
      · rw [if_pos e2]; omega
      · rw [if_neg e2, if_neg (by omega)]; exact hm d h3 h4
    · rw [if_neg e, if_neg (by omega)]
      by_cases e2 : d = r
      · rw [if_pos e2]; exact h.up i c h1 (by omega) hch hcn
      · rw [if_neg e2]; exact h.rest i d h1 e h3 h4
  · have hp : p = r := by omega
    subst hp
    rw [g d, g p, if_neg (by omega), if_neg (by omega), if_neg (by omega), if_pos rfl]
    exact h.rest c d (by omega) (by omega) h3 h4

theorem Heap.top {X : List Int} {n : Nat} (h : Heap X 0 n) : ∀ i, i < n → gt X i ≤ gt X 0 := by
  intro i
  induction i using Nat.strongRecOn with
  | _ i ih =>
    intro hi
    by_cases e : i = 0
    · subst e; exact Int.le_refl _
    · have h1 := h ((i - 1) / 2) i (Nat.zero_le _) (by omega) hi
      have h2 := ih ((i - 1) / 2) (by omega) (by omega)
      omega
theorem Heap.leaves (X : List Int) {lo n : Nat} (h : n ≤ 2 * lo + 1) : Heap X lo n := by
  intro i c h1 h2 h3; omega

/-- The second phase: the first m places a heap, none of them above what lies behind; what lies behind in order. -/
structure Phase (X : List Int) (m : Nat) : Prop where
  heap : Heap X 0 m
  cut : ∀ i j, i < m → m ≤ j → j < X.length → gt X i ≤ gt X j
  done : ∀ j k, m ≤ j → j ≤ k → k < X.length → gt X j ≤ gt X k
theorem Phase.start {X : List Int} (h : Heap X 0 X.length) : Phase X X.length := ⟨h, fun i j _ h2 h3 => by omega, fun j k h1 h2 h3 => by omega⟩
theorem Phase.pre {X : List Int} {e : Nat} (h : Phase X (e + 1)) (he : 0 < e) (hl : e + 1 ≤ X.length) : Heap (swp X 0 e) (0 + 1) e := by
  intro i c h1 h2 h3
  rw [gt_swp (by omega) (by omega), gt_swp (by omega) (by omega), if_neg (by omega), if_neg (by omega), if_neg (by omega), if_neg (by omega)]
  exact h.heap i c (Nat.zero_le _) h2 (by omega)
theorem Phase.next {X Z : List Int} {e : Nat} (h : Phase X (e + 1)) (he : 0 < e) (hl : e + 1 ≤ X.length) (hs : Sw (swp X 0 e) Z e) (hz : Heap Z 0 e) : Phase Z e := by
  have g := gt_swp (X := X) (i := 0) (j := e) (by omega) (by omega)
  have hlen : Z.length = X.length := hs.len.trans (length_swp _ _ _)
  have ge : gt Z e = gt X 0 := by rw [hs.out e (Nat.le_refl _), g, if_pos rfl]
  have gj : ∀ j, e < j → gt Z j = gt X j := fun j hj => by rw [hs.out j (by omega), g, if_neg (by omega), if_neg (by omega)]
  have gi : ∀ i, i < e → gt Z i ≤ gt X 0 := hs.all (fun x => x ≤ gt X 0) (fun i hi => by
    rw [g, if_neg (by omega)]
    split
    · exact h.heap.top e (by omega)
    · exact h.heap.top i (by omega))
  have top : ∀ j, e < j → j < X.length → gt X 0 ≤ gt X j := fun j h1 h2 => h.cut 0 j (by omega) (by omega) h2
  refine ⟨hz, fun i j h1 h2 h3 => ?_, fun j k h1 h2 h3 => ?_⟩
  · have h4 := gi i h1
    by_cases ej : j = e
    · subst ej; rw [ge]; exact h4
    · rw [gj j (by omega)]; exact Int.le_trans h4 (top j (by omega) (by omega))
  · by_cases ej : j = e
    · subst ej
      rw [ge]
      by_cases ek : k = j
      · subst ek; rw [ge]; exact Int.le_refl _
      · rw [gj k (by omega)]; exact top k (by omega) (by omega)
    · rw [gj j (by omega), gj k (by omega)]; exact h.done j k (by omega) h2 (by omega)

/-! ### Order -/
def Srt (X : List Int) (lo hi : Nat) : Prop := ∀ j k, lo ≤ j → j ≤ k → k < hi → gt X j ≤ gt X k
theorem Phase.srt {X : List Int} {m : Nat} (h : Phase X m) (hm : m ≤ 1) : Srt X 0 X.length := by
  intro j k _ h2 h3
  by_cases ej : j < m
  · by_cases ek : k < m
    · have : j = k := by omega
      subst this; exact Int.le_refl _
    · exact h.cut j k ej (by omega) h3
  · exact h.done j k (by omega) h2 h3

theorem srt_adj {X : List Int} {lo hi : Nat} (h : ∀ i, lo < i → i < hi → gt X (i - 1) ≤ gt X i) : Srt X lo hi := by
  intro j k h1 h2 h3
  induction k with
  | zero => have : j = 0 := by omega
            subst this; exact Int.le_refl _
  | succ k ih =>
    by_cases e : j = k + 1
    · subst e; exact Int.le_refl _
    · have := ih (by omega) (by omega)
      have h5 := h (k + 1) (by omega) h3
      exact Int.le_trans this h5

def Ord (X : List Int) : Prop := X.Pairwise (fun a b => a ≤ b)
theorem ord_of_srt {X : List Int} (h : Srt X 0 X.length) : Ord X := by
  unfold Ord
  rw [List.pairwise_iff_getElem]
  intro i j hi hj hij
  have := h i j (Nat.zero_le _) (by omega) hj
  rwa [gt_eq hi, gt_eq hj] at this
theorem ord_one {X Y : List Int} (hx : Ord X) (hy : Ord Y) (h : X.Perm Y) : X = Y :=
  List.Perm.eq_of_pairwise (le := fun a b => a ≤ b) (fun _ _ _ _ h1 h2 => Int.le_antisymm h1 h2) hx hy h

/-! ### Segments -/
def seg (X : List Int) (a b : Nat) : List Int := (X.drop a).take (b - a)
theorem length_seg {X : List Int} {a b : Nat} (hb : b ≤ X.length) : (seg X a b).length = b - a := by simp [seg]; omega
theorem seg_nil {X : List Int} {a b : Nat} (h : b ≤ a) : seg X a b = [] := by simp [seg, Nat.sub_eq_zero_of_le h]
theorem seg_cons {X : List Int} {a b : Nat} (h : a < b) (hb : b ≤ X.length) : seg X a b = gt X a :: seg X (a + 1) b := by
  unfold seg
  rw [List.drop_eq_getElem_cons (show a < X.length by omega), show b - a = (b - (a + 1)) + 1 by omega, List.take_succ_cons, gt_eq (by omega)]
theorem take_seg {X : List Int} {a b : Nat} (h : a ≤ b) : X.take b = X.take a ++ seg X a b := by
  unfold seg
  rw [show b = a + (b - a) by omega, List.take_add, show a + (b - a) - a = b - a by omega]
theorem seg_seg {X : List Int} {a b c : Nat} (h : a ≤ b) (h2 : b ≤ c) : seg X a c = seg X a b ++ seg X b c := by
  unfold seg
  rw [show c - a = (b - a) + (c - b) by omega, List.take_add, List.drop_drop, show a + (b - a) = b by omega]
theorem seg_take {X Y : List Int} {a b : Nat} (h : X.take b = Y.take b) : seg X a b = seg Y a b := by
  have e : ∀ Z : List Int, seg Z a b = (Z.take b).drop a := fun Z => by unfold seg; rw [List.drop_take]
  rw [e, e, h]
theorem seg_mono {X Y : List Int} {a b c : Nat} (h : X.take c = Y.take c) (hb : b ≤ c) : seg X a b = seg Y a b := by
  apply seg_take
  have := congrArg (List.take b) h
  rwa [List.take_take, List.take_take, Nat.min_eq_left hb] at this
theorem ord_seg {X : List Int} {a b : Nat} (h : Srt X a b) (hb : b ≤ X.length) : Ord (seg X a b) := by
  unfold Ord
  rw [List.pairwise_iff_getElem]
  intro i j hi hj hij
  rw [length_seg hb] at hi hj
  have := h (a + i) (a + j) (by omega) (by omega) (by omega)
  rw [gt_eq (by omega), gt_eq (by omega)] at this
  simpa [seg] using this

/-! ### Merging -/
abbrev mrg (X Y : List Int) : List Int := List.merge X Y (fun a b => decide (a ≤ b))
theorem mrg_perm (X Y : List Int) : (mrg X Y).Perm (X ++ Y) := List.merge_perm_append _
theorem mrg_ord {X Y : List Int} (hx : Ord X) (hy : Ord Y) : Ord (mrg X Y) := by
  have := List.pairwise_merge (le := fun a b : Int => decide (a ≤ b)) (fun a b c h1 h2 => by simp at *; omega) (fun a b => by simp; omega) X Y (by simpa [Ord] using hx) (by simpa [Ord] using hy)
  simpa [Ord] using this
theorem mrg_left {x y : Int} {X Y : List Int} (h : x ≤ y) : mrg (x :: X) (y :: Y) = x :: mrg X (y :: Y) := by simp [mrg, h]
theorem mrg_right {x y : Int} {X Y : List Int} (h : y < x) : mrg (x :: X) (y :: Y) = y :: mrg (x :: X) Y := by simp [mrg, h]

/-- While two runs are merged: what has been written, and what is left. -/
structure Mid (X Y Y0 : List Int) (fr mid to i j o : Nat) : Prop where
  len : Y.length = X.length
  fri : fr ≤ i
  im : i ≤ mid
  mj : mid ≤ j
  jt : j ≤ to
  tn : to ≤ X.length
  oe : o = fr + (i - fr) + (j - mid)
  has : Y.take o ++ mrg (seg X i mid) (seg X j to) = Y0.take fr ++ mrg (seg X fr mid) (seg X mid to)
theorem Mid.start {X Y0 : List Int} {fr mid to : Nat} (hl : Y0.length = X.length) (h1 : fr ≤ mid) (h2 : mid ≤ to) (h3 : to ≤ X.length) : Mid X Y0 Y0 fr mid to fr mid fr :=
  ⟨hl, Nat.le_refl _, h1, Nat.le_refl _, h2, h3, by omega, rfl⟩
theorem take_set_succ {Y : List Int} {o : Nat} {v : Int} (h : o < Y.length) : (Y.set o v).take (o + 1) = Y.take o ++ [v] := by
  rw [List.take_succ_eq_append_getElem (by simpa using h)]
  simp [List.take_set_of_le]
theorem Mid.right {X Y Y0 : List Int} {fr mid to i j o : Nat} (h : Mid X Y Y0 fr mid to i j o) (hi : i < mid) (hj : j < to) (hlt : gt X j < gt X i) : Mid X (Y.set o (gt X j)) Y0 fr mid to i (j + 1) (o + 1) := by
  have h1 := h.fri; have h2 := h.im; have h3 := h.mj; have h4 := h.tn; have h5 := h.oe; have h6 := h.len
  refine ⟨by simpa using h.len, h1, h2, by omega, by omega, h4, by omega, ?_⟩
  rw [← h.has, take_set_succ (by omega), seg_cons hi (by omega), seg_cons hj h4, mrg_right hlt, List.append_assoc]
  rfl
theorem Mid.left {X Y Y0 : List Int} {fr mid to i j o : Nat} (h : Mid X Y Y0 fr mid to i j o) (hi : i < mid) (hj : j < to) (hle : ¬ gt X j < gt X i) : Mid X (Y.set o (gt X i)) Y0 fr mid to (i + 1) j (o + 1) := by
  have h1 := h.fri; have h2 := h.im; have h3 := h.mj; have h4 := h.tn; have h5 := h.oe; have h6 := h.len
  refine ⟨by simpa using h.len, by omega, by omega, by omega, by omega, h4, by omega, ?_⟩
  rw [← h.has, take_set_succ (by omega), seg_cons hi (by omega), seg_cons hj h4, mrg_left (by omega), List.append_assoc]
  rfl

def lay (L : List Int) (off : Nat) (cs : List Int) : List Int := L.take off ++ (cs ++ L.drop (off + cs.length))
theorem length_lay {L cs : List Int} {off : Nat} (h : off + cs.length ≤ L.length) : (lay L off cs).length = L.length := by simp [lay]; omega
theorem take_lay {L cs : List Int} {off : Nat} (h : off ≤ L.length) : (lay L off cs).take (off + cs.length) = L.take off ++ cs := by
  unfold lay
  rw [← List.append_assoc, List.take_append_of_le_length (by simp; omega), List.take_of_length_le (by simp; omega)]

/-- Both copies done. -/
theorem Mid.done {X Y Y0 : List Int} {fr mid to i j o : Nat} (h : Mid X Y Y0 fr mid to i j o) (he : ¬ (i < mid ∧ j < to)) :
    (lay (lay Y o (seg X i mid)) (o + (mid - i)) (seg X j to)).length = X.length ∧ (lay (lay Y o (seg X i mid)) (o + (mid - i)) (seg X j to)).take to = Y0.take fr ++ mrg (seg X fr mid) (seg X mid to) := by
  have h1 := h.fri; have h2 := h.im; have h3 := h.mj; have h4 := h.tn; have h5 := h.oe; have h6 := h.len; have h7 := h.jt
  have l1 : (seg X i mid).length = mid - i := length_seg (by omega)
  have l2 : (seg X j to).length = to - j := length_seg h4
  have l3 : (lay Y o (seg X i mid)).length = Y.length := length_lay (by omega)
  refine ⟨by rw [length_lay (by omega)]; omega, ?_⟩
  have e : to = o + (mid - i) + (seg X j to).length := by omega
  have e1 := take_lay (L := lay Y o (seg X i mid)) (cs := seg X j to) (off := o + (mid - i)) (by omega)
  rw [← e] at e1
  rw [e1]
  have e2 := take_lay (L := Y) (cs := seg X i mid) (off := o) (by omega)
  rw [l1] at e2
  rw [e2, ← h.has, List.append_assoc]
  congr 1
  by_cases hi : i < mid
  · have : to ≤ j := by omega
    rw [seg_nil this]; simp
  · rw [seg_nil (show mid ≤ i by omega)]; simp
end Go.Proofs.Qxb6604118a.Pl
