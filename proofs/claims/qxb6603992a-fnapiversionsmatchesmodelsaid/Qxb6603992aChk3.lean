/- The checker over code, and that it tells the truth. -/
import Derived.Test.Qxb6603992aChk2
namespace Go.Proofs.Qxb6603992a.Ck
open Go.RowKit

structure Out where
  norm : Option St
  ext : Option (Nat × St)

def inPath (s : Nat) (p : Path) : Bool := p.any fun x => x.1 == s + 1
def SV.men (s : Nat) (x : SV) : Bool := inPath s x.path || x.j == s

def strip (s : Nat) (S : St) : St :=
  { slots := S.slots.filter fun x => !x.2.men s, lts := S.lts.filter fun x => x.1 != s && !inPath s x.2, nns := S.nns.filter fun p => !inPath s p }
def stable (x : SV) : Bool := x.tag == 1 || (x.tag == 5 || (x.tag == 7 || x.tag == 13))
def headSt (lim s : Nat) (S : St) : St :=
  { slots := (s, { tag := 5, j := s }) :: (strip s S).slots.filter fun x => x.1 != s && (decide (x.1 < lim) && stable x.2), lts := (strip s S).lts, nns := (strip s S).nns }
def has (S : St) (y : Nat × SV) : Bool := match find S.slots y.1 with | some z => z.same y.2 | none => false
def loopOk (s : Nat) (H T : St) : Option Path :=
  if (H.slots.all fun y => y.1 == s || has T y) && has T (s, { tag := 12, j := s }) then (T.lts.find? fun x => x.1 == s && !inPath s x.2).map (·.2) else none
def zeroSlot (lim : Nat) (S : St) : Option Nat := (S.slots.find? fun x => x.2.tag == 11 && decide (x.1 < lim)).map (·.1)
def meet (S T : St) : St :=
  { slots := S.slots.filter (has T), lts := S.lts.filter fun x => hasLt T x.1 x.2, nns := S.nns.filter (hasNn T) }
def joinN : Option St → Option St → Option St
  | none, x => x
  | some S, none => some S
  | some S, some T => some (meet S T)
def joinE : Option (Nat × St) → Option (Nat × St) → Option (Option (Nat × St))
  | none, x => some x
  | some S, none => some (some S)
  | some _, some _ => none
def thenSt (x : SV) (S : St) : Option St :=
  if x.tag == 8 then some S else if x.tag == 9 then some { S with lts := (x.j, x.path) :: S.lts } else if x.tag == 10 then some { S with nns := x.path :: S.nns } else none

/-- Behind a statement: the named slots and the last temporary. -/
def cut (lim : Nat) (S : St) : St := { S with slots := S.slots.take 1 ++ (S.slots.drop 1).filter fun x => decide (x.1 < lim) }

def chk (lim N res : Nat) : Code → St → Option Out
  | .skip, S => some ⟨some S, none⟩
  | .ret, S => match find S.slots res with
    | some x => if x.tag = 8 then some ⟨none, none⟩ else none
    | none => none
  | .exit id, S => some ⟨none, some (id, S)⟩
  | .region _ ops d, S => if d then none else (absOps N ops.toList S).map fun T => ⟨some (cut lim T), none⟩
  | .seq x y, S => (chk lim N res x S).bind fun X => match X.norm with
    | none => some X
    | some T => (chk lim N res y T).bind fun Y => (joinE X.ext Y.ext).map fun e => ⟨Y.norm, e⟩
  | .cond c x y, S => (look S c).bind fun v => (thenSt v S).bind fun T => (chk lim N res x T).bind fun X => (chk lim N res y S).bind fun Y => (joinE X.ext Y.ext).map fun e => ⟨joinN X.norm Y.norm, e⟩
  | .block id c, S => (chk lim N res c S).bind fun X => match X.ext with
    | none => some X
    | some (i, T) => if i = id then some ⟨joinN X.norm (some T), none⟩ else some X
  | .loop c, S => (zeroSlot lim S).bind fun s => (chk lim N res c (headSt lim s S)).bind fun X => X.norm.bind fun T => (loopOk s (headSt lim s S) T).bind fun _ =>
      some ⟨none, X.ext.map fun e => (e.1, strip s e.2)⟩
  | _, _ => none

section
variable {w : World} {root : Value} {k : Nat → Nat} {N : Nat} {S T : St} {a : Act}

def Post (w : World) (root : Value) (k : Nat → Nat) (N res : Nat) (O : Out) : Exit → Act → World → Prop
  | .normal, a, w' => w' = w ∧ ∃ S, O.norm = some S ∧ G w root k N S a
  | .exit id, a, w' => w' = w ∧ ∃ S, O.ext = some (id, S) ∧ G w root k N S a
  | .ret, a, w' => w' = w ∧ a.defers = [] ∧ ∃ b, a.eval (.tmp res) = .bool b
  | _, _, _ => False

theorem G.sub (g : G w root k N S a) (h1 : ∀ x ∈ T.slots, x ∈ S.slots) (h2 : ∀ x ∈ T.lts, x ∈ S.lts) (h3 : ∀ x ∈ T.nns, x ∈ S.nns) : G w root k N T a :=
  ⟨g.size, g.defers, fun x hx => g.slots x (h1 x hx), fun x hx => g.lts x (h2 x hx), fun x hx => g.nns x (h3 x hx)⟩

theorem cut_ok {lim : Nat} (g : G w root k N S a) : G w root k N (cut lim S) a :=
  g.sub (fun x hx => by
    rcases List.mem_append.1 hx with hx | hx
    · exact List.mem_of_mem_take hx
    · exact List.mem_of_mem_drop (List.mem_filter.1 hx).1) (fun _ h => h) (fun _ h => h)

theorem has_ok (g : G w root k N T a) {y : Nat × SV} (h : has T y = true) : sem w root k y.2 (a.eval (.tmp y.1)) := by
  unfold has at h
  split at h
  · rename_i z hz
    have := g.slots _ (find_mem hz)
    rw [SV.same_eq h] at this
    exact this
  · cases h

theorem meet_left (g : G w root k N S a) : G w root k N (meet S T) a :=
  g.sub (fun _ h => (List.mem_filter.1 h).1) (fun _ h => (List.mem_filter.1 h).1) (fun _ h => (List.mem_filter.1 h).1)
theorem meet_right (g : G w root k N T a) : G w root k N (meet S T) a :=
  ⟨g.size, g.defers, fun _ h => has_ok g (List.mem_filter.1 h).2, fun _ h => hasLt_ok g (List.mem_filter.1 h).2, fun _ h => hasNn_ok g (List.mem_filter.1 h).2⟩
theorem joinN_left {y : Option St} (g : G w root k N S a) : ∃ R, joinN (some S) y = some R ∧ G w root k N R a := by
  cases y with
  | none => exact ⟨S, rfl, g⟩
  | some T => exact ⟨_, rfl, meet_left g⟩
theorem joinN_right {x : Option St} (g : G w root k N T a) : ∃ R, joinN x (some T) = some R ∧ G w root k N R a := by
  cases x with
  | none => exact ⟨T, rfl, g⟩
  | some S => exact ⟨_, rfl, meet_right g⟩
theorem joinE_left {x y e : Option (Nat × St)} (h : joinE x y = some e) {u : Nat × St} (hx : x = some u) : e = some u := by
  subst hx
  cases y with
  | none => injection h with h; exact h.symm
  | some _ => cases h
theorem joinE_right {x y e : Option (Nat × St)} (h : joinE x y = some e) {u : Nat × St} (hy : y = some u) : e = some u := by
  subst hy
  cases x with
  | none => injection h with h; exact h.symm
  | some _ => cases h

/-! ### The indices -/
def upd (k : Nat → Nat) (s n : Nat) : Nat → Nat := fun i => if i = s then n else k i
theorem upd_same {s n : Nat} : upd k s n s = n := if_pos rfl
theorem upd_ne {s n i : Nat} (h : i ≠ s) : upd k s n i = k i := if_neg h

theorem V_upd {s n : Nat} : ∀ (p : Path), inPath s p = false → V w root (upd k s n) p = V w root k p
  | [], _ => rfl
  | (0, f) :: p, h => by
    have h' : inPath s p = false := by simpa [inPath] using h
    simp only [V, V_upd p h']
  | (i + 1, f) :: p, h => by
    have h1 : i ≠ s ∧ inPath s p = false := by
      simp only [inPath, List.any_cons, Bool.or_eq_false_iff, beq_eq_false_iff_ne] at h
      exact ⟨fun e => h.1 (by rw [e]), h.2⟩
    simp only [V, V_upd p h1.2, upd_ne h1.1]

theorem sem_congr {k' : Nat → Nat} {x : SV} {v : Value} (h1 : V w root k x.path = V w root k' x.path) (h2 : k x.j = k' x.j) (h : sem w root k x v) : sem w root k' x v := by
  unfold sem at *
  rw [← h1, ← h2]
  exact h

theorem strip_ok {s n m : Nat} (g : G w root (upd k s n) N S a) : G w root (upd k s m) N (strip s S) a := by
  have e : ∀ p, inPath s p = false → V w root (upd k s n) p = V w root (upd k s m) p := fun p hp => by rw [V_upd p hp, V_upd p hp]
  have e' : ∀ i, i ≠ s → upd k s n i = upd k s m i := fun i hi => by rw [upd_ne hi, upd_ne hi]
  refine ⟨g.size, g.defers, fun x hx => ?_, fun x hx => ?_, fun x hx => ?_⟩
  · obtain ⟨hx, h⟩ := List.mem_filter.1 hx
    simp only [SV.men, Bool.not_eq_true', Bool.or_eq_false_iff, beq_eq_false_iff_ne] at h
    exact sem_congr (e _ h.1) (e' _ h.2) (g.slots x hx)
  · obtain ⟨hx, h⟩ := List.mem_filter.1 hx
    simp only [Bool.and_eq_true, bne_iff_ne, Bool.not_eq_true'] at h
    rw [← e _ h.2, ← e' _ h.1]
    exact g.lts x hx
  · obtain ⟨hx, h⟩ := List.mem_filter.1 hx
    simp only [Bool.not_eq_true'] at h
    rw [← e _ h]
    exact g.nns x hx

theorem upd_self (s : Nat) : upd k s (k s) = k := by
  funext i; unfold upd; split
  · rename_i h; rw [h]
  · rfl

/-- The state at a loop's head, at every number of rounds done. -/
theorem head_start {lim s : Nat} (g : G w root k N S a) (hz : a.eval (.tmp s) = .int .i64 0) : G w root (upd k s 0) N (headSt lim s S) a := by
  have g' : G w root (upd k s 0) N (strip s S) a := strip_ok (n := k s) (by rw [upd_self]; exact g)
  refine ⟨g.size, g.defers, fun x hx => ?_, g'.lts, g'.nns⟩
  rcases List.mem_cons.1 hx with rfl | hx
  · refine mk5 rfl ?_
    show a.eval (.tmp s) = .int .i64 (upd k s 0 s : Nat)
    rw [hz, upd_same]; rfl
  · exact g'.slots x (List.mem_filter.1 hx).1

theorem head_next {lim s n : Nat} {a' : Act} {p : Path} (g : G w root (upd k s n) N (headSt lim s S) a) (h : loopOk s (headSt lim s S) T = some p) (g' : G w root (upd k s n) N T a') :
    G w root (upd k s (n + 1)) N (headSt lim s S) a' ∧ a'.eval (.tmp s) = .int .i64 (n + 1 : Nat) ∧ inPath s p = false ∧ ∃ a n' c, V w root (upd k s n) p = .slice a n' c ∧ n < n' := by
  unfold loopOk at h
  split at h
  · rename_i hc
    simp only [Bool.and_eq_true, List.all_eq_true, Bool.or_eq_true, beq_iff_eq] at hc
    obtain ⟨h1, h2⟩ := hc
    obtain ⟨x, hx, e⟩ := Option.map_eq_some_iff.1 h
    have hp := List.find?_some hx
    have hm := List.mem_of_find?_eq_some hx
    simp only [Bool.and_eq_true, beq_iff_eq, Bool.not_eq_true'] at hp
    have hs : a'.eval (.tmp s) = .int .i64 (n + 1 : Nat) := by
      have := sem12 rfl (has_ok g' h2)
      rw [this]
      show Value.int .i64 ((upd k s n s : Nat) + 1) = _
      rw [upd_same]; rfl
    refine ⟨?_, hs, by rw [← e]; exact hp.2, ?_⟩
    · have gs : G w root (upd k s (n + 1)) N (strip s (headSt lim s S)) a := strip_ok g
      refine ⟨g'.size, g'.defers, fun y hy => ?_, fun y hy => ?_, fun y hy => ?_⟩
      · rcases List.mem_cons.1 hy with rfl | hy'
        · refine mk5 rfl ?_
          show a'.eval (.tmp s) = .int .i64 (upd k s (n + 1) s : Nat)
          rw [hs, upd_same]
        · obtain ⟨hy1, hy2⟩ := List.mem_filter.1 hy'
          simp only [Bool.and_eq_true, bne_iff_ne] at hy2
          have hh := (h1 y hy).resolve_left hy2.1
          have hmen := (List.mem_filter.1 hy1).2
          simp only [SV.men, Bool.not_eq_true', Bool.or_eq_false_iff, beq_eq_false_iff_ne] at hmen
          exact sem_congr (by rw [V_upd _ hmen.1, V_upd _ hmen.1]) (by rw [upd_ne hmen.2, upd_ne hmen.2]) (has_ok g' hh)
      · have hf := (List.mem_filter.1 hy).2
        exact gs.lts y (List.mem_filter.2 ⟨hy, hf⟩)
      · have hf := (List.mem_filter.1 hy).2
        exact gs.nns y (List.mem_filter.2 ⟨hy, hf⟩)
    · obtain ⟨a1, n1, c1, hv, hk, _⟩ := g'.lts x hm
      rw [hp.1, upd_same] at hk
      rw [← e]
      exact ⟨a1, n1, c1, hv, hk⟩
  · cases h

def lenOf : Value → Nat
  | .slice _ n _ => n
  | _ => 0

theorem then_ok {x : SV} (g : G w root k N S a) (h : thenSt x S = some T) {v : Value} (hx : sem w root k x v) : ∃ b, v = .bool b ∧ (b = true → G w root k N T a) := by
  unfold thenSt at h
  split at h
  · rename_i c
    injection h with h; subst h
    obtain ⟨b, hb⟩ := sem8 (by simpa using c) hx
    exact ⟨b, hb, fun _ => g⟩
  · split at h
    · rename_i c
      injection h with h; subst h
      obtain ⟨a', n, c', hv, hn, e⟩ := sem9 (by simpa using c) hx
      refine ⟨_, e, fun hb => ⟨g.size, g.defers, g.slots, fun y hy => ?_, g.nns⟩⟩
      rcases List.mem_cons.1 hy with rfl | hy
      · exact ⟨a', n, c', hv, by simpa using hb, hn⟩
      · exact g.lts y hy
    · split at h
      · rename_i c
        injection h with h; subst h
        obtain ⟨q, hv, e⟩ := sem10 (by simpa using c) hx
        refine ⟨_, e, fun hb => ⟨g.size, g.defers, g.slots, g.lts, fun y hy => ?_⟩⟩
        rcases List.mem_cons.1 hy with rfl | hy
        · obtain ⟨z, rfl⟩ := Option.isSome_iff_exists.1 hb
          exact ⟨z, hv⟩
        · exact g.nns y hy
      · cases h

theorem chk_ok {lim res : Nat} : ∀ (c : Code) (S : St) (O : Out) (k : Nat → Nat) (a : Act), chk lim N res c S = some O → G w root k N S a → c.wp Try.prog (Post w root k N res O) a w := by
  intro c
  induction c with
  | skip =>
    intro S O k a h g
    injection h with h; subst h
    exact wp_skip ⟨rfl, S, rfl, g⟩
  | ret =>
    intro S O k a h g
    unfold chk at h
    split at h
    · rename_i x hx
      split at h
      · rename_i ht
        exact wp_ret ⟨rfl, g.defers, sem8 ht (g.slots _ (find_mem hx))⟩
      · cases h
    · cases h
  | exit id =>
    intro S O k a h g
    injection h with h; subst h
    exact wp_exit ⟨rfl, S, rfl, g⟩
  | region id ops d =>
    intro S O k a h g
    unfold chk at h
    cases d with
    | true => cases h
    | false =>
      obtain ⟨T, hT, rfl⟩ := Option.map_eq_some_iff.1 h
      exact wp_region_list (absOps_ok _ S a g T hT fun a' g' => ⟨rfl, _, rfl, cut_ok g'⟩)
  | seq x y ihx ihy =>
    intro S O k a h g
    unfold chk at h
    obtain ⟨X, hX, h⟩ := Option.bind_eq_some_iff.1 h
    have wx := ihx S X k a hX g
    refine wp_seq (wp_mono wx ?_)
    intro e a' w' hp
    split at h
    · rename_i hn
      injection h with h; subst h
      cases e with
      | normal => obtain ⟨_, T, hT, _⟩ := hp; rw [hn] at hT; cases hT
      | exit _ => exact hp
      | ret => exact hp
      | goto _ => exact hp
      | panic _ => exact hp
      | outgrown => exact hp
    · rename_i T hn
      obtain ⟨Y, hY, h⟩ := Option.bind_eq_some_iff.1 h
      obtain ⟨ex, hE, rfl⟩ := Option.map_eq_some_iff.1 h
      cases e with
      | normal =>
        obtain ⟨rfl, T', hT, gT⟩ := hp
        rw [hn] at hT; injection hT with hT; subst hT
        refine wp_mono (ihy T Y k a' hY gT) ?_
        intro e a2 w2 hq
        cases e with
        | normal => exact hq
        | exit _ => obtain ⟨h1, U, hU, gU⟩ := hq; exact ⟨h1, U, joinE_right hE hU, gU⟩
        | ret => exact hq
        | goto _ => exact hq
        | panic _ => exact hq
        | outgrown => exact hq
      | exit _ => obtain ⟨h1, U, hU, gU⟩ := hp; exact ⟨h1, U, joinE_left hE hU, gU⟩
      | ret => exact hp
      | goto _ => exact hp
      | panic _ => exact hp
      | outgrown => exact hp
  | cond c x y ihx ihy =>
    intro S O k a h g
    unfold chk at h
    obtain ⟨v, hv, h⟩ := Option.bind_eq_some_iff.1 h
    obtain ⟨T, hT, h⟩ := Option.bind_eq_some_iff.1 h
    obtain ⟨X, hX, h⟩ := Option.bind_eq_some_iff.1 h
    obtain ⟨Y, hY, h⟩ := Option.bind_eq_some_iff.1 h
    obtain ⟨ex, hE, rfl⟩ := Option.map_eq_some_iff.1 h
    obtain ⟨b, hb, hg⟩ := then_ok g hT (look_ok g hv)
    refine wp_cond_split hb (fun ht => wp_mono (ihx T X k a hX (hg ht)) ?_) (fun _ => wp_mono (ihy S Y k a hY g) ?_)
    · intro e a2 w2 hq
      cases e with
      | normal => obtain ⟨h1, U, hU, gU⟩ := hq; show _ ∧ ∃ S, joinN X.norm Y.norm = some S ∧ _; rw [hU]; exact ⟨h1, joinN_left gU⟩
      | exit _ => obtain ⟨h1, U, hU, gU⟩ := hq; exact ⟨h1, U, joinE_left hE hU, gU⟩
      | ret => exact hq
      | goto _ => exact hq
      | panic _ => exact hq
      | outgrown => exact hq
    · intro e a2 w2 hq
      cases e with
      | normal => obtain ⟨h1, U, hU, gU⟩ := hq; show _ ∧ ∃ S, joinN X.norm Y.norm = some S ∧ _; rw [hU]; exact ⟨h1, joinN_right gU⟩
      | exit _ => obtain ⟨h1, U, hU, gU⟩ := hq; exact ⟨h1, U, joinE_right hE hU, gU⟩
      | ret => exact hq
      | goto _ => exact hq
      | panic _ => exact hq
      | outgrown => exact hq
  | block id c ih =>
    intro S O k a h g
    unfold chk at h
    obtain ⟨X, hX, h⟩ := Option.bind_eq_some_iff.1 h
    refine wp_block (wp_mono (ih S X k a hX g) ?_)
    intro e a2 w2 hq
    split at h
    · rename_i hn
      injection h with h; subst h
      cases e with
      | exit _ => obtain ⟨_, U, hU, _⟩ := hq; rw [hn] at hU; cases hU
      | normal => exact hq
      | ret => exact hq
      | goto _ => exact hq
      | panic _ => exact hq
      | outgrown => exact hq
    · rename_i i T hn
      split at h
      · rename_i hi
        injection h with h; subst h
        cases e with
        | exit i' =>
          obtain ⟨h1, U, hU, gU⟩ := hq
          rw [hn] at hU; injection hU with hU; injection hU with e1 e2; subst e1 e2
          show Exit.inBlock id _ (.exit i) a2 w2
          unfold Exit.inBlock
          simp only [hi, if_true]
          exact ⟨h1, joinN_right gU⟩
        | normal => obtain ⟨h1, U, hU, gU⟩ := hq; show _ ∧ ∃ S, joinN X.norm (some T) = some S ∧ _; rw [hU]; exact ⟨h1, joinN_left gU⟩
        | ret => exact hq
        | goto _ => exact hq
        | panic _ => exact hq
        | outgrown => exact hq
      · rename_i hi
        injection h with h; subst h
        cases e with
        | exit i' =>
          obtain ⟨h1, U, hU, gU⟩ := hq
          have hi' : i' = i := by rw [hn] at hU; injection hU with hU; injection hU with e1 e2; exact e1.symm
          show Exit.inBlock id _ (.exit i') a2 w2
          unfold Exit.inBlock
          simp only [hi', hi, if_false]
          exact ⟨h1, U, by rw [hU, hi'], gU⟩
        | normal => exact hq
        | ret => exact hq
        | goto _ => exact hq
        | panic _ => exact hq
        | outgrown => exact hq
  | loop c ih =>
    intro S O k a h g
    unfold chk at h
    obtain ⟨s, hs, h⟩ := Option.bind_eq_some_iff.1 h
    obtain ⟨X, hX, h⟩ := Option.bind_eq_some_iff.1 h
    obtain ⟨T, hT, h⟩ := Option.bind_eq_some_iff.1 h
    obtain ⟨p, hp, h⟩ := Option.bind_eq_some_iff.1 h
    injection h with h; subst h
    obtain ⟨y, hy, rfl⟩ := Option.map_eq_some_iff.1 hs
    have hz : a.eval (.tmp y.1) = .int .i64 0 := by
      have ht := List.find?_some hy
      simp only [Bool.and_eq_true, beq_iff_eq] at ht
      exact sem11 ht.1 (g.slots y (List.mem_of_find?_eq_some hy))
    refine wp_loop (fun a' w' => w' = w ∧ ∃ n : Nat, a'.eval (.tmp y.1) = .int .i64 n ∧ G w root (upd k y.1 n) N (headSt lim y.1 S) a') (fun a' _ => lenOf (V w root k p) - (intOf (a'.eval (.tmp y.1))).toNat) ⟨rfl, 0, hz, head_start g hz⟩ ?_
    rintro a1 w1 ⟨rfl, n, hn, g1⟩
    refine wp_mono (ih _ X _ a1 hX g1) ?_
    intro e a2 w2 hq
    cases e with
    | normal =>
      obtain ⟨rfl, U, hU, gU⟩ := hq
      rw [hT] at hU; injection hU with hU; subst hU
      obtain ⟨g2, hs2, hip, a', n', c', hv, hlt⟩ := head_next g1 hp gU
      refine ⟨⟨rfl, n + 1, hs2, g2⟩, ?_⟩
      rw [V_upd p hip] at hv
      rw [hv, hs2, hn]
      simp only [lenOf, intOf]
      omega
    | exit id =>
      obtain ⟨h1, U, hU, gU⟩ := hq
      have gs := strip_ok (m := k y.1) gU
      rw [upd_self] at gs
      exact ⟨h1, strip y.1 U, by rw [hU]; rfl, gs⟩
    | ret => exact hq
    | goto _ => exact hq
    | panic _ => exact hq
    | outgrown => exact hq
  | rangeFunc f ps x y _ _ => intro S O k a h g; cases h
  | scope c _ => intro S O k a h g; cases h
  | label l => intro S O k a h g; cases h
  | goto l => intro S O k a h g; cases h
  | refuse s => intro S O k a h g; cases h
end
end Go.Proofs.Qxb6603992a.Ck
