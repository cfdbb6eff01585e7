/- The checker's operations: abstract states, one operation, a list of operations; that each tells the truth. -/
import Derived.Test.Qxb6603992aChk
import Derived.Great.Frames
namespace Go.Proofs.Qxb6603992a.Ck
open Go.RowKit

structure St where
  slots : List (Nat × SV)
  lts : List (Nat × Path)
  nns : List Path

def find : List (Nat × SV) → Nat → Option SV
  | [], _ => none
  | (i, x) :: r, j => if i = j then some x else find r j
theorem find_mem {l : List (Nat × SV)} {j : Nat} {x : SV} (h : find l j = some x) : (j, x) ∈ l := by
  induction l with
  | nil => cases h
  | cons y r ih =>
    obtain ⟨i, y⟩ := y
    simp only [find] at h
    split at h
    · rename_i e; injection h with h; subst e h; exact List.mem_cons_self
    · exact List.mem_cons_of_mem _ (ih h)

def lookC : Value → Option SV
  | .int .i64 n => some (if n = 0 then { tag := 11 } else if n = 1 then { tag := 16 } else { tag := 7 })
  | .bool _ => some { tag := 8 }
  | .pointer none => some { tag := 15 }
  | _ => none
def look (S : St) : Operand → Option SV
  | .tmp j => find S.slots j
  | .const v => lookC v
  | _ => none

def hasLt (S : St) (j : Nat) (p : Path) : Bool := S.lts.any fun x => x.1 == j && x.2 == p
def hasVar (S : St) (j : Nat) : Bool := S.lts.any fun x => x.1 == j
def hasNn (S : St) (p : Path) : Bool := S.nns.any fun x => x == p

def absGtr (x y : SV) : Option SV := if isInt x && isInt y then some { tag := 8 } else none
def absAdd (S : St) (x y : SV) : Option SV :=
  if x.tag == 5 && (y.tag == 16 && hasVar S x.j) then some { tag := 12, j := x.j } else if isInt x && isInt y then some { tag := 7 } else none
def absLss (x y : SV) : Option SV := if x.tag == 5 && y.tag == 6 then some { tag := 9, path := y.path, j := x.j } else none
def absNeq (x y : SV) : Option SV := if x.tag == 1 && (tyOf x.path == 56 && y.tag == 15) then some { tag := 10, path := x.path } else none
def absLen (t : Nat) (x : SV) : Option SV :=
  if x.tag == 1 && (tyOf x.path == t && isSlice t) then some { tag := 6, path := x.path } else if x.tag == 1 && (tyOf x.path == 9 && t == 9) then some { tag := 7 } else if x.tag == 13 && t == 9 then some { tag := 7 } else none
def absIdx (S : St) (t : Nat) (x i : SV) : Option SV :=
  if x.tag == 1 && (tyOf x.path == t && (isSlice t && (i.tag == 5 && hasLt S i.j x.path))) then some { tag := 2, path := x.path, j := i.j } else none
def absFld (t f : Nat) (x : SV) : Option SV :=
  if x.tag == 2 && (isSlice (tyOf x.path) && (elemTy (tyOf x.path) == t && (decide (f < (fieldsOf (tyOf x.path)).length) && decide (tyOf x.path ≠ 29)))) then some { tag := 3, path := x.path, j := x.j, f := f }
  else if x.tag == 14 && (tyOf x.path == 56 && (t == 61 && decide (f < 3))) then some { tag := 4, path := x.path, f := f } else none
def loads (t : Nat) : Bool := t == 9 || (t == 29 || (t == 50 || (t == 53 || (t == 56 || t == 57))))
def absLoad (t : Nat) (x : SV) : Option SV :=
  if x.tag == 3 && (isSlice (tyOf x.path) && (decide (x.f < (fieldsOf (tyOf x.path)).length) && ((fieldsOf (tyOf x.path)).getD x.f 0 == t && loads t))) then some { tag := 1, path := (x.j + 1, x.f) :: x.path }
  else if x.tag == 2 && (tyOf x.path == 29 && t == 9) then some { tag := 1, path := (x.j + 1, 0) :: x.path }
  else if x.tag == 4 && (tyOf x.path == 56 && (decide (x.f < 3) && t == 9)) then some { tag := 1, path := (0, x.f) :: x.path } else none
def absNil (S : St) (x : SV) : Option SV := if x.tag == 1 && (tyOf x.path == 56 && hasNn S x.path) then some { tag := 14, path := x.path } else none

def absBin (S : St) (op : BinOp) (t : Nat) (u v : SV) : Option SV :=
  match op with
  | .gtr => if t = 3 then absGtr u v else none
  | .add => if t = 3 then absAdd S u v else none
  | .lss => if t = 3 then absLss u v else none
  | .neq => if t = 56 then absNeq u v else none
  | _ => none

def absCall (S : St) (c : Call) : Option SV :=
  match c with
  | ⟨.builtin .len, ⟨[x]⟩, ⟨[t]⟩⟩ => (look S x).bind (absLen t)
  | _ => none

def absOp (S : St) : Op → Option SV
  | .move x => look S x
  | .assign x => look S x
  | .binOp op t x y _ => (look S x).bind fun u => (look S y).bind (absBin S op t u)
  | .call c => absCall S c
  | .indexAddr t x i => (look S x).bind fun u => (look S i).bind (absIdx S t u)
  | .fieldAddr t x f => (look S x).bind (absFld t f)
  | .load t x => (look S x).bind (absLoad t)
  | .nilCheck x => (look S x).bind (absNil S)
  | _ => none

structure G (w : World) (root : Value) (k : Nat → Nat) (N : Nat) (S : St) (a : Act) : Prop where
  size : a.tmps.size = N
  defers : a.defers = []
  slots : ∀ x ∈ S.slots, sem w root k x.2 (a.eval (.tmp x.1))
  lts : ∀ x ∈ S.lts, ∃ a n c, V w root k x.2 = .slice a n c ∧ k x.1 < n ∧ n ≤ 140737488351232
  nns : ∀ p ∈ S.nns, ∃ x, V w root k p = .pointer (some x)

section
variable {w : World} {root : Value} {k : Nat → Nat} {N : Nat} {S : St} {a : Act}

theorem lookC_ok {v : Value} {x : SV} (h : lookC v = some x) : sem w root k x v := by
  unfold lookC at h
  split at h
  · rename_i n
    injection h with h
    by_cases h0 : n = 0
    · rw [if_pos h0] at h; subst h h0; exact mk11 rfl rfl
    · rw [if_neg h0] at h
      by_cases h1 : n = 1
      · rw [if_pos h1] at h; subst h h1; exact mk16 rfl rfl
      · rw [if_neg h1] at h; subst h; exact mk7 rfl ⟨n, rfl⟩
  · injection h with h; subst h; exact mk8 rfl ⟨_, rfl⟩
  · injection h with h; subst h; exact mk15 rfl rfl
  · cases h

theorem look_ok (g : G w root k N S a) {x : Operand} {s : SV} (h : look S x = some s) : sem w root k s (a.eval x) := by
  cases x with
  | tmp j => exact g.slots _ (find_mem h)
  | const v => exact lookC_ok h
  | global _ => cases h
  | func _ => cases h

theorem hasLt_ok (g : G w root k N S a) {j : Nat} {p : Path} (h : hasLt S j p = true) : ∃ a n c, V w root k p = .slice a n c ∧ k j < n ∧ n ≤ 140737488351232 := by
  obtain ⟨x, hx, e⟩ := List.any_eq_true.1 h
  simp only [Bool.and_eq_true, beq_iff_eq] at e
  obtain ⟨e1, e2⟩ := e
  have := g.lts x hx
  rw [e1, e2] at this
  exact this
theorem hasVar_ok (g : G w root k N S a) {j : Nat} (h : hasVar S j = true) : k j < 140737488351232 := by
  obtain ⟨x, hx, e⟩ := List.any_eq_true.1 h
  simp only [beq_iff_eq] at e
  obtain ⟨_, n, _, _, h1, h2⟩ := g.lts x hx
  rw [e] at h1
  omega
theorem hasNn_ok (g : G w root k N S a) {p : Path} (h : hasNn S p = true) : ∃ x, V w root k p = .pointer (some x) := by
  obtain ⟨x, hx, e⟩ := List.any_eq_true.1 h
  simp only [beq_iff_eq] at e
  subst e
  exact g.nns x hx

theorem V_idx {p : Path} {b o n c f s : Nat} {u : Value} (h : V w root k p = .slice (some ⟨b, o, none⟩) n c) (hc : w.cell? ⟨b, o + k s * (fieldsOf (tyOf p)).length + f, none⟩ = some u) :
    V w root k ((s + 1, f) :: p) = u := by
  simp only [V, h, hc, Option.getD_some]
theorem V_der {p : Path} {b o f : Nat} {u : Value} (h : V w root k p = .pointer (some ⟨b, o, none⟩)) (hc : w.cell? ⟨b, o + f, none⟩ = some u) :
    V w root k ((0, f) :: p) = u := by
  simp only [V, h, hc, Option.getD_some]

theorem load_any {ρ : Operand → Value} {o : Oper} {t : Nat} {x : Operand} {b o' : Nat} {v : Value} (ht : loads t = true) (ho : o.op = .load t x) (hx : ρ x = .pointer (some ⟨b, o', none⟩)) (hc : w.cell? ⟨b, o', none⟩ = some v) :
    (execOp ρ o).run Try.prog w = .ok (.value v) w := by
  simp only [loads, Bool.or_eq_true, beq_iff_eq] at ht
  rcases ht with rfl | rfl | rfl | rfl | rfl | rfl
  · exact x_load9 ho hx hc
  · exact x_load29 ho hx hc
  · exact x_load50 ho hx hc
  · exact x_load53 ho hx hc
  · exact x_load56 ho hx hc
  · exact x_load57 ho hx hc

theorem absOp_ok (g : G w root k N S a) {o : Oper} {s : SV} (h : absOp S o.op = some s) :
    ∃ v, (execOp a.eval o).run Try.prog w = .ok (.value v) w ∧ sem w root k s v := by
  cases ho : o.op with
  | move x => rw [ho] at h; exact ⟨_, x_move ho, look_ok g h⟩
  | assign x => rw [ho] at h; exact ⟨_, x_assign ho, look_ok g h⟩
  | nilCheck x =>
    rw [ho] at h
    obtain ⟨u, hu, h⟩ := Option.bind_eq_some_iff.1 h
    unfold absNil at h
    split at h
    · rename_i hc
      simp only [Bool.and_eq_true, beq_iff_eq] at hc
      obtain ⟨c1, c2, c3⟩ := hc
      injection h with h; subst h
      obtain ⟨e, q⟩ := sem1 c1 (look_ok g hu)
      obtain ⟨y, hy⟩ := hasNn_ok g c3
      rw [c2] at q
      rw [hy] at e
      rw [e] at q
      obtain ⟨b, o, rfl, _⟩ := ok_ptr (f := 0) q (by omega)
      exact ⟨_, x_nil ho e, mk14 rfl ⟨b, o, hy, rfl, by rw [hy]; exact q⟩⟩
    · cases h
  | load t x =>
    rw [ho] at h
    obtain ⟨u, hu, h⟩ := Option.bind_eq_some_iff.1 h
    have su := look_ok g hu
    unfold absLoad at h
    split at h
    · rename_i hc
      simp only [Bool.and_eq_true, beq_iff_eq, decide_eq_true_eq] at hc
      obtain ⟨c1, c2, c3, c4, c5⟩ := hc
      injection h with h; subst h
      obtain ⟨b, o, n, c, hv, hk, e, q⟩ := sem3 c1 su
      rw [hv] at q
      obtain ⟨b', o', e', u', hc, hok⟩ := ok_elem c2 q hk c3
      injection e' with e'; injection e' with e1 e2; subst e1 e2
      have hV := V_idx (s := u.j) (f := u.f) hv hc
      exact ⟨u', load_any c5 ho e hc, mk1 rfl ⟨hV.symm, hok⟩⟩
    · split at h
      · rename_i hc
        simp only [Bool.and_eq_true, beq_iff_eq] at hc
        obtain ⟨c1, c2, c3⟩ := hc
        injection h with h; subst h
        obtain ⟨b, o, n, c, hv, hk, e, q⟩ := sem2 c1 su
        rw [hv] at q
        obtain ⟨b', o', e', u', hc, hok⟩ := ok_elem (f := 0) (by rw [c2]; rfl) q hk (by rw [c2]; decide)
        injection e' with e'; injection e' with e1 e2; subst e1 e2
        have hV := V_idx (s := u.j) (f := 0) hv hc
        exact ⟨u', load_any (by rw [c3]; rfl) ho e hc, mk1 rfl ⟨hV.symm, hok⟩⟩
      · split at h
        · rename_i hc
          simp only [Bool.and_eq_true, beq_iff_eq, decide_eq_true_eq] at hc
          obtain ⟨c1, c2, c3, c4⟩ := hc
          injection h with h; subst h
          obtain ⟨b, o, hv, e, q⟩ := sem4 c1 su
          rw [hv] at q
          obtain ⟨b', o', e', u', hc, hok⟩ := ok_ptr q c3
          injection e' with e1 e2; subst e1 e2
          have hV := V_der (f := u.f) hv hc
          refine ⟨u', load_any (by rw [c4]; rfl) ho e hc, mk1 rfl ⟨hV.symm, ?_⟩⟩
          have e9 : tyOf ((0, u.f) :: u.path) = 9 := by
            simp only [tyOf, c2]
            match u.f, c3 with
            | 0, _ => rfl
            | 1, _ => rfl
            | 2, _ => rfl
          show ok w (tyOf ((0, u.f) :: u.path)) u'
          rw [e9]; exact hok
        · cases h
  | fieldAddr t x f =>
    rw [ho] at h
    obtain ⟨u, hu, h⟩ := Option.bind_eq_some_iff.1 h
    have su := look_ok g hu
    unfold absFld at h
    split at h
    · rename_i hc
      simp only [Bool.and_eq_true, beq_iff_eq, decide_eq_true_eq] at hc
      obtain ⟨c1, c2, c3, c4, c5⟩ := hc
      injection h with h; subst h
      obtain ⟨b, o, n, c, hv, hk, e, q⟩ := sem2 c1 su
      refine ⟨_, ?_, mk3 rfl ⟨b, o, n, c, hv, hk, rfl, q⟩⟩
      rcases isSlice_cases c2 with e1 | e1 | e1 | e1 | e1
      · rw [e1] at c3 c4; subst c3; exact x_fld52 ho e c4
      · rw [e1] at c3 c4; subst c3; exact x_fld55 ho e c4
      · rw [e1] at c3 c4; subst c3; exact x_fld59 ho e c4
      · rw [e1] at c3 c4; subst c3; exact x_fld63 ho e c4
      · exact absurd e1 c5
    · split at h
      · rename_i hc
        simp only [Bool.and_eq_true, beq_iff_eq, decide_eq_true_eq] at hc
        obtain ⟨c1, c2, c3, c4⟩ := hc
        injection h with h; subst h
        obtain ⟨b, o, hv, e, q⟩ := sem14 c1 su
        subst c3
        exact ⟨_, x_fld61 ho e c4, mk4 rfl ⟨b, o, hv, rfl, q⟩⟩
      · cases h
  | indexAddr t x i =>
    rw [ho] at h
    obtain ⟨u, hu, h⟩ := Option.bind_eq_some_iff.1 h
    obtain ⟨u', hu', h⟩ := Option.bind_eq_some_iff.1 h
    have su := look_ok g hu
    have su' := look_ok g hu'
    unfold absIdx at h
    split at h
    · rename_i hc
      simp only [Bool.and_eq_true, beq_iff_eq] at hc
      obtain ⟨c1, c2, c3, c4, c5⟩ := hc
      injection h with h; subst h
      obtain ⟨e, q⟩ := sem1 c1 su
      have e5 := sem5 c4 su'
      obtain ⟨a', n, c, hv, hk, hn⟩ := hasLt_ok g c5
      rw [hv] at e
      rw [e, c2] at q
      obtain ⟨b, o, rfl, _⟩ := ok_elem (f := 0) c3 q hk (by rcases isSlice_cases c3 with rfl | rfl | rfl | rfl | rfl <;> decide)
      refine ⟨.pointer (some ⟨b, o + k u'.j * (fieldsOf t).length, none⟩), ?_, mk2 rfl ⟨b, o, n, c, hv, hk, by rw [c2], by rw [c2, hv]; exact q⟩⟩
      rcases isSlice_cases c3 with rfl | rfl | rfl | rfl | rfl
      · exact x_idx22 ho e e5 hk
      · exact x_idx50 ho e e5 hk
      · exact x_idx53 ho e e5 hk
      · exact x_idx57 ho e e5 hk
      · exact x_idx29 ho e e5 hk
    · cases h
  | call c =>
    rw [ho] at h
    change absCall S c = some s at h
    unfold absCall at h
    split at h
    · rename_i x t
      obtain ⟨u, hu, h⟩ := Option.bind_eq_some_iff.1 h
      have su := look_ok g hu
      unfold absLen at h
      split at h
      · rename_i hc
        simp only [Bool.and_eq_true, beq_iff_eq] at hc
        obtain ⟨c1, c2, c3⟩ := hc
        injection h with h; subst h
        obtain ⟨e, q⟩ := sem1 c1 su
        rw [c2] at q
        obtain ⟨a', n, c, e', hn⟩ := ok_slice c3 q
        refine ⟨.int .i64 n, ?_, mk6 rfl ⟨a', n, c, by rw [← e, e'], rfl, hn⟩⟩
        rcases isSlice_cases c3 with rfl | rfl | rfl | rfl | rfl
        · exact x_len22 ho e'
        · exact x_len50 ho e'
        · exact x_len53 ho e'
        · exact x_len57 ho e'
        · exact x_len29 ho e'
      · split at h
        · rename_i hc
          simp only [Bool.and_eq_true, beq_iff_eq] at hc
          obtain ⟨c1, c2, c3⟩ := hc
          injection h with h; subst h
          obtain ⟨e, q⟩ := sem1 c1 su
          rw [c2] at q
          obtain ⟨b, e'⟩ := q.1 rfl
          subst c3
          exact ⟨_, x_lenS ho e', mk7 rfl ⟨_, rfl⟩⟩
        · split at h
          · rename_i hc
            simp only [Bool.and_eq_true, beq_iff_eq] at hc
            obtain ⟨c1, c3⟩ := hc
            injection h with h; subst h
            obtain ⟨b, e'⟩ := sem13 c1 su
            subst c3
            exact ⟨_, x_lenS ho e', mk7 rfl ⟨_, rfl⟩⟩
          · cases h
    · cases h
  | binOp op t x y t' =>
    rw [ho] at h
    obtain ⟨u, hu, h1⟩ := Option.bind_eq_some_iff.1 h
    clear h
    obtain ⟨u', hu', h⟩ := Option.bind_eq_some_iff.1 h1
    clear h1
    have su := look_ok g hu
    have su' := look_ok g hu'
    cases op
    case gtr =>
      change (if t = 3 then absGtr u u' else none) = some s at h
      split at h
      · rename_i ht; subst ht
        unfold absGtr at h
        split at h
        · rename_i hc
          simp only [Bool.and_eq_true] at hc
          injection h with h; subst h
          obtain ⟨r, e⟩ := sem_int hc.1 su
          obtain ⟨r', e'⟩ := sem_int hc.2 su'
          exact ⟨_, x_gtr ho e e', mk8 rfl ⟨_, rfl⟩⟩
        · cases h
      · cases h
    case add =>
      change (if t = 3 then absAdd S u u' else none) = some s at h
      split at h
      · rename_i ht; subst ht
        unfold absAdd at h
        split at h
        · rename_i hc
          simp only [Bool.and_eq_true, beq_iff_eq] at hc
          obtain ⟨c1, c2, c3⟩ := hc
          injection h with h; subst h
          have e := sem5 c1 su
          have e' := sem16 c2 su'
          have hb := hasVar_ok g c3
          have e2 : IntKind.i64.wrap ((k u.j : Int) + 1) = (k u.j : Int) + 1 := by rw [IntKind.wrap_i64]; omega
          exact ⟨_, x_add ho e e', mk12 rfl (by rw [e2])⟩
        · split at h
          · rename_i hc
            simp only [Bool.and_eq_true] at hc
            injection h with h; subst h
            obtain ⟨r, e⟩ := sem_int hc.1 su
            obtain ⟨r', e'⟩ := sem_int hc.2 su'
            exact ⟨_, x_add ho e e', mk7 rfl ⟨_, rfl⟩⟩
          · cases h
      · cases h
    case lss =>
      change (if t = 3 then absLss u u' else none) = some s at h
      split at h
      · rename_i ht; subst ht
        unfold absLss at h
        split at h
        · rename_i hc
          simp only [Bool.and_eq_true, beq_iff_eq] at hc
          injection h with h; subst h
          have e := sem5 hc.1 su
          obtain ⟨a', n, c, hv, e', hn⟩ := sem6 hc.2 su'
          exact ⟨_, x_lss ho e e', mk9 rfl ⟨a', n, c, hv, hn, rfl⟩⟩
        · cases h
      · cases h
    case neq =>
      change (if t = 56 then absNeq u u' else none) = some s at h
      split at h
      · rename_i ht; subst ht
        unfold absNeq at h
        split at h
        · rename_i hc
          simp only [Bool.and_eq_true, beq_iff_eq] at hc
          obtain ⟨c1, c2, c3⟩ := hc
          injection h with h; subst h
          obtain ⟨e, q⟩ := sem1 c1 su
          rw [c2] at q
          obtain ⟨p, e1, _⟩ := q.2.1 rfl
          have e' := sem15 c3 su'
          exact ⟨_, x_neq ho e1 e', mk10 rfl ⟨p, by rw [← e, e1], rfl⟩⟩
        · cases h
      · cases h
    all_goals cases h
  | _ => rw [ho] at h; cases h

/-! ### A list of operations -/
def put (S : St) (d : Nat) (x : SV) : St := { S with slots := (d, x) :: S.slots.filter fun y => y.1 != d }

def absOps (N : Nat) : List Oper → St → Option St
  | [], S => some S
  | o :: r, S => match o.guard, o.dst with
    | none, some d => if d < N then (absOp S o.op).bind fun x => absOps N r (put S d x) else none
    | _, _ => none

theorem put_ok (g : G w root k N S a) {d : Nat} (hd : d < N) {x : SV} {v : Value} (hx : sem w root k x v) : G w root k N (put S d x) (a.put (some d) v) := by
  refine ⟨by rw [Act.size_put]; exact g.size, by rw [Act.defers_put']; exact g.defers, ?_, g.lts, g.nns⟩
  intro y hy
  rcases List.mem_cons.1 hy with rfl | hy
  · show sem w root k x _
    rw [Act.eval_put_same _ _ _ (by rw [g.size]; exact hd)]
    exact hx
  · obtain ⟨hy, hne⟩ := List.mem_filter.1 hy
    rw [Act.eval_put_ne _ _ _ _ (by intro e; rw [e] at hne; simp at hne)]
    exact g.slots y hy

theorem absOps_ok {ops : Array Oper} {Q : Exit → Act → World → Prop} : ∀ (l : List Oper) (S : St) (a : Act), G w root k N S a → ∀ S', absOps N l S = some S' →
    (∀ a', G w root k N S' a' → Q .normal a' w) → wpList Try.prog ops Q l a w
  | [], S, a, g, S', h, hq => by
    injection h with h; subst h
    exact wpList_nil (hq a g)
  | o :: r, S, a, g, S', h, hq => by
    unfold absOps at h
    split at h
    · rename_i d hgd hds
      split at h
      · rename_i hd
        obtain ⟨x, hx, h⟩ := Option.bind_eq_some_iff.1 h
        obtain ⟨v, hr, hs⟩ := absOp_ok g hx
        refine wpList_plain hgd fun K hK => ?_
        unfold Oper.wp
        rw [hr, Oper.upon_value, hds]
        exact hK _ _ (absOps_ok r _ _ (put_ok g hd hs) S' h hq)
      · cases h
    · cases h

end
end Go.Proofs.Qxb6603992a.Ck
