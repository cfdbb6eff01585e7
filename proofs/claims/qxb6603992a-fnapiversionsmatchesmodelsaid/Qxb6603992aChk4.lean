/- The two functions zzBytes_.. (5, 11): each gives some bool and leaves the world as it was. -/
import Derived.Test.Qxb6603992aChk3
namespace Go.Proofs.Qxb6603992a.Ck
open Go.RowKit

def done (x : Option Out) : Bool := match x with
  | some O => O.norm.isNone && O.ext.isNone
  | none => false

def S5 : St := { slots := [(0, { tag := 1 })], lts := [], nns := [] }
def S11 : St := { slots := [(0, { tag := 1 }), (1, { tag := 13 }), (2, { tag := 13 })], lts := [], nns := [] }

theorem chk5 : (match Try.f5.body with | some c => done (chk 12 1021 2 c S5) | none => false) = true := by kernel_rfl
theorem chk11 : (match Try.f11.body with | some c => done (chk 16 1043 6 c S11) | none => false) = true := by kernel_rfl

/-- Some bool comes back; the world is as it was. -/
def GivesBool (w : World) (e : Ending) (w' : World) : Prop := ∃ b : Bool, e = .returned (.bool b) ∧ w' = w

theorem calls_of_chk {f : FuncId} {fn : Func} {lim N res : Nat} {S : St} {args : Array Value} {w : World} {root : Value} (hf : Try.prog.funcs[f]? = some fn) (hn : fn.ntmps = N) (hr : fn.results = #[.tmp res])
    (hc : (match fn.body with | some c => done (chk lim N res c S) | none => false) = true)
    (g : G w root (fun _ => 0) N S { tmps := args ++ Array.replicate (N - args.size) undef, defers := [] }) : Calls Try.prog f args w (GivesBool w) := by
  split at hc
  · rename_i c hb
    unfold done at hc
    split at hc
    · rename_i O hO
      simp only [Bool.and_eq_true, Option.isNone_iff_eq_none] at hc
      refine calls_of_wp hf hb ?_
      rw [hn]
      refine wp_mono (chk_ok c S O _ _ hO g) ?_
      intro e a w' hp
      cases e with
      | normal => obtain ⟨_, U, hU, _⟩ := hp; rw [hc.1] at hU; cases hU
      | exit _ => obtain ⟨_, U, hU, _⟩ := hp; rw [hc.2] at hU; cases hU
      | ret =>
        obtain ⟨rfl, hd, b, hv⟩ := hp
        refine ⟨hd, .bool b, ?_, b, rfl, rfl⟩
        rw [results_tmp hr]
        rw [← hv]; rfl
      | goto _ => exact hp.elim
      | panic _ => exact hp.elim
      | outgrown => exact hp.elim
    · cases hc
  · cases hc

theorem ev1 (x : Value) (m : Nat) : ({ tmps := #[x] ++ Array.replicate m undef, defers := [] } : Act).eval (.tmp 0) = x := by
  simp [Act.eval, Array.getD_eq_getD_getElem?, Array.getElem?_append]
theorem ev3 (x y z : Value) (m : Nat) : ({ tmps := #[x, y, z] ++ Array.replicate m undef, defers := [] } : Act).eval (.tmp 0) = x ∧
    ({ tmps := #[x, y, z] ++ Array.replicate m undef, defers := [] } : Act).eval (.tmp 1) = y ∧ ({ tmps := #[x, y, z] ++ Array.replicate m undef, defers := [] } : Act).eval (.tmp 2) = z := by
  refine ⟨?_, ?_, ?_⟩ <;> simp [Act.eval, Array.getD_eq_getD_getElem?, Array.getElem?_append]

theorem bytes5 (a : Option Addr) (n c : Nat) (w : World) (h : Grps w a n c) : Calls Try.prog 5 #[.slice a n c] w (GivesBool w) := by
  refine calls_of_chk (root := .slice a n c) Try.func5 Try.ntmps5 rfl chk5 ⟨by simp, rfl, fun x hx => ?_, by simp [S5], by simp [S5]⟩
  simp only [S5, List.mem_singleton] at hx
  subst hx
  refine mk1 rfl ?_
  rw [ev1]
  exact ⟨rfl, ok_22 h⟩

theorem bytes11 (a : Option Addr) (n c : Nat) (s t : ByteArray) (w : World) (h : Grps w a n c) : Calls Try.prog 11 #[.slice a n c, .string s, .string t] w (GivesBool w) := by
  refine calls_of_chk (root := .slice a n c) Try.func11 Try.ntmps11 rfl chk11 ⟨by simp, rfl, fun x hx => ?_, by simp [S11], by simp [S11]⟩
  simp only [S11, List.mem_cons, List.not_mem_nil, or_false] at hx
  rcases hx with rfl | rfl | rfl
  · refine mk1 rfl ?_
    rw [(ev3 _ _ _ _).1]
    exact ⟨rfl, ok_22 h⟩
  · refine mk13 rfl ?_
    rw [(ev3 _ _ _ _).2.1]
    exact ⟨s, rfl⟩
  · refine mk13 rfl ?_
    rw [(ev3 _ _ _ _).2.2]
    exact ⟨t, rfl⟩
end Go.Proofs.Qxb6603992a.Ck
