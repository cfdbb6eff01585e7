/- records (18), take (22), NewFormReader (7), State (9), ZZB1Records (8). -/
import Derived.Test.Qxb6604118aRec2
namespace Go.Proofs.Qxb6604118a
open Go.RowKit Go.Deep Pl
namespace Rec

/-- What take leaves: the bytes handed out, the rest in the reader. -/
def Took (w : World) (R : Nat) (a : Option Addr) (n L : Nat) (e : Ending) (w' : World) : Prop :=
  e = .returned (.slice a n L) ∧ ∃ a' : Option Addr, a'.isNone = a.isNone ∧ (n < L → ∀ b, a = some ⟨b, 0, none⟩ → a' = some ⟨b, n, none⟩) ∧ w' = w.setCell ⟨R, 0, none⟩ (.slice a' (L - n) (L - n))

set_option maxRecDepth 100000 in
set_option maxHeartbeats 1000000 in
theorem take22 (R : Nat) (a : Option Addr) (n L : Nat) (w : World) (ha : (a = none ∧ L = 0) ∨ ∃ b, a = some ⟨b, 0, none⟩) (hn : n ≤ L) (h8 : L ≤ 1048576) (hc : w.cell? ⟨R, 0, none⟩ = some (.slice a L L)) (hf : w.frozen? ⟨R, 0, none⟩ = false) :
    Calls Try.prog 22 #[.pointer (some ⟨R, 0, none⟩), .int .u64 n] w (Took w R a n L) := by
  rcases ha with ⟨rfl, rfl⟩ | ⟨b, rfl⟩
  · obtain rfl : n = 0 := by omega
    go_enter Try.func22, Try.ntmps22
    go_wp2
    go_ret
    exact ⟨rfl, none, rfl, fun h => by omega, rfl⟩
  · by_cases e : L = n
    · subst e
      go_enter Try.func22, Try.ntmps22
      go_wp2
      go_ret
      exact ⟨rfl, some ⟨b, 0, none⟩, rfl, fun h => by omega, by simp⟩
    · go_enter Try.func22, Try.ntmps22
      go_wp2
      go_ret
      exact ⟨rfl, some ⟨b, n, none⟩, rfl, fun _ b' hb => by
        simp only [Option.some.injEq, Addr.mk.injEq] at hb
        rw [hb.1], rfl⟩

theorem wrap_quo {L s q : Nat} (hq : q = L / s) (h8 : L ≤ 1048576) : IntKind.u64.wrap ((L : Int) / (s : Int)) = (q : Int) := by
  have : q ≤ L := by rw [hq]; exact Nat.div_le_self _ _
  rw [← Int.natCast_ediv, ← hq]
  exact u64_of _ (by omega)

def Refused (w : World) (R : Nat) (e : Ending) (w' : World) : Prop := e = .returned (.slice none 0 0) ∧ w' = w.setCell ⟨R, 1, none⟩ (.bool true)

set_option maxRecDepth 100000 in
set_option maxHeartbeats 1000000 in
theorem records18_no (R : Nat) (a : Option Addr) (n s L : Nat) (b : Bool) (w : World) (hs : 0 < s) (s6 : s < 18446744073709551616) (h : L < n * s) (h8 : L ≤ 1048576) (hc : w.cell? ⟨R, 0, none⟩ = some (.slice a L L)) (hc' : w.cell? ⟨R, 1, none⟩ = some (.bool b)) (hf : w.frozen? ⟨R, 1, none⟩ = false) :
    Calls Try.prog 18 #[.pointer (some ⟨R, 0, none⟩), .int .u64 n, .int .u64 s] w (Refused w R) := by
  obtain ⟨q, hq⟩ : ∃ q, q = L / s := ⟨_, rfl⟩
  have hqn : q < n := by rw [hq]; exact (Nat.div_lt_iff_lt_mul hs).2 h
  have hw : IntKind.u64.wrap ((L : Int) / (s : Int)) = (q : Int) := wrap_quo hq h8
  clear h hq
  go_enter Try.func18, Try.ntmps18
  go_wp2
  go_ret
  exact ⟨rfl, rfl⟩

set_option maxRecDepth 100000 in
set_option maxHeartbeats 1000000 in
theorem records18_yes (R : Nat) (a : Option Addr) (n s L : Nat) (w : World) (ha : (a = none ∧ L = 0) ∨ ∃ b, a = some ⟨b, 0, none⟩) (hs : 0 < s) (s6 : s < 18446744073709551616) (h : n * s ≤ L) (h8 : L ≤ 1048576) (hc : w.cell? ⟨R, 0, none⟩ = some (.slice a L L)) (hf : w.frozen? ⟨R, 0, none⟩ = false) :
    Calls Try.prog 18 #[.pointer (some ⟨R, 0, none⟩), .int .u64 n, .int .u64 s] w (Took w R a (n * s) L) := by
  obtain ⟨q, hq⟩ : ∃ q, q = L / s := ⟨_, rfl⟩
  have hqn : ¬ q < n := by rw [hq]; exact Nat.not_lt.2 ((Nat.le_div_iff_mul_le hs).2 h)
  have hw : IntKind.u64.wrap ((L : Int) / (s : Int)) = (q : Int) := wrap_quo hq h8
  obtain ⟨Z, hZ⟩ : ∃ Z, Z = n * s := ⟨_, rfl⟩
  rw [← hZ] at h ⊢
  have hm : IntKind.u64.wrap ((n : Int) * (s : Int)) = (Z : Int) := by rw [← Int.natCast_mul, ← hZ]; exact u64_of _ (by omega)
  clear hq hZ
  have HF : Hid ((a = none ∧ L = 0) ∨ ∃ b, a = some ⟨b, 0, none⟩) := ha
  clear ha
  go_enter Try.func18, Try.ntmps18
  go_wp2_with fail
  refine (take22 R a Z L w HF.out h h8 hc hf).mono ?_
  rintro e w' ⟨rfl, a', h1, h2, hw'⟩
  have HT : Hid (a'.isNone = a.isNone ∧ (Z < L → ∀ b, a = some ⟨b, 0, none⟩ → a' = some ⟨b, Z, none⟩)) := ⟨h1, h2⟩
  rw [hw']
  clear h1 h2 hw'
  go_wp2
  go_ret
  exact ⟨rfl, a', HT.out.1, HT.out.2, rfl⟩

def Ans (P : Value → World → Prop) (e : Ending) (w' : World) : Prop := ∃ v, e = .returned v ∧ P v w'
set_option maxRecDepth 100000 in
theorem records8 {p : Option Addr} {n s : Nat} {w : World} {P : Value → World → Prop} (h : Calls Try.prog 18 #[.pointer p, .int .u64 n, .int .u64 s] w (Ans P)) : Calls Try.prog 8 #[.pointer p, .int .u64 n, .int .u64 s] w (Ans P) := by
  go_enter Try.func8, Try.ntmps8
  go_wp2_with fail
  refine h.mono ?_
  rintro e w' ⟨v, rfl, hv⟩
  have HV : Hid (P v w') := hv
  clear hv h
  go_wp2
  go_ret
  exact ⟨_, rfl, HV.out⟩

def Made (w : World) (a : Option Addr) (n c : Nat) (b : Bool) (e : Ending) (w' : World) : Prop := e = .returned (.pointer (some ⟨w.heap.size, 0, none⟩)) ∧ w' = w.alloc (.cells #[.slice a n c, .bool b] 40)

set_option maxRecDepth 100000 in
set_option maxHeartbeats 1000000 in
theorem new7 (a : Option Addr) (n c : Nat) (b : Bool) (w : World) : Calls Try.prog 7 #[.slice a n c, .bool b] w (Made w a n c b) := by
  go_enter Try.func7, Try.ntmps7
  go_wp2
  go_ret
  exact ⟨rfl, rfl⟩

def State (w : World) (v : Value) (b : Bool) (e : Ending) (w' : World) : Prop := e = .returned (.tuple #[v, .bool b]) ∧ ∃ q, w' = w.drewN q

set_option maxRecDepth 100000 in
set_option maxHeartbeats 1000000 in
theorem state9 (R : Nat) (a : Option Addr) (n c : Nat) (b : Bool) (w : World) (h0 : w.cell? ⟨R, 0, none⟩ = some (.slice a n c)) (h1 : w.cell? ⟨R, 1, none⟩ = some (.bool b)) :
    Calls Try.prog 9 #[.pointer (some ⟨R, 0, none⟩)] w (State w (.slice a n c) b) := by
  go_enter Try.func9, Try.ntmps9
  go_wp2
  go_quiet (fail)
  go_wp2
  go_ret2
  exact ⟨rfl, _, rfl⟩
end Rec
end Go.Proofs.Qxb6604118a
