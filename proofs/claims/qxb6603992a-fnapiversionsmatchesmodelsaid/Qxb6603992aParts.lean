/- What the walks are told of the argument: a tree of slices of structs, as facts on cells. -/
import Derived.Test.Qxb6603992aRows
import Derived.WalkKit
import Derived.Deep.Slices
import Derived.SizedLaws
import Derived.Deep.Draws
namespace Go.Proofs.Qxb6603992a
open Go.RowKit

theorem Try.cells9 : Try.prog.cellsOf 9 = 1 := by kernel_rfl
theorem Try.cells29 : Try.prog.cellsOf 29 = 1 := by kernel_rfl
theorem Try.cells56 : Try.prog.cellsOf 56 = 1 := by kernel_rfl
theorem Try.cells57 : Try.prog.cellsOf 57 = 1 := by kernel_rfl
theorem Try.cells53 : Try.prog.cellsOf 53 = 1 := by kernel_rfl
theorem Try.cells50 : Try.prog.cellsOf 50 = 1 := by kernel_rfl
theorem Try.cells61 : Try.prog.cellsOf 61 = 3 := by kernel_rfl
theorem Try.cells63 : Try.prog.cellsOf 63 = 3 := by kernel_rfl
theorem Try.cells59 : Try.prog.cellsOf 59 = 8 := by kernel_rfl
theorem Try.cells55 : Try.prog.cellsOf 55 = 3 := by kernel_rfl
theorem Try.cells52 : Try.prog.cellsOf 52 = 2 := by kernel_rfl

/-- A slice's head: nil, or not nil; its length bounded. -/
structure Head (a : Option Addr) (n c bytes : Nat) : Prop where
  nil : a = none → n = 0 ∧ c = 0
  le : n ≤ c
  room : c * bytes ≤ 140737488351232

/-- The cells of a slice of strings. -/
def Strs (w : World) (a : Option Addr) (n c : Nat) : Prop :=
  Head a n c 16 ∧ (n = 0 ∨ ∃ b o, a = some ⟨b, o, none⟩ ∧ ∀ i, i < n → ∃ s, w.cell? ⟨b, o + i, none⟩ = some (.string s))

/-- The three strings behind a pointer. -/
def Gvk (w : World) (p : Option Addr) : Prop :=
  p = none ∨ ∃ b o s0 s1 s2, p = some ⟨b, o, none⟩ ∧ w.cell? ⟨b, o, none⟩ = some (.string s0) ∧ w.cell? ⟨b, o + 1, none⟩ = some (.string s1) ∧ w.cell? ⟨b, o + 2, none⟩ = some (.string s2)

structure SubAt (w : World) (b o : Nat) : Prop where
  c0 : ∃ s, w.cell? ⟨b, o, none⟩ = some (.string s)
  c1 : ∃ p, w.cell? ⟨b, o + 1, none⟩ = some (.pointer p) ∧ Gvk w p
  c2 : ∃ a n c, w.cell? ⟨b, o + 2, none⟩ = some (.slice a n c) ∧ Strs w a n c

def Subs (w : World) (a : Option Addr) (n c : Nat) : Prop :=
  Head a n c 48 ∧ (n = 0 ∨ ∃ b o, a = some ⟨b, o, none⟩ ∧ ∀ i, i < n → SubAt w b (o + i * 3))

structure ResAt (w : World) (b o : Nat) : Prop where
  c0 : ∃ s, w.cell? ⟨b, o, none⟩ = some (.string s)
  c1 : ∃ p, w.cell? ⟨b, o + 1, none⟩ = some (.pointer p) ∧ Gvk w p
  c2 : ∃ s, w.cell? ⟨b, o + 2, none⟩ = some (.string s)
  c3 : ∃ s, w.cell? ⟨b, o + 3, none⟩ = some (.string s)
  c4 : ∃ a n c, w.cell? ⟨b, o + 4, none⟩ = some (.slice a n c) ∧ Strs w a n c
  c5 : ∃ a n c, w.cell? ⟨b, o + 5, none⟩ = some (.slice a n c) ∧ Strs w a n c
  c6 : ∃ a n c, w.cell? ⟨b, o + 6, none⟩ = some (.slice a n c) ∧ Strs w a n c
  c7 : ∃ a n c, w.cell? ⟨b, o + 7, none⟩ = some (.slice a n c) ∧ Subs w a n c

def Ress (w : World) (a : Option Addr) (n c : Nat) : Prop :=
  Head a n c 152 ∧ (n = 0 ∨ ∃ b o, a = some ⟨b, o, none⟩ ∧ ∀ i, i < n → ResAt w b (o + i * 8))

structure VerAt (w : World) (b o : Nat) : Prop where
  c0 : ∃ s, w.cell? ⟨b, o, none⟩ = some (.string s)
  c1 : ∃ a n c, w.cell? ⟨b, o + 1, none⟩ = some (.slice a n c) ∧ Ress w a n c
  c2 : ∃ s, w.cell? ⟨b, o + 2, none⟩ = some (.string s)

def Vers (w : World) (a : Option Addr) (n c : Nat) : Prop :=
  Head a n c 56 ∧ (n = 0 ∨ ∃ b o, a = some ⟨b, o, none⟩ ∧ ∀ i, i < n → VerAt w b (o + i * 3))

structure GrpAt (w : World) (b o : Nat) : Prop where
  c0 : ∃ s, w.cell? ⟨b, o, none⟩ = some (.string s)
  c1 : ∃ a n c, w.cell? ⟨b, o + 1, none⟩ = some (.slice a n c) ∧ Vers w a n c

def Grps (w : World) (a : Option Addr) (n c : Nat) : Prop :=
  Head a n c 40 ∧ (n = 0 ∨ ∃ b o, a = some ⟨b, o, none⟩ ∧ ∀ i, i < n → GrpAt w b (o + i * 2))

/-! ### They stay, behind whatever leaves each cell that is there as it is -/
def Stays (w w' : World) : Prop := ∀ b o v, w.cell? ⟨b, o, none⟩ = some v → w'.cell? ⟨b, o, none⟩ = some v

theorem Stays.refl (w : World) : Stays w w := fun _ _ _ h => h
theorem Stays.trans {a b c : World} (h : Stays a b) (k : Stays b c) : Stays a c := fun _ _ _ x => k _ _ _ (h _ _ _ x)
theorem Stays.drewN (w : World) (n : Nat) : Stays w (w.drewN n) := fun _ _ _ h => by simpa using h
theorem Stays.of_below {w w' : World} (h : Below w.heap.size w w') : Stays w w' := fun b o _ x =>
  (h.cell (p := ⟨b, o, none⟩) (World.block_lt_of_cell? w _ x)).trans x

theorem Strs.stays {w w' : World} (h : Stays w w') {a n c} (k : Strs w a n c) : Strs w' a n c :=
  ⟨k.1, k.2.imp id fun ⟨b, o, e, f⟩ => ⟨b, o, e, fun i hi => (f i hi).imp fun _ => h _ _ _⟩⟩
theorem Gvk.stays {w w' : World} (h : Stays w w') {p} (k : Gvk w p) : Gvk w' p :=
  k.imp id fun ⟨b, o, s0, s1, s2, e, f0, f1, f2⟩ => ⟨b, o, s0, s1, s2, e, h _ _ _ f0, h _ _ _ f1, h _ _ _ f2⟩
theorem cell_slice {w w' : World} (h : Stays w w') {p : World → Option Addr → Nat → Nat → Prop} (hp : ∀ a n c, p w a n c → p w' a n c) {b o}
    (k : ∃ a n c, w.cell? ⟨b, o, none⟩ = some (.slice a n c) ∧ p w a n c) : ∃ a n c, w'.cell? ⟨b, o, none⟩ = some (.slice a n c) ∧ p w' a n c := by
  obtain ⟨a, n, c, x, y⟩ := k; exact ⟨a, n, c, h _ _ _ x, hp _ _ _ y⟩
theorem cell_ptr {w w' : World} (h : Stays w w') {b o} (k : ∃ p, w.cell? ⟨b, o, none⟩ = some (.pointer p) ∧ Gvk w p) : ∃ p, w'.cell? ⟨b, o, none⟩ = some (.pointer p) ∧ Gvk w' p := by
  obtain ⟨p, x, y⟩ := k; exact ⟨p, h _ _ _ x, y.stays h⟩
theorem cell_str {w w' : World} (h : Stays w w') {b o} (k : ∃ s, w.cell? ⟨b, o, none⟩ = some (.string s)) : ∃ s, w'.cell? ⟨b, o, none⟩ = some (.string s) :=
  k.imp fun _ => h _ _ _
theorem SubAt.stays {w w' : World} (h : Stays w w') {b o} (k : SubAt w b o) : SubAt w' b o :=
  ⟨cell_str h k.c0, cell_ptr h k.c1, cell_slice h (p := Strs) (fun _ _ _ => Strs.stays h) k.c2⟩
theorem Subs.stays {w w' : World} (h : Stays w w') {a n c} (k : Subs w a n c) : Subs w' a n c :=
  ⟨k.1, k.2.imp id fun ⟨b, o, e, f⟩ => ⟨b, o, e, fun i hi => (f i hi).stays h⟩⟩
theorem ResAt.stays {w w' : World} (h : Stays w w') {b o} (k : ResAt w b o) : ResAt w' b o :=
  ⟨cell_str h k.c0, cell_ptr h k.c1, cell_str h k.c2, cell_str h k.c3, cell_slice h (p := Strs) (fun _ _ _ => Strs.stays h) k.c4, cell_slice h (p := Strs) (fun _ _ _ => Strs.stays h) k.c5, cell_slice h (p := Strs) (fun _ _ _ => Strs.stays h) k.c6, cell_slice h (p := Subs) (fun _ _ _ => Subs.stays h) k.c7⟩
theorem Ress.stays {w w' : World} (h : Stays w w') {a n c} (k : Ress w a n c) : Ress w' a n c :=
  ⟨k.1, k.2.imp id fun ⟨b, o, e, f⟩ => ⟨b, o, e, fun i hi => (f i hi).stays h⟩⟩
theorem VerAt.stays {w w' : World} (h : Stays w w') {b o} (k : VerAt w b o) : VerAt w' b o :=
  ⟨cell_str h k.c0, cell_slice h (p := Ress) (fun _ _ _ => Ress.stays h) k.c1, cell_str h k.c2⟩
theorem Vers.stays {w w' : World} (h : Stays w w') {a n c} (k : Vers w a n c) : Vers w' a n c :=
  ⟨k.1, k.2.imp id fun ⟨b, o, e, f⟩ => ⟨b, o, e, fun i hi => (f i hi).stays h⟩⟩
theorem GrpAt.stays {w w' : World} (h : Stays w w') {b o} (k : GrpAt w b o) : GrpAt w' b o :=
  ⟨cell_str h k.c0, cell_slice h (p := Vers) (fun _ _ _ => Vers.stays h) k.c1⟩
theorem Grps.stays {w w' : World} (h : Stays w w') {a n c} (k : Grps w a n c) : Grps w' a n c :=
  ⟨k.1, k.2.imp id fun ⟨b, o, e, f⟩ => ⟨b, o, e, fun i hi => (f i hi).stays h⟩⟩

end Go.Proofs.Qxb6603992a
