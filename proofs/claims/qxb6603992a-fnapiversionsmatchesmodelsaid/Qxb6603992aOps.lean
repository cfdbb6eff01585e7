/- Ten kinds of operations, run against a frame that is a variable. -/
import Derived.Test.Qxb6603992aParts
import Derived.WalkSpells
namespace Go.Proofs.Qxb6603992a.Ck
open Go.RowKit
set_option linter.unusedSimpArgs false
section
variable {ρ : Operand → Value} {o : Oper} {w : World}

theorem x_move {x : Operand} (ho : o.op = .move x) : (execOp ρ o).run Try.prog w = .ok (.value (ρ x)) w := by
  simp [execOp, ho, go_sem]
theorem x_assign {x : Operand} (ho : o.op = .assign x) : (execOp ρ o).run Try.prog w = .ok (.value (ρ x)) w := by
  simp [execOp, ho, go_sem]
theorem x_gtr {x y : Operand} {u : TypeId} {a b : Int} (ho : o.op = .binOp .gtr 3 x y u) (hx : ρ x = .int .i64 a) (hy : ρ y = .int .i64 b) :
    (execOp ρ o).run Try.prog w = .ok (.value (.bool (decide (b < a)))) w := by
  simp [execOp, ho, hx, hy, go_sem]
theorem x_lss {x y : Operand} {u : TypeId} {a b : Int} (ho : o.op = .binOp .lss 3 x y u) (hx : ρ x = .int .i64 a) (hy : ρ y = .int .i64 b) :
    (execOp ρ o).run Try.prog w = .ok (.value (.bool (decide (a < b)))) w := by
  simp [execOp, ho, hx, hy, go_sem]
theorem x_add {x y : Operand} {u : TypeId} {a b : Int} (ho : o.op = .binOp .add 3 x y u) (hx : ρ x = .int .i64 a) (hy : ρ y = .int .i64 b) :
    (execOp ρ o).run Try.prog w = .ok (.value (.int .i64 (IntKind.i64.wrap (a + b)))) w := by
  simp [execOp, ho, hx, hy, go_sem]
theorem x_neq {x y : Operand} {u : TypeId} {p : Option Addr} (ho : o.op = .binOp .neq 56 x y u) (hx : ρ x = .pointer p) (hy : ρ y = .pointer none) :
    (execOp ρ o).run Try.prog w = .ok (.value (.bool p.isSome)) w := by
  cases p <;> simp [execOp, ho, hx, hy, go_sem]
theorem x_nil {x : Operand} {a : Addr} (ho : o.op = .nilCheck x) (hx : ρ x = .pointer (some a)) :
    (execOp ρ o).run Try.prog w = .ok (.value (.pointer (some a))) w := by
  simp [execOp, ho, hx, go_sem]
theorem x_lenS {x : Operand} {s : ByteArray} (ho : o.op = .call { callee := .builtin .len, args := #[x], argTypes := #[9] }) (hx : ρ x = .string s) :
    (execOp ρ o).run Try.prog w = .ok (.value (.int .i64 s.size)) w := by
  simp [execOp, ho, hx, go_sem]
theorem x_len22 {x : Operand} {a : Option Addr} {n c : Nat} (ho : o.op = .call { callee := .builtin .len, args := #[x], argTypes := #[22] }) (hx : ρ x = .slice a n c) :
    (execOp ρ o).run Try.prog w = .ok (.value (.int .i64 n)) w := by
  simp [execOp, ho, hx, go_sem, Try.underlying22]
theorem x_len50 {x : Operand} {a : Option Addr} {n c : Nat} (ho : o.op = .call { callee := .builtin .len, args := #[x], argTypes := #[50] }) (hx : ρ x = .slice a n c) :
    (execOp ρ o).run Try.prog w = .ok (.value (.int .i64 n)) w := by
  simp [execOp, ho, hx, go_sem, Try.underlying50]
theorem x_len53 {x : Operand} {a : Option Addr} {n c : Nat} (ho : o.op = .call { callee := .builtin .len, args := #[x], argTypes := #[53] }) (hx : ρ x = .slice a n c) :
    (execOp ρ o).run Try.prog w = .ok (.value (.int .i64 n)) w := by
  simp [execOp, ho, hx, go_sem, Try.underlying53]
theorem x_len57 {x : Operand} {a : Option Addr} {n c : Nat} (ho : o.op = .call { callee := .builtin .len, args := #[x], argTypes := #[57] }) (hx : ρ x = .slice a n c) :
    (execOp ρ o).run Try.prog w = .ok (.value (.int .i64 n)) w := by
  simp [execOp, ho, hx, go_sem, Try.underlying57]
theorem x_len29 {x : Operand} {a : Option Addr} {n c : Nat} (ho : o.op = .call { callee := .builtin .len, args := #[x], argTypes := #[29] }) (hx : ρ x = .slice a n c) :
    (execOp ρ o).run Try.prog w = .ok (.value (.int .i64 n)) w := by
  simp [execOp, ho, hx, go_sem, Try.underlying29]
theorem x_idx22 {x i : Operand} {b o' n c k : Nat} (ho : o.op = .indexAddr 22 x i) (hx : ρ x = .slice (some ⟨b, o', none⟩) n c) (hi : ρ i = .int .i64 k) (hk : k < n) :
    (execOp ρ o).run Try.prog w = .ok (.value (.pointer (some ⟨b, o' + k * 2, none⟩))) w := by
  have hk' : (k : Int) < n := by omega
  simp [execOp, ho, hx, hi, go_sem, Try.underlying22, hk']
theorem x_idx50 {x i : Operand} {b o' n c k : Nat} (ho : o.op = .indexAddr 50 x i) (hx : ρ x = .slice (some ⟨b, o', none⟩) n c) (hi : ρ i = .int .i64 k) (hk : k < n) :
    (execOp ρ o).run Try.prog w = .ok (.value (.pointer (some ⟨b, o' + k * 3, none⟩))) w := by
  have hk' : (k : Int) < n := by omega
  simp [execOp, ho, hx, hi, go_sem, Try.underlying50, hk']
theorem x_idx53 {x i : Operand} {b o' n c k : Nat} (ho : o.op = .indexAddr 53 x i) (hx : ρ x = .slice (some ⟨b, o', none⟩) n c) (hi : ρ i = .int .i64 k) (hk : k < n) :
    (execOp ρ o).run Try.prog w = .ok (.value (.pointer (some ⟨b, o' + k * 8, none⟩))) w := by
  have hk' : (k : Int) < n := by omega
  simp [execOp, ho, hx, hi, go_sem, Try.underlying53, hk']
theorem x_idx57 {x i : Operand} {b o' n c k : Nat} (ho : o.op = .indexAddr 57 x i) (hx : ρ x = .slice (some ⟨b, o', none⟩) n c) (hi : ρ i = .int .i64 k) (hk : k < n) :
    (execOp ρ o).run Try.prog w = .ok (.value (.pointer (some ⟨b, o' + k * 3, none⟩))) w := by
  have hk' : (k : Int) < n := by omega
  simp [execOp, ho, hx, hi, go_sem, Try.underlying57, hk']
theorem x_idx29 {x i : Operand} {b o' n c k : Nat} (ho : o.op = .indexAddr 29 x i) (hx : ρ x = .slice (some ⟨b, o', none⟩) n c) (hi : ρ i = .int .i64 k) (hk : k < n) :
    (execOp ρ o).run Try.prog w = .ok (.value (.pointer (some ⟨b, o' + k * 1, none⟩))) w := by
  have hk' : (k : Int) < n := by omega
  simp [execOp, ho, hx, hi, go_sem, Try.underlying29, hk']
theorem x_fld52 {x : Operand} {b o' f : Nat} (ho : o.op = .fieldAddr 52 x f) (hx : ρ x = .pointer (some ⟨b, o', none⟩)) (hf : f < 2) :
    (execOp ρ o).run Try.prog w = .ok (.value (.pointer (some ⟨b, o' + f, none⟩))) w := by
  match f, hf with
  | 0, _ => simp [execOp, ho, hx, go_sem, Try.underlying52]
  | 1, _ => simp [execOp, ho, hx, go_sem, Try.underlying52]
theorem x_fld55 {x : Operand} {b o' f : Nat} (ho : o.op = .fieldAddr 55 x f) (hx : ρ x = .pointer (some ⟨b, o', none⟩)) (hf : f < 3) :
    (execOp ρ o).run Try.prog w = .ok (.value (.pointer (some ⟨b, o' + f, none⟩))) w := by
  match f, hf with
  | 0, _ => simp [execOp, ho, hx, go_sem, Try.underlying55]
  | 1, _ => simp [execOp, ho, hx, go_sem, Try.underlying55]
  | 2, _ => simp [execOp, ho, hx, go_sem, Try.underlying55]
theorem x_fld59 {x : Operand} {b o' f : Nat} (ho : o.op = .fieldAddr 59 x f) (hx : ρ x = .pointer (some ⟨b, o', none⟩)) (hf : f < 8) :
    (execOp ρ o).run Try.prog w = .ok (.value (.pointer (some ⟨b, o' + f, none⟩))) w := by
  match f, hf with
  | 0, _ => simp [execOp, ho, hx, go_sem, Try.underlying59]
  | 1, _ => simp [execOp, ho, hx, go_sem, Try.underlying59]
  | 2, _ => simp [execOp, ho, hx, go_sem, Try.underlying59]
  | 3, _ => simp [execOp, ho, hx, go_sem, Try.underlying59]
  | 4, _ => simp [execOp, ho, hx, go_sem, Try.underlying59]
  | 5, _ => simp [execOp, ho, hx, go_sem, Try.underlying59]
  | 6, _ => simp [execOp, ho, hx, go_sem, Try.underlying59]
  | 7, _ => simp [execOp, ho, hx, go_sem, Try.underlying59]
theorem x_fld63 {x : Operand} {b o' f : Nat} (ho : o.op = .fieldAddr 63 x f) (hx : ρ x = .pointer (some ⟨b, o', none⟩)) (hf : f < 3) :
    (execOp ρ o).run Try.prog w = .ok (.value (.pointer (some ⟨b, o' + f, none⟩))) w := by
  match f, hf with
  | 0, _ => simp [execOp, ho, hx, go_sem, Try.underlying63]
  | 1, _ => simp [execOp, ho, hx, go_sem, Try.underlying63]
  | 2, _ => simp [execOp, ho, hx, go_sem, Try.underlying63]
theorem x_fld61 {x : Operand} {b o' f : Nat} (ho : o.op = .fieldAddr 61 x f) (hx : ρ x = .pointer (some ⟨b, o', none⟩)) (hf : f < 3) :
    (execOp ρ o).run Try.prog w = .ok (.value (.pointer (some ⟨b, o' + f, none⟩))) w := by
  match f, hf with
  | 0, _ => simp [execOp, ho, hx, go_sem, Try.underlying61]
  | 1, _ => simp [execOp, ho, hx, go_sem, Try.underlying61]
  | 2, _ => simp [execOp, ho, hx, go_sem, Try.underlying61]
theorem x_load9 {x : Operand} {b o' : Nat} {v : Value} (ho : o.op = .load 9 x) (hx : ρ x = .pointer (some ⟨b, o', none⟩)) (hc : w.cell? ⟨b, o', none⟩ = some v) :
    (execOp ρ o).run Try.prog w = .ok (.value v) w := by
  simp [execOp, ho, hx, go_sem, Try.underlying9, hc]
theorem x_load29 {x : Operand} {b o' : Nat} {v : Value} (ho : o.op = .load 29 x) (hx : ρ x = .pointer (some ⟨b, o', none⟩)) (hc : w.cell? ⟨b, o', none⟩ = some v) :
    (execOp ρ o).run Try.prog w = .ok (.value v) w := by
  simp [execOp, ho, hx, go_sem, Try.underlying29, hc]
theorem x_load50 {x : Operand} {b o' : Nat} {v : Value} (ho : o.op = .load 50 x) (hx : ρ x = .pointer (some ⟨b, o', none⟩)) (hc : w.cell? ⟨b, o', none⟩ = some v) :
    (execOp ρ o).run Try.prog w = .ok (.value v) w := by
  simp [execOp, ho, hx, go_sem, Try.underlying50, hc]
theorem x_load53 {x : Operand} {b o' : Nat} {v : Value} (ho : o.op = .load 53 x) (hx : ρ x = .pointer (some ⟨b, o', none⟩)) (hc : w.cell? ⟨b, o', none⟩ = some v) :
    (execOp ρ o).run Try.prog w = .ok (.value v) w := by
  simp [execOp, ho, hx, go_sem, Try.underlying53, hc]
theorem x_load56 {x : Operand} {b o' : Nat} {v : Value} (ho : o.op = .load 56 x) (hx : ρ x = .pointer (some ⟨b, o', none⟩)) (hc : w.cell? ⟨b, o', none⟩ = some v) :
    (execOp ρ o).run Try.prog w = .ok (.value v) w := by
  simp [execOp, ho, hx, go_sem, Try.underlying56, hc]
theorem x_load57 {x : Operand} {b o' : Nat} {v : Value} (ho : o.op = .load 57 x) (hx : ρ x = .pointer (some ⟨b, o', none⟩)) (hc : w.cell? ⟨b, o', none⟩ = some v) :
    (execOp ρ o).run Try.prog w = .ok (.value v) w := by
  simp [execOp, ho, hx, go_sem, Try.underlying57, hc]
end
end Go.Proofs.Qxb6603992a.Ck
