/- The worlds of mergeRuns: three rows; what each step does to them. And 'append' of one integer within the capacity. -/
import Derived.Test.Qxb6604118aCopy
namespace Go.Proofs.Qxb6604118a
open Go.RowKit Go.Deep Pl

theorem wpList_append_one {w : World} {ops : Array Oper} {rest : List Oper} {o : Oper} {a : Act} {Q : Exit → Act → World → Prop} (hgd : o.guard = none) (s x : Operand)
    (ho : o.op = .call { callee := .builtin .append, args := #[s, x], argTypes := #[34, 34] }) (B h m : Nat) (ad : Addr) (v : Int) (u : Value)
    (hs : a.eval s = .slice (some ⟨B, 0, none⟩) h m) (hx : a.eval x = .slice (some ad) 1 1) (hv : w.cell? ad = some (.int .i64 v)) (hc : w.cell? ⟨B, h, none⟩ = some u) (hf : w.frozen? ⟨B, h, none⟩ = false) (hr : h < m)
    (hK : wpList Try.prog ops Q rest (a.put o.dst (.slice (some ⟨B, 0, none⟩) (h + 1) m)) (w.setCell ⟨B, h, none⟩ (.int .i64 v))) : wpList Try.prog ops Q (o :: rest) a w := by
  refine wpList_plain hgd fun K hK' => ?_
  obtain ⟨i, hi, hz⟩ := Option.map_eq_some_iff.1 Try.info3
  simp only [Prod.mk.injEq] at hz
  have hrun := run_append_room_cells (P := Try.prog) w 34 o.type 3 i Try.underlying34 hi B 0 h m ad 1 1 [.int .i64 v] (by rw [hz.2.1]; rfl)
    (fun j u hj => by
      match j, hj with
      | 0, hj => simp at hj; subst hj; simpa [Addr.add] using hv)
    (fun u hu => by simp at hu; subst hu; rfl) (by omega)
    (fun j hj => by
      have : j = 0 := by simpa using hj
      subst this; rw [hz.2.1]; simp [hc])
    (fun j hj => by
      have : j = 0 := by simpa using hj
      subst this; rw [hz.2.1]; simpa using hf)
  rw [hz.2.1] at hrun
  unfold Oper.wp
  simp [execOp, ho, resolve, invoke, builtin, hs, hx, hrun, Result.andThen, World.setCells]
  exact hK' _ _ hK

theorem cell_one_new (w : World) (a : Value) (t : TypeId) : (w.alloc (.cells #[a] t)).cell? ⟨w.heap.size, 0, none⟩ = some a := by
  simp

/-- Three rows: X (read), Y (written), the ends D; nothing else that was there in w has turned but blocks Bi, Be. -/
structure MW (w wr : World) (Bi Be Bx By : Nat) (X Y : List Int) (D : List Nat) : Prop where
  os : wr.os = w.os
  tape : wr.tape = w.tape
  output : wr.output = w.output
  size : w.heap.size ≤ wr.heap.size
  kept : ∀ k, k < w.heap.size → k ≠ Bi → k ≠ Be → wr.heap[k]? = w.heap[k]?
  ix : Ints wr Bx X
  iy : Ints wr By Y
  ie : Ints wr Be (nats D)
  xe : Bx ≠ Be
  ye : By ≠ Be
  xy : Bx ≠ By
  yi : By = Bi ∨ w.heap.size ≤ By
  xi : Bx = Bi ∨ w.heap.size ≤ Bx
section
variable {w wr : World} {Bi Be Bx By : Nat} {X Y : List Int} {D : List Nat}
theorem MW.drewN (h : MW w wr Bi Be Bx By X Y D) (q : Nat) : MW w (wr.drewN q) Bi Be Bx By X Y D :=
  ⟨h.os, h.tape, h.output, h.size, h.kept, h.ix.drewN q, h.iy.drewN q, h.ie.drewN q, h.xe, h.ye, h.xy, h.yi, h.xi⟩
theorem MW.drew (h : MW w wr Bi Be Bx By X Y D) : MW w wr.drew Bi Be Bx By X Y D :=
  ⟨h.os, h.tape, h.output, h.size, h.kept, h.ix.of_block rfl, h.iy.of_block rfl, h.ie.of_block rfl, h.xe, h.ye, h.xy, h.yi, h.xi⟩
theorem MW.copied (h : MW w wr Bi Be Bx By X Y D) {w' : World} {Y' : List Int} (hg : wr.grownBy w' (some By)) (hy : Ints w' By Y') : MW w w' Bi Be Bx By X Y' D :=
  ⟨hg.os.trans h.os, hg.tape.trans h.tape, hg.output.trans h.output, Nat.le_trans h.size hg.size, fun k hk h1 h2 => by
    rw [hg.block k (Nat.lt_of_lt_of_le hk h.size) (fun e => by injection e with e; rcases h.yi with h' | h' <;> omega)]; exact h.kept k hk h1 h2,
    h.ix.grown hg (fun e => by injection e with e; exact h.xy e), hy, h.ie.grown hg (fun e => by injection e with e; exact h.ye e.symm), h.xe, h.ye, h.xy, h.yi, h.xi⟩
theorem MW.store (h : MW w wr Bi Be Bx By X Y D) {i : Nat} (hi : i < Y.length) (v : Int) : MW w (wr.setCell ⟨By, i, none⟩ (.int .i64 v)) Bi Be Bx By X (Y.set i v) D :=
  h.copied (grown_set (World.grownBy.refl _ _) _ _) (h.iy.set hi v)
theorem MW.alloc (h : MW w wr Bi Be Bx By X Y D) (o : Obj) : MW w (wr.alloc o) Bi Be Bx By X Y D :=
  ⟨h.os, h.tape, h.output, Nat.le_trans h.size (by simp), fun k hk h1 h2 => by rw [Below.heap_alloc _ _ _ (Nat.lt_of_lt_of_le hk h.size)]; exact h.kept k hk h1 h2, h.ix.alloc o, h.iy.alloc o, h.ie.alloc o, h.xe, h.ye, h.xy, h.yi, h.xi⟩
theorem MW.endsAt (h : MW w wr Bi Be Bx By X Y D) {i : Nat} (hi : i < D.length) (v : Nat) : MW w (wr.setCell ⟨Be, i, none⟩ (.int .i64 (v : Int))) Bi Be Bx By X Y (D.set i v) := by
  refine ⟨h.os, h.tape, h.output, by simpa [World.setCell] using h.size, fun k hk h1 h2 => ?_, h.ix.other h.xe _, h.iy.other h.ye _, ?_, h.xe, h.ye, h.xy, h.yi, h.xi⟩
  · rw [Below.heap_setCell _ _ _ _ h2]; exact h.kept k hk h1 h2
  · rw [nats_set]; exact h.ie.set (by rw [length_nats]; exact hi) _
theorem MW.swap (h : MW w wr Bi Be Bx By X Y D) : MW w wr Bi Be By Bx Y X D :=
  ⟨h.os, h.tape, h.output, h.size, h.kept, h.iy, h.ix, h.ie, h.ye, h.xe, h.xy.symm, h.xi, h.yi⟩
theorem MW.xcell (h : MW w wr Bi Be Bx By X Y D) {i : Nat} (hi : i < X.length) : wr.cell? ⟨Bx, i, none⟩ = some (.int .i64 (gt X i)) := h.ix.cell hi
theorem MW.ycell (h : MW w wr Bi Be Bx By X Y D) {i : Nat} (hi : i < Y.length) : wr.cell? ⟨By, i, none⟩ = some (.int .i64 (gt Y i)) := h.iy.cell hi
theorem MW.ecell (h : MW w wr Bi Be Bx By X Y D) {i : Nat} (hi : i < D.length) : wr.cell? ⟨Be, i, none⟩ = some (.int .i64 (gn D i : Int)) := by
  rw [← gt_nats]; exact h.ie.cell (by rw [length_nats]; exact hi)
end

theorem step_copy_mw {ops : Array Oper} {o : Oper} {a : Act} {W : World} {K : Act → World → Prop} {Q : Exit → Act → World → Prop} {E : Prop} (hgd : o.guard = none) (d s : Operand)
    (ho : o.op = .call { callee := .builtin .copy, args := #[d, s], argTypes := #[34, 34] })
    {w : World} {Bi Be Bx By : Nat} {X Y : List Int} {D : List Nat} (hW : MW w W Bi Be Bx By X Y D) (n i M p c : Nat)
    (hd : a.eval d = .slice (if n = p then some ⟨By, 0, none⟩ else some ⟨By, p, none⟩) (n - p) (n - p))
    (hs : a.eval s = .slice (if n = i then some ⟨Bx, 0, none⟩ else some ⟨Bx, i, none⟩) (M - i) (n - i))
    (hx : X.length = n) (hy : Y.length = n) (hM : M ≤ n) (hi : i ≤ M) (hc : c = M - i) (hfit : p + c ≤ n)
    (h : ∀ w', Hid (MW w w' Bi Be Bx By X (lay Y p (seg X i M)) D) → K (a.put o.dst (.int .i64 (c : Int))) w') :
    if Region.wanted o (yielded ops a.tmps) = true then Oper.wp Try.prog o a W K Q else E := by
  have hl : (seg X i M).length = c := by simp [seg]; omega
  refine step_copy_ints hgd d s ho _ _ _ _ _ _ hd hs By p Y (seg X i M) hW.iy ?_ ?_ (by omega) ?_
  · rw [hl]; simp only [Nat.min_def]; split <;> omega
  · intro h0
    refine ⟨if_neg (by omega), ⟨Bx, i, none⟩, if_neg (by omega), fun j hj => ?_⟩
    have e : gt (seg X i M) j = gt X (i + j) := by
      unfold gt seg
      rw [List.getD, List.getD, List.getElem?_take_of_lt (by omega), List.getElem?_drop]
    rw [e]
    have hcell := hW.xcell (i := i + j) (by omega)
    by_cases j0 : j = 0
    · subst j0; simpa [Addr.add] using hcell
    · simpa [Addr.add, j0] using hcell
  · intro w' h'
    rw [hl]
    exact h w' (hW.copied h'.out.2 h'.out.1)
end Go.Proofs.Qxb6604118a
