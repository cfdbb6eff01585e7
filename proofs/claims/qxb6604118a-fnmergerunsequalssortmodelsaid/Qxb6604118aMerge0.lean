/- mergeRuns (21) where there is no element. -/
import Derived.Test.Qxb6604118aMergeW
namespace Go.Proofs.Qxb6604118a
open Go.RowKit Go.Deep Pl

def lenOf0 : Value → Nat
  | .slice _ n _ => n
  | _ => 0

/-- The ends are all naught; nothing else that was there has turned. -/
structure EW (w wr : World) (Be m : Nat) : Prop where
  os : wr.os = w.os
  tape : wr.tape = w.tape
  output : wr.output = w.output
  size : w.heap.size ≤ wr.heap.size
  kept : ∀ k, k < w.heap.size → k ≠ Be → wr.heap[k]? = w.heap[k]?
  ie : Ints wr Be (List.replicate m 0)
section
variable {w wr : World} {Be m : Nat}
theorem EW.drew (h : EW w wr Be m) : EW w wr.drew Be m := ⟨h.os, h.tape, h.output, h.size, h.kept, h.ie.of_block rfl⟩
theorem EW.drewN (h : EW w wr Be m) (q : Nat) : EW w (wr.drewN q) Be m := ⟨h.os, h.tape, h.output, h.size, h.kept, h.ie.drewN q⟩
theorem EW.alloc (h : EW w wr Be m) (o : Obj) : EW w (wr.alloc o) Be m :=
  ⟨h.os, h.tape, h.output, Nat.le_trans h.size (by simp), fun k hk h1 => by rw [Below.heap_alloc _ _ _ (Nat.lt_of_lt_of_le hk h.size)]; exact h.kept k hk h1, h.ie.alloc o⟩
theorem EW.cell (h : EW w wr Be m) {i : Nat} (hi : i < m) : wr.cell? ⟨Be, i, none⟩ = some (.int .i64 0) := by
  have := h.ie.cell (i := i) (by simpa using hi)
  simpa [gt, hi, List.getD] using this
theorem EW.store (h : EW w wr Be m) {i : Nat} (hi : i < m) : EW w (wr.setCell ⟨Be, i, none⟩ (.int .i64 0)) Be m := by
  refine ⟨h.os, h.tape, h.output, by simpa [World.setCell] using h.size, fun k hk h1 => ?_, ?_⟩
  · rw [Below.heap_setCell _ _ _ _ h1]; exact h.kept k hk h1
  · have := h.ie.set (i := i) (by simpa using hi) 0
    rwa [List.set_replicate_self] at this
end

theorem step_copy_zero {ops : Array Oper} {o : Oper} {a : Act} {w : World} {K : Act → World → Prop} {Q : Exit → Act → World → Prop} {E : Prop} (hgd : o.guard = none) (d s : Operand)
    (ho : o.op = .call { callee := .builtin .copy, args := #[d, s], argTypes := #[34, 34] })
    (dp sp : Option Addr) (dLen dCap sLen sCap : Nat) (hd : a.eval d = .slice dp dLen dCap) (hs : a.eval s = .slice sp sLen sCap) (hn : Nat.min sLen dLen = 0)
    (h : K (a.put o.dst (.int .i64 0)) w) :
    if Region.wanted o (yielded ops a.tmps) = true then Oper.wp Try.prog o a w K Q else E := by
  have hw : Region.wanted o (yielded ops a.tmps) = true := by simp [Region.wanted, hgd]
  rw [if_pos hw]
  have hsz : (Try.prog.info? 3).map (·.size) = some 1 := by kernel_rfl
  have hrun := run_copy_none (P := Try.prog) w 34 34 o.type 3 dp sp dLen dCap sLen sCap Try.underlying34 hsz hn
  unfold Oper.wp
  simp [execOp, ho, resolve, invoke, builtin, hd, hs, hrun, Result.andThen]
  exact h

def Merged0 (w : World) (Be m : Nat) (e : Ending) (w' : World) : Prop := (∃ q, e = .returned (.slice q 0 0)) ∧ EW w w' Be m

set_option maxRecDepth 100000 in
set_option maxHeartbeats 8000000 in
theorem merge_zero (p0 : Option Addr) (Be m : Nat) (w : World) (m8 : m ≤ 65536) (he : Ints w Be (List.replicate m 0)) :
    Calls Try.prog 21 #[.slice p0 0 0, .slice (some ⟨Be, 0, none⟩) m m] w (Merged0 w Be m) := by
  have hBe : Be < w.heap.size := he.lt
  have H0 : Hid (EW w (w.alloc (.cells (madeCells #[.int .i64 0] 0) 3)) Be m) :=
    ⟨rfl, rfl, rfl, by simp, fun k hk _ => Below.heap_alloc _ _ _ hk, he.alloc _⟩
  clear he
  have hmk := fun W => run_make_row' (P := Try.prog) 34 3 (.int .i64 0) 8 Try.underlying34 Try.info3 rfl .i64 .i64 0 (by omega) (by omega) W
  simp only [Int.ofNat_zero] at hmk
  go_enter Try.func21, Try.ntmps21
  go_wp2
  clear hmk
  go_loopw [0, 1, 5] (fun v0 v1 v5 wr => ∃ (p q : Option Addr) (L : Nat), v0 = .slice p 0 0 ∧ v1 = .slice (some ⟨Be, 0, none⟩) L m ∧ v5 = .slice q 0 0 ∧ L ≤ m ∧ EW w wr Be m)
    (fun _ v1 _ _ => lenOf0 v1)
  case atStart => exact ⟨p0, _, m, rfl, rfl, rfl, Nat.le_refl _, H0.out⟩
  case round =>
    obtain ⟨p, q, L, rfl, rfl, rfl, hLm, hO⟩ := hrel
    have HO : Hid (EW w wr Be m) := hO
    clear hO H0
    by_cases hL : 1 < L
    · go_wp2
      go_quiet (fail)
      go_wp2
      have HI0 : Hid (EW w (wr.drewN nq) Be m) := HO.out.drewN nq
      rw [decide_eq_true (show (1 : Int) < (L : Int) by omega)]
      go_loopw [6, 7, 8] (fun v6 v7 v8 wk => ∃ (h : Nat), v6 = .int .i64 0 ∧ v7 = .slice (some ⟨Be, 0, none⟩) h m ∧ v8 = .int .i64 (2 * (h : Int)) ∧ 2 * h ≤ L + 1 ∧ EW w wk Be m)
        (fun _ _ v8 _ => L + 1 - (intOf v8).toNat)
      case atStart => exact ⟨0, rfl, rfl, rfl, by omega, HI0.out⟩
      case round =>
        obtain ⟨h, rfl, rfl, rfl, hk2, hI⟩ := hrel
        have HI : Hid (EW w wr Be m) := hI
        clear hI HI0
        by_cases hh : 2 * h < L
        · have c1 := HI.out.cell (i := 2 * h) (by omega)
          obtain ⟨J, hJ, hJL, c2⟩ : ∃ J, J = min (2 * h + 1) (L - 1) ∧ J < L ∧ wr.cell? ⟨Be, J, none⟩ = some (.int .i64 0) := by
            refine ⟨_, rfl, by omega, HI.out.cell (by omega)⟩
          have hJ2 : (J = 2 * h + 1 ∧ (2 * h + 1 : Nat) < L ∧ ¬ ((L : Int) - 1 < 2 * (h : Int) + 1)) ∨ (J = L - 1 ∧ (L : Int) - 1 < 2 * (h : Int) + 1) := by omega
          clear hJ
          rcases hJ2 with ⟨rfl, g1, g2⟩ | ⟨rfl, g1⟩
          · go_wp2
            try rw [decide_eq_true (show 2 * (h : Int) < (L : Int) by omega)]
            go_loopw [11, 12, 13] (fun v11 v12 v13 wm => v11 = .int .i64 0 ∧ v12 = .int .i64 0 ∧ v13 = .int .i64 0 ∧ wm = wr) (fun _ _ _ _ => 0)
            case atStart => exact ⟨rfl, rfl, rfl, rfl⟩
            case round =>
              obtain ⟨rfl, rfl, rfl, rfl⟩ := hrel
              clear c1 c2
              have hw0 : IntKind.i64.wrap 0 = 0 := by rw [IntKind.wrap_i64]; rfl
              go_wp2
              go_region_law (refine step_copy_zero rfl (.tmp 84) (.tmp 88) rfl q p 0 0 0 0 (by simp [Act.eval, Act.put]) (by simp [Act.eval, Act.put]) (by rfl) ?_)
              go_wp2
              go_region_law (refine step_copy_zero rfl (.tmp 93) (.tmp 97) rfl q p 0 0 0 0 (by simp [Act.eval, Act.put]) (by simp [Act.eval, Act.put]) (by rfl) ?_)
              have HA := HI.out.drew.drew
              have HB : Hid (EW w wr.drew.drew Be m) := HA
              clear HA
              go_wp2_with (at_builtin; refine wpList_append_one rfl (.tmp 100) (.tmp 102) rfl Be h m ⟨wr.drew.drew.heap.size, 0, none⟩ 0 _ (by simp [Act.eval]) (by simp [Act.eval]) (cell_one_new _ _ _) ((HB.out.alloc _).cell (i := h) (by omega)) ((HB.out.alloc _).ie.free h) (by omega) ?_)
              go_roundw
              case rel => exact ⟨h + 1, rfl, rfl, by go_num, by omega, (HB.out.alloc _).store (by omega)⟩
              case measure => simp [intOf]; omega
          · go_wp2
            try rw [decide_eq_true (show 2 * (h : Int) < (L : Int) by omega)]
            go_loopw [11, 12, 13] (fun v11 v12 v13 wm => v11 = .int .i64 0 ∧ v12 = .int .i64 0 ∧ v13 = .int .i64 0 ∧ wm = wr) (fun _ _ _ _ => 0)
            case atStart => exact ⟨rfl, rfl, rfl, rfl⟩
            case round =>
              obtain ⟨rfl, rfl, rfl, rfl⟩ := hrel
              clear c1 c2
              have hw0 : IntKind.i64.wrap 0 = 0 := by rw [IntKind.wrap_i64]; rfl
              go_wp2
              go_region_law (refine step_copy_zero rfl (.tmp 84) (.tmp 88) rfl q p 0 0 0 0 (by simp [Act.eval, Act.put]) (by simp [Act.eval, Act.put]) (by rfl) ?_)
              go_wp2
              go_region_law (refine step_copy_zero rfl (.tmp 93) (.tmp 97) rfl q p 0 0 0 0 (by simp [Act.eval, Act.put]) (by simp [Act.eval, Act.put]) (by rfl) ?_)
              have HA := HI.out.drew.drew
              have HB : Hid (EW w wr.drew.drew Be m) := HA
              clear HA
              go_wp2_with (at_builtin; refine wpList_append_one rfl (.tmp 100) (.tmp 102) rfl Be h m ⟨wr.drew.drew.heap.size, 0, none⟩ 0 _ (by simp [Act.eval]) (by simp [Act.eval]) (cell_one_new _ _ _) ((HB.out.alloc _).cell (i := h) (by omega)) ((HB.out.alloc _).ie.free h) (by omega) ?_)
              go_roundw
              case rel => exact ⟨h + 1, rfl, rfl, by go_num, by omega, (HB.out.alloc _).store (by omega)⟩
              case measure => simp [intOf]; omega
        · go_wp2
          go_roundw
          case rel => exact ⟨q, p, h, rfl, rfl, rfl, by omega, HI.out⟩
          case measure => simp [lenOf0]; omega
    · go_wp2
      go_ret
      exact ⟨⟨_, rfl⟩, HO.out⟩

def Merged00 (w : World) (e : Ending) (w' : World) : Prop := (∃ q, e = .returned (.slice q 0 0)) ∧ Below w.heap.size w w'

set_option maxRecDepth 100000 in
set_option maxHeartbeats 1000000 in
theorem merge_none (p0 : Option Addr) (w : World) : Calls Try.prog 21 #[.slice p0 0 0, .slice none 0 0] w (Merged00 w) := by
  have hmk := fun W => run_make_row' (P := Try.prog) 34 3 (.int .i64 0) 8 Try.underlying34 Try.info3 rfl .i64 .i64 0 (by omega) (by omega) W
  simp only [Int.ofNat_zero] at hmk
  go_enter Try.func21, Try.ntmps21
  go_wp2
  clear hmk
  go_loopw [0, 1, 5] (fun v0 v1 _ wr => v0 = .slice p0 0 0 ∧ v1 = .slice none 0 0 ∧ wr = w.alloc (.cells (madeCells #[.int .i64 0] 0) 3)) (fun _ _ _ _ => 0)
  case atStart => exact ⟨rfl, rfl, rfl⟩
  case round =>
    obtain ⟨rfl, rfl, rfl⟩ := hrel
    go_wp2
    go_ret
    exact ⟨⟨_, rfl⟩, (Below.refl _ _).alloc (Nat.le_refl _) _⟩
end Go.Proofs.Qxb6604118a
