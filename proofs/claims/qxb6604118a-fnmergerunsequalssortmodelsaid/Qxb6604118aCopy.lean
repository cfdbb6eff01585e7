/- 'copy' between two rows of integers, as one step of a region that draws its order: the row that is written, and nothing else, turns. -/
import Derived.Test.Qxb6604118aWell
import Derived.Test.Qxb6604118aPlain2
import Derived.Laws.CopyOwn
import Derived.Deep.RegionHeld3
namespace Go.Proofs.Qxb6604118a
open Go.RowKit Go.Deep Pl

theorem Ints.arr {w : World} {B : Nat} {Y : List Int} (h : Ints w B Y) : w.heap[B]? = some (.cells (Y.map (Value.int .i64)).toArray 3 (0, 0)) := by
  obtain ⟨c, hb, hn, hc⟩ := h
  have e : c = (Y.map (Value.int .i64)).toArray := by
    apply Array.ext
    · simpa using hn
    · intro i h1 h2
      have := hc i (by omega)
      rw [Array.getElem?_eq_getElem h1] at this
      injection this with this
      rw [this]
      show Value.int .i64 (gt Y i) = _
      rw [gt_eq (show i < Y.length by omega)]
      simp
  rw [hb, e]
theorem Ints.of_arr {w : World} {B : Nat} {Y : List Int} (h : w.heap[B]? = some (.cells (Y.map (Value.int .i64)).toArray 3 (0, 0))) : Ints w B Y :=
  ⟨_, h, by simp, fun i hi => by simp [gt, hi]⟩

theorem splice_map (Y cs : List Int) (off : Nat) : splice (Y.map (Value.int .i64)) off (cs.map (Value.int .i64)) = (lay Y off cs).map (Value.int .i64) := by
  simp [splice, lay]

theorem step_copy_ints {ops : Array Oper} {o : Oper} {a : Act} {w : World} {K : Act → World → Prop} {Q : Exit → Act → World → Prop} {E : Prop} (hgd : o.guard = none) (d s : Operand)
    (ho : o.op = .call { callee := .builtin .copy, args := #[d, s], argTypes := #[34, 34] })
    (dp sp : Option Addr) (dLen dCap sLen sCap : Nat) (hd : a.eval d = .slice dp dLen dCap) (hs : a.eval s = .slice sp sLen sCap)
    (g off : Nat) (Y cs : List Int) (hg : Ints w g Y) (hn : cs.length = Nat.min sLen dLen)
    (hpos : 0 < cs.length → dp = some ⟨g, off, none⟩ ∧ ∃ ad, sp = some ad ∧ ∀ j, j < cs.length → w.cell? (ad.add j) = some (.int .i64 (gt cs j)))
    (hfit : off + cs.length ≤ Y.length)
    (h : ∀ w', Hid (Ints w' g (lay Y off cs) ∧ w.grownBy w' (some g)) → K (a.put o.dst (goInt cs.length)) w') :
    if Region.wanted o (yielded ops a.tmps) = true then Oper.wp Try.prog o a w K Q else E := by
  have hw : Region.wanted o (yielded ops a.tmps) = true := by simp [Region.wanted, hgd]
  rw [if_pos hw]
  have hsz : (Try.prog.info? 3).map (·.size) = some 1 := by kernel_rfl
  by_cases h0 : cs.length = 0
  · obtain rfl : cs = [] := List.eq_nil_of_length_eq_zero h0
    have hrun := run_copy_none (P := Try.prog) w 34 34 o.type 3 dp sp dLen dCap sLen sCap Try.underlying34 hsz (by simpa using hn.symm)
    unfold Oper.wp
    simp [execOp, ho, resolve, invoke, builtin, hd, hs, hrun, Result.andThen]
    exact h w ⟨by simpa [lay] using hg, World.grownBy.refl _ _⟩
  · obtain ⟨rfl, ad, rfl, hsrc⟩ := hpos (by omega)
    have hrun := run_copy_row (P := Try.prog) w 34 34 o.type 3 g off dLen dCap ad sLen sCap _ 3 (cs.map (Value.int .i64)) Try.underlying34 hsz hg.arr (by simpa using hn)
      (fun j v hj => by
        simp only [List.getElem?_map] at hj
        obtain ⟨x, hx, rfl⟩ := Option.map_eq_some_iff.1 hj
        obtain ⟨hl, rfl⟩ := List.getElem?_eq_some_iff.1 hx
        rw [hsrc j hl, gt_eq hl]) (by simpa using hfit) (fun v hv => by
        obtain ⟨x, _, rfl⟩ := List.mem_map.1 hv; rfl)
    unfold Oper.wp
    simp [execOp, ho, resolve, invoke, builtin, hd, hs, hrun, Result.andThen]
    have e := splice_map Y cs off
    unfold splice at e
    have hh := h (w.setRow g (lay Y off cs |>.map (Value.int .i64)).toArray) ⟨Ints.of_arr (setRow_heap w g _ _ 3 _ hg.arr), rfl, rfl, rfl, by simp [World.setRow], fun k hk hne => setRow_other w g k _ (fun e => hne (by rw [e]))⟩
    rw [← e] at hh
    rw [Oper.upon_value]
    simpa using hh
end Go.Proofs.Qxb6604118a
