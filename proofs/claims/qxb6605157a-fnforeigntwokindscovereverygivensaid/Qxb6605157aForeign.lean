/- groundFile.foreign (20), ZZGroundForeign (10). -/
import Derived.Test.Qxb6605157aStr
import Derived.Laws.AppendOwn
namespace Go.Proofs.Qxb6605157a
open Go.RowKit Go.Deep

abbrev nPercent : ByteArray := { data := #[112, 101, 114, 99, 101, 110, 116] }
abbrev nWord : ByteArray := { data := #[119, 111, 114, 100] }
abbrev nRoles : ByteArray := { data := #[114, 111, 108, 101, 115] }
abbrev nChildren : ByteArray := { data := #[99, 104, 105, 108, 100, 114, 101, 110, 95, 102, 114, 111, 109, 95, 97, 103, 101] }
def nm : Nat → ByteArray
  | 0 => nPercent
  | 1 => nWord
  | 2 => nRoles
  | _ => nChildren
def kn : Nat → Int
  | 0 => 1
  | 1 => 1
  | 2 => 2
  | _ => 3
/-- Which fields are given. -/
def gv (s1 s2 : ByteArray) (nil : Bool) (s4 : ByteArray) : Nat → Bool
  | 0 => !s1.toList.isEmpty
  | 1 => !s2.toList.isEmpty
  | 2 => nil
  | _ => !s4.toList.isEmpty
/-- The names of the given fields among the first j whose kind is not k. -/
def Fl (g : Nat → Bool) (k : Int) (j : Nat) : List ByteArray := ((List.range j).filter fun i => g i && (kn i != k)).map nm
theorem Fl_succ (g : Nat → Bool) (k : Int) (j : Nat) : Fl g k (j + 1) = Fl g k j ++ (if g j && (kn j != k) then [nm j] else []) := by
  unfold Fl
  rw [List.range_succ, List.filter_append, List.map_append]
  congr 1
  by_cases h : (g j && (kn j != k)) = true
  · simp [h]
  · simp [h]
theorem Fl_len (g : Nat → Bool) (k : Int) (j : Nat) : (Fl g k j).length ≤ j := by
  unfold Fl
  rw [List.length_map]
  exact Nat.le_trans (List.length_filter_le _ _) (by simp)

def GivesF (w : World) (F : List ByteArray) (e : Ending) (w' : World) : Prop := ∃ x m c, e = .returned (.slice x m c) ∧ F.length = m ∧ Below w.heap.size w w' ∧ Src w' x F

theorem run_neq_nil (a : Option Addr) (n c : Nat) (w : World) : (binOp .neq 24 (.slice a n c) (.slice none 0 0)).run Try.prog w = .ok (.bool a.isSome) w := by
  simp only [binOp]
  simp [Op.equal, Op.maxDepth, Lib.run_equalIn_slice_nil w 9999 24 9 a n c 0 0 Try.underlying24]

theorem info_parts {e : TypeId} {z : Value} {size bytes : Nat} (h : (Try.prog.info? e).map (fun i => (i.zero, i.size, i.bytes)) = some (some z, size, bytes)) : ∃ i, Try.prog.info? e = some i ∧ i.zero = some z ∧ i.size = size ∧ i.bytes = bytes := by
  obtain ⟨i, hi, hz⟩ := Option.map_eq_some_iff.1 h
  simp only [Prod.mk.injEq] at hz
  exact ⟨i, hi, hz.1, hz.2.1, hz.2.2⟩

/-- The four fields as the text lays them out. -/
def tab (g : Nat → Bool) : Array Value := #[.string (nm 0), .int .i64 (kn 0), .bool (g 0), .string (nm 1), .int .i64 (kn 1), .bool (g 1), .string (nm 2), .int .i64 (kn 2), .bool (g 2), .string (nm 3), .int .i64 (kn 3), .bool (g 3)]

theorem alloc_new (W : World) (o : Obj) : (W.alloc o).heap[W.heap.size]? = some o := by
  show (W.heap.push o)[W.heap.size]? = some o
  simp

/-- At the head of round j. -/
structure Lp (w wr : World) (g : Nat → Bool) (k : Int) (j : Nat) (v : Value) : Prop where
  old : Below w.heap.size w wr
  big : w.heap.size + 2 ≤ wr.heap.size
  tabs : wr.heap[w.heap.size + 1]? = some (.cells (tab g) 49 (0, 0))
  own : wr.ownsRow (w.heap.size + 2) 9 1 v (Fl g k j).length ((Fl g k j).map Value.string)
theorem Lp.cells {w wr : World} {g : Nat → Bool} {k : Int} {j : Nat} {v : Value} (h : Lp w wr g k j v) {i : Nat} (hi : i < 4) :
    wr.cell? ⟨w.heap.size + 1, i * 3, none⟩ = some (.string (nm i)) ∧ wr.cell? ⟨w.heap.size + 1, i * 3 + 1, none⟩ = some (.int .i64 (kn i)) ∧ wr.cell? ⟨w.heap.size + 1, i * 3 + 2, none⟩ = some (.bool (g i)) := by
  simp only [World.cell?, h.tabs]
  rcases i with _ | _ | _ | _ | i
  · exact ⟨rfl, rfl, rfl⟩
  · exact ⟨rfl, rfl, rfl⟩
  · exact ⟨rfl, rfl, rfl⟩
  · exact ⟨rfl, rfl, rfl⟩
  · omega
theorem Lp.skip {w wr : World} {g : Nat → Bool} {k : Int} {j : Nat} {v : Value} (h : Lp w wr g k j v) (hs : (g j && (kn j != k)) = false) (o : Obj) : Lp w (wr.alloc o) g k (j + 1) v := by
  refine ⟨h.old.alloc (Nat.le_trans h.old.size (Nat.le_refl _)) o, by have := h.big; simp; omega, by rw [Below.heap_alloc _ _ _ (by have := h.big; omega)]; exact h.tabs, ?_⟩
  have e : Fl g k (j + 1) = Fl g k j := by rw [Fl_succ, hs]; simp
  rw [e]; exact h.own.alloc o
theorem Lp.take {w wr w2 : World} {g : Nat → Bool} {k : Int} {j : Nat} {v v2 : Value} (h : Lp w wr g k j v) (hs : (g j && (kn j != k)) = true) (o1 o2 : Obj)
    (hown : w2.ownsRow (w.heap.size + 2) 9 1 v2 ((Fl g k j).length + 1) ((Fl g k j).map Value.string ++ [.string (nm j)])) (hg : ((wr.alloc o1).alloc o2).grownBy w2 v.ownBlock) : Lp w w2 g k (j + 1) v2 := by
  have e : Fl g k (j + 1) = Fl g k j ++ [nm j] := by rw [Fl_succ, hs]; simp
  have hlt := h.own.lt
  refine ⟨((h.old.alloc h.old.size o1).alloc (by have := h.old.size; simp; omega) o2).grown hg (by have := h.old.size; simp; omega) (fun b hb => by have := (hlt b hb).1; omega), ?_, ?_, ?_⟩
  · have := hg.size; have := h.big; simp at *; omega
  · rw [hg.block _ (by have := h.big; simp; omega) (fun hb => by have := (hlt _ hb.symm).1; omega), Below.heap_alloc _ _ _ (by have := h.big; simp; omega), Below.heap_alloc _ _ _ (by have := h.big; omega)]
    exact h.tabs
  · rw [e]; simpa using hown
theorem Lp.src {w wr : World} {g : Nat → Bool} {k : Int} {j : Nat} {v : Value} (h : Lp w wr g k j v) : ∃ x c, v = .slice x (Fl g k j).length c ∧ Src wr x (Fl g k j) := by
  rcases h.own with ⟨_, ⟨hv, h0⟩ | ⟨b, cap, cur, hv, _, hb, _, _, _, ht⟩⟩
  · exact ⟨none, 0, by rw [h0]; exact hv, .inl (List.eq_nil_of_length_eq_zero h0)⟩
  · refine ⟨_, cap, hv, .inr ⟨b, 0, rfl, fun i hi => ?_⟩⟩
    have h1 := h.own.cells (g := b) (by rw [hv]; rfl) i (.string (gs (Fl g k j) i)) (by rw [List.getElem?_map, List.getElem?_eq_getElem hi, gs_eq hi]; rfl)
    rw [Go.WideShapes.add_plain] at h1
    exact h1

set_option maxRecDepth 100000 in
set_option maxHeartbeats 2000000 in
theorem foreign20 (s0 s1 s2 s4 : ByteArray) (a : Option Addr) (n c : Nat) (k : Int) (w : World) :
    Calls Try.prog 20 #[.agg #[.string s0, .string s1, .string s2, .slice a n c, .string s4], .int .i64 k] w (GivesF w (Fl (gv s1 s2 a.isSome s4) k 4)) := by
  have hnil := run_neq_nil a n c
  obtain ⟨g, hg⟩ : ∃ g, g = gv s1 s2 a.isSome s4 := ⟨_, rfl⟩
  have H0 : Hid (Lp w ((w.alloc (.cells #[.string s0, .string s1, .string s2, .slice a n c, .string s4] 45)).alloc (.cells (tab g) 49)) g k 0 (.slice none 0 0)) :=
    ⟨((Below.refl _ _).alloc (Nat.le_refl _) _).alloc (by simp) _, by simp, by
      have := alloc_new (w.alloc (.cells #[.string s0, .string s1, .string s2, .slice a n c, .string s4] 45)) (.cells (tab g) 49)
      rw [show (w.alloc (.cells #[.string s0, .string s1, .string s2, .slice a n c, .string s4] 45)).heap.size = w.heap.size + 1 by simp] at this
      exact this, World.ownsRow_nil _ _ _ _⟩
  have HG : Hid (g = gv s1 s2 a.isSome s4) := hg
  have ht : Hid (tab g = tab (gv s1 s2 a.isSome s4)) := by rw [hg]; exact rfl
  rw [← hg]
  clear hg
  go_enter Try.func20, Try.ntmps20
  go_wp2
  clear hnil
  go_loopw [5, 28] (fun v i wr => ∃ (j : Nat) (v5 : Value), v5 = v ∧ j ≤ 4 ∧ i = .int .i64 j ∧ Lp w wr g k j v5) (fun _ i _ => 4 - (intOf i).toNat)
  case atStart =>
    refine ⟨0, _, rfl, by omega, rfl, ?_⟩
    have := H0.out
    rw [ht.out] at this
    exact this
  case round =>
    obtain ⟨j, v5, rfl, hj, rfl, hL⟩ := hrel
    have HL : Hid (Lp w wr g k j v5) := hL
    clear hL H0 ht
    by_cases hlt : j < 4
    · obtain ⟨e0, e1, e2⟩ := HL.out.cells hlt
      cases hgj : g j
      · rw [hgj] at e2
        go_wp2
        go_roundw
        case rel => exact ⟨j + 1, _, rfl, by omega, by go_num, HL.out.skip (by rw [hgj]; rfl) _⟩
        case measure => simp [intOf]; omega
      · rw [hgj] at e2
        cases hk : (kn j != k)
        · go_wp2
          go_roundw
          case rel => exact ⟨j + 1, _, rfl, by omega, by go_num, HL.out.skip (by rw [hk]; simp) _⟩
          case measure => simp [intOf]; omega
        · obtain ⟨i0, hi, hz0, hz1, hz2⟩ := info_parts Try.info9
          have hown := HL.out.own
          have hfl := Fl_len g k j
          have hbig := HL.out.big
          go_wp2_with (at_builtin; refine wpList_append_own _ rfl (.tmp 40) (.tmp 43) 24 rfl (w.heap.size + 2) 9 i0 (.string ByteArray.empty) 1 16 Try.underlying24 hi hz0 hz1 hz2 rfl (by omega) v5 _ _ rfl ((hown.alloc _).alloc _) ⟨wr.heap.size + 1, 0, none⟩ 1 1 [.string (nm j)] rfl rfl ?c1 ?c2 ?c3 ?c4 ?c5 ?_)
          case c1 =>
            intro i u hi
            match i, hi with
            | 0, hi => simp at hi; subst hi; simp [Addr.add]
          case c2 => intro u hu; simp at hu; subst hu; rfl
          case c3 => exact Nat.le_trans (show _ ≤ 5 by omega) (by decide)
          case c4 => omega
          case c5 => simp; omega
          intro v2 w2 hown2 hgrow2 _
          have HT : Hid (Lp w w2 g k (j + 1) v2) := HL.out.take (by rw [hgj, hk]; rfl) _ _ hown2 hgrow2
          clear hown2 hgrow2 hown hfl hbig
          go_wp2
          go_roundw
          case rel => exact ⟨j + 1, _, rfl, by omega, by go_num, HT.out⟩
          case measure => simp [intOf]; omega
    · obtain rfl : j = 4 := by omega
      go_wp2
      go_ret
      obtain ⟨x, c', hv, hs⟩ := HL.out.src
      exact ⟨x, _, c', by rw [← hv]; rfl, rfl, HL.out.old, hs⟩
end Go.Proofs.Qxb6605157a
