/- The law FnRuleSoundMonotoneSamePartyFirst (5). -/
import Derived.Test.Qxb6605157aRule
import Derived.Test.Qxb6605157aBytes
import Derived.Deep.CutBlock
namespace Go.Proofs.Qxb6605157a
open Go.RowKit Go.Deep

/-- The rule, over plain truth values. -/
def rl (u v t p q r : Bool) : Nat := if p then 1 else if u && q then 2 else if v && r then 3 else if q && t then 4 else 0
theorem rule_rl (f : ByteArray) (T : List ByteArray) (s : ByteArray) (p q r : Bool) : rule f T s p q r = rl (f.toList == wCategory) (f.toList == wSubject) (has T s) p q r := rfl
theorem rl_le : ∀ u v t p q r : Bool, rl u v t p q r ≤ 4 := by decide
theorem rl_mono : ∀ u v t p q r x y z : Bool, rl u v t p q r ≠ 0 → rl u v t (p || x) (q || y) (r || z) ≠ 0 := by decide
theorem rl_grow : ∀ u v t p q r : Bool, rl u v t p q r ≠ 0 → rl u v true p q r ≠ 0 := by decide
theorem rl_q : ∀ u v p r : Bool, rl u v true p true r ≠ 0 := by decide
theorem rl_1 : ∀ u v t p q r : Bool, rl u v t p q r = 1 → p = true := by decide
theorem rl_2 : ∀ u v t p q r : Bool, rl u v t p q r = 2 → u = true ∧ q = true := by decide
theorem rl_3 : ∀ u v t p q r : Bool, rl u v t p q r = 3 → v = true ∧ r = true := by decide
theorem rl_4 : ∀ u v t p q r : Bool, rl u v t p q r = 4 → q = true ∧ t = true := by decide
section
variable {f : ByteArray} {T : List ByteArray} {s : ByteArray} {p q r : Bool}
theorem rule_party (f : ByteArray) (T : List ByteArray) (s : ByteArray) (q r : Bool) : rule f T s true q r = 1 := rfl
theorem rule_le (f : ByteArray) (T : List ByteArray) (s : ByteArray) (p q r : Bool) : rule f T s p q r ≤ 4 := rl_le _ _ _ _ _ _
theorem rule_mono (x y z : Bool) (h : rule f T s p q r ≠ 0) : rule f T s (p || x) (q || y) (r || z) ≠ 0 := rl_mono _ _ _ _ _ _ _ _ _ h
theorem rule_grow (h : rule f T s p q r ≠ 0) : rule f (T ++ [s]) s p q r ≠ 0 := by rw [rule_rl, has_append]; exact rl_grow _ _ _ _ _ _ h
theorem rule_q : rule f (T ++ [s]) s p true r ≠ 0 := by rw [rule_rl, has_append]; exact rl_q _ _ _ _
theorem rule_1 (h : rule f T s p q r = 1) : p = true := rl_1 _ _ _ _ _ _ h
theorem rule_2 (h : rule f T s p q r = 2) : (f.toList == wCategory) = true ∧ q = true := rl_2 _ _ _ _ _ _ h
theorem rule_3 (h : rule f T s p q r = 3) : (f.toList == wSubject) = true ∧ r = true := rl_3 _ _ _ _ _ _ h
theorem rule_4 (h : rule f T s p q r = 4) : q = true ∧ has T s = true := rl_4 _ _ _ _ _ _ h
end
theorem word_ne {k : Nat} (h : k ≠ 0) (h4 : k ≤ 4) : (word k).toList.isEmpty = false := by
  rcases k with _ | _ | _ | _ | _ | k
  · exact absurd rfl h
  · rw [ByteArray.toList_eq]; rfl
  · rw [ByteArray.toList_eq]; rfl
  · rw [ByteArray.toList_eq]; rfl
  · rw [ByteArray.toList_eq]; rfl
  · omega

/-- A struct of the law's own, its six cells. -/
structure Cum (w : World) (B : Nat) (f0 f1 f2 : ByteArray) (a : Option Addr) (n c : Nat) (f4 : ByteArray) (f5 : Bool) : Prop where
  c0 : w.cell? ⟨B, 0, none⟩ = some (.string f0)
  c1 : w.cell? ⟨B, 1, none⟩ = some (.string f1)
  c2 : w.cell? ⟨B, 2, none⟩ = some (.string f2)
  c3 : w.cell? ⟨B, 3, none⟩ = some (.slice a n c)
  c4 : w.cell? ⟨B, 4, none⟩ = some (.string f4)
  c5 : w.cell? ⟨B, 5, none⟩ = some (.bool f5)
theorem Cum.new (w : World) (f0 f1 f2 : ByteArray) (a : Option Addr) (n c : Nat) (f4 : ByteArray) (f5 : Bool) :
    Cum (w.alloc (.cells #[.string f0, .string f1, .string f2, .slice a n c, .string f4, .bool f5] 39)) w.heap.size f0 f1 f2 a n c f4 f5 := by
  constructor <;> simp
theorem Cum.later {w w' : World} {B : Nat} {f0 f1 f2 : ByteArray} {a : Option Addr} {n c : Nat} {f4 : ByteArray} {f5 : Bool} (h : Cum w B f0 f1 f2 a n c f4 f5) (hb : Below w.heap.size w w') : Cum w' B f0 f1 f2 a n c f4 f5 := by
  have hB : B < w.heap.size := World.block_lt_of_cell? w ⟨B, 0, none⟩ h.c0
  exact ⟨(hb.cell (p := ⟨B, 0, none⟩) hB).trans h.c0, (hb.cell (p := ⟨B, 1, none⟩) hB).trans h.c1, (hb.cell (p := ⟨B, 2, none⟩) hB).trans h.c2, (hb.cell (p := ⟨B, 3, none⟩) hB).trans h.c3, (hb.cell (p := ⟨B, 4, none⟩) hB).trans h.c4, (hb.cell (p := ⟨B, 5, none⟩) hB).trans h.c5⟩

theorem Row.last {w : World} {B e n : Nat} {T : List ByteArray} (h : Row w B e (n + 1) T n) (hn : T.length = n) (s : ByteArray) : Src (w.setCell ⟨B, n, none⟩ (.string s)) (some ⟨B, 0, none⟩) (T ++ [s]) := by
  obtain ⟨f, h, hf⟩ := h
  refine .inr ⟨B, 0, rfl, fun i hi => ?_⟩
  simp at hi
  rw [Nat.zero_add, World.rowIs.cell (World.rowIs.set h n (.string s)) (by omega)]
  by_cases e : i = n
  · subst e; simp [gs, ← hn]
  · have hi' : i < T.length := by omega
    have e2 : gs (T ++ [s]) i = gs T i := by unfold gs; rw [List.getD, List.getD, List.getElem?_append_left hi']
    rw [e2]
    simp [e]
    exact hf i (by omega)

def Holds (w : World) (e : Ending) (w' : World) : Prop := e = .returned (.bool true) ∧ Below w.heap.size w w'

set_option maxRecDepth 100000 in
set_option maxHeartbeats 8000000 in
theorem law5 (s0 s1 s2 s4 s6 : ByteArray) (b5 b7 b8 b9 : Bool) (a : Option Addr) (n c : Nat) (T : List ByteArray) (w : World) (hn : T.length = n) (h : Src w a T) (hna : a = none → n = 0 ∧ c = 0) :
    Calls Try.prog 5 #[.string s0, .string s1, .string s2, .slice a n c, .string s4, .bool b5, .string s6, .bool b7, .bool b8, .bool b9] w (Holds w) := by
  have HN : Hid (T.length = n) := hn
  have H0 : Hid (Src w a T ∧ (a = none → n = 0 ∧ c = 0)) := ⟨h, hna⟩
  clear hn h hna
  have HB := bytes16 s0 s1 s2 s4 s6 b5 b7 b8 b9 a n c T w HN.out H0.out.1
  go_enter Try.func5, Try.ntmps5
  go_wp2_with fail
  refine HB.mono ?_
  rintro e w1 ⟨b0, rfl, hw⟩
  rw [hw]; clear hw HB
  cases b0
  · go_wp2
    go_ret
    exact ⟨rfl, Below.refl _ _⟩
  by_cases t0 : 65536 < (s0.size : Int)
  · go_wp2
    go_ret
    exact ⟨rfl, Below.refl _ _⟩
  by_cases t1 : 65536 < (s1.size : Int)
  · go_wp2
    go_ret
    exact ⟨rfl, Below.refl _ _⟩
  by_cases t2 : 65536 < (s2.size : Int)
  · go_wp2
    go_ret
    exact ⟨rfl, Below.refl _ _⟩
  by_cases t4 : 65536 < (s4.size : Int)
  · go_wp2
    go_ret
    exact ⟨rfl, Below.refl _ _⟩
  by_cases t6 : 65536 < (s6.size : Int)
  · go_wp2
    go_ret
    exact ⟨rfl, Below.refl _ _⟩
  by_cases t3 : 65536 < (n : Int)
  · go_wp2
    go_ret
    exact ⟨rfl, Below.refl _ _⟩
  by_cases t5 : 1048576 < (s0.size : Int) + s1.size + s2.size + s4.size + s6.size + 16 * n
  · go_wp2
    go_ret
    exact ⟨rfl, Below.refl _ _⟩
  go_wp2
  clear t0 t1 t2 t4 t6 t5
  go_loop [21, 22] (fun z i => ∃ (k : Nat) (y : Int), k ≤ n ∧ i = .int .i64 k ∧ z = .int .i64 y) (fun _ i => n - (intOf i).toNat)
  case atStart => exact ⟨0, _, Nat.zero_le _, rfl, rfl⟩
  case round =>
    obtain ⟨k, y, hk, rfl, rfl⟩ := hrel
    by_cases hlt : k < n
    · rcases H0.out.1 with hT | ⟨b, o, rfl, hc⟩
      · have := HN.out; rw [hT] at this; simp at this; omega
      have ck := hc k (by have := HN.out; omega)
      clear hc
      by_cases t1 : 1048576 < wrap64 (y + (gs T k).size)
      · go_wp2
        go_ret
        exact ⟨rfl, Below.refl _ _⟩
      · go_wp2
        go_round
        case rel => exact ⟨k + 1, _, by omega, by go_num, rfl⟩
        case measure => simp [intOf]; omega
    · go_wp2_with fail
      refine (clone9 a n c T w HN.out H0.out.2 (by omega) H0.out.1).mono ?_
      rintro e w1 ⟨x3, hx3, rfl, hb1, sx3⟩
      rw [HN.out]
      have B1 : Hid (Below w.heap.size w w1) := hb1
      have S3 : Hid (Src w1 x3 T) := sx3
      have N3 : Hid (x3 = none → n = 0 ∧ n = 0) := fun e => by
        rw [e] at hx3
        have := H0.out.2 (by cases a with | none => rfl | some _ => cases hx3)
        exact ⟨this.1, this.1⟩
      clear hb1 sx3 hx3
      go_wp2_with fail
      refine (cats17 x3 n n T w1 HN.out N3.out (by omega) S3.out).mono ?_
      rintro e w2 ⟨x23, _, rfl, hb2, sx23⟩
      rw [HN.out]
      have B2 : Hid (Below w.heap.size w w2) := B1.out.trans (hb2.mono B1.out.size)
      have S3' : Hid (Src w2 x3 T) := S3.out.later hb2
      have S23 : Hid (Src w2 x23 T) := sx23
      clear hb2 sx23 B1 S3
      have BA : Hid (∀ W, W = w2.alloc (.cells #[.string s0, .string s1, .string s2, .slice x23 n n, .string s4, .bool b5] 39) → Below w2.heap.size w2 W ∧ Cum W w2.heap.size s0 s1 s2 x23 n n s4 b5) :=
        fun W e => by rw [e]; exact ⟨(Below.refl _ _).alloc (Nat.le_refl _) _, Cum.new _ _ _ _ _ _ _ _ _⟩
      go_wp2_with fail
      refine (rule18 s0 s1 s2 s4 s6 b5 true b8 b9 x23 n n T _ HN.out (by omega) (S23.out.later (BA.out _ rfl).1)).mono ?_
      rintro e w4 ⟨rfl, hb4⟩
      rw [show word (rule s1 T s6 true b8 b9) = kParty from rfl]
      have B4 : Hid (Below w2.heap.size w2 w4) := (BA.out _ rfl).1.trans (hb4.mono (BA.out _ rfl).1.size)
      have hC4 := (BA.out _ rfl).2.later hb4
      have HC4 : Hid (Cum w4 w2.heap.size s0 s1 s2 x23 n n s4 b5) := hC4
      clear hb4 BA
      obtain ⟨d0, d1, d2, d3, d4, d5⟩ := hC4
      go_wp2_with fail
      refine (rule18 s0 s1 s2 s4 s6 b5 b7 b8 b9 x23 n n T _ HN.out (by omega) (S23.out.later B4.out)).mono ?_
      rintro e w5 ⟨rfl, hb5⟩
      have B5 : Hid (Below w2.heap.size w2 w5) := B4.out.trans (hb5.mono B4.out.size)
      have hC5 := HC4.out.later hb5
      have HC5 : Hid (Cum w5 w2.heap.size s0 s1 s2 x23 n n s4 b5) := hC5
      have S5 : Hid (Src w5 x3 T) := S3'.out.later B5.out
      obtain ⟨kk, hk⟩ : ∃ k, k = rule s1 T s6 b7 b8 b9 := ⟨_, rfl⟩
      rw [← hk]
      have HK : Hid (kk = rule s1 T s6 b7 b8 b9) := hk
      have hk4 : kk ≤ 4 := by rw [hk]; exact rule_le _ _ _ _ _ _
      clear hb5 B4 HC4 d0 d1 d2 d3 d4 d5 hk hC5
      go_upto_block 2 with fail
      go_cut [] from 136 to 166 (fun wx => wx = w5)
      case first =>
        rcases kk with _ | _ | _ | _ | _ | kk
        · rw [show word 0 = kNone from rfl]
          go_wp2
          go_meet
          case rel => rfl
        · obtain rfl := rule_1 HK.out.symm
          rw [show word (0 + 1) = kParty from rfl]
          go_wp2
          go_meet
          case rel => rfl
        · obtain ⟨g1, rfl⟩ := rule_2 HK.out.symm
          rw [show word (0 + 1 + 1) = kCategory from rfl]
          go_wp2
          go_meet
          case rel => rfl
        · obtain ⟨g1, rfl⟩ := rule_3 HK.out.symm
          rw [show word (0 + 1 + 1 + 1) = kSubject from rfl]
          go_wp2
          go_meet
          case rel => rfl
        · obtain ⟨rfl, g1⟩ := rule_4 HK.out.symm
          rw [show word (0 + 1 + 1 + 1 + 1) = kBy from rfl]
          go_wp2_with fail
          refine (has13 x3 n n T s6 w5 HN.out (by omega) S5.out).mono ?_
          rintro e w6 ⟨rfl, hw⟩
          rw [hw, g1]; clear hw
          go_wp2
          go_meet
          case rel => rfl
        · omega
      case rest =>
        rw [hcut]; clear hcut
        have HNE : Hid (kk ≠ 0 → (word kk).toList.isEmpty = false) := fun h0 => word_ne h0 hk4
        go_upto_if 168 with fail
        go_cut [27, 28, 29, 30] from 168 to 197 (fun _ _ _ _ wx => Below w5.heap.size w5 wx)
        case first =>
          by_cases h0 : kk = 0
          · subst h0
            have hz : (word 0).toList.isEmpty = true := by rw [show word 0 = kNone from rfl, ByteArray.toList_eq]; rfl
            rw [hz, Bool.not_true]
            go_wp2
            go_meet
            case rel => exact Below.refl _ _
          · have hz := HNE.out h0
            have HR : Hid (rule s1 T s6 b7 b8 b9 ≠ 0) := by rw [← HK.out]; exact h0
            rw [hz, Bool.not_false]
            go_wp2
            go_loopw [27] (fun i wr => ∃ j : Nat, j ≤ 8 ∧ i = .int .i64 j ∧ Below w5.heap.size w5 wr) (fun i _ => 8 - (intOf i).toNat)
            case atStart => exact ⟨0, by omega, rfl, Below.refl _ _⟩
            case round =>
              obtain ⟨j, hj, rfl, hb⟩ := hrel
              have HQ : Hid (Below w5.heap.size w5 wr) := hb
              clear hb
              by_cases hlt : j < 8
              · obtain ⟨d0, d1, d2, d3, d4, d5⟩ := HC5.out.later HQ.out
                obtain ⟨x, hx⟩ : ∃ x, (bits .and .i64 (j : Int) 1 != 0) = x := ⟨_, rfl⟩
                obtain ⟨y, hy⟩ : ∃ y, (bits .and .i64 (j : Int) 2 != 0) = y := ⟨_, rfl⟩
                obtain ⟨z, hz⟩ : ∃ z, (bits .and .i64 (j : Int) 4 != 0) = z := ⟨_, rfl⟩
                cases b7 <;> cases b8 <;> cases b9
                · go_wp2_with fail
                  refine (rule18 s0 s1 s2 s4 s6 b5 x y z x23 n n T _ HN.out (by omega) (S23.out.later (B5.out.trans (HQ.out.mono B5.out.size)))).mono ?_
                  rintro e w6 ⟨rfl, hb6⟩
                  have HB6 : Hid (Below w5.heap.size w5 w6) := HQ.out.trans (hb6.mono HQ.out.size)
                  have hne : (word (rule s1 T s6 x y z)).toList.isEmpty = false := word_ne (rule_mono (p := false) (q := false) (r := false) x y z HR.out) (rule_le _ _ _ _ _ _)
                  clear hb6 d0 d1 d2 d3 d4 d5
                  go_wp2
                  go_roundw
                  case rel => exact ⟨j + 1, by omega, by go_num, HB6.out⟩
                  case measure => simp [intOf]; omega
                · go_wp2_with fail
                  refine (rule18 s0 s1 s2 s4 s6 b5 x y true x23 n n T _ HN.out (by omega) (S23.out.later (B5.out.trans (HQ.out.mono B5.out.size)))).mono ?_
                  rintro e w6 ⟨rfl, hb6⟩
                  have HB6 : Hid (Below w5.heap.size w5 w6) := HQ.out.trans (hb6.mono HQ.out.size)
                  have hne : (word (rule s1 T s6 x y true)).toList.isEmpty = false := word_ne (rule_mono (p := false) (q := false) (r := true) x y z HR.out) (rule_le _ _ _ _ _ _)
                  clear hb6 d0 d1 d2 d3 d4 d5
                  go_wp2
                  go_roundw
                  case rel => exact ⟨j + 1, by omega, by go_num, HB6.out⟩
                  case measure => simp [intOf]; omega
                · go_wp2_with fail
                  refine (rule18 s0 s1 s2 s4 s6 b5 x true z x23 n n T _ HN.out (by omega) (S23.out.later (B5.out.trans (HQ.out.mono B5.out.size)))).mono ?_
                  rintro e w6 ⟨rfl, hb6⟩
                  have HB6 : Hid (Below w5.heap.size w5 w6) := HQ.out.trans (hb6.mono HQ.out.size)
                  have hne : (word (rule s1 T s6 x true z)).toList.isEmpty = false := word_ne (rule_mono (p := false) (q := true) (r := false) x y z HR.out) (rule_le _ _ _ _ _ _)
                  clear hb6 d0 d1 d2 d3 d4 d5
                  go_wp2
                  go_roundw
                  case rel => exact ⟨j + 1, by omega, by go_num, HB6.out⟩
                  case measure => simp [intOf]; omega
                · go_wp2_with fail
                  refine (rule18 s0 s1 s2 s4 s6 b5 x true true x23 n n T _ HN.out (by omega) (S23.out.later (B5.out.trans (HQ.out.mono B5.out.size)))).mono ?_
                  rintro e w6 ⟨rfl, hb6⟩
                  have HB6 : Hid (Below w5.heap.size w5 w6) := HQ.out.trans (hb6.mono HQ.out.size)
                  have hne : (word (rule s1 T s6 x true true)).toList.isEmpty = false := word_ne (rule_mono (p := false) (q := true) (r := true) x y z HR.out) (rule_le _ _ _ _ _ _)
                  clear hb6 d0 d1 d2 d3 d4 d5
                  go_wp2
                  go_roundw
                  case rel => exact ⟨j + 1, by omega, by go_num, HB6.out⟩
                  case measure => simp [intOf]; omega
                · go_wp2_with fail
                  refine (rule18 s0 s1 s2 s4 s6 b5 true y z x23 n n T _ HN.out (by omega) (S23.out.later (B5.out.trans (HQ.out.mono B5.out.size)))).mono ?_
                  rintro e w6 ⟨rfl, hb6⟩
                  have HB6 : Hid (Below w5.heap.size w5 w6) := HQ.out.trans (hb6.mono HQ.out.size)
                  have hne : (word (rule s1 T s6 true y z)).toList.isEmpty = false := word_ne (rule_mono (p := true) (q := false) (r := false) x y z HR.out) (rule_le _ _ _ _ _ _)
                  clear hb6 d0 d1 d2 d3 d4 d5
                  go_wp2
                  go_roundw
                  case rel => exact ⟨j + 1, by omega, by go_num, HB6.out⟩
                  case measure => simp [intOf]; omega
                · go_wp2_with fail
                  refine (rule18 s0 s1 s2 s4 s6 b5 true y true x23 n n T _ HN.out (by omega) (S23.out.later (B5.out.trans (HQ.out.mono B5.out.size)))).mono ?_
                  rintro e w6 ⟨rfl, hb6⟩
                  have HB6 : Hid (Below w5.heap.size w5 w6) := HQ.out.trans (hb6.mono HQ.out.size)
                  have hne : (word (rule s1 T s6 true y true)).toList.isEmpty = false := word_ne (rule_mono (p := true) (q := false) (r := true) x y z HR.out) (rule_le _ _ _ _ _ _)
                  clear hb6 d0 d1 d2 d3 d4 d5
                  go_wp2
                  go_roundw
                  case rel => exact ⟨j + 1, by omega, by go_num, HB6.out⟩
                  case measure => simp [intOf]; omega
                · go_wp2_with fail
                  refine (rule18 s0 s1 s2 s4 s6 b5 true true z x23 n n T _ HN.out (by omega) (S23.out.later (B5.out.trans (HQ.out.mono B5.out.size)))).mono ?_
                  rintro e w6 ⟨rfl, hb6⟩
                  have HB6 : Hid (Below w5.heap.size w5 w6) := HQ.out.trans (hb6.mono HQ.out.size)
                  have hne : (word (rule s1 T s6 true true z)).toList.isEmpty = false := word_ne (rule_mono (p := true) (q := true) (r := false) x y z HR.out) (rule_le _ _ _ _ _ _)
                  clear hb6 d0 d1 d2 d3 d4 d5
                  go_wp2
                  go_roundw
                  case rel => exact ⟨j + 1, by omega, by go_num, HB6.out⟩
                  case measure => simp [intOf]; omega
                · go_wp2_with fail
                  refine (rule18 s0 s1 s2 s4 s6 b5 true true true x23 n n T _ HN.out (by omega) (S23.out.later (B5.out.trans (HQ.out.mono B5.out.size)))).mono ?_
                  rintro e w6 ⟨rfl, hb6⟩
                  have HB6 : Hid (Below w5.heap.size w5 w6) := HQ.out.trans (hb6.mono HQ.out.size)
                  have hne : (word (rule s1 T s6 true true true)).toList.isEmpty = false := word_ne (rule_mono (p := true) (q := true) (r := true) x y z HR.out) (rule_le _ _ _ _ _ _)
                  clear hb6 d0 d1 d2 d3 d4 d5
                  go_wp2
                  go_roundw
                  case rel => exact ⟨j + 1, by omega, by go_num, HB6.out⟩
                  case measure => simp [intOf]; omega
              · go_wp2
                go_meet
                case rel => exact HQ.out
        case rest =>
          have B6 : Hid (Below w2.heap.size w2 wc) := B5.out.trans (hcut.mono B5.out.size)
          have S6 : Hid (Src wc x3 T) := S3'.out.later B6.out
          clear hcut HC5 S5 HNE
          go_wp2_with fail
          refine (cats17 x3 n n T wc HN.out N3.out (by omega) S6.out).mono ?_
          rintro e w6 ⟨x200, _, rfl, hb6, s200⟩
          rw [HN.out]
          have B7 : Hid (Below w2.heap.size w2 w6) := B6.out.trans (hb6.mono B6.out.size)
          have S7 : Hid (Src w6 x3 T ∧ Src w6 x200 T) := ⟨S6.out.later hb6, s200⟩
          clear hb6 s200 B6 S6
          have BA : Hid (∀ W, W = w6.alloc (.cells #[.string kNone, .string s1, .string kNone, .slice x200 n n, .string kNone, .bool false] 39) → Below w6.heap.size w6 W) :=
            fun W e => by rw [e]; exact (Below.refl _ _).alloc (Nat.le_refl _) _
          go_wp2_with fail
          refine (rule18 kNone s1 kNone kNone s6 false b7 b8 b9 x200 n n T _ HN.out (by omega) (S7.out.2.later (BA.out _ rfl))).mono ?_
          rintro e w7 ⟨rfl, hb7⟩
          rw [← HK.out]
          have B8 : Hid (Below w6.heap.size w6 w7) := (BA.out _ rfl).trans (hb7.mono (BA.out _ rfl).size)
          have S8 : Hid (Src w7 x3 T) := S7.out.1.later B8.out
          have B9 : Hid (Below w.heap.size w w7) := B2.out.trans ((B7.out.trans (B8.out.mono B7.out.size)).mono B2.out.size)
          clear hb7 BA S7 B7 B8
          have hmk := fun W => run_make_row' (P := Try.prog) 34 36 (.string ByteArray.empty) 16 Try.underlying34 Try.info36 rfl .i64 .i64 (n + 1) (by omega) (by omega) W
          simp only [Int.natCast_add, Int.cast_ofNat_Int] at hmk
          go_wp2
          clear hmk
          go_loopw [33] (fun i wr => ∃ j : Nat, j ≤ n ∧ i = .int .i64 j ∧ Below w7.heap.size w7 wr ∧ Row wr w7.heap.size 36 (n + 1) T j) (fun i _ => n - (intOf i).toNat)
          case atStart => exact ⟨0, Nat.zero_le _, rfl, (Below.refl _ _).alloc (Nat.le_refl _) _, Row.made w7 36 (n + 1) T⟩
          case round =>
            obtain ⟨j, hj, rfl, hb, hR⟩ := hrel
            have HQ : Hid (Below w7.heap.size w7 wr ∧ Row wr w7.heap.size 36 (n + 1) T j) := ⟨hb, hR⟩
            obtain ⟨v, hv⟩ := hR.full (show j < n + 1 by omega)
            have hf := hR.free j
            clear hR
            by_cases hlt : j < n
            · rcases S8.out.later hb with hT | ⟨b', o', rfl, hc⟩
              · have := HN.out; rw [hT] at this; simp at this; omega
              have cj := hc j (by have := HN.out; omega)
              clear hc hb
              go_wp2
              go_roundw
              case rel => exact ⟨j + 1, by omega, by go_num, HQ.out.1.setCell (Nat.le_refl _) _, HQ.out.2.step (by omega)⟩
              case measure => simp [intOf]; omega
            · obtain rfl : j = n := by omega
              clear hb
              have SL : Hid (Src (wr.setCell ⟨w7.heap.size, j, none⟩ (.string s6)) (some ⟨w7.heap.size, 0, none⟩) (T ++ [s6]) ∧ Below w7.heap.size w7 (wr.setCell ⟨w7.heap.size, j, none⟩ (.string s6))) :=
                ⟨HQ.out.2.last HN.out s6, HQ.out.1.setCell (Nat.le_refl _) _⟩
              have BA : Hid (∀ W, W = (wr.setCell ⟨w7.heap.size, j, none⟩ (.string s6)).alloc (.cells #[.string s0, .string s1, .string s2, .slice (some ⟨w7.heap.size, 0, none⟩) (j + 1) (j + 1), .string s4, .bool b5] 39) → Src W (some ⟨w7.heap.size, 0, none⟩) (T ++ [s6]) ∧ Below w7.heap.size w7 W) :=
                fun W e => by
                  rw [e]
                  have hb := (Below.refl (wr.setCell ⟨w7.heap.size, j, none⟩ (.string s6)).heap.size (wr.setCell ⟨w7.heap.size, j, none⟩ (.string s6))).alloc (Nat.le_refl _) (.cells #[.string s0, .string s1, .string s2, .slice (some ⟨w7.heap.size, 0, none⟩) (j + 1) (j + 1), .string s4, .bool b5] 39)
                  exact ⟨SL.out.1.later hb, SL.out.2.trans (hb.mono SL.out.2.size)⟩
              go_wp2_with fail
              refine (rule18 s0 s1 s2 s4 s6 b5 b7 b8 b9 (some ⟨w7.heap.size, 0, none⟩) (j + 1) (j + 1) (T ++ [s6]) _ (by simp [HN.out]) (by omega) (BA.out _ rfl).1).mono ?_
              rintro e w8 ⟨rfl, hb8⟩
              have BZ : Hid (Below w.heap.size w w8) := B9.out.trans (((BA.out _ rfl).2.trans (hb8.mono (BA.out _ rfl).2.size)).mono B9.out.size)
              obtain ⟨k2, hk2⟩ : ∃ k, k = rule s1 (T ++ [s6]) s6 b7 b8 b9 := ⟨_, rfl⟩
              rw [← hk2]
              have HK2 : Hid (k2 = rule s1 (T ++ [s6]) s6 b7 b8 b9 ∧ k2 ≤ 4) := ⟨hk2, by rw [hk2]; exact rule_le _ _ _ _ _ _⟩
              clear hk2 hb8 BA SL hv hf
              by_cases h0 : kk = 0
              · subst h0
                have hz : (word 0).toList.isEmpty = true := by rw [show word 0 = kNone from rfl, ByteArray.toList_eq]; rfl
                cases b8
                · go_wp2
                  go_ret
                  exact ⟨rfl, BZ.out⟩
                · have hz2 : (word k2).toList.isEmpty = false := word_ne (by rw [HK2.out.1]; exact rule_q) HK2.out.2
                  go_wp2
                  go_ret
                  exact ⟨rfl, BZ.out⟩
              · have hz : (word kk).toList.isEmpty = false := word_ne h0 hk4
                have hz2 : (word k2).toList.isEmpty = false := word_ne (by rw [HK2.out.1]; exact rule_grow (by rw [← HK.out]; exact h0)) HK2.out.2
                cases b8
                · go_wp2
                  go_ret
                  exact ⟨rfl, BZ.out⟩
                · go_wp2
                  go_ret
                  exact ⟨rfl, BZ.out⟩
end Go.Proofs.Qxb6605157a
