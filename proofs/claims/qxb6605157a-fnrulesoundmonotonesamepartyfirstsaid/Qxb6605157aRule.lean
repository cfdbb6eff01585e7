/- Cumulation.Rule (18). -/
import Derived.Test.Qxb6605157aStr
namespace Go.Proofs.Qxb6605157a
open Go.RowKit Go.Deep

abbrev kParty : ByteArray := { data := #[115, 97, 109, 101, 45, 112, 97, 114, 116, 121] }
abbrev kCategory : ByteArray := { data := #[115, 97, 109, 101, 45, 99, 97, 116, 101, 103, 111, 114, 121] }
abbrev kSubject : ByteArray := { data := #[115, 97, 109, 101, 45, 115, 117, 98, 106, 101, 99, 116] }
abbrev kBy : ByteArray := { data := #[98, 121, 45, 99, 97, 116, 101, 103, 111, 114, 121] }
abbrev kNone : ByteArray := { data := #[] }
abbrev wCategory : List UInt8 := [99, 97, 116, 101, 103, 111, 114, 121]
abbrev wSubject : List UInt8 := [115, 117, 98, 106, 101, 99, 116]

/-- Which rule: 1 same party, 2 same category, 3 same subject, 4 by category, 0 none. -/
def rule (f : ByteArray) (T : List ByteArray) (s : ByteArray) (p q r : Bool) : Nat :=
  if p then 1 else if (f.toList == wCategory) && q then 2 else if (f.toList == wSubject) && r then 3 else if q && has T s then 4 else 0
def word : Nat → ByteArray
  | 1 => kParty
  | 2 => kCategory
  | 3 => kSubject
  | 4 => kBy
  | _ => kNone

def Ruled (w : World) (k : Nat) (e : Ending) (w' : World) : Prop := e = .returned (.string (word k)) ∧ Below w.heap.size w w'

abbrev cum (f0 f1 f2 : ByteArray) (a : Option Addr) (n c : Nat) (f4 : ByteArray) (f5 : Bool) : Value := .agg #[.string f0, .string f1, .string f2, .slice a n c, .string f4, .bool f5]

set_option maxRecDepth 100000 in
set_option maxHeartbeats 1000000 in
theorem rule18 (f0 f1 f2 f4 s : ByteArray) (f5 p q r : Bool) (a : Option Addr) (n c : Nat) (T : List ByteArray) (w : World) (hn : T.length = n) (h8 : n ≤ 65537) (h : Src w a T) :
    Calls Try.prog 18 #[cum f0 f1 f2 a n c f4 f5, .string s, .bool p, .bool q, .bool r] w (Ruled w (rule f1 T s p q r)) := by
  have HN : Hid (T.length = n ∧ Src w a T) := ⟨hn, h⟩
  clear hn h
  have hB : Hid (∀ W, W = w.alloc (.cells #[.string f0, .string f1, .string f2, .slice a n c, .string f4, .bool f5] 39) → Below w.heap.size w W) := fun W e => by rw [e]; exact (Below.refl _ _).alloc (Nat.le_refl _) _
  cases p
  · cases h1 : (f1.toList == wCategory)
    · cases q
      · cases h2 : (f1.toList == wSubject)
        · go_enter Try.func18, Try.ntmps18
          go_wp2
          go_ret
          exact ⟨by simp [rule, word, h1, h2], hB.out _ rfl⟩
        · cases r
          · go_enter Try.func18, Try.ntmps18
            go_wp2
            go_ret
            exact ⟨by simp [rule, word, h1, h2], hB.out _ rfl⟩
          · go_enter Try.func18, Try.ntmps18
            go_wp2
            go_ret
            exact ⟨by simp [rule, word, h1, h2], hB.out _ rfl⟩
      · cases h2 : (f1.toList == wSubject)
        · go_enter Try.func18, Try.ntmps18
          go_wp2_with fail
          refine (contains21 a n c T s _ HN.out.1 h8 (HN.out.2.later (hB.out _ rfl))).mono ?_
          rintro e w' ⟨rfl, hw⟩
          rw [hw]; clear hw
          cases hh : has T s
          · go_wp2
            go_ret
            exact ⟨by simp [rule, word, h1, h2, hh], hB.out _ rfl⟩
          · go_wp2
            go_ret
            exact ⟨by simp [rule, word, h1, h2, hh], hB.out _ rfl⟩
        · cases r
          · go_enter Try.func18, Try.ntmps18
            go_wp2_with fail
            refine (contains21 a n c T s _ HN.out.1 h8 (HN.out.2.later (hB.out _ rfl))).mono ?_
            rintro e w' ⟨rfl, hw⟩
            rw [hw]; clear hw
            cases hh : has T s
            · go_wp2
              go_ret
              exact ⟨by simp [rule, word, h1, h2, hh], hB.out _ rfl⟩
            · go_wp2
              go_ret
              exact ⟨by simp [rule, word, h1, h2, hh], hB.out _ rfl⟩
          · go_enter Try.func18, Try.ntmps18
            go_wp2
            go_ret
            exact ⟨by simp [rule, word, h1, h2], hB.out _ rfl⟩
    · cases q
      · cases h2 : (f1.toList == wSubject)
        · go_enter Try.func18, Try.ntmps18
          go_wp2
          go_ret
          exact ⟨by simp [rule, word, h1, h2], hB.out _ rfl⟩
        · cases r
          · go_enter Try.func18, Try.ntmps18
            go_wp2
            go_ret
            exact ⟨by simp [rule, word, h1, h2], hB.out _ rfl⟩
          · go_enter Try.func18, Try.ntmps18
            go_wp2
            go_ret
            exact ⟨by simp [rule, word, h1, h2], hB.out _ rfl⟩
      · go_enter Try.func18, Try.ntmps18
        go_wp2
        go_ret
        exact ⟨by simp [rule, word, h1], hB.out _ rfl⟩
  · go_enter Try.func18, Try.ntmps18
    go_wp2
    go_ret
    exact ⟨by simp [rule, word], hB.out _ rfl⟩
end Go.Proofs.Qxb6605157a
