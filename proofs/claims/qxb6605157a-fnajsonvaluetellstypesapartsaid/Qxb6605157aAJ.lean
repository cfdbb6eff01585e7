/- FnAJSONValueTellsTypesApart: the plain law on phrases, the contracts of aJSONValue (19), ZZaJSONValue (7), zzBytes_.. (6), and the walk of the law (3). -/
import Derived.Test.Qxb6605157aRows
import Derived.WalkKit
import Derived.WalkSpells
namespace Go.Proofs.Qxb6605157a.AJ
open Go.RowKit

/-! ### The plain law -/
abbrev nullL : List UInt8 := [110, 117, 108, 108]
abbrev boolL : List UInt8 := [98, 111, 111, 108]
abbrev booleanL : List UInt8 := [98, 111, 111, 108, 101, 97, 110]
abbrev objectL : List UInt8 := [111, 98, 106, 101, 99, 116]
abbrev arrayL : List UInt8 := [97, 114, 114, 97, 121]

def phrase (l : List UInt8) : List UInt8 :=
  if l = nullL then l else if l = boolL then [97, 32] ++ booleanL else if l = objectL ∨ l = arrayL then [97, 110, 32] ++ l else [97, 32] ++ l

theorem phrase_null (l : List UInt8) : (phrase l == l) = (l == nullL) := by
  by_cases h : l = nullL
  · subst h; rfl
  · have h1 : (l == nullL) = false := by simpa using h
    rw [h1, beq_eq_false_iff_ne]
    unfold phrase
    rw [if_neg h]
    by_cases h2 : l = boolL
    · subst h2; decide
    · rw [if_neg h2]
      split
      · intro e; have := congrArg List.length e; simp at this; omega
      · intro e; have := congrArg List.length e; simp at this; omega

theorem phrase_apart (l m : List UInt8) (hne : l ≠ m) (h1 : ¬ (l = boolL ∧ m = booleanL)) (h2 : ¬ (l = booleanL ∧ m = boolL)) : phrase l ≠ phrase m := by
  unfold phrase
  intro e
  by_cases a1 : l = nullL
  · rw [if_pos a1, a1] at e
    by_cases b1 : m = nullL
    · exact hne (a1.trans b1.symm)
    · rw [if_neg b1] at e
      split at e
      · simp at e
      · split at e <;> simp at e
  · rw [if_neg a1] at e
    by_cases b1 : m = nullL
    · rw [if_pos b1, b1] at e
      split at e
      · simp at e
      · split at e <;> simp at e
    · rw [if_neg b1] at e
      by_cases a2 : l = boolL
      · rw [if_pos a2] at e
        by_cases b2 : m = boolL
        · exact hne (a2.trans b2.symm)
        · rw [if_neg b2] at e
          split at e
          · simp at e
          · exact h1 ⟨a2, (List.append_cancel_left e).symm⟩
      · rw [if_neg a2] at e
        by_cases b2 : m = boolL
        · rw [if_pos b2] at e
          split at e
          · simp at e
          · exact h2 ⟨List.append_cancel_left e, b2⟩
        · rw [if_neg b2] at e
          split at e
          · split at e
            · exact hne (List.append_cancel_left e)
            · simp at e
          · split at e
            · simp at e
            · exact hne (List.append_cancel_left e)

/-! ### The callees -/
theorem cat_toList (x : List UInt8) (s : ByteArray) : ((⟨x.toArray⟩ : ByteArray) ++ s).toList = x ++ s.toList := by
  rw [ByteArray.toList_eq, ByteArray.toList_eq]
  simp

def GivesPhrase (s : ByteArray) (w : World) (e : Ending) (w' : World) : Prop := ∃ t : ByteArray, e = .returned (.string t) ∧ w' = w ∧ t.toList = phrase s.toList

set_option maxHeartbeats 400000 in
theorem phrase_any (s : ByteArray) (w : World) (hs : s.size ≤ 65536) : Calls Try.prog 19 #[.string s] w (GivesPhrase s w) := by
  by_cases h1 : s.toList = nullL
  · have H : Hid (s.toList = phrase s.toList) := by unfold phrase; rw [if_pos h1]; exact rfl
    have hb : (s.toList == nullL) = true := by simpa using h1
    clear h1
    go_enter Try.func19, Try.ntmps19
    go_wp2
    go_ret
    exact ⟨_, rfl, rfl, H.out⟩
  have hb1 : (s.toList == nullL) = false := by simpa using h1
  by_cases h2 : s.toList = boolL
  · have H : Hid ((⟨#[97, 32, 98, 111, 111, 108, 101, 97, 110]⟩ : ByteArray).toList = phrase s.toList) := by unfold phrase; rw [if_neg h1, if_pos h2]; exact ByteArray.toList_eq _
    have hb2 : (s.toList == boolL) = true := by simpa using h2
    clear h1 h2
    go_enter Try.func19, Try.ntmps19
    go_wp2
    go_ret
    exact ⟨_, rfl, rfl, H.out⟩
  have hb2 : (s.toList == boolL) = false := by simpa using h2
  by_cases h3 : s.toList = objectL
  · have H : Hid (((⟨#[97, 110, 32]⟩ : ByteArray) ++ s).toList = phrase s.toList) := by unfold phrase; rw [if_neg h1, if_neg h2, if_pos (Or.inl h3)]; exact cat_toList _ _
    have hb3 : (s.toList == objectL) = true := by simpa using h3
    clear h1 h2 h3
    go_enter Try.func19, Try.ntmps19
    go_wp2
    go_ret
    exact ⟨_, rfl, rfl, H.out⟩
  have hb3 : (s.toList == objectL) = false := by simpa using h3
  by_cases h4 : s.toList = arrayL
  · have H : Hid (((⟨#[97, 110, 32]⟩ : ByteArray) ++ s).toList = phrase s.toList) := by unfold phrase; rw [if_neg h1, if_neg h2, if_pos (Or.inr h4)]; exact cat_toList _ _
    have hb4 : (s.toList == arrayL) = true := by simpa using h4
    clear h1 h2 h3 h4
    go_enter Try.func19, Try.ntmps19
    go_wp2
    go_ret
    exact ⟨_, rfl, rfl, H.out⟩
  have hb4 : (s.toList == arrayL) = false := by simpa using h4
  have H : Hid (((⟨#[97, 32]⟩ : ByteArray) ++ s).toList = phrase s.toList) := by unfold phrase; rw [if_neg h1, if_neg h2, if_neg (fun h => h.elim h3 h4)]; exact cat_toList _ _
  clear h1 h2 h3 h4
  go_enter Try.func19, Try.ntmps19
  go_wp2
  go_ret
  exact ⟨_, rfl, rfl, H.out⟩

set_option maxHeartbeats 400000 in
theorem zzPhrase_any (s : ByteArray) (w : World) (hs : s.size ≤ 65536) : Calls Try.prog 7 #[.string s] w (GivesPhrase s w) := by
  go_enter Try.func7, Try.ntmps7
  go_wp2_with fail
  refine (phrase_any s w hs).mono ?_
  rintro e w1 ⟨t, rfl, hw, ht⟩
  rw [hw]; clear hw
  have H : Hid (t.toList = phrase s.toList) := ht
  clear ht
  go_wp2
  go_ret
  exact ⟨_, rfl, rfl, H.out⟩

def GivesBool (w : World) (e : Ending) (w' : World) : Prop := ∃ b : Bool, e = .returned (.bool b) ∧ w' = w

set_option maxHeartbeats 400000 in
theorem bytes_any (a b : ByteArray) (w : World) : Calls Try.prog 6 #[.string a, .string b] w (GivesBool w) := by
  by_cases h1 : 1048576 < (a.size : Int)
  · go_enter Try.func6, Try.ntmps6
    go_wp2
    go_ret
    exact ⟨_, rfl, rfl⟩
  by_cases h2 : 1048576 < (b.size : Int)
  · go_enter Try.func6, Try.ntmps6
    go_wp2
    go_ret
    exact ⟨_, rfl, rfl⟩
  by_cases h3 : 1048576 < (a.size : Int) + b.size
  · go_enter Try.func6, Try.ntmps6
    go_wp2
    go_ret
    exact ⟨_, rfl, rfl⟩
  · go_enter Try.func6, Try.ntmps6
    go_wp2
    go_ret
    exact ⟨_, rfl, rfl⟩

theorem eq_of_toList {s t : ByteArray} (h : s.toList = t.toList) : s = t := by
  rw [ByteArray.toList_eq, ByteArray.toList_eq] at h
  obtain ⟨s⟩ := s; obtain ⟨t⟩ := t
  rw [show s = t from Array.toList_inj.1 h]

def True3 (w : World) (e : Ending) (w' : World) : Prop := e = .returned (.bool true) ∧ w' = w

set_option maxHeartbeats 1000000 in
theorem walk3 (a b : ByteArray) (w : World) : Calls Try.prog 3 #[.string a, .string b] w (True3 w) := by
  go_enter Try.func3, Try.ntmps3
  go_wp2_with fail
  refine (bytes_any a b w).mono ?_
  rintro e w1 ⟨c, rfl, hw⟩
  rw [hw]; clear hw
  cases c with
  | false =>
    go_wp2
    go_ret
    exact ⟨rfl, rfl⟩
  | true =>
    by_cases ha : 65536 < (a.size : Int)
    · go_wp2
      go_ret
      exact ⟨rfl, rfl⟩
    by_cases hb : 65536 < (b.size : Int)
    · go_wp2
      go_ret
      exact ⟨rfl, rfl⟩
    go_wp2_with fail
    refine (zzPhrase_any a w (by omega)).mono ?_
    rintro e w1 ⟨ga, rfl, hw, hga⟩
    rw [hw]; clear hw
    have HA : Hid (ga.toList = phrase a.toList) := hga
    clear hga
    go_wp2_with fail
    refine (zzPhrase_any b w (by omega)).mono ?_
    rintro e w1 ⟨gb, rfl, hw, hgb⟩
    rw [hw]; clear hw
    have HB : Hid (gb.toList = phrase b.toList) := hgb
    clear hgb
    have e1 : (ga.toList == a.toList) = (a.toList == nullL) := by rw [HA.out]; exact phrase_null _
    have e2 : (gb.toList == b.toList) = (b.toList == nullL) := by rw [HB.out]; exact phrase_null _
    by_cases hab : a.toList = b.toList
    · have e3 : (ga.toList == gb.toList) = true := by rw [HA.out, HB.out, hab]; simp
      have := eq_of_toList hab
      subst this
      clear hab HA HB
      go_wp2
      go_ret
      exact ⟨rfl, rfl⟩
    · have e3 : (a.toList == b.toList) = false := by simpa using hab
      by_cases x1 : a.toList = boolL
      · have f1 : (a.toList == boolL) = true := by simpa using x1
        have f2 : (a.toList == booleanL) = false := by rw [x1]; decide
        by_cases x2 : b.toList = booleanL
        · have f3 : (b.toList == booleanL) = true := by simpa using x2
          have e4 : (ga.toList == gb.toList) = true := by rw [HA.out, HB.out, x1, x2]; decide
          clear hab HA HB x1 x2
          go_wp2
          go_ret
          exact ⟨rfl, rfl⟩
        · have f3 : (b.toList == booleanL) = false := by simpa using x2
          have e4 : (ga.toList == gb.toList) = false := by
            rw [beq_eq_false_iff_ne, HA.out, HB.out]
            exact phrase_apart _ _ hab (fun h => x2 h.2) (fun h => by rw [x1] at h; exact absurd h.1 (by decide))
          clear hab HA HB x1 x2
          go_wp2
          go_ret
          exact ⟨rfl, rfl⟩
      · have f1 : (a.toList == boolL) = false := by simpa using x1
        by_cases x2 : a.toList = booleanL
        · have f2 : (a.toList == booleanL) = true := by simpa using x2
          by_cases x3 : b.toList = boolL
          · have f3 : (b.toList == boolL) = true := by simpa using x3
            have e4 : (ga.toList == gb.toList) = true := by rw [HA.out, HB.out, x2, x3]; decide
            clear hab HA HB x1 x2 x3
            go_wp2
            go_ret
            exact ⟨rfl, rfl⟩
          · have f3 : (b.toList == boolL) = false := by simpa using x3
            have e4 : (ga.toList == gb.toList) = false := by
              rw [beq_eq_false_iff_ne, HA.out, HB.out]
              exact phrase_apart _ _ hab (fun h => x1 h.1) (fun h => x3 h.2)
            clear hab HA HB x1 x2 x3
            go_wp2
            go_ret
            exact ⟨rfl, rfl⟩
        · have f2 : (a.toList == booleanL) = false := by simpa using x2
          have e4 : (ga.toList == gb.toList) = false := by
            rw [beq_eq_false_iff_ne, HA.out, HB.out]
            exact phrase_apart _ _ hab (fun h => x1 h.1) (fun h => x2 h.1)
          clear hab HA HB x1 x2
          go_wp2
          go_ret
          exact ⟨rfl, rfl⟩
end Go.Proofs.Qxb6605157a.AJ
