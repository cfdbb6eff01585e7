/- (*Surface).version (18), ZZVersion (13), zzFindPair (14). -/
import Derived.Test.Qxb6603992aFind
namespace Go.Proofs.Qxb6603992a
open Go.RowKit

/-- The versions of group gi. -/
def VersAt (w : World) (a : Option Addr) (gi : Nat) (av : Option Addr) (nv cv : Nat) : Prop := ∃ b o, a = some ⟨b, o, none⟩ ∧ w.cell? ⟨b, o + gi * 2 + 1, none⟩ = some (.slice av nv cv)
theorem VersAt.one {w : World} {a : Option Addr} {gi : Nat} {av av' : Option Addr} {nv cv nv' cv' : Nat} (h : VersAt w a gi av nv cv) (k : VersAt w a gi av' nv' cv') : av = av' ∧ nv = nv' := by
  obtain ⟨b, o, rfl, x⟩ := h
  obtain ⟨b', o', e, y⟩ := k
  injection e with e; injection e with e1 e2; subst e1 e2
  rw [x] at y; injection y with y; injection y with y1 y2; exact ⟨y1, y2⟩

/-- There is no such pair; or this is the first of the first. -/
def NoPair (w : World) (a : Option Addr) (n : Nat) (g v : ByteArray) : Prop :=
  NoneAt (Named w a 2 g) n ∨ ∃ gi av nv cv, FirstAt (Named w a 2 g) n gi ∧ VersAt w a gi av nv cv ∧ NoneAt (Named w av 3 v) nv
def Pair (w : World) (a : Option Addr) (n : Nat) (g v : ByteArray) (gi vi : Nat) (av : Option Addr) (nv cv : Nat) : Prop :=
  FirstAt (Named w a 2 g) n gi ∧ VersAt w a gi av nv cv ∧ FirstAt (Named w av 3 v) nv vi
theorem Pair.no {w : World} {a : Option Addr} {n : Nat} {g v : ByteArray} {gi vi : Nat} {av : Option Addr} {nv cv : Nat} (h : Pair w a n g v gi vi av nv cv) (k : NoPair w a n g v) : False := by
  obtain ⟨h1, h2, h3⟩ := h
  rcases k with k | ⟨gi', av', nv', cv', k1, k2, k3⟩
  · exact h1.some k
  · have := h1.one k1; subst this
    obtain ⟨rfl, rfl⟩ := h2.one k2
    exact h3.some k3
theorem Pair.one {w : World} {a : Option Addr} {n : Nat} {g v : ByteArray} {gi vi gi' vi' : Nat} {av av' : Option Addr} {nv cv nv' cv' : Nat} (h : Pair w a n g v gi vi av nv cv) (k : Pair w a n g v gi' vi' av' nv' cv') : gi = gi' ∧ vi = vi' ∧ av = av' := by
  obtain ⟨h1, h2, h3⟩ := h
  obtain ⟨k1, k2, k3⟩ := k
  have := h1.one k1; subst this
  obtain ⟨rfl, rfl⟩ := h2.one k2
  exact ⟨rfl, h3.one k3, rfl⟩

def GivesVer (w : World) (a : Option Addr) (n : Nat) (g v : ByteArray) (e : Ending) (w' : World) : Prop :=
  w' = w ∧ ((e = .returned (.pointer none) ∧ NoPair w a n g v) ∨ ∃ gi vi av nv cv b o, Pair w a n g v gi vi av nv cv ∧ av = some ⟨b, o, none⟩ ∧ e = .returned (.pointer (some ⟨b, o + vi * 3, none⟩)))

set_option maxRecDepth 100000 in
set_option maxHeartbeats 1000000 in
theorem version_any (B O : Nat) (a : Option Addr) (n c : Nat) (g v : ByteArray) (w : World) (h : WGrps w a n) (hs : w.cell? ⟨B, O, none⟩ = some (.slice a n c)) :
    Calls Try.prog 18 #[.pointer (some ⟨B, O, none⟩), .string g, .string v] w (GivesVer w a n g v) := by
  go_enter Try.func18, Try.ntmps18
  go_wp2_with fail
  refine (group_any B O a n c g w h hs).mono ?_
  rintro e w1 ⟨hw, ⟨rfl, hN⟩ | ⟨gi, b, o, rfl, rfl, hF⟩⟩
  · rw [hw]; clear hw hs
    have HN : Hid (NoneAt (Named w a 2 g) n) := hN
    clear hN h
    go_wp2
    go_ret
    exact ⟨rfl, .inl ⟨rfl, .inl HN.out⟩⟩
  · rw [hw]; clear hw hs
    obtain ⟨hn, h⟩ := h
    rcases h with rfl | ⟨b', o', e, hc⟩
    · exact absurd hF.1 (Nat.not_lt_zero _)
    injection e with e; injection e with e1 e2; subst e1 e2
    obtain ⟨⟨s, hs0⟩, av, nv, cv, hs1, hV⟩ := hc gi hF.1
    have HF : Hid (FirstAt (Named w (some ⟨b, o, none⟩) 2 g) n gi ∧ VersAt w (some ⟨b, o, none⟩) gi av nv cv) := ⟨hF, b, o, rfl, hs1⟩
    clear hc hF
    obtain ⟨hnv, hV⟩ := hV
    go_wp2
    go_loop [19] (fun i => ∃ k : Nat, k ≤ nv ∧ i = .int .i64 k ∧ ∀ j, j < k → ¬ Named w av 3 v j) (fun i => nv - (intOf i).toNat)
    case atStart => exact ⟨0, Nat.zero_le _, rfl, fun j hj => absurd hj (Nat.not_lt_zero _)⟩
    case round =>
      obtain ⟨k, hk, rfl, hN⟩ := hrel
      have HN : Hid (∀ j, j < k → ¬ Named w av 3 v j) := hN
      clear hN
      by_cases hlt : k < nv
      · rcases hV with rfl | ⟨b', o', rfl, _, hc⟩
        · omega
        obtain ⟨⟨t, ht0⟩, _, _⟩ := hc k hlt
        have HS : Hid (Named w (some ⟨b', o', none⟩) 3 v k ↔ t = v) := named_iff (nm := v) ht0
        clear hc
        by_cases e : t = v
        · have HM : Hid (Named w (some ⟨b', o', none⟩) 3 v k) := HS.out.2 e
          clear HS
          subst e
          go_wp2
          go_ret
          exact ⟨rfl, .inr ⟨gi, k, _, nv, cv, b', o', ⟨HF.out.1, HF.out.2, hlt, HM.out, HN.out⟩, rfl, rfl⟩⟩
        · have HM : Hid (¬ Named w (some ⟨b', o', none⟩) 3 v k) := fun x => e (HS.out.1 x)
          have he := ne_str e
          clear HS e
          go_wp2
          go_round
          case rel => exact ⟨k + 1, by omega, by go_num, next_not HN.out HM.out⟩
          case measure => simp [intOf]; omega
      · clear hV
        go_wp2
        go_ret
        exact ⟨rfl, .inl ⟨rfl, .inr ⟨gi, av, nv, cv, HF.out.1, HF.out.2, fun i hi => HN.out i (by omega)⟩⟩⟩

set_option maxRecDepth 100000 in
set_option maxHeartbeats 1000000 in
theorem zzVersion_any (B O : Nat) (a : Option Addr) (n c : Nat) (g v : ByteArray) (w : World) (h : WGrps w a n) (hs : w.cell? ⟨B, O, none⟩ = some (.slice a n c)) :
    Calls Try.prog 13 #[.pointer (some ⟨B, O, none⟩), .string g, .string v] w (GivesVer w a n g v) := by
  go_enter Try.func13, Try.ntmps13
  go_wp2_with fail
  refine (version_any B O a n c g v w h hs).mono ?_
  rintro e w1 ⟨hw, ⟨rfl, hN⟩ | ⟨gi, vi, av, nv, cv, b, o, hP, rfl, rfl⟩⟩
  · rw [hw]; clear hw hs h
    have HN : Hid (NoPair w a n g v) := hN
    clear hN
    go_wp2
    go_ret
    exact ⟨rfl, .inl ⟨rfl, HN.out⟩⟩
  · rw [hw]; clear hw hs h
    have HN : Hid (Pair w a n g v gi vi (some ⟨b, o, none⟩) nv cv) := hP
    clear hP
    go_wp2
    go_ret
    exact ⟨rfl, .inr ⟨gi, vi, _, nv, cv, b, o, HN.out, rfl, rfl⟩⟩

def GivesPair (w : World) (a : Option Addr) (n : Nat) (g v : ByteArray) (e : Ending) (w' : World) : Prop :=
  w' = w ∧ ∃ x y : Int, e = .returned (.tuple #[.int .i64 x, .int .i64 y]) ∧ ((y = -1 ∧ NoPair w a n g v) ∨ ∃ (gi vi : Nat) (av : Option Addr) (nv cv : Nat), x = gi ∧ y = vi ∧ Pair w a n g v gi vi av nv cv)

set_option maxRecDepth 100000 in
set_option maxHeartbeats 1000000 in
theorem findPair_any (a : Option Addr) (n c : Nat) (g v : ByteArray) (w : World) (h : WGrps w a n) :
    Calls Try.prog 14 #[.slice a n c, .string g, .string v] w (GivesPair w a n g v) := by
  go_enter Try.func14, Try.ntmps14
  go_wp2_with fail
  refine (firstGroup_any a n c g w h).mono ?_
  rintro e w1 ⟨hw, r, rfl, ⟨rfl, hN⟩ | ⟨gi, rfl, hF⟩⟩
  · rw [hw]; clear hw
    have HN : Hid (NoneAt (Named w a 2 g) n) := hN
    clear hN h
    go_wp2
    go_ret2
    exact ⟨rfl, -1, -1, rfl, .inl ⟨rfl, .inl HN.out⟩⟩
  · rw [hw]; clear hw
    obtain ⟨hn, h⟩ := h
    rcases h with rfl | ⟨b, o, rfl, hc⟩
    · exact absurd hF.1 (Nat.not_lt_zero _)
    obtain ⟨⟨s, hs0⟩, av, nv, cv, hs1, hV⟩ := hc gi hF.1
    have HF : Hid (FirstAt (Named w (some ⟨b, o, none⟩) 2 g) n gi ∧ VersAt w (some ⟨b, o, none⟩) gi av nv cv) := ⟨hF, b, o, rfl, hs1⟩
    have hlt : gi < n := hF.1
    clear hc hF
    go_wp2_with fail
    refine (firstVersion_any av nv cv v w hV).mono ?_
    rintro e w2 ⟨hw, r, rfl, ⟨rfl, hN⟩ | ⟨vi, rfl, hG⟩⟩
    · rw [hw]; clear hw
      have HN : Hid (NoneAt (Named w av 3 v) nv) := hN
      clear hN hV
      go_wp2
      go_ret2
      exact ⟨rfl, gi, -1, rfl, .inl ⟨rfl, .inr ⟨gi, av, nv, cv, HF.out.1, HF.out.2, HN.out⟩⟩⟩
    · rw [hw]; clear hw
      have HN : Hid (FirstAt (Named w av 3 v) nv vi) := hG
      clear hG hV
      go_wp2
      go_ret2
      exact ⟨rfl, gi, vi, rfl, .inr ⟨gi, vi, av, nv, cv, rfl, rfl, HF.out.1, HF.out.2, HN.out⟩⟩
end Go.Proofs.Qxb6603992a
