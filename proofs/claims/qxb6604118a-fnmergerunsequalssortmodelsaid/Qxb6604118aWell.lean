/- runsWellFormed (13), zzBytes_.. (12). -/
import Derived.Test.Qxb6604118aHeap2
namespace Go.Proofs.Qxb6604118a
open Go.RowKit Go.Deep Pl

def prv (E : List Int) (k : Nat) : Int := if k = 0 then 0 else gt E (k - 1)
theorem prv_zero (E : List Int) : prv E 0 = 0 := rfl
theorem prv_succ (E : List Int) (k : Nat) : prv E (k + 1) = gt E k := by simp [prv]

/-- The ends cut X into ascending runs. -/
structure Well (X E : List Int) : Prop where
  none : E = [] → X = []
  last : E ≠ [] → gt E (E.length - 1) = X.length
  up : ∀ k, k < E.length → prv E k ≤ gt E k
  run : ∀ k, k < E.length → Srt X (prv E k).toNat (gt E k).toNat

theorem up_nonneg {E : List Int} {m : Nat} (h : ∀ k, k < m → prv E k ≤ gt E k) : ∀ k, k ≤ m → 0 ≤ prv E k := by
  intro k
  induction k with
  | zero => intro _; exact Int.le_refl _
  | succ k ih => intro hk; rw [prv_succ]; exact Int.le_trans (ih (by omega)) (h k (by omega))
theorem up_mono {E : List Int} {m : Nat} (h : ∀ k, k < m → prv E k ≤ gt E k) : ∀ j k, j ≤ k → k < m → gt E j ≤ gt E k := by
  intro j k hjk
  induction k with
  | zero => intro _; have : j = 0 := by omega
            subst this; exact Int.le_refl _
  | succ k ih =>
    intro hk
    by_cases e : j = k + 1
    · subst e; exact Int.le_refl _
    · have h1 := ih (by omega) (by omega)
      have h2 := h (k + 1) hk
      rw [prv_succ] at h2
      exact Int.le_trans h1 h2

def Judges (w : World) (X E : List Int) (e : Ending) (w' : World) : Prop := ∃ b : Bool, e = .returned (.bool b) ∧ (∃ q, w' = w.drewN q) ∧ (b = true → Well X E)

set_option maxRecDepth 100000 in
set_option maxHeartbeats 4000000 in
theorem well_any (a b : Option Addr) (n c m d : Nat) (X E : List Int) (w : World) (hn : X.length = n) (hm : E.length = m) (h8 : n ≤ 65536) (m8 : m ≤ 65536) (h : Src w a X) (k : Src w b E) :
    Calls Try.prog 13 #[.slice a n c, .slice b m d] w (Judges w X E) := by
  have HN : Hid (X.length = n) := hn
  have HM : Hid (E.length = m) := hm
  have HX : Hid (Src w a X) := h
  clear hn hm h
  by_cases hm0 : m = 0
  · subst hm0
    by_cases hn0 : n = 0
    · subst hn0
      have HW : Hid (Well X E) := ⟨fun _ => List.eq_nil_of_length_eq_zero HN.out, fun h => absurd (List.eq_nil_of_length_eq_zero HM.out) h, fun k hk => by have := HM.out; omega, fun k hk => by have := HM.out; omega⟩
      go_enter Try.func13, Try.ntmps13
      go_wp2
      go_ret
      exact ⟨_, rfl, ⟨0, rfl⟩, fun _ => HW.out⟩
    · have hz : ((n : Int) == 0) = false := by simp; omega
      go_enter Try.func13, Try.ntmps13
      go_wp2
      go_ret
      exact ⟨_, rfl, ⟨0, rfl⟩, fun h => by cases h⟩
  · rcases k with rfl | ⟨b', o', rfl, hE⟩
    · have := HM.out; simp at this; omega
    have hmz : ((m : Int) == 0) = false := by simp; omega
    have cl := hE (m - 1) (by have := HM.out; omega)
    have HE : Hid (∀ i, i < E.length → w.cell? ⟨b', o' + i, none⟩ = some (.int .i64 (gt E i))) := hE
    clear hE
    by_cases hl : gt E (m - 1) = n
    · have hlb : (gt E (m - 1) != (n : Int)) = false := by simp [hl]
      have HL : Hid (gt E (m - 1) = n) := hl
      clear hl
      go_enter Try.func13, Try.ntmps13
      go_wp2
      go_loop [5, 6] (fun p i => ∃ k : Nat, k ≤ m ∧ p = .int .i64 (prv E k) ∧ i = .int .i64 k ∧ ∀ j, j < k → prv E j ≤ gt E j) (fun _ i => m - (intOf i).toNat)
      case atStart => exact ⟨0, Nat.zero_le _, rfl, rfl, fun j hj => absurd hj (Nat.not_lt_zero _)⟩
      case round =>
        obtain ⟨k, hk, rfl, rfl, hU⟩ := hrel
        have HU : Hid (∀ j, j < k → prv E j ≤ gt E j) := hU
        clear hU
        by_cases hlt : k < m
        · have ck := HE.out k (by have := HM.out; omega)
          by_cases hp : gt E k < prv E k
          · go_wp2
            go_ret
            exact ⟨_, rfl, ⟨0, rfl⟩, fun h => by cases h⟩
          · go_wp2
            go_round
            case rel => exact ⟨k + 1, by omega, by rw [prv_succ], by go_num, fun j hj => by
              by_cases e : j = k
              · subst e; omega
              · exact HU.out j (by omega)⟩
            case measure => simp [intOf]; omega
        · have HU2 : Hid (∀ j, j < m → prv E j ≤ gt E j) := fun j hj => HU.out j (by omega)
          clear HU cl hlb
          go_wp2
          go_loopw [5, 7] (fun p i wr => ∃ (k q : Nat), k ≤ m ∧ p = .int .i64 (prv E k) ∧ i = .int .i64 k ∧ wr = w.drewN q ∧ ∀ j, j < k → Srt X (prv E j).toNat (gt E j).toNat) (fun _ i _ => m - (intOf i).toNat)
          case atStart => exact ⟨0, 0, Nat.zero_le _, rfl, rfl, rfl, fun j hj => absurd hj (Nat.not_lt_zero _)⟩
          case round =>
            obtain ⟨k, q, hk, rfl, rfl, rfl, hR⟩ := hrel
            have HR : Hid (∀ j, j < k → Srt X (prv E j).toNat (gt E j).toNat) := hR
            clear hR
            by_cases hlt : k < m
            · have ck := HE.out k (by have := HM.out; omega)
              have hP0 := up_nonneg HU2.out k (by omega)
              have hPE := HU2.out k hlt
              have hEn : gt E k ≤ n := by rw [← HL.out]; exact up_mono HU2.out k (m - 1) (by omega) (by omega)
              obtain ⟨P, hP⟩ := Int.eq_ofNat_of_zero_le hP0
              obtain ⟨T, hT⟩ := Int.eq_ofNat_of_zero_le (Int.le_trans hP0 hPE)
              have HPT : Hid (prv E k = P ∧ gt E k = T) := ⟨hP, hT⟩
              rw [hT] at ck hPE hEn
              rw [hP] at hPE
              rw [hP]
              clear hP hT hP0
              go_wp2
              go_loopw [9] (fun i wr => ∃ (t q : Nat), i = .int .i64 t ∧ P < t ∧ t ≤ n + 1 ∧ wr = w.drewN q ∧ ∀ u, P < u → u < t → gt X (u - 1) ≤ gt X u) (fun i _ => T - (intOf i).toNat)
              case atStart => exact ⟨P + 1, q, by go_num, by omega, by omega, rfl, fun u h1 h2 => by omega⟩
              case round =>
                obtain ⟨t, q', rfl, hPt, htn, rfl, hA⟩ := hrel
                have HA : Hid (∀ u, P < u → u < t → gt X (u - 1) ≤ gt X u) := hA
                clear hA
                by_cases htT : t < T
                · rcases HX.out with hnil | ⟨b1, o1, rfl, hc⟩
                  · have := HN.out; rw [hnil] at this; simp at this; omega
                  have g1 := hc t (by have := HN.out; omega)
                  have g2 := hc (t - 1) (by have := HN.out; omega)
                  clear hc
                  by_cases hlt2 : gt X t < gt X (t - 1)
                  · go_wp2
                    go_quiet (fail)
                    go_wp2
                    go_ret
                    exact ⟨_, rfl, ⟨_, World.drewN_drewN _ _ _⟩, fun h => by cases h⟩
                  · go_wp2
                    go_quiet (fail)
                    go_wp2
                    go_roundw
                    case rel => exact ⟨t + 1, _, by go_num, by omega, by omega, rfl, fun u h1 h2 => by
                      by_cases e : u = t
                      · subst e; omega
                      · exact HA.out u h1 (by omega)⟩
                    case measure => simp [intOf]; omega
                · have HRk : Hid (Srt X P T) := srt_adj fun u h1 h2 => HA.out u h1 (by omega)
                  clear HA
                  go_wp2
                  go_roundw
                  case rel => exact ⟨k + 1, _, by omega, by rw [prv_succ, HPT.out.2], by go_num, rfl, fun j hj => by
                    by_cases e : j = k
                    · subst e; rw [HPT.out.1, HPT.out.2]; exact HRk.out
                    · exact HR.out j (by omega)⟩
                  case measure => simp [intOf]; omega
            · have HW : Hid (Well X E) := ⟨fun h => by have := HM.out; rw [h] at this; simp at this; omega, fun _ => by rw [HM.out, HN.out]; exact HL.out, fun j hj => HU2.out j (by have := HM.out; omega), fun j hj => HR.out j (by have := HM.out; omega)⟩
              go_wp2
              go_ret
              exact ⟨_, rfl, ⟨_, rfl⟩, fun _ => HW.out⟩
    · have hlb : (gt E (m - 1) != (n : Int)) = true := by simp [hl]
      go_enter Try.func13, Try.ntmps13
      go_wp2
      go_ret
      exact ⟨_, rfl, ⟨0, rfl⟩, fun h => by cases h⟩

def GivesBool (w : World) (e : Ending) (w' : World) : Prop := ∃ b : Bool, e = .returned (.bool b) ∧ w' = w

set_option maxHeartbeats 400000 in
theorem bytes12_any (a b : Option Addr) (n c m d : Nat) (w : World) : Calls Try.prog 12 #[.slice a n c, .slice b m d] w (GivesBool w) := by
  by_cases h1 : 1048576 < (n : Int)
  · go_enter Try.func12, Try.ntmps12
    go_wp2
    go_ret
    exact ⟨_, rfl, rfl⟩
  by_cases h2 : 1048576 < (m : Int)
  · go_enter Try.func12, Try.ntmps12
    go_wp2
    go_ret
    exact ⟨_, rfl, rfl⟩
  by_cases h3 : 1048576 < (n : Int) + m
  · go_enter Try.func12, Try.ntmps12
    go_wp2
    go_ret
    exact ⟨_, rfl, rfl⟩
  · go_enter Try.func12, Try.ntmps12
    go_wp2
    go_ret
    exact ⟨_, rfl, rfl⟩
end Go.Proofs.Qxb6604118a
