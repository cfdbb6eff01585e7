/- A slice of strings that came in, opened: its elements. -/
import Derived.Test.Qxb6605157aStr
import Derived.ProofKit
import Derived.Deep.Slices
namespace Go.Proofs.Qxb6605157a
open Go.RowKit Go.Deep

theorem Try.cells9' : Try.prog.cellsOf 9 = 1 := by kernel_rfl

theorem open_strs {H : Type} {enc : TypeId × Value → H} {w : World} {base : Nat} {held : Bool} {fuel : Nat} {cs : List Value} {x : DataW H × List MemPlace} (h : DataW.trod enc Try.prog w base (fun _ => true) held fuel 24 cs = some x) :
    ∃ a n c T, cs = [.slice a n c] ∧ T.length = n ∧ Src w a T ∧ (a = none → n = 0 ∧ c = 0) := by
  rcases open_slice1 Try.underlying24 Try.cells9' h with ⟨rfl, rfl⟩ | ⟨a, len, cap, m, n, V, D, Pl, rfl, _, hl, _, hm, rfl, hx⟩
  · exact ⟨none, 0, 0, [], rfl, rfl, .inl rfl, fun _ => ⟨rfl, rfl⟩⟩
  · have hget : ∀ i, i < len → ∃ s, w.cell? (a.add i) = some (.string s) := fun i hi => by
      obtain ⟨h1, h2⟩ := hx i (by
        have := hm
        split at this <;> omega)
      obtain ⟨s, e, _⟩ := DataW.trod_string Try.underlying9 h2
      injection e with e
      rw [e] at h1
      exact ⟨s, h1⟩
    refine ⟨some a, len, cap, (List.range len).map (fun i => match w.cell? (a.add i) with | some (.string s) => s | _ => ByteArray.empty), rfl, by simp, ?_, fun h => by cases h⟩
    rcases Nat.eq_zero_or_pos len with h0 | h0
    · subst h0; exact .inl rfl
    right
    obtain ⟨b, o, sp⟩ := a
    have hsp : sp = none := by
      obtain ⟨s, hs⟩ := hget 0 h0
      simpa [Addr.add] using World.cell?_spot hs
    subst hsp
    refine ⟨b, o, rfl, fun i hi => ?_⟩
    simp at hi
    obtain ⟨s, hs⟩ := hget i hi
    have e : gs ((List.range len).map (fun i => match w.cell? ((⟨b, o, none⟩ : Addr).add i) with | some (.string s) => s | _ => ByteArray.empty)) i = s := by
      unfold gs
      rw [List.getD, List.getElem?_map, List.getElem?_range hi]
      simp [hs]
    rw [e, ← hs, Go.WideShapes.add_plain]
end Go.Proofs.Qxb6605157a
