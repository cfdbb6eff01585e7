/- The argument, opened: from its reading as data (within the form's own reach) to the facts on cells that the walks take. -/
import Derived.Test.Qxb6603992aParts
import Derived.ProofKit
namespace Go.Proofs.Qxb6603992a
open Go.RowKit Go.Deep

section
variable {H : Type} {enc : TypeId × Value → H} {P : Program} {w : World} {base : Nat} {held : Bool}

abbrev Rd (enc : TypeId × Value → H) (P : Program) (w : World) (base : Nat) (held : Bool) := DataW.trod enc P w base (fun _ => true) held

/-- Every weight of the datum is within the reach. -/
def Fits (P : Program) (t : TypeId) (d : DataW H) : Prop := ∀ m ∈ d.weights P t, m ≤ 140737488351232

theorem cells_at {a : Addr} {n : Nat} {cs : List Value} (h : w.cells? base a n = some cs) {j : Nat} (hj : j < n) : ∃ v, cs[j]? = some v ∧ w.cell? (a.add j) = some v := by
  unfold World.cells? at h
  split at h
  · have h1 := mapM_some_get h j j (by simp [hj])
    have h2 := mapM_some_length h
    simp at h2
    rw [List.getElem?_eq_getElem (by omega)] at h1
    exact ⟨_, List.getElem?_eq_getElem (by omega), h1⟩
  · cases h

/-- A struct all of whose fields are one cell each: field by field. -/
theorem open_fields {t : TypeId} {fs : Array Field} {cs : List Value} {fuel : Nat} {x : DataW H × List MemPlace} (ht : P.underlying t = some (.struct fs)) (hn : P.cellsOf t = fs.size)
    (hone : ∀ (i : Nat) (f : Field), fs[i]? = some f → f.offset = i ∧ P.cellsOf f.type = 1) (h : Rd enc P w base held fuel t cs = some x) (hf : Fits P t x.1) {j : Nat} {f : Field} (hj : fs[j]? = some f) :
    ∃ v y m, cs[j]? = some v ∧ Rd enc P w base held m f.type [v] = some y ∧ Fits P f.type y.1 := by
  obtain ⟨xs, n, _, rfl, hl, hxl, hx⟩ := DataW.trod_struct ht h
  have hlt : j < fs.size := by
    rcases Nat.lt_or_ge j fs.size with l | l
    · exact l
    · rw [Array.getElem?_eq_none l] at hj; cases hj
  obtain ⟨ho, hc⟩ := hone j f hj
  have hr := hx j f hj
  have hjc : j < cs.length := by rw [hl, hn]; exact hlt
  rw [ho, hc, List.drop_eq_getElem_cons hjc] at hr
  simp only [List.take_succ_cons, List.take_zero] at hr
  rw [List.getElem?_eq_getElem (show j < xs.length by rw [hxl]; exact hlt)] at hr
  refine ⟨_, _, n, List.getElem?_eq_getElem hjc, hr, fun m hm => hf m ?_⟩
  simp only [DataW.weights, ht]
  refine DataW.weights_mem_each (j := j) (t := f.type) (d := (xs[j]'(by rw [hxl]; exact hlt)).1) ?_ ?_ m hm
  · rw [List.getElem?_map, Array.getElem?_toList, hj]; rfl
  · rw [List.getElem?_map, List.getElem?_eq_getElem (show j < xs.length by rw [hxl]; exact hlt)]; rfl

theorem weights_all {e : TypeId} : ∀ {l : List (DataW H)} {d : DataW H}, d ∈ l → ∀ m ∈ d.weights P e, m ∈ DataW.weightsAll P e l
  | x :: l, d, hd, m, hm => by
    simp only [DataW.weightsAll, List.mem_append]
    rcases List.mem_cons.1 hd with rfl | hd
    · exact .inl hm
    · exact .inr (weights_all hd m hm)

/-- A slice of such structs. -/
theorem open_rows {t e : TypeId} {fs : Array Field} {cs : List Value} {fuel bytes : Nat} {x : DataW H × List MemPlace} (ht : P.underlying t = some (.slice e)) (he : P.underlying e = some (.struct fs)) (hn : P.cellsOf e = fs.size)
    (hpos : 0 < fs.size) (hone : ∀ (i : Nat) (f : Field), fs[i]? = some f → f.offset = i ∧ P.cellsOf f.type = 1) (hb : P.bytesOf e = bytes) (h : Rd enc P w base held fuel t cs = some x) (hf : Fits P t x.1) :
    ∃ a n c, cs = [.slice a n c] ∧ Head a n c bytes ∧ (n = 0 ∨ ∃ b o, a = some ⟨b, o, none⟩ ∧ ∀ i, i < n → ∀ (j : Nat) (f : Field), fs[j]? = some f →
      ∃ v y m, w.cell? ⟨b, o + i * fs.size + j, none⟩ = some v ∧ Rd enc P w base held m f.type [v] = some y ∧ Fits P f.type y.1) := by
  rcases open_slice ht h with ⟨rfl, rfl⟩ | ⟨a, len, cap, m, n, D, Pl, rfl, _, hl, _, hm, rfl, hx⟩
  · exact ⟨none, 0, 0, rfl, ⟨fun _ => ⟨rfl, rfl⟩, Nat.le_refl _, by omega⟩, .inl rfl⟩
  · simp only [if_true] at hm
    subst hm
    refine ⟨some a, len, m, rfl, ⟨(fun h => by cases h), hl, ?_⟩, ?_⟩
    · have := hf ((len + (m - len)) * P.bytesOf e) (by simp [DataW.weights, ht])
      rw [hb, show len + (m - len) = m by omega] at this
      exact this
    · rcases Nat.eq_zero_or_pos len with h0 | h0
      · exact .inl h0
      right
      obtain ⟨cs0, hc0, _⟩ := hx 0 (by omega)
      obtain ⟨v0, _, hv0⟩ := cells_at hc0 (j := 0) (by rw [hn]; exact hpos)
      obtain ⟨b, o, sp⟩ := a
      have hsp : sp = none := by simpa [Addr.add] using World.cell?_spot hv0
      subst hsp
      refine ⟨b, o, rfl, fun i hi j f hj => ?_⟩
      obtain ⟨cs', hc, hr⟩ := hx i (by omega)
      have hjl : j < fs.size := by
        rcases Nat.lt_or_ge j fs.size with l | l
        · exact l
        · rw [Array.getElem?_eq_none l] at hj; cases hj
      have hfi : Fits P e (D i) := fun m' hm' => hf m' (by
        simp only [DataW.weights, ht, List.mem_cons, List.mem_append]
        exact .inr (.inl (weights_all (List.mem_map.2 ⟨i, by simp [hi], rfl⟩) m' hm')))
      obtain ⟨v, y, m', h1, h2, h3⟩ := open_fields he hn hone hr hfi hj
      obtain ⟨v', h1', hv⟩ := cells_at hc (j := j) (by rw [hn]; exact hjl)
      rw [h1] at h1'; injection h1' with h1'; subst h1'
      rw [hn, add_add, Go.WideShapes.add_plain, ← Nat.add_assoc] at hv
      exact ⟨v, y, m', hv, h2, h3⟩
end

section
variable {H : Type} {enc : TypeId × Value → H} {w : World} {base : Nat} {held : Bool}

theorem open_str {fuel : Nat} {v : Value} {x : DataW H × List MemPlace} (h : Rd enc Try.prog w base held fuel 9 [v] = some x) : ∃ s, v = .string s := by
  obtain ⟨s, e, _⟩ := DataW.trod_string Try.underlying9 h
  injection e with e; exact ⟨s, e⟩

theorem open_Strs {fuel : Nat} {cs : List Value} {x : DataW H × List MemPlace} (h : Rd enc Try.prog w base held fuel 29 cs = some x) (hf : Fits Try.prog 29 x.1) : ∃ a n c, cs = [.slice a n c] ∧ Strs w a n c := by
  rcases open_slice1 Try.underlying29 Try.cells9 h with ⟨rfl, rfl⟩ | ⟨a, len, cap, m, n, V, D, Pl, rfl, _, hl, _, hm, rfl, hx⟩
  · exact ⟨none, 0, 0, rfl, ⟨fun _ => ⟨rfl, rfl⟩, Nat.le_refl _, by omega⟩, .inl rfl⟩
  · simp only [if_true] at hm
    subst hm
    refine ⟨some a, len, m, rfl, ⟨(fun h => by cases h), hl, ?_⟩, ?_⟩
    · have := hf ((len + (m - len)) * Try.prog.bytesOf 9) (by simp [DataW.weights, Try.underlying29])
      rw [show Try.prog.bytesOf 9 = 16 from by kernel_rfl, show len + (m - len) = m by omega] at this
      exact this
    · rcases Nat.eq_zero_or_pos len with h0 | h0
      · exact .inl h0
      right
      obtain ⟨b, o, sp⟩ := a
      have hsp : sp = none := by simpa [Addr.add] using World.cell?_spot (hx 0 (by omega)).1
      subst hsp
      refine ⟨b, o, rfl, fun i hi => ?_⟩
      obtain ⟨h1, h2⟩ := hx i (by omega)
      obtain ⟨s, hs⟩ := open_str h2
      rw [Go.WideShapes.add_plain, hs] at h1
      exact ⟨s, h1⟩

theorem one_of (fs : Array Field) (h : (List.range fs.size).all (fun i => match fs[i]? with | some f => f.offset == i && Try.prog.cellsOf f.type == 1 | none => true) = true) :
    ∀ (i : Nat) (f : Field), fs[i]? = some f → f.offset = i ∧ Try.prog.cellsOf f.type = 1 := by
  intro i f hf
  have hlt : i < fs.size := by
    rcases Nat.lt_or_ge i fs.size with l | l
    · exact l
    · rw [Array.getElem?_eq_none l] at hf; cases hf
  have := List.all_eq_true.1 h i (List.mem_range.2 hlt)
  rw [hf] at this
  simpa using this

theorem open_Gvk {fuel : Nat} {v : Value} {x : DataW H × List MemPlace} (h : Rd enc Try.prog w base held fuel 56 [v] = some x) (hf : Fits Try.prog 56 x.1) : ∃ p, v = .pointer p ∧ Gvk w p := by
  rcases DataW.trod_pointer Try.underlying56 h with ⟨e, _⟩ | ⟨a, cs', y, n, _, e, rfl, hc, hr⟩
  · injection e with e; exact ⟨none, e, .inl rfl⟩
  · injection e with e
    refine ⟨some a, e, .inr ?_⟩
    have hfy : Fits Try.prog 61 y.1 := fun m hm => hf m (by simp only [DataW.weights, Try.underlying56]; exact hm)
    rw [Try.cells61] at hc
    obtain ⟨v0, e0, h0⟩ := cells_at hc (j := 0) (by omega)
    obtain ⟨v1, e1, h1⟩ := cells_at hc (j := 1) (by omega)
    obtain ⟨v2, e2, h2⟩ := cells_at hc (j := 2) (by omega)
    obtain ⟨b, o, sp⟩ := a
    have hsp : sp = none := by simpa [Addr.add] using World.cell?_spot h0
    subst hsp
    rw [Go.WideShapes.add_plain] at h0 h1 h2
    obtain ⟨u0, y0, m0, g0, r0, _⟩ := open_fields Try.underlying61 Try.cells61 (one_of _ (by kernel_rfl)) hr hfy (j := 0) rfl
    obtain ⟨u1, y1, m1, g1, r1, _⟩ := open_fields Try.underlying61 Try.cells61 (one_of _ (by kernel_rfl)) hr hfy (j := 1) rfl
    obtain ⟨u2, y2, m2, g2, r2, _⟩ := open_fields Try.underlying61 Try.cells61 (one_of _ (by kernel_rfl)) hr hfy (j := 2) rfl
    rw [e0] at g0; rw [e1] at g1; rw [e2] at g2
    injection g0 with g0; injection g1 with g1; injection g2 with g2
    subst g0 g1 g2
    obtain ⟨s0, rfl⟩ := open_str r0
    obtain ⟨s1, rfl⟩ := open_str r1
    obtain ⟨s2, rfl⟩ := open_str r2
    exact ⟨b, o, s0, s1, s2, rfl, h0, h1, h2⟩

theorem open_Subs {fuel : Nat} {cs : List Value} {x : DataW H × List MemPlace} (h : Rd enc Try.prog w base held fuel 57 cs = some x) (hf : Fits Try.prog 57 x.1) : ∃ a n c, cs = [.slice a n c] ∧ Subs w a n c := by
  obtain ⟨a, n, c, rfl, hh, hr0⟩ := open_rows Try.underlying57 Try.underlying63 Try.cells63 (by decide) (one_of _ (by kernel_rfl)) (bytes := 48) (by kernel_rfl) h hf
  refine ⟨a, n, c, rfl, hh, hr0.imp id ?_⟩
  clear hr0
  rintro ⟨b, o, rfl, hr⟩
  refine ⟨b, o, rfl, fun i hi => ?_⟩
  obtain ⟨v0, y0, m0, c0, r0, f0⟩ := hr i hi 0 _ rfl
  obtain ⟨v1, y1, m1, c1, r1, f1⟩ := hr i hi 1 _ rfl
  obtain ⟨v2, y2, m2, c2, r2, f2⟩ := hr i hi 2 _ rfl
  obtain ⟨s0, rfl⟩ := open_str r0
  obtain ⟨p1, rfl, k1⟩ := open_Gvk r1 f1
  obtain ⟨a2, n2, q2, e2, k2⟩ := open_Strs r2 f2
  injection e2 with e2; subst e2
  exact ⟨⟨s0, c0⟩, ⟨p1, c1, k1⟩, ⟨a2, n2, q2, c2, k2⟩⟩

theorem open_Ress {fuel : Nat} {cs : List Value} {x : DataW H × List MemPlace} (h : Rd enc Try.prog w base held fuel 53 cs = some x) (hf : Fits Try.prog 53 x.1) : ∃ a n c, cs = [.slice a n c] ∧ Ress w a n c := by
  obtain ⟨a, n, c, rfl, hh, hr0⟩ := open_rows Try.underlying53 Try.underlying59 Try.cells59 (by decide) (one_of _ (by kernel_rfl)) (bytes := 152) (by kernel_rfl) h hf
  refine ⟨a, n, c, rfl, hh, hr0.imp id ?_⟩
  clear hr0
  rintro ⟨b, o, rfl, hr⟩
  refine ⟨b, o, rfl, fun i hi => ?_⟩
  obtain ⟨v0, y0, m0, c0, r0, f0⟩ := hr i hi 0 _ rfl
  obtain ⟨v1, y1, m1, c1, r1, f1⟩ := hr i hi 1 _ rfl
  obtain ⟨v2, y2, m2, c2, r2, f2⟩ := hr i hi 2 _ rfl
  obtain ⟨v3, y3, m3, c3, r3, f3⟩ := hr i hi 3 _ rfl
  obtain ⟨v4, y4, m4, c4, r4, f4⟩ := hr i hi 4 _ rfl
  obtain ⟨v5, y5, m5, c5, r5, f5⟩ := hr i hi 5 _ rfl
  obtain ⟨v6, y6, m6, c6, r6, f6⟩ := hr i hi 6 _ rfl
  obtain ⟨v7, y7, m7, c7, r7, f7⟩ := hr i hi 7 _ rfl
  obtain ⟨s0, rfl⟩ := open_str r0
  obtain ⟨p1, rfl, k1⟩ := open_Gvk r1 f1
  obtain ⟨s2, rfl⟩ := open_str r2
  obtain ⟨s3, rfl⟩ := open_str r3
  obtain ⟨a4, n4, q4, e4, k4⟩ := open_Strs r4 f4
  injection e4 with e4; subst e4
  obtain ⟨a5, n5, q5, e5, k5⟩ := open_Strs r5 f5
  injection e5 with e5; subst e5
  obtain ⟨a6, n6, q6, e6, k6⟩ := open_Strs r6 f6
  injection e6 with e6; subst e6
  obtain ⟨a7, n7, q7, e7, k7⟩ := open_Subs r7 f7
  injection e7 with e7; subst e7
  exact ⟨⟨s0, c0⟩, ⟨p1, c1, k1⟩, ⟨s2, c2⟩, ⟨s3, c3⟩, ⟨a4, n4, q4, c4, k4⟩, ⟨a5, n5, q5, c5, k5⟩, ⟨a6, n6, q6, c6, k6⟩, ⟨a7, n7, q7, c7, k7⟩⟩

theorem open_Vers {fuel : Nat} {cs : List Value} {x : DataW H × List MemPlace} (h : Rd enc Try.prog w base held fuel 50 cs = some x) (hf : Fits Try.prog 50 x.1) : ∃ a n c, cs = [.slice a n c] ∧ Vers w a n c := by
  obtain ⟨a, n, c, rfl, hh, hr0⟩ := open_rows Try.underlying50 Try.underlying55 Try.cells55 (by decide) (one_of _ (by kernel_rfl)) (bytes := 56) (by kernel_rfl) h hf
  refine ⟨a, n, c, rfl, hh, hr0.imp id ?_⟩
  clear hr0
  rintro ⟨b, o, rfl, hr⟩
  refine ⟨b, o, rfl, fun i hi => ?_⟩
  obtain ⟨v0, y0, m0, c0, r0, f0⟩ := hr i hi 0 _ rfl
  obtain ⟨v1, y1, m1, c1, r1, f1⟩ := hr i hi 1 _ rfl
  obtain ⟨v2, y2, m2, c2, r2, f2⟩ := hr i hi 2 _ rfl
  obtain ⟨s0, rfl⟩ := open_str r0
  obtain ⟨a1, n1, q1, e1, k1⟩ := open_Ress r1 f1
  injection e1 with e1; subst e1
  obtain ⟨s2, rfl⟩ := open_str r2
  exact ⟨⟨s0, c0⟩, ⟨a1, n1, q1, c1, k1⟩, ⟨s2, c2⟩⟩

theorem open_Grps {fuel : Nat} {cs : List Value} {x : DataW H × List MemPlace} (h : Rd enc Try.prog w base held fuel 22 cs = some x) (hf : Fits Try.prog 22 x.1) : ∃ a n c, cs = [.slice a n c] ∧ Grps w a n c := by
  obtain ⟨a, n, c, rfl, hh, hr0⟩ := open_rows Try.underlying22 Try.underlying52 Try.cells52 (by decide) (one_of _ (by kernel_rfl)) (bytes := 40) (by kernel_rfl) h hf
  refine ⟨a, n, c, rfl, hh, hr0.imp id ?_⟩
  clear hr0
  rintro ⟨b, o, rfl, hr⟩
  refine ⟨b, o, rfl, fun i hi => ?_⟩
  obtain ⟨v0, y0, m0, c0, r0, f0⟩ := hr i hi 0 _ rfl
  obtain ⟨v1, y1, m1, c1, r1, f1⟩ := hr i hi 1 _ rfl
  obtain ⟨s0, rfl⟩ := open_str r0
  obtain ⟨a1, n1, q1, e1, k1⟩ := open_Vers r1 f1
  injection e1 with e1; subst e1
  exact ⟨⟨s0, c0⟩, ⟨a1, n1, q1, c1, k1⟩⟩
end
end Go.Proofs.Qxb6603992a
