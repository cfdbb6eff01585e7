/- The contract of (*Surface).APIVersions (9). -/
import Derived.Test.Qxb6603992aFind2
namespace Go.Proofs.Qxb6603992a
open Go.RowKit

/-- A row whose elements bear strings in their first cells. -/
def Strd (w : World) (a : Option Addr) (size n : Nat) : Prop := n = 0 ∨ ∃ b o, a = some ⟨b, o, none⟩ ∧ ∀ i, i < n → ∃ s, w.cell? ⟨b, o + i * size, none⟩ = some (.string s)
theorem WGrps.strd {w : World} {a : Option Addr} {n : Nat} (h : WGrps w a n) : Strd w a 2 n := h.2.imp id fun ⟨b, o, e, f⟩ => ⟨b, o, e, fun i hi => (f i hi).1⟩
theorem WVers.strd {lo : Nat} {w : World} {a : Option Addr} {n : Nat} (h : WVers lo w a n) : Strd w a 3 n := h.2.imp id fun ⟨b, o, e, _, f⟩ => ⟨b, o, e, fun i hi => (f i hi).1⟩

theorem named_stays {w w' : World} (h : Stays w w') {a : Option Addr} {size n i : Nat} (hW : Strd w a size n) (hi : i < n) (nm : ByteArray) : Named w' a size nm i ↔ Named w a size nm i := by
  rcases hW with rfl | ⟨b, o, rfl, f⟩
  · omega
  · obtain ⟨s, hs⟩ := f i hi
    rw [named_iff hs, named_iff (h _ _ _ hs)]
theorem FirstAt.stays {w w' : World} (h : Stays w w') {a : Option Addr} {size n i : Nat} (hW : Strd w a size n) {nm : ByteArray} (k : FirstAt (Named w' a size nm) n i) : FirstAt (Named w a size nm) n i :=
  ⟨k.1, (named_stays h hW k.1 nm).1 k.2.1, fun j hj x => k.2.2 j hj ((named_stays h hW (Nat.lt_trans hj k.1) nm).2 x)⟩
theorem NoneAt.stays {w w' : World} (h : Stays w w') {a : Option Addr} {size n : Nat} (hW : Strd w a size n) {nm : ByteArray} (k : NoneAt (Named w' a size nm) n) : NoneAt (Named w a size nm) n :=
  fun i hi x => k i hi ((named_stays h hW hi nm).2 x)

theorem make0 (n : Nat) (hb : n * 56 ≤ 140737488351232) (w : World) :
    (Instr.makeSlice 29 (.int .i64 0) (.int .i64 (n : Int))).run Try.prog w = .ok (.slice (some ⟨w.heap.size, 0, none⟩) 0 n) (w.alloc (.cells (madeCells (Value.string ByteArray.empty).cells n) 9)) := by
  obtain ⟨i, hi, hz⟩ := Option.map_eq_some_iff.1 Try.info9
  simp only [Prod.mk.injEq] at hz
  obtain ⟨h1, h2, h3⟩ := hz
  have h := run_make (P := Try.prog) w 29 9 i _ Try.underlying29 hi h1 .i64 .i64 0 n (by omega) (by omega) (by rw [h3]; omega) (by omega)
  rw [h2] at h
  simpa using h

/-- What comes back: refused, or the versions of the first group of that name, in new memory. -/
def GivesDoc (w : World) (a : Option Addr) (n : Nat) (nm : ByteArray) (e : Ending) (w' : World) : Prop :=
  Below w.heap.size w w' ∧ ((e = .returned (.tuple #[.agg #[.string ⟨#[]⟩, .slice none 0 0, .slice none 0 0], .bool false]) ∧ NoneAt (Named w a 2 nm) n) ∨
    ∃ gi av nv cv g y, FirstAt (Named w a 2 nm) n gi ∧ VersAt w a gi av nv cv ∧ e = .returned (.tuple #[.agg #[.string ⟨#[65, 80, 73, 86, 101, 114, 115, 105, 111, 110, 115]⟩, .slice (some ⟨g, 0, none⟩) nv nv, .slice (some y) 0 0], .bool true]) ∧
      ∀ i s, i < nv → Named w av 3 s i → w'.cell? ⟨g, i, none⟩ = some (.string s))

theorem stay4 (w : World) (o1 o2 o3 o4 : Obj) (b o : Nat) (v : Value) (h : w.cell? ⟨b, o, none⟩ = some v) : ((((w.alloc o1).alloc o2).alloc o3).alloc o4).cell? ⟨b, o, none⟩ = some v :=
  Stays.of_below ((((((Below.refl w.heap.size w).alloc (Nat.le_refl _) o1).alloc (by simp) o2).alloc (by simp; omega) o3).alloc (by simp; omega) o4)) _ _ _ h

abbrev kindK : ByteArray := ⟨#[65, 80, 73, 86, 101, 114, 115, 105, 111, 110, 115]⟩

/-- At the loop's head, k versions gathered. Blocks of the call's own, from w.heap.size on: the result, the row, an empty row, the document. -/
structure Loop9 (w wr : World) (av : Option Addr) (nv k : Nat) : Prop where
  old : Below w.heap.size w wr
  res : wr.heap[w.heap.size]? = some (.cells #[.string ⟨#[]⟩, .slice none 0 0, .slice none 0 0] 32 (0, 0))
  doc : wr.heap[w.heap.size + 1 + 1 + 1]? = some (.cells #[.string kindK, .slice (some ⟨w.heap.size + 1, 0, none⟩) k nv, .slice (some ⟨w.heap.size + 1 + 1, 0, none⟩) 0 0] 32 (0, 0))
  row : ∃ xs, wr.ownsRow (w.heap.size + 1) 9 1 (.slice (some ⟨w.heap.size + 1, 0, none⟩) k nv) k xs ∧ ∀ i s, i < k → Named w av 3 s i → xs[i]? = some (.string s)

theorem Loop9.start (w : World) (av : Option Addr) (nv : Nat) (h : nv * 56 ≤ 140737488351232) :
    Loop9 w ((((w.alloc (.cells #[.string ⟨#[]⟩, .slice none 0 0, .slice none 0 0] 32)).alloc (.cells (madeCells #[.string ByteArray.empty] nv) 9)).alloc (.cells #[] 106)).alloc
      (.cells #[.string kindK, .slice (some ⟨w.heap.size + 1, 0, none⟩) 0 nv, .slice (some ⟨w.heap.size + 1 + 1, 0, none⟩) 0 0] 32)) av nv 0 := by
  have hp : ∀ (w : World) (o : Obj), (w.alloc o).heap = w.heap.push o := fun _ _ => rfl
  refine ⟨(((((Below.refl w.heap.size w).alloc (Nat.le_refl _) _).alloc (by simp) _).alloc (by simp; omega) _).alloc (by simp; omega) _), ?_, ?_, [], ?_, fun i s hi => absurd hi (Nat.not_lt_zero _)⟩
  · simp only [hp, Array.getElem?_push, Array.size_push]
    simp
    rw [if_neg (by omega), if_neg (by omega)]
  · simp only [hp, Array.getElem?_push, Array.size_push]
    simp
  · refine ⟨rfl, .inr ⟨w.heap.size + 1, nv, madeCells #[.string ByteArray.empty] nv, rfl, Nat.le_refl _, ?_, Nat.zero_le _, by unfold maxLen; omega, by rw [size_madeCells]; omega, by simp⟩⟩
    simp only [hp, Array.getElem?_push, Array.size_push]
    simp

theorem heap_alloc_old {w : World} {o : Obj} {k : Nat} {x : Obj} (h : w.heap[k]? = some x) : (w.alloc o).heap[k]? = some x := by
  rw [Below.heap_alloc _ _ _ (lt_of_block h)]; exact h

theorem Loop9.docCell {w wr : World} {av : Option Addr} {nv k : Nat} (h : Loop9 w wr av nv k) (o : Obj) : (wr.alloc o).cell? ⟨w.heap.size + 1 + 1 + 1, 1, none⟩ = some (.slice (some ⟨w.heap.size + 1, 0, none⟩) k nv) := by
  have := heap_alloc_old (o := o) h.doc
  simp [World.cell?, this]

theorem cells3 {w : World} {b t : Nat} {x0 x1 x2 : Value} (h : w.heap[b]? = some (.cells #[x0, x1, x2] t (0, 0))) : w.cell? ⟨b, 0, none⟩ = some x0 ∧ w.cell? ⟨b, 1, none⟩ = some x1 ∧ w.cell? ⟨b, 2, none⟩ = some x2 := by
  simp [World.cell?, h]
theorem free3 {w : World} {b t : Nat} {x0 x1 x2 : Value} (h : w.heap[b]? = some (.cells #[x0, x1, x2] t (0, 0))) : w.frozen? ⟨b, 0, none⟩ = false ∧ w.frozen? ⟨b, 1, none⟩ = false ∧ w.frozen? ⟨b, 2, none⟩ = false := by
  simp [World.frozen?, h]

/-- What the append has left: the document's cell and its mark. -/
theorem Loop9.behind {w wr w1 : World} {av : Option Addr} {nv k : Nat} (h : Loop9 w wr av nv k) (o1 o2 : Obj) (hg : ((wr.alloc o1).alloc o2).grownBy w1 (some (w.heap.size + 1))) :
    w1.cell? ⟨w.heap.size + 1 + 1 + 1, 1, none⟩ = some (.slice (some ⟨w.heap.size + 1, 0, none⟩) k nv) ∧ w1.frozen? ⟨w.heap.size + 1 + 1 + 1, 1, none⟩ = false := by
  have h2 := heap_alloc_old (o := o2) (heap_alloc_old (o := o1) h.doc)
  have h3 := (hg.block (w.heap.size + 1 + 1 + 1) (lt_of_block h2) (by intro e; injection e with e; omega)).trans h2
  simp [World.cell?, World.frozen?, h3]

theorem Loop9.step {w wr w1 : World} {av : Option Addr} {nv k : Nat} {s : ByteArray} {xs : List Value} (h : Loop9 w wr av nv k) (o1 o2 : Obj) (hg : ((wr.alloc o1).alloc o2).grownBy w1 (some (w.heap.size + 1)))
    (hs : Named w av 3 s k) (hxl : xs.length = k * 1) (hxs : ∀ i s, i < k → Named w av 3 s i → xs[i]? = some (.string s)) (hown : w1.ownsRow (w.heap.size + 1) 9 1 (.slice (some ⟨w.heap.size + 1, 0, none⟩) (k + 1) nv) (k + 1) (xs ++ [.string s])) :
    Loop9 w (w1.setCell ⟨w.heap.size + 1 + 1 + 1, 1, none⟩ (.slice (some ⟨w.heap.size + 1, 0, none⟩) (k + 1) nv)) av nv (k + 1) := by
  have b2 : Below w.heap.size w ((wr.alloc o1).alloc o2) := (h.old.alloc h.old.size _).alloc (Nat.le_trans h.old.size (by simp)) _
  have hd := heap_alloc_old (o := o2) (heap_alloc_old (o := o1) h.doc)
  have hd1 := (hg.block (w.heap.size + 1 + 1 + 1) (lt_of_block hd) (by intro e; injection e with e; omega)).trans hd
  have hr := heap_alloc_old (o := o2) (heap_alloc_old (o := o1) h.res)
  have hr1 := (hg.block w.heap.size (lt_of_block hr) (by simp)).trans hr
  refine ⟨(b2.grown hg b2.size (fun k hk => by injection hk with hk; omega)).setCell (show w.heap.size ≤ w.heap.size + 1 + 1 + 1 by omega) _, ?_, ?_, xs ++ [.string s], ?_, ?_⟩
  · rw [Below.heap_setCell _ _ _ _ (show w.heap.size ≠ w.heap.size + 1 + 1 + 1 by omega)]; exact hr1
  · simp only [World.setCell, Array.getElem?_modify, hd1]
    simp
  · exact ownsRow_setCell_other hown (by simp [Value.ownBlock]) _
  · intro i t hi hn
    by_cases e : i = k
    · subst e
      have : t = s := by
        obtain ⟨b, o, rfl, x⟩ := hs
        exact ((named_iff x).1 hn).symm
      subst this
      rw [List.getElem?_append_right (by omega)]
      simp [show i - xs.length = 0 by omega]
    · rw [List.getElem?_append_left (by omega)]
      exact hxs i t (by omega) hn

set_option maxRecDepth 100000 in
set_option maxHeartbeats 2000000 in
theorem api_any (B O : Nat) (a : Option Addr) (n c : Nat) (w : World) (h : WGrps w a n) (hs : w.cell? ⟨B, O, none⟩ = some (.slice a n c)) :
    Calls Try.prog 9 #[.pointer (some ⟨B, O, none⟩)] w (GivesDoc w a n ⟨#[]⟩) := by
  have hst : ∀ o, Stays w (w.alloc o) := fun o => Stays.of_below ((Below.refl _ _).alloc (Nat.le_refl _) _)
  have HS : Hid (∀ o, Stays w (w.alloc o)) := hst
  have HW : Hid (WGrps w a n) := h
  have HC : Hid (w.cell? ⟨B, O, none⟩ = some (.slice a n c)) := hs
  clear hst h hs
  go_enter Try.func9, Try.ntmps9
  go_wp2_with fail
  refine (group_any B O a n c _ _ (HW.out.stays (HS.out _)) (HS.out _ _ _ _ HC.out)).mono ?_
  rintro e w1 ⟨hw, ⟨rfl, hN⟩ | ⟨gi, b, o, rfl, rfl, hF⟩⟩
  · rw [hw]; clear hw
    have HN : Hid (NoneAt (Named w a 2 ⟨#[]⟩) n) := hN.stays (HS.out _) HW.out.strd
    clear hN
    go_wp2
    refine bodyPost_ret (v := .tuple #[.agg #[.string ⟨#[]⟩, .slice none 0 0, .slice none 0 0], .bool false]) (by simp [results, Try.results9, go_sem]) rfl ⟨?_, .inl ⟨rfl, HN.out⟩⟩
    exact (Below.refl _ _).alloc (Nat.le_refl _) _
  · rw [hw]; clear hw
    obtain ⟨hn, h⟩ := HW.out
    rcases h with rfl | ⟨b', o', e, hc⟩
    · exact absurd hF.1 (Nat.not_lt_zero _)
    injection e with e; injection e with e1 e2; subst e1 e2
    obtain ⟨⟨s, hs0⟩, av, nv, cv, hs1, hV⟩ := hc gi hF.1
    have HF : Hid (FirstAt (Named w (some ⟨b, o, none⟩) 2 ⟨#[]⟩) n gi ∧ VersAt w (some ⟨b, o, none⟩) gi av nv cv) := ⟨hF.stays (HS.out _) HW.out.strd, b, o, rfl, hs1⟩
    clear hc hF
    have HV : Hid (WVers 0 w av nv) := hV
    have hnv := hV.1
    clear hV
    have hc4 : ∀ o1 o2 o3 o4, ((((w.alloc o1).alloc o2).alloc o3).alloc o4).cell? ⟨b, o + gi * 2 + 1, none⟩ = some (.slice av nv cv) := fun o1 o2 o3 o4 => stay4 _ _ _ _ _ _ _ _ hs1
    have hc1 : ∀ o1, (w.alloc o1).cell? ⟨b, o + gi * 2 + 1, none⟩ = some (.slice av nv cv) := fun o1 => HS.out o1 _ _ _ hs1
    have hmk := make0 nv (by omega)
    go_wp2
    clear hc4 hc1 hmk
    go_loopw [26] (fun i wr => ∃ k : Nat, k ≤ nv ∧ i = .int .i64 k ∧ Loop9 w wr av nv k) (fun i _ => nv - (intOf i).toNat)
    case atStart => exact ⟨0, Nat.zero_le _, rfl, Loop9.start _ _ _ hnv⟩
    case round =>
      obtain ⟨k, hk, rfl, hL⟩ := hrel
      by_cases hlt : k < nv
      · obtain ⟨b', o', rfl, _, hc⟩ := HV.out.2.resolve_left (by omega)
        obtain ⟨⟨t, ht⟩, ⟨a1, n1, c1, h1⟩, ⟨t2, h2⟩⟩ := (hc k hlt).stays (Stays.of_below hL.old)
        have hNm : Hid (Named w (some ⟨b', o', none⟩) 3 t k) := by
          obtain ⟨⟨t', ht'⟩, _, _⟩ := hc k hlt
          have := Stays.of_below hL.old _ _ _ ht'
          rw [this] at ht; injection ht with ht; injection ht with ht; subst ht
          exact ⟨b', o', rfl, ht'⟩
        have hdc := hL.docCell
        have HL : Hid (Loop9 w wr (some ⟨b', o', none⟩) nv k) := hL
        obtain ⟨xs, hown, hxs⟩ := hL.row
        have HX : Hid (∀ i s, i < k → Named w (some ⟨b', o', none⟩) 3 s i → xs[i]? = some (.string s)) := hxs
        have hxl : xs.length = k * 1 := hown.1
        clear hL hc hxs
        obtain ⟨i0, hi, hz0, hz1, hz2⟩ := info_parts Try.info9
        go_wp2_with (at_builtin; refine wpList_append_fits _ rfl (.tmp 31) (.tmp 34) 29 rfl (w.heap.size + 1) 9 i0 1 Try.underlying29 hi hz1 (w.heap.size + 1) k nv xs rfl ((hown.alloc _).alloc _) ⟨wr.heap.size + 1, 0, none⟩ 1 1 [.string t] rfl rfl ?c1 ?c2 (by omega) ?_)
        case c1 =>
          intro j u hj
          match j, hj with
          | 0, hj => simp at hj; subst hj; simp [Addr.add]
        case c2 => intro u hu; simp at hu; subst hu; rfl
        intro w2 hown2 hgrow2
        obtain ⟨hdc2, hdf2⟩ := HL.out.behind _ _ hgrow2
        have HO : Hid (w2.ownsRow (w.heap.size + 1) 9 1 (.slice (some ⟨w.heap.size + 1, 0, none⟩) (k + 1) nv) (k + 1) (xs ++ [.string t])) := hown2
        have HLs : Hid (Loop9 w (w2.setCell ⟨w.heap.size + 1 + 1 + 1, 1, none⟩ (.slice (some ⟨w.heap.size + 1, 0, none⟩) (k + 1) nv)) (some ⟨b', o', none⟩) nv (k + 1)) := HL.out.step _ _ hgrow2 hNm.out hxl HX.out hown2
        clear hown2 hgrow2 hown HX hxl hdc HO
        go_wp2
        go_roundw
        case rel => exact ⟨k + 1, by omega, by go_num, HLs.out⟩
        case measure => simp [intOf]; omega
      · obtain rfl : k = nv := by omega
        obtain ⟨d0, d1, d2⟩ := cells3 hL.doc
        obtain ⟨r0, r1, r2⟩ := cells3 hL.res
        obtain ⟨f0, f1, f2⟩ := free3 hL.res
        have HL : Hid (Loop9 w wr av k k) := hL
        clear hL
        go_wp2
        refine bodyPost_ret (v := .tuple #[.agg #[.string kindK, .slice (some ⟨w.heap.size + 1, 0, none⟩) k k, .slice (some ⟨w.heap.size + 1 + 1, 0, none⟩) 0 0], .bool true]) ?_ rfl ⟨?_, .inr ⟨gi, av, k, cv, w.heap.size + 1, ⟨w.heap.size + 1 + 1, 0, none⟩, HF.out.1, HF.out.2, rfl, ?_⟩⟩
        · simp [results, Try.results9, go_sem, r0, r1, r2]
        · exact ((HL.out.old.setCell (Nat.le_refl _) _).setCell (Nat.le_refl _) _).setCell (Nat.le_refl _) _
        · intro i t hi hn
          obtain ⟨xs, hown, hxs⟩ := HL.out.row
          have h1 := hown.cellAt i (by omega)
          rw [hxs i t hi hn] at h1
          rw [World.cell?_setCell_far _ _ _ _ (show w.heap.size ≠ w.heap.size + 1 by omega), World.cell?_setCell_far _ _ _ _ (show w.heap.size ≠ w.heap.size + 1 by omega), World.cell?_setCell_far _ _ _ _ (show w.heap.size ≠ w.heap.size + 1 by omega)]
          exact h1
end Go.Proofs.Qxb6603992a
