/- mergeRuns (21) where there is an element. -/
import Derived.Test.Qxb6604118aMergeW
namespace Go.Proofs.Qxb6604118a
open Go.RowKit Go.Deep Pl

def lenOf : Value → Nat
  | .slice _ n _ => n
  | _ => 0

structure Keep (w w' : World) (Bi Be : Nat) : Prop where
  os : w'.os = w.os
  tape : w'.tape = w.tape
  output : w'.output = w.output
  size : w.heap.size ≤ w'.heap.size
  kept : ∀ k, k < w.heap.size → k ≠ Bi → k ≠ Be → w'.heap[k]? = w.heap[k]?

def Merged (w : World) (Bi Be : Nat) (X : List Int) (n : Nat) (e : Ending) (w' : World) : Prop :=
  Keep w w' Bi Be ∧ ∃ B Y Z, e = .returned (.slice (some ⟨B, 0, none⟩) n n) ∧ Ints w' B Y ∧ Ord Y ∧ Y.Perm X ∧ Ints w' Bi Z ∧ Z.Perm X

/-- At the head of a pass. -/
structure Outer (w wr : World) (Bi Be : Nat) (X : List Int) (n m : Nat) (Bx By : Nat) (X' Y' : List Int) (D : List Nat) (L : Nat) : Prop where
  mw : MW w wr Bi Be Bx By X' Y' D
  cut : Cut X' D L
  px : X'.Perm X
  ly : Y'.length = n
  ld : D.length = m
  who : Bx = Bi ∨ (By = Bi ∧ Y'.Perm X)

theorem Outer.end {w wr : World} {Bi Be : Nat} {X : List Int} {n m Bx By : Nat} {X' Y' : List Int} {D : List Nat} {L : Nat} (h : Outer w wr Bi Be X n m Bx By X' Y' D L) (hL : L ≤ 1) :
    Merged w Bi Be X n (.returned (.slice (some ⟨Bx, 0, none⟩) n n)) wr := by
  refine ⟨⟨h.mw.os, h.mw.tape, h.mw.output, h.mw.size, h.mw.kept⟩, ?_⟩
  rcases h.who with e | ⟨e, p⟩
  · exact ⟨Bx, X', X', rfl, h.mw.ix, h.cut.ord hL, h.px, by rw [← e]; exact h.mw.ix, h.px⟩
  · exact ⟨Bx, X', Y', rfl, h.mw.ix, h.cut.ord hL, h.px, by rw [← e]; exact h.mw.iy, p⟩

/-- Within a pass, h pairs done. -/
structure Inner (w wr : World) (Bi Be Bx By n m : Nat) (X Y : List Int) (D F : List Nat) (L h : Nat) : Prop where
  mw : MW w wr Bi Be Bx By X Y F
  pas : Pas X Y D F L h
  lx : X.length = n
  ld : D.length = m
theorem Outer.inner {w wr : World} {Bi Be : Nat} {X : List Int} {n m Bx By : Nat} {X' Y' : List Int} {D : List Nat} {L : Nat} (h : Outer w wr Bi Be X n m Bx By X' Y' D L) (q : Nat) (hn : X.length = n) :
    Inner w (wr.drewN q) Bi Be Bx By n m X' Y' D D L 0 :=
  ⟨h.mw.drewN q, Pas.start (by rw [h.ly, h.px.length_eq, hn]), by rw [h.px.length_eq, hn], h.ld⟩

/-- While two runs are merged. -/
structure MidAt (w wr : World) (Bi Be Bx By n : Nat) (X Y Y0 : List Int) (F : List Nat) (R M T i j o : Nat) : Prop where
  mw : MW w wr Bi Be Bx By X Y F
  mid : Mid X Y Y0 R M T i j o
  lx : X.length = n

section
variable {w wr : World} {Bi Be Bx By n : Nat} {X Y Y0 : List Int} {F : List Nat} {R M T i j o : Nat}
theorem MidAt.right (h : MidAt w wr Bi Be Bx By n X Y Y0 F R M T i j o) (hi : i < M) (hj : j < T) (hlt : gt X j < gt X i) (q : Nat) :
    MidAt w ((wr.drewN q).setCell ⟨By, o, none⟩ (.int .i64 (gt X j))) Bi Be Bx By n X (Y.set o (gt X j)) Y0 F R M T i (j + 1) (o + 1) := by
  have h1 := h.mid.fri; have h2 := h.mid.im; have h3 := h.mid.mj; have h4 := h.mid.tn; have h5 := h.mid.oe; have h6 := h.mid.len
  exact ⟨(h.mw.drewN q).store (by omega) _, h.mid.right hi hj hlt, h.lx⟩
theorem MidAt.left (h : MidAt w wr Bi Be Bx By n X Y Y0 F R M T i j o) (hi : i < M) (hj : j < T) (hlt : ¬ gt X j < gt X i) (q : Nat) :
    MidAt w ((wr.drewN q).setCell ⟨By, o, none⟩ (.int .i64 (gt X i))) Bi Be Bx By n X (Y.set o (gt X i)) Y0 F R M T (i + 1) j (o + 1) := by
  have h1 := h.mid.fri; have h2 := h.mid.im; have h3 := h.mid.mj; have h4 := h.mid.tn; have h5 := h.mid.oe; have h6 := h.mid.len
  exact ⟨(h.mw.drewN q).store (by omega) _, h.mid.left hi hj hlt, h.lx⟩
end

theorem Inner.next {w wi wm w2 : World} {Bi Be Bx By n m : Nat} {X Y2 Y3 : List Int} {D F : List Nat} {L h R M T i j o o' c : Nat} (hI : Inner w wi Bi Be Bx By n m X Y2 D F L h) (hQ : MidAt w wm Bi Be Bx By n X Y3 Y2 F R M T i j o)
    (he : ¬ (i < M ∧ j < T)) (hw2 : MW w w2 Bi Be Bx By X (lay (lay Y3 o (seg X i M)) o' (seg X j T)) F) (hc : c = M - i) (ho' : o' = o + c) (hr : R = pn F h ∧ M = gn D (2 * h) ∧ T = to' D L h) (hcut : Cut X D L) (hh : 2 * h < L) (ob : Obj) :
    Inner w ((w2.alloc ob).setCell ⟨Be, h, none⟩ (.int .i64 (T : Int))) Bi Be Bx By n m X (lay (lay Y3 o (seg X i M)) o' (seg X j T)) D (F.set h T) L (h + 1) := by
  obtain ⟨rfl, rfl, rfl⟩ := hr
  subst hc ho'
  have hd := hQ.mid.done he
  refine ⟨(hw2.alloc ob).endsAt ?_ _, hI.pas.step hcut hh hd.1 hd.2, hI.lx, hI.ld⟩
  have := hI.pas.flen; have := hcut.le; omega

set_option maxRecDepth 100000 in
set_option maxHeartbeats 8000000 in
theorem merge_pos (Bi Be : Nat) (X : List Int) (D0 : List Nat) (n m : Nat) (w : World) (hn : X.length = n) (hpos : 0 < n) (h8 : n ≤ 65536) (hm : D0.length = m) (m8 : m ≤ 65536) (hi : Ints w Bi X) (he : Ints w Be (nats D0)) (hne : Bi ≠ Be) (hc : Cut X D0 m) :
    Calls Try.prog 21 #[.slice (some ⟨Bi, 0, none⟩) n n, .slice (some ⟨Be, 0, none⟩) m m] w (Merged w Bi Be X n) := by
  have hBi : Bi < w.heap.size := hi.lt
  have hBe : Be < w.heap.size := he.lt
  have H0 : Hid (Outer w (w.alloc (.cells (madeCells #[.int .i64 0] n) 3)) Bi Be X n m Bi w.heap.size X (List.replicate n 0) D0 m) :=
    ⟨⟨rfl, rfl, rfl, by simp, fun k hk _ _ => Below.heap_alloc _ _ _ hk, hi.alloc _, Ints.made w n, he.alloc _, hne, by omega, by omega, .inr (Nat.le_refl _), .inl rfl⟩, hc, List.Perm.refl _, by simp, hm, .inl rfl⟩
  have HN : Hid (X.length = n) := hn
  clear hi he hc hn hm
  have hmk := fun W => run_make_row' (P := Try.prog) 34 3 (.int .i64 0) 8 Try.underlying34 Try.info3 rfl .i64 .i64 n (by omega) (by omega) W
  go_enter Try.func21, Try.ntmps21
  go_wp2
  clear hmk
  go_loopw [0, 1, 5] (fun v0 v1 v5 wr => ∃ (Bx By : Nat) (X' Y' : List Int) (D : List Nat) (L : Nat), v0 = .slice (some ⟨Bx, 0, none⟩) n n ∧ v1 = .slice (some ⟨Be, 0, none⟩) L m ∧ v5 = .slice (some ⟨By, 0, none⟩) n n ∧ L ≤ m ∧ Outer w wr Bi Be X n m Bx By X' Y' D L)
    (fun _ v1 _ _ => lenOf v1)
  case atStart => exact ⟨Bi, w.heap.size, X, List.replicate n 0, D0, m, rfl, rfl, rfl, Nat.le_refl _, H0.out⟩
  case round =>
    obtain ⟨Bx, By, X', Y', D, L, rfl, rfl, rfl, hLm, hO⟩ := hrel
    have HO : Hid (Outer w wr Bi Be X n m Bx By X' Y' D L) := hO
    clear hO H0
    by_cases hL : 1 < L
    · go_wp2
      go_quiet (fail)
      go_wp2
      have HI0 : Hid (Inner w (wr.drewN nq) Bi Be Bx By n m X' Y' D D L 0) := HO.out.inner nq HN.out
      rw [decide_eq_true (show (1 : Int) < (L : Int) by omega)]
      go_loopw [6, 7, 8] (fun v6 v7 v8 wk => ∃ (h : Nat) (Y2 : List Int) (F : List Nat), v6 = .int .i64 (pn F h) ∧ v7 = .slice (some ⟨Be, 0, none⟩) h m ∧ v8 = .int .i64 (2 * (h : Int)) ∧ Inner w wk Bi Be Bx By n m X' Y2 D F L h)
        (fun _ _ v8 _ => L + 1 - (intOf v8).toNat)
      case atStart => exact ⟨0, Y', D, rfl, rfl, rfl, HI0.out⟩
      case round =>
        obtain ⟨h, Y2, F, rfl, rfl, rfl, hI⟩ := hrel
        have HI : Hid (Inner w wr Bi Be Bx By n m X' Y2 D F L h) := hI
        have hk2 := hI.pas.hk
        clear hI HI0
        by_cases hh : 2 * h < L
        · have hf := HI.out.pas.fits HO.out.cut hh
          have c1 := HI.out.mw.ecell (i := 2 * h) (by have := HI.out.pas.flen; have := HI.out.ld; omega)
          rw [HI.out.pas.mid] at c1
          obtain ⟨J, hJ, hJL, c2⟩ : ∃ J, J = min (2 * h + 1) (L - 1) ∧ J < L ∧ wr.cell? ⟨Be, J, none⟩ = some (.int .i64 (to' D L h : Nat)) := by
            refine ⟨_, rfl, by omega, ?_⟩
            rw [← HI.out.pas.to hh]
            exact HI.out.mw.ecell (by have := HI.out.pas.flen; have := HI.out.ld; omega)
          obtain ⟨R, hR⟩ : ∃ R, R = pn F h := ⟨_, rfl⟩
          obtain ⟨M, hM⟩ : ∃ M, M = gn D (2 * h) := ⟨_, rfl⟩
          obtain ⟨T, hT⟩ : ∃ T, T = to' D L h := ⟨_, rfl⟩
          rw [← hR, ← hM, ← hT, HI.out.lx] at hf
          rw [← hM] at c1
          rw [← hT] at c2
          rw [← hR]
          have HRMT : Hid (R = pn F h ∧ M = gn D (2 * h) ∧ T = to' D L h) := ⟨hR, hM, hT⟩
          obtain ⟨hRM, hMT, hTn⟩ := hf
          have HMid : Hid (MidAt w wr Bi Be Bx By n X' Y2 Y2 F R M T R M R) := ⟨HI.out.mw, Mid.start HI.out.pas.ylen hRM hMT (by rw [HI.out.lx]; exact hTn), HI.out.lx⟩
          clear hR hM hT
          by_cases h2 : 2 * h + 1 < L
          · have hJ' : J = 2 * h + 1 := by omega
            subst hJ'
            clear hJ
            go_wp2
            rw [decide_eq_true (show 2 * (h : Int) < (L : Int) by omega)]
            go_loopw [11, 12, 13] (fun v11 v12 v13 wm => ∃ (i j o : Nat) (Y3 : List Int), v11 = .int .i64 i ∧ v12 = .int .i64 j ∧ v13 = .int .i64 o ∧ MidAt w wm Bi Be Bx By n X' Y3 Y2 F R M T i j o) (fun v11 v12 _ _ => (M - (intOf v11).toNat) + (T - (intOf v12).toNat))
            case atStart => exact ⟨R, M, R, Y2, rfl, rfl, rfl, HMid.out⟩
            case round =>
              clear HMid c1 c2
              obtain ⟨i, j, o, Y3, rfl, rfl, rfl, hQ⟩ := hrel
              have HQ : Hid (MidAt w wr Bi Be Bx By n X' Y3 Y2 F R M T i j o) := hQ
              have hq1 := hQ.mid.fri; have hq2 := hQ.mid.im; have hq3 := hQ.mid.mj; have hq4 := hQ.mid.jt
              have Hoe : Hid (o = R + (i - R) + (j - M)) := hQ.mid.oe
              have ho : o ≤ n := by have := Hoe.out; omega
              clear hQ
              by_cases hij : i < M ∧ j < T
              · obtain ⟨hi, hj⟩ := hij
                have xi := HQ.out.mw.xcell (i := i) (by have := HQ.out.lx; omega)
                have xj := HQ.out.mw.xcell (i := j) (by have := HQ.out.lx; omega)
                have yo := HQ.out.mw.ycell (i := o) (by have := HQ.out.lx; have := HQ.out.mid.len; have := Hoe.out; omega)
                have fo := HQ.out.mw.iy.free o
                have hon : o < n := by have := Hoe.out; omega
                rcases Int.lt_or_le (gt X' j) (gt X' i) with hlt | hlt
                · go_wp2
                  go_quiet (fail)
                  go_wp2
                  go_roundw
                  case rel => exact ⟨i, j + 1, o + 1, _, rfl, by go_num, by go_num, HQ.out.right hi hj hlt _⟩
                  case measure => simp [intOf]; omega
                · go_wp2
                  go_quiet (fail)
                  go_wp2
                  go_roundw
                  case rel => first | exact ⟨i + 1, j, o + 1, _, by go_num, rfl, by go_num, HQ.out.left hi hj (by omega) _⟩ | ((repeat apply Exists.intro); exact ⟨⟨i + 1, j, o + 1, _, by go_num, rfl, by go_num, HQ.out.left hi hj (by omega) _⟩, rfl⟩)
                  case measure => simp [intOf]; omega
              · have HX : Hid (¬ (i < M ∧ j < T)) := hij
                have hMn : M ≤ n := by omega
                obtain ⟨c, hc⟩ : ∃ c, c = M - i := ⟨_, rfl⟩
                obtain ⟨o', ho'⟩ : ∃ o', o' = o + c := ⟨_, rfl⟩
                obtain ⟨c', hc'⟩ : ∃ c', c' = T - j := ⟨_, rfl⟩
                have hadd : (o : Int) + (c : Int) = (o' : Int) := by omega
                have hfit : o + c ≤ n := by have := Hoe.out; omega
                have hfit' : o' + c' ≤ n := by have := Hoe.out; omega
                have hon' : o' ≤ n := by omega
                have hwrap : IntKind.i64.wrap (o' : Int) = (o' : Int) := by rw [IntKind.wrap_i64]; omega
                have HC : Hid (c = M - i ∧ o' = o + c ∧ c' = T - j ∧ o + c ≤ n ∧ o' + c' ≤ n) := ⟨hc, ho', hc', hfit, hfit'⟩
                clear hc ho' hc' hfit hfit' hij
                have HY3 : Hid (Y3.length = n) := by have := HQ.out.mid.len; have := HQ.out.lx; show Y3.length = n; omega
                have HY4 : Hid ((lay Y3 o (seg X' i M)).length = n) := by
                  have e := length_seg (X := X') (a := i) (b := M) (by have := HQ.out.lx; omega)
                  show (lay Y3 o (seg X' i M)).length = n
                  rw [length_lay (by have := HC.out; have := HY3.out; omega)]; exact HY3.out
                by_cases a1 : i < M
                · have a2 : T ≤ j := by have := HX.out; omega
                  go_wp2
                  go_region_law (refine step_copy_mw rfl (.tmp 84) (.tmp 88) rfl (HQ.out.mw.drew) n i M o c (by simp [Act.eval, Act.put]) (by simp [Act.eval, Act.put] <;> omega) HQ.out.lx HY3.out hMn hq2 HC.out.1 HC.out.2.2.2.1 ?_; intro w1 h1)
                  generalize (if n = o then some (⟨By, 0, none⟩ : Addr) else some ⟨By, o, none⟩) = p84
                  generalize (if n = i then some (⟨Bx, 0, none⟩ : Addr) else some ⟨Bx, i, none⟩) = p88
                  go_wp2
                  go_region_law (refine step_copy_mw rfl (.tmp 93) (.tmp 97) rfl (h1.out.drew) n j T o' c' (by simp [Act.eval, Act.put]) (by simp [Act.eval, Act.put] <;> omega) HQ.out.lx HY4.out hTn hq4 HC.out.2.2.1 HC.out.2.2.2.2 ?_; intro w2 h2)
                  generalize (if n = o' then some (⟨By, 0, none⟩ : Addr) else some ⟨By, o', none⟩) = p93
                  generalize (if n = j then some (⟨Bx, 0, none⟩ : Addr) else some ⟨Bx, j, none⟩) = p97
                  go_wp2_with (at_builtin; refine wpList_append_one rfl (.tmp 100) (.tmp 102) rfl Be h m ⟨w2.heap.size, 0, none⟩ T _ (by simp [Act.eval]) (by simp [Act.eval]) (cell_one_new _ _ _) ((h2.out.alloc _).ecell (i := h) (by have := HI.out.pas.flen; have := HI.out.ld; omega)) ((h2.out.alloc _).ie.free h) (by omega) ?_)
                  go_roundw
                  case rel => exact ⟨h + 1, _, _, by rw [pn_succ, gn_set (by have := HI.out.pas.flen; have := HI.out.ld; omega), if_pos rfl], rfl, by go_num, HI.out.next HQ.out HX.out h2.out HC.out.1 HC.out.2.1 HRMT.out HO.out.cut hh _⟩
                  case measure => simp [intOf]; omega
                · have a2 : M ≤ i := by omega
                  go_wp2
                  go_region_law (refine step_copy_mw rfl (.tmp 84) (.tmp 88) rfl (HQ.out.mw.drew) n i M o c (by simp [Act.eval, Act.put]) (by simp [Act.eval, Act.put] <;> omega) HQ.out.lx HY3.out hMn hq2 HC.out.1 HC.out.2.2.2.1 ?_; intro w1 h1)
                  generalize (if n = o then some (⟨By, 0, none⟩ : Addr) else some ⟨By, o, none⟩) = p84
                  generalize (if n = i then some (⟨Bx, 0, none⟩ : Addr) else some ⟨Bx, i, none⟩) = p88
                  go_wp2
                  go_region_law (refine step_copy_mw rfl (.tmp 93) (.tmp 97) rfl (h1.out.drew) n j T o' c' (by simp [Act.eval, Act.put]) (by simp [Act.eval, Act.put] <;> omega) HQ.out.lx HY4.out hTn hq4 HC.out.2.2.1 HC.out.2.2.2.2 ?_; intro w2 h2)
                  generalize (if n = o' then some (⟨By, 0, none⟩ : Addr) else some ⟨By, o', none⟩) = p93
                  generalize (if n = j then some (⟨Bx, 0, none⟩ : Addr) else some ⟨Bx, j, none⟩) = p97
                  go_wp2_with (at_builtin; refine wpList_append_one rfl (.tmp 100) (.tmp 102) rfl Be h m ⟨w2.heap.size, 0, none⟩ T _ (by simp [Act.eval]) (by simp [Act.eval]) (cell_one_new _ _ _) ((h2.out.alloc _).ecell (i := h) (by have := HI.out.pas.flen; have := HI.out.ld; omega)) ((h2.out.alloc _).ie.free h) (by omega) ?_)
                  go_roundw
                  case rel => exact ⟨h + 1, _, _, by rw [pn_succ, gn_set (by have := HI.out.pas.flen; have := HI.out.ld; omega), if_pos rfl], rfl, by go_num, HI.out.next HQ.out HX.out h2.out HC.out.1 HC.out.2.1 HRMT.out HO.out.cut hh _⟩
                  case measure => simp [intOf]; omega
          · have hJ' : J = L - 1 := by omega
            subst hJ'
            clear hJ
            have hmin : (L : Int) - 1 < 2 * (h : Int) + 1 := by omega
            go_wp2
            rw [decide_eq_true (show 2 * (h : Int) < (L : Int) by omega)]
            go_loopw [11, 12, 13] (fun v11 v12 v13 wm => ∃ (i j o : Nat) (Y3 : List Int), v11 = .int .i64 i ∧ v12 = .int .i64 j ∧ v13 = .int .i64 o ∧ MidAt w wm Bi Be Bx By n X' Y3 Y2 F R M T i j o) (fun v11 v12 _ _ => (M - (intOf v11).toNat) + (T - (intOf v12).toNat))
            case atStart => exact ⟨R, M, R, Y2, rfl, rfl, rfl, HMid.out⟩
            case round =>
              clear HMid c1 c2
              obtain ⟨i, j, o, Y3, rfl, rfl, rfl, hQ⟩ := hrel
              have HQ : Hid (MidAt w wr Bi Be Bx By n X' Y3 Y2 F R M T i j o) := hQ
              have hq1 := hQ.mid.fri; have hq2 := hQ.mid.im; have hq3 := hQ.mid.mj; have hq4 := hQ.mid.jt
              have Hoe : Hid (o = R + (i - R) + (j - M)) := hQ.mid.oe
              have ho : o ≤ n := by have := Hoe.out; omega
              clear hQ
              by_cases hij : i < M ∧ j < T
              · obtain ⟨hi, hj⟩ := hij
                have xi := HQ.out.mw.xcell (i := i) (by have := HQ.out.lx; omega)
                have xj := HQ.out.mw.xcell (i := j) (by have := HQ.out.lx; omega)
                have yo := HQ.out.mw.ycell (i := o) (by have := HQ.out.lx; have := HQ.out.mid.len; have := Hoe.out; omega)
                have fo := HQ.out.mw.iy.free o
                have hon : o < n := by have := Hoe.out; omega
                rcases Int.lt_or_le (gt X' j) (gt X' i) with hlt | hlt
                · go_wp2
                  go_quiet (fail)
                  go_wp2
                  go_roundw
                  case rel => exact ⟨i, j + 1, o + 1, _, rfl, by go_num, by go_num, HQ.out.right hi hj hlt _⟩
                  case measure => simp [intOf]; omega
                · go_wp2
                  go_quiet (fail)
                  go_wp2
                  go_roundw
                  case rel => first | exact ⟨i + 1, j, o + 1, _, by go_num, rfl, by go_num, HQ.out.left hi hj (by omega) _⟩ | ((repeat apply Exists.intro); exact ⟨⟨i + 1, j, o + 1, _, by go_num, rfl, by go_num, HQ.out.left hi hj (by omega) _⟩, rfl⟩)
                  case measure => simp [intOf]; omega
              · have HX : Hid (¬ (i < M ∧ j < T)) := hij
                have hMn : M ≤ n := by omega
                obtain ⟨c, hc⟩ : ∃ c, c = M - i := ⟨_, rfl⟩
                obtain ⟨o', ho'⟩ : ∃ o', o' = o + c := ⟨_, rfl⟩
                obtain ⟨c', hc'⟩ : ∃ c', c' = T - j := ⟨_, rfl⟩
                have hadd : (o : Int) + (c : Int) = (o' : Int) := by omega
                have hfit : o + c ≤ n := by have := Hoe.out; omega
                have hfit' : o' + c' ≤ n := by have := Hoe.out; omega
                have hon' : o' ≤ n := by omega
                have hwrap : IntKind.i64.wrap (o' : Int) = (o' : Int) := by rw [IntKind.wrap_i64]; omega
                have HC : Hid (c = M - i ∧ o' = o + c ∧ c' = T - j ∧ o + c ≤ n ∧ o' + c' ≤ n) := ⟨hc, ho', hc', hfit, hfit'⟩
                clear hc ho' hc' hfit hfit' hij
                have HY3 : Hid (Y3.length = n) := by have := HQ.out.mid.len; have := HQ.out.lx; show Y3.length = n; omega
                have HY4 : Hid ((lay Y3 o (seg X' i M)).length = n) := by
                  have e := length_seg (X := X') (a := i) (b := M) (by have := HQ.out.lx; omega)
                  show (lay Y3 o (seg X' i M)).length = n
                  rw [length_lay (by have := HC.out; have := HY3.out; omega)]; exact HY3.out
                by_cases a1 : i < M
                · have a2 : T ≤ j := by have := HX.out; omega
                  go_wp2
                  go_region_law (refine step_copy_mw rfl (.tmp 84) (.tmp 88) rfl (HQ.out.mw.drew) n i M o c (by simp [Act.eval, Act.put]) (by simp [Act.eval, Act.put] <;> omega) HQ.out.lx HY3.out hMn hq2 HC.out.1 HC.out.2.2.2.1 ?_; intro w1 h1)
                  generalize (if n = o then some (⟨By, 0, none⟩ : Addr) else some ⟨By, o, none⟩) = p84
                  generalize (if n = i then some (⟨Bx, 0, none⟩ : Addr) else some ⟨Bx, i, none⟩) = p88
                  go_wp2
                  go_region_law (refine step_copy_mw rfl (.tmp 93) (.tmp 97) rfl (h1.out.drew) n j T o' c' (by simp [Act.eval, Act.put]) (by simp [Act.eval, Act.put] <;> omega) HQ.out.lx HY4.out hTn hq4 HC.out.2.2.1 HC.out.2.2.2.2 ?_; intro w2 h2)
                  generalize (if n = o' then some (⟨By, 0, none⟩ : Addr) else some ⟨By, o', none⟩) = p93
                  generalize (if n = j then some (⟨Bx, 0, none⟩ : Addr) else some ⟨Bx, j, none⟩) = p97
                  go_wp2_with (at_builtin; refine wpList_append_one rfl (.tmp 100) (.tmp 102) rfl Be h m ⟨w2.heap.size, 0, none⟩ T _ (by simp [Act.eval]) (by simp [Act.eval]) (cell_one_new _ _ _) ((h2.out.alloc _).ecell (i := h) (by have := HI.out.pas.flen; have := HI.out.ld; omega)) ((h2.out.alloc _).ie.free h) (by omega) ?_)
                  go_roundw
                  case rel => exact ⟨h + 1, _, _, by rw [pn_succ, gn_set (by have := HI.out.pas.flen; have := HI.out.ld; omega), if_pos rfl], rfl, by go_num, HI.out.next HQ.out HX.out h2.out HC.out.1 HC.out.2.1 HRMT.out HO.out.cut hh _⟩
                  case measure => simp [intOf]; omega
                · have a2 : M ≤ i := by omega
                  go_wp2
                  go_region_law (refine step_copy_mw rfl (.tmp 84) (.tmp 88) rfl (HQ.out.mw.drew) n i M o c (by simp [Act.eval, Act.put]) (by simp [Act.eval, Act.put] <;> omega) HQ.out.lx HY3.out hMn hq2 HC.out.1 HC.out.2.2.2.1 ?_; intro w1 h1)
                  generalize (if n = o then some (⟨By, 0, none⟩ : Addr) else some ⟨By, o, none⟩) = p84
                  generalize (if n = i then some (⟨Bx, 0, none⟩ : Addr) else some ⟨Bx, i, none⟩) = p88
                  go_wp2
                  go_region_law (refine step_copy_mw rfl (.tmp 93) (.tmp 97) rfl (h1.out.drew) n j T o' c' (by simp [Act.eval, Act.put]) (by simp [Act.eval, Act.put] <;> omega) HQ.out.lx HY4.out hTn hq4 HC.out.2.2.1 HC.out.2.2.2.2 ?_; intro w2 h2)
                  generalize (if n = o' then some (⟨By, 0, none⟩ : Addr) else some ⟨By, o', none⟩) = p93
                  generalize (if n = j then some (⟨Bx, 0, none⟩ : Addr) else some ⟨Bx, j, none⟩) = p97
                  go_wp2_with (at_builtin; refine wpList_append_one rfl (.tmp 100) (.tmp 102) rfl Be h m ⟨w2.heap.size, 0, none⟩ T _ (by simp [Act.eval]) (by simp [Act.eval]) (cell_one_new _ _ _) ((h2.out.alloc _).ecell (i := h) (by have := HI.out.pas.flen; have := HI.out.ld; omega)) ((h2.out.alloc _).ie.free h) (by omega) ?_)
                  go_roundw
                  case rel => exact ⟨h + 1, _, _, by rw [pn_succ, gn_set (by have := HI.out.pas.flen; have := HI.out.ld; omega), if_pos rfl], rfl, by go_num, HI.out.next HQ.out HX.out h2.out HC.out.1 HC.out.2.1 HRMT.out HO.out.cut hh _⟩
                  case measure => simp [intOf]; omega
        · have hdone := HI.out.pas.done HO.out.cut (by omega) hh
          have HE : Hid (Outer w wr Bi Be X n m By Bx Y2 X' F h) := ⟨HI.out.mw.swap, hdone.1, hdone.2.trans HO.out.px, HI.out.lx, by rw [HI.out.pas.flen]; exact HI.out.ld, by
            rcases HO.out.who with e | ⟨e, _⟩
            · exact .inr ⟨e, HO.out.px⟩
            · exact .inl e⟩
          clear hdone
          go_wp2
          go_roundw
          case rel => exact ⟨By, Bx, Y2, X', F, h, rfl, rfl, rfl, by omega, HE.out⟩
          case measure => simp [lenOf]; omega
    · go_wp2
      go_ret
      exact HO.out.end (by omega)
end Go.Proofs.Qxb6604118a
