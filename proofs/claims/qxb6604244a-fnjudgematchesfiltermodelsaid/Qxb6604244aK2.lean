/-
  FnJudgeMatchesFilterModel.
-/
import Derived.Test.Qxb6604244aK1
import Derived.Test.Qxb6604244aC3
namespace Go.Proofs.Qxb6604244a
open Go.RowKit

theorem KL_step (i : Nat) (N : Nat → Int) (k : Nat) (D : Nat → Int) : KL (i + 1) N k D = if inB k D (N i) = true then KL i N k D ++ [i] else KL i N k D := by
  unfold KL
  rw [List.range_succ, List.filter_append]
  by_cases h : inB k D (N i) = true
  · simp [h]
  · simp [h]
theorem KL_len (i : Nat) (N : Nat → Int) (k : Nat) (D : Nat → Int) : (KL i N k D).length ≤ i := by
  have := List.length_filter_le (fun q => inB k D (N q)) (List.range i)
  simpa [KL] using this
theorem owns_decs39 {w : World} {B g c : Nat} {l : List Nat} {N V R : Nat → Int} (h : w.ownsRow B 39 3 (.slice (some ⟨g, 0, none⟩) l.length c) l.length (kCells l N V R)) :
    DecS w (some ⟨g, 0, none⟩) l.length (fun j => N (at_ l j)) (fun j => V (at_ l j)) (fun j => R (at_ l j)) := by
  intro j hj
  have := kCells_at N V R l j hj
  refine ⟨g, 0, rfl, ?_, ?_, ?_⟩
  · rw [Nat.zero_add, h.cellAt _ (by omega)]; exact this.1
  · rw [Nat.zero_add, h.cellAt _ (by omega)]; exact this.2.1
  · rw [Nat.zero_add, h.cellAt _ (by omega)]; exact this.2.2

theorem owns_row {w : World} {B g c n : Nat} {l : List Nat} {N V R : Nat → Int} (h : w.ownsRow B 43 3 (.slice (some ⟨g, 0, none⟩) n c) n (kCells l N V R)) (hn : n = l.length) :
    ∃ f, w.rowIs g 43 (c * 3) f ∧ n ≤ c ∧ B ≤ g ∧ ∀ j, j < n → ∃ x, f (j * 3 + 1) = .int .i64 x := by
  have hc := fun j => h.cellAt j
  rcases h.2 with ⟨h', _⟩ | ⟨g', cap', cur, h', hB, hg, h1, _, h2, _⟩
  · simp at h'
  simp only [Value.slice.injEq, Option.some.injEq, Addr.mk.injEq, and_true, true_and] at h'
  obtain ⟨rfl, rfl⟩ := h'
  refine ⟨fun i => (cur[i]?).getD (.bool false), ⟨cur, hg, h2, fun i hi => ?_⟩, h1, hB, fun j hj => ?_⟩
  · show cur[i]? = some ((cur[i]?).getD (.bool false))
    rw [Array.getElem?_eq_getElem (by omega)]; rfl
  · have := hc (j * 3 + 1) (by omega)
    rw [block_cell hg, (kCells_at N V R l j (by omega)).2.1] at this
    exact ⟨V (at_ l j), by show (cur[j * 3 + 1]?).getD (.bool false) = _; rw [this]; rfl⟩

set_option maxRecDepth 100000 in
set_option maxHeartbeats 4000000 in
theorem law4 (a0 a1 a5 a6 : Option Addr) (n0 c0 k c1 m c5 u c6 : Nat) (vb : Bool) (want bound : Int) (T0 D N V R U : Nat → Int) (w : World)
    (Z0 : NilZ a0 n0) (Z1 : NilZ a1 k) (Z5 : NilZ a5 m) (Z6 : NilZ a6 u) (hT0 : Hid (IntS w a0 n0 T0)) (hD : Hid (IntS w a1 k D)) (hE : Hid (DecS w a5 m N V R)) (hU : Hid (IntS w a6 u U)) :
    Calls Try.prog 4 #[.slice a0 n0 c0, .slice a1 k c1, .bool vb, .int .i64 want, .int .i64 bound, .slice a5 m c5, .slice a6 u c6] w fun e w' => e = .returned (.bool true) ∧ Below w.heap.size w w' := by
  obtain ⟨i0, hi, hz0, hz1, hz2⟩ := info_parts Try.info39
  go_enter Try.func4, Try.ntmps4
  go_wp2_with fail
  refine (bytes15_any a0 a1 a5 a6 n0 c0 k c1 m c5 u c6 vb want bound w).mono ?_
  rintro e w1 ⟨b, rfl, s1⟩
  have B1 : Hid (Below w.heap.size w w1) := s1.below _
  replace hT0 : Hid (IntS w1 a0 n0 T0) := s1.ints hT0.out
  replace hD : Hid (IntS w1 a1 k D) := s1.ints hD.out
  replace hE : Hid (DecS w1 a5 m N V R) := s1.decs hE.out
  replace hU : Hid (IntS w1 a6 u U) := s1.ints hU.out
  clear s1
  cases b
  · go_wp2_with fail
    go_ret
    exact ⟨rfl, B1.out⟩
  by_cases h0 : (4096 : Int) < (n0 : Int)
  · go_wp2_with fail
    go_ret
    exact ⟨rfl, B1.out⟩
  replace h0 : n0 ≤ 4096 := by omega
  have h0I : ¬ (4096 : Int) < (n0 : Int) := by omega
  by_cases hk : (4096 : Int) < (k : Int)
  · go_wp2_with fail
    go_ret
    exact ⟨rfl, B1.out⟩
  replace hk : k ≤ 4096 := by omega
  have hkI : ¬ (4096 : Int) < (k : Int) := by omega
  by_cases hm : (4096 : Int) < (m : Int)
  · go_wp2_with fail
    go_ret
    exact ⟨rfl, B1.out⟩
  replace hm : m ≤ 4096 := by omega
  have hmI : ¬ (4096 : Int) < (m : Int) := by omega
  by_cases hu : (4096 : Int) < (u : Int)
  · go_wp2_with fail
    go_ret
    exact ⟨rfl, B1.out⟩
  replace hu : u ≤ 4096 := by omega
  have huI : ¬ (4096 : Int) < (u : Int) := by omega
  go_wp2_with fail
  refine (inc_any a1 k c1 D w1 (by omega) hD).mono ?_
  rintro e w2 ⟨b, rfl, hb, s1⟩
  replace B1 : Hid (Below w.heap.size w w2) := B1.out.trans (s1.below _)
  replace hT0 : Hid (IntS w2 a0 n0 T0) := s1.ints hT0.out
  replace hD : Hid (IntS w2 a1 k D) := s1.ints hD.out
  replace hE : Hid (DecS w2 a5 m N V R) := s1.decs hE.out
  replace hU : Hid (IntS w2 a6 u U) := s1.ints hU.out
  clear s1
  cases b
  · clear hb
    go_wp2_with fail
    go_ret
    exact ⟨rfl, B1.out⟩
  have hID : Hid (Inc k D) := hb.1 rfl
  clear hb
  go_wp2_with fail
  refine (decInc_any a5 m c5 N V R w2 (by omega) hE).mono ?_
  rintro e w3 ⟨b, rfl, hb, s1⟩
  replace B1 : Hid (Below w.heap.size w w3) := B1.out.trans (s1.below _)
  replace hT0 : Hid (IntS w3 a0 n0 T0) := s1.ints hT0.out
  replace hD : Hid (IntS w3 a1 k D) := s1.ints hD.out
  replace hE : Hid (DecS w3 a5 m N V R) := s1.decs hE.out
  replace hU : Hid (IntS w3 a6 u U) := s1.ints hU.out
  clear s1
  cases b
  · clear hb
    go_wp2_with fail
    go_ret
    exact ⟨rfl, B1.out⟩
  have hIN : Hid (Inc m N) := hb.1 rfl
  clear hb
  go_wp2_with fail
  refine (clone_any a0 n0 c0 T0 w3 (by omega) Z0 hT0).mono ?_
  rintro e w4 ⟨a0', c0', rfl, _, _, q0, _, b4⟩
  replace B1 : Hid (Below w.heap.size w w4) := B1.out.trans (b4.mono B1.out.size)
  replace hD : Hid (IntS w4 a1 k D) := hD.out.later b4
  replace hE : Hid (DecS w4 a5 m N V R) := hE.out.later b4
  replace hU : Hid (IntS w4 a6 u U) := hU.out.later b4
  clear b4 q0 hT0
  go_wp2_with fail
  refine (clone_any a1 k c1 D w4 (by omega) Z1 hD).mono ?_
  rintro e w5 ⟨a1', c1', rfl, _, _, q1, O1, b5⟩
  replace B1 : Hid (Below w.heap.size w w5) := B1.out.trans (b5.mono B1.out.size)
  replace hD : Hid (IntS w5 a1' k D) := O1.ints
  replace hE : Hid (DecS w5 a5 m N V R) := hE.out.later b5
  replace hU : Hid (IntS w5 a6 u U) := hU.out.later b5
  clear b5 q1 O1
  go_wp2_with fail
  refine (clone_any a6 u c6 U w5 (by omega) Z6 hU).mono ?_
  rintro e w6 ⟨a6', c6', rfl, _, _, q6, O6, b6⟩
  replace B1 : Hid (Below w.heap.size w w6) := B1.out.trans (b6.mono B1.out.size)
  replace hD : Hid (IntS w6 a1' k D) := hD.out.later b6
  replace hE : Hid (DecS w6 a5 m N V R) := hE.out.later b6
  replace hU : Hid (IntS w6 a6' u U) := O6.ints
  clear b6 q6 O6
  go_wp2_with fail
  refine (cloneDecs_any a5 m c5 N V R w6 (by omega) Z5 hE).mono ?_
  rintro e w7 ⟨a5', c5', rfl, Z5', hE', b7⟩
  replace B1 : Hid (Below w.heap.size w w7) := B1.out.trans (b7.mono B1.out.size)
  replace hD : Hid (IntS w7 a1' k D) := hD.out.later b7
  replace hE : Hid (DecS w7 a5' m N V R) := hE'
  replace hU : Hid (IntS w7 a6' u U) := hU.out.later b7
  clear b7 hE'
  go_wp2_with fail
  refine (toDecs_any a5' m c5' N V R w7 (by omega) hE).mono ?_
  rintro e w8 ⟨ax, cx, rfl, Zx, hX, b8⟩
  replace B1 : Hid (Below w.heap.size w w8) := B1.out.trans (b8.mono B1.out.size)
  replace hD : Hid (IntS w8 a1' k D) := hD.out.later b8
  replace hE : Hid (DecS w8 a5' m N V R) := hE.out.later b8
  replace hU : Hid (IntS w8 a6' u U) := hU.out.later b8
  have HX : Hid (DecS w8 ax m N V R) := hX
  clear b8 hX
  go_wp2_with fail
  refine (zjudge_any a0' a1' n0 c0' k c1' vb want bound ax a6' m cx u c6' D N V R U w8 (by omega) (by omega) (by omega) hID hIN hD HX hU).mono ?_
  rintro e w9 ⟨g, cg, rfl, hown, b9⟩
  obtain ⟨l, hl⟩ : ∃ l, KL m N k D = l := ⟨_, rfl⟩
  have HKL : Hid (KL m N k D = l) := hl
  rw [hl] at hown ⊢
  have HO : Hid (w9.ownsRow w8.heap.size 43 3 (.slice (some ⟨g, 0, none⟩) l.length cg) l.length (kCells l N V R)) := hown
  have HS8 : Hid (w.heap.size ≤ w8.heap.size) := B1.out.size
  have HB9 : Hid (Below w8.heap.size w8 w9) := b9
  have hs89 : w8.heap.size ≤ w9.heap.size := b9.size
  have HGlt : Hid (g < w9.heap.size) := owns_lt' hown
  clear b9 hown hl
  generalize hA : oc (xB (fun i => V (at_ l i)) (V (at_ l 0)) l.length) = A
  generalize hV : vv vb (xB (fun i => V (at_ l i)) want l.length) = Bv
  generalize hC : oc (tB m N k D && uB k D u U) = C
  generalize hM : mx (fun i => R (at_ l i)) l.length = M
  have HEQ : Hid (oc (xB (fun i => V (at_ l i)) (V (at_ l 0)) l.length) = A ∧ vv vb (xB (fun i => V (at_ l i)) want l.length) = Bv ∧ oc (tB m N k D && uB k D u U) = C ∧ mx (fun i => R (at_ l i)) l.length = M) := ⟨hA, hV, hC, hM⟩
  clear hA hV hC hM
  unfold vCells
  go_wp2_with (refine wpList_make_own _ rfl (.const (.int .i64 0)) (.tmp 88) 26 rfl (w9.heap.size + 1) 39 i0 (.agg #[.int .i64 0, .int .i64 0, .int .i64 0]) 3 Try.underlying26 hi hz0 hz1 .i64 .i64 _ m rfl rfl rfl (by rw [hz2]; omega) (by unfold maxLen; omega) (by simp) ?_)
  intro w10 hown10 hgrow10
  have HBv : Hid (Below (w9.heap.size + 1) (w9.alloc (.cells #[.int .i64 A, .int .i64 Bv, .int .i64 C, .int .i64 M, .int .i64 bound] 35)) w10) := (Below.refl _ _).grown hgrow10 (by simp) (fun k h => by cases h)
  have HV10 : Hid (w10.heap[w9.heap.size]? = some (.cells #[.int .i64 A, .int .i64 Bv, .int .i64 C, .int .i64 M, .int .i64 bound] 35 (0, 0))) := (HBv.out.block _ (by omega)).trans (block_new _ _ _)
  have HB10 : Hid (Below w9.heap.size w9 w10) := ((Below.refl _ _).alloc (Nat.le_refl _) _).trans (HBv.out.mono (by omega))
  have HO10 : Hid (w10.ownsRow (w9.heap.size + 1) 39 3 (.slice (some ⟨w9.heap.size + 1, 0, none⟩) (KL 0 N k D).length m) (KL 0 N k D).length (kCells (KL 0 N k D) N V R)) := by
    show World.ownsRow _ _ _ _ _ _ _
    simpa [KL, kCells] using hown10
  have HK10 : Hid (w10.ownsRow w8.heap.size 43 3 (.slice (some ⟨g, 0, none⟩) l.length cg) l.length (kCells l N V R)) := by
    have h := (HO.out.alloc (.cells #[.int .i64 A, .int .i64 Bv, .int .i64 C, .int .i64 M, .int .i64 bound] 35)).kept hgrow10 (.inr (by simp [Value.ownBlock]))
    exact h
  have HB8 : Hid (Below w8.heap.size w8 w10) := HB9.out.trans (HB10.out.mono HB9.out.size)
  have HL0 : Hid ((KL 0 N k D).length = 0) := by show _ = _; simp [KL]
  clear hown10 hgrow10 HBv HB10 HO HB9
  go_wp2_with fail
  go_loopw [18, 92] (fun v z wr => ∃ (i : Nat), v = .slice (some ⟨w9.heap.size + 1, 0, none⟩) (KL i N k D).length m ∧ z = .int .i64 i ∧ i ≤ m ∧
      Hid (wr.ownsRow (w9.heap.size + 1) 39 3 (.slice (some ⟨w9.heap.size + 1, 0, none⟩) (KL i N k D).length m) (KL i N k D).length (kCells (KL i N k D) N V R)) ∧ Hid (Below (w9.heap.size + 1) w10 wr)) (fun _ z _ => m - (intOf z).toNat)
  case atStart => exact ⟨0, by rw [HL0.out], rfl, Nat.zero_le _, HO10, Below.refl _ _⟩
  case round =>
    obtain ⟨i, rfl, rfl, him, HOi, HBi⟩ := hrel
    clear HO10 HL0
    have HB8i : Hid (Below w8.heap.size w8 wr) := HB8.out.trans (HBi.out.mono (by omega))
    by_cases hlt : i < m
    · have hltI : (i : Int) < (m : Int) := by omega
      have HDi : Hid (IntS wr a1' k D) := hD.out.later HB8i.out
      have HEi : Hid (DecS wr a5' m N V R) := hE.out.later HB8i.out
      obtain ⟨bx, ox, rfl, d0, d1, d2⟩ := HEi.out i hlt
      go_wp2_with fail
      refine (among_any (N i) a1' k c1' D _ (by omega) (HDi.out.later ((Below.refl _ _).alloc (Nat.le_refl _) _))).mono ?_
      rintro e w' ⟨rfl, rfl⟩
      generalize hW : wr.alloc (.cells #[.int .i64 (N i), .int .i64 (V i), .int .i64 (R i)] 39) = W1
      have hbW : Below wr.heap.size wr W1 := by rw [← hW]; exact (Below.refl _ _).alloc (Nat.le_refl _) _
      have hnew : W1.heap[wr.heap.size]? = some (.cells #[.int .i64 (N i), .int .i64 (V i), .int .i64 (R i)] 39 (0, 0)) := by rw [← hW]; exact block_new _ _ _
      have HO1 : Hid (W1.ownsRow (w9.heap.size + 1) 39 3 (.slice (some ⟨w9.heap.size + 1, 0, none⟩) (KL i N k D).length m) (KL i N k D).length (kCells (KL i N k D) N V R)) := by rw [← hW]; exact HOi.out.alloc _
      have hsz : w9.heap.size + 1 < wr.heap.size := owns_lt' HOi.out
      have HB1 : Hid (Below (w9.heap.size + 1) w10 W1) := HBi.out.trans (hbW.mono (by omega))
      have hszW : w9.heap.size + 1 ≤ W1.heap.size := Nat.le_of_lt (owns_lt' HO1.out)
      have n0' : W1.cell? ⟨wr.heap.size, 0, none⟩ = some (.int .i64 (N i)) := (block_cell hnew 0).trans rfl
      have n1 : W1.cell? ⟨wr.heap.size, 1, none⟩ = some (.int .i64 (V i)) := (block_cell hnew 1).trans rfl
      have n2 : W1.cell? ⟨wr.heap.size, 2, none⟩ = some (.int .i64 (R i)) := (block_cell hnew 2).trans rfl
      have E := KL_step i N k D
      have hli := KL_len i N k D
      generalize wr.heap.size = nb at n0' n1 n2 ⊢
      clear hW hbW hnew HOi d0 d1 d2
      cases hb : inB k D (N i)
      · have E1 : Hid (KL (i + 1) N k D = KL i N k D) := by show _ = _; rw [E, hb]; rfl
        clear E
        go_wp2_with fail
        go_roundw
        case rel => exact ⟨i + 1, by rw [E1.out], by go_num, by omega, by show World.ownsRow _ _ _ _ _ _ _; rw [E1.out]; exact HO1, HB1⟩
        case measure => simp [intOf]; omega
      · have E1 : Hid (KL (i + 1) N k D = KL i N k D ++ [i]) := by show _ = _; rw [E, hb]; rfl
        clear E
        go_wp2_with (at_builtin; refine wpList_append_fits _ rfl (.tmp 100) (.tmp 102) 26 rfl (w9.heap.size + 1) 39 i0 3 Try.underlying26 hi hz1 (w9.heap.size + 1) (KL i N k D).length m (kCells (KL i N k D) N V R) rfl (HO1.out.alloc _) ⟨W1.heap.size, 0, none⟩ 1 1 [.int .i64 (N i), .int .i64 (V i), .int .i64 (R i)] rfl rfl (cell_three_new _ _ _ _ _) (three_one _ _ _) (by omega) ?_)
        intro w11 hown11 hgrow11
        have HO2 : Hid (w11.ownsRow (w9.heap.size + 1) 39 3 (.slice (some ⟨w9.heap.size + 1, 0, none⟩) (KL (i + 1) N k D).length m) (KL (i + 1) N k D).length (kCells (KL (i + 1) N k D) N V R)) := by
          show World.ownsRow _ _ _ _ _ _ _
          rw [E1.out, kCells_snoc, List.length_append]; exact hown11
        have HB2 : Hid (Below (w9.heap.size + 1) w10 w11) := (HB1.out.alloc hszW _).grown hgrow11 (by simp; omega) (fun k h => by cases h; exact Nat.le_refl _)
        have HLEN : Hid ((KL (i + 1) N k D).length = (KL i N k D).length + 1) := by show _ = _; rw [E1.out]; simp
        clear hown11 hgrow11
        go_wp2_with fail
        go_roundw
        case rel => exact ⟨i + 1, by rw [HLEN.out], by go_num, by omega, HO2, HB2⟩
        case measure => simp [intOf]; omega
    · have hltI : ¬ (i : Int) < (m : Int) := by omega
      obtain rfl : i = m := by omega
      have HMO : Hid (wr.ownsRow (w9.heap.size + 1) 39 3 (.slice (some ⟨w9.heap.size + 1, 0, none⟩) l.length i) l.length (kCells l N V R)) := by
        have h := HOi.out; rw [HKL.out] at h; exact h
      rw [HKL.out]
      have HMD : Hid (DecS wr (some ⟨w9.heap.size + 1, 0, none⟩) l.length (fun j => N (at_ l j)) (fun j => V (at_ l j)) (fun j => R (at_ l j))) := owns_decs39 HMO.out
      have hgm : w9.heap.size + 1 < wr.heap.size := owns_lt' HMO.out
      have HKD : Hid (DecS wr (some ⟨g, 0, none⟩) l.length (fun j => N (at_ l j)) (fun j => V (at_ l j)) (fun j => R (at_ l j))) := by
        have h := owns_decs HK10.out
        intro q hq
        obtain ⟨b, off, e, x0, x1, x2⟩ := h q hq
        simp only [Option.some.injEq, Addr.mk.injEq, and_true] at e
        obtain ⟨rfl, rfl⟩ := e
        have hg9 := HGlt.out
        exact ⟨g, 0, rfl, (HBi.out.cell (p := ⟨g, _, none⟩) (by simp only []; omega)).trans x0, (HBi.out.cell (p := ⟨g, _, none⟩) (by simp only []; omega)).trans x1, (HBi.out.cell (p := ⟨g, _, none⟩) (by simp only []; omega)).trans x2⟩
      have hlm := KL_len i N k D
      rw [HKL.out] at hlm
      clear HOi HMO
      go_wp2_with fail
      refine (sameDec_any (some ⟨g, 0, none⟩) (some ⟨w9.heap.size + 1, 0, none⟩) l.length cg i _ _ _ wr (by omega) HKD HMD).mono ?_
      rintro e w11 ⟨rfl, s11⟩
      have HB11 : Hid (Below (w9.heap.size + 1) w10 w11) := HBi.out.trans (s11.below _)
      have HB8b : Hid (Below w8.heap.size w8 w11) := HB8i.out.trans (s11.below _)
      have HMD1 : Hid (DecS w11 (some ⟨w9.heap.size + 1, 0, none⟩) l.length (fun j => N (at_ l j)) (fun j => V (at_ l j)) (fun j => R (at_ l j))) := s11.decs HMD.out
      have hgm1 : w9.heap.size + 1 < w11.heap.size := by rw [s11.size]; exact hgm
      have HV11 : Hid (w11.heap[w9.heap.size]? = some (.cells #[.int .i64 A, .int .i64 Bv, .int .i64 C, .int .i64 M, .int .i64 bound] 35 (0, 0))) := (HB11.out.block _ (by omega)).trans HV10.out
      have HD11 : Hid (IntS w11 a1' k D) := hD.out.later HB8b.out
      have HE11 : Hid (DecS w11 a5' i N V R) := hE.out.later HB8b.out
      have HU11 : Hid (IntS w11 a6' u U) := hU.out.later HB8b.out
      clear s11 HMD HKD HBi HB8i hgm HV10
      go_wp2_with fail
      go_loop [21, 111] (fun x z => ∃ (j : Nat), x = .int .i64 (oc (tB i N j D)) ∧ z = .int .i64 j ∧ j ≤ k) (fun _ z => k - (intOf z).toNat)
      case atStart => exact ⟨0, rfl, rfl, Nat.zero_le _⟩
      case round =>
        obtain ⟨j, rfl, rfl, hj⟩ := hrel
        by_cases hjk : j < k
        · have hjkI : (j : Int) < (k : Int) := by omega
          obtain ⟨bd, od, rfl, dj⟩ := HD11.out j hjk
          have E := tB_succ i N j D
          generalize ht : oc (tB i N j D) = tj
          have HTJ : Hid (oc (tB i N j D) = tj) := ht
          clear ht
          go_wp2_with fail
          refine (decidedBy_any (D j) a5' i c5' N V R w11 (by omega) HE11).mono ?_
          rintro e w' ⟨rfl, rfl⟩
          cases hb : inB i N (D j)
          · have E1 : Hid (oc (tB i N (j + 1) D) = 2) := by show _ = _; rw [E, hb, Bool.and_false]; rfl
            clear E
            go_wp2_with fail
            go_round
            case rel => exact ⟨j + 1, by rw [E1.out], by go_num, by omega⟩
            case measure => simp [intOf]; omega
          · have E1 : Hid (oc (tB i N (j + 1) D) = tj) := by show _ = _; rw [E, hb, Bool.and_true]; exact HTJ.out
            clear E
            go_wp2_with fail
            go_round
            case rel => exact ⟨j + 1, by rw [E1.out], by go_num, by omega⟩
            case measure => simp [intOf]; omega
        · have hjkI : ¬ (j : Int) < (k : Int) := by omega
          obtain rfl : j = k := by omega
          have HT0 : Hid (oc (tB i N j D) = oc (tB i N j D && uB j D 0 U)) := by show _ = _; simp [uB]
          generalize ht : oc (tB i N j D) = tj at HT0 ⊢
          clear ht
          go_wp2_with fail
          go_loop [21, 122] (fun x z => ∃ (q : Nat), x = .int .i64 (oc (tB i N j D && uB j D q U)) ∧ z = .int .i64 q ∧ q ≤ u) (fun _ z => u - (intOf z).toNat)
          case atStart => exact ⟨0, by rw [HT0.out], rfl, Nat.zero_le _⟩
          case round =>
            obtain ⟨q, rfl, rfl, hq⟩ := hrel
            by_cases hqu : q < u
            · have hquI : (q : Int) < (u : Int) := by omega
              obtain ⟨bu, ou, rfl, uq⟩ := HU11.out q hqu
              have E := uB_succ j D q U
              generalize ht : oc (tB i N j D && uB j D q U) = tq
              have HTQ : Hid (oc (tB i N j D && uB j D q U) = tq) := ht
              clear ht
              go_wp2_with fail
              refine (among_any (U q) a1' j c1' D w11 (by omega) HD11).mono ?_
              rintro e w' ⟨rfl, rfl⟩
              cases hb : inB j D (U q)
              · have E1 : Hid (oc (tB i N j D && uB j D (q + 1) U) = tq) := by show _ = _; rw [E, hb, Bool.not_false, Bool.and_true]; exact HTQ.out
                clear E
                go_wp2_with fail
                go_round
                case rel => exact ⟨q + 1, by rw [E1.out], by go_num, by omega⟩
                case measure => simp [intOf]; omega
              · have E1 : Hid (oc (tB i N j D && uB j D (q + 1) U) = 2) := by show _ = _; rw [E, hb, Bool.not_true, Bool.and_false, Bool.and_false]; rfl
                clear E
                go_wp2_with fail
                go_round
                case rel => exact ⟨q + 1, by rw [E1.out], by go_num, by omega⟩
                case measure => simp [intOf]; omega
            · have hquI : ¬ (q : Int) < (u : Int) := by omega
              obtain rfl : q = u := by omega
              rw [HEQ.out.2.2.1]
              go_upto_if 132 with fail
              go_cut [26] from 39 (fun v wc => v = .int .i64 A ∧ Hid (Below w11.heap.size w11 wc))
              case first =>
                by_cases hl0 : l.length = 0
                · have HA : Hid (1 = A) := by show _ = _; rw [← HEQ.out.1, hl0]; rfl
                  have hl0' : ¬ (0 : Int) < (l.length : Int) := by omega
                  clear hl0
                  go_wp2_with fail
                  go_meet
                  case rel => exact ⟨by rw [← HA.out], Below.refl _ _⟩
                · have hl0' : (0 : Int) < (l.length : Int) := by omega
                  obtain ⟨bm, om, em, p0, p1, p2⟩ := HMD1.out 0 (by omega)
                  simp only [Option.some.injEq, Addr.mk.injEq, and_true] at em
                  obtain ⟨rfl, rfl⟩ := em
                  simp only [Nat.zero_add, Nat.zero_mul] at p0 p1 p2
                  have HST : Hid (MM (fun y => V (at_ l y)) 0 (V (at_ l 0)) (V (at_ l 0))) := MM.start _
                  clear hl0
                  go_wp2_with fail
                  go_loopw [27, 28, 143] (fun x x' z wr => ∃ (y : Nat) (lo hi : Int), x = .int .i64 lo ∧ x' = .int .i64 hi ∧ z = .int .i64 y ∧ y ≤ l.length ∧ Hid (MM (fun y => V (at_ l y)) y lo hi) ∧ Hid (Below w11.heap.size w11 wr)) (fun _ _ z _ => l.length - (intOf z).toNat)
                  case atStart => exact ⟨0, _, _, rfl, rfl, rfl, Nat.zero_le _, HST, Below.refl _ _⟩
                  case round =>
                    obtain ⟨y, lo, hi, rfl, rfl, rfl, hy, HMM, HBy⟩ := hrel
                    by_cases hyl : y < l.length
                    · have hylI : (y : Int) < (l.length : Int) := by omega
                      have HMy : Hid (DecS wr (some ⟨w9.heap.size + 1, 0, none⟩) l.length (fun j => N (at_ l j)) (fun j => V (at_ l j)) (fun j => R (at_ l j))) := HMD1.out.later HBy.out
                      obtain ⟨bm, om, em, r0, r1, r2⟩ := HMy.out y hyl
                      simp only [Option.some.injEq, Addr.mk.injEq, and_true] at em
                      obtain ⟨rfl, rfl⟩ := em
                      simp only [Nat.zero_add] at r0 r1 r2
                      have hlh : lo ≤ hi := by have := HMM.out.1; have := HMM.out.2.1; omega
                      have HBW : Hid (Below w11.heap.size w11 (wr.alloc (.cells #[.int .i64 (N (at_ l y)), .int .i64 (V (at_ l y)), .int .i64 (R (at_ l y))] 39))) := HBy.out.alloc HBy.out.size _
                      by_cases h1 : V (at_ l y) < lo
                      · have h2 : ¬ hi < V (at_ l y) := by omega
                        have fin : Hid (MM (fun y => V (at_ l y)) (y + 1) (V (at_ l y)) hi) := HMM.out.down h1
                        go_wp2_with fail
                        go_roundw
                        case rel => exact ⟨y + 1, _, _, rfl, rfl, by go_num, by omega, fin, HBW⟩
                        case measure => simp [intOf]; omega
                      · by_cases h2 : hi < V (at_ l y)
                        · have fin : Hid (MM (fun y => V (at_ l y)) (y + 1) lo (V (at_ l y))) := HMM.out.up h2
                          go_wp2_with fail
                          go_roundw
                          case rel => exact ⟨y + 1, _, _, rfl, rfl, by go_num, by omega, fin, HBW⟩
                          case measure => simp [intOf]; omega
                        · have fin : Hid (MM (fun y => V (at_ l y)) (y + 1) lo hi) := HMM.out.stay h1 h2
                          go_wp2_with fail
                          go_roundw
                          case rel => exact ⟨y + 1, _, _, rfl, rfl, by go_num, by omega, fin, HBW⟩
                          case measure => simp [intOf]; omega
                    · have hylI : ¬ (y : Int) < (l.length : Int) := by omega
                      obtain rfl : y = l.length := by omega
                      cases hx : vB (fun y => V (at_ l y)) l.length
                      · have hne : (lo != hi) = true := by rw [bne_iff_ne]; exact HMM.out.no hx
                        have HA : Hid (2 = A) := by show _ = _; rw [← HEQ.out.1]; show 2 = oc (vB (fun y => V (at_ l y)) l.length); rw [hx]; rfl
                        clear hx
                        go_wp2_with fail
                        go_meet
                        case rel => exact ⟨by rw [← HA.out], HBy⟩
                      · obtain ⟨rfl, rfl⟩ := HMM.out.yes hx
                        have HA : Hid (1 = A) := by show _ = _; rw [← HEQ.out.1]; show 1 = oc (vB (fun y => V (at_ l y)) l.length); rw [hx]; rfl
                        clear hx
                        go_wp2_with fail
                        go_meet
                        case rel => exact ⟨by rw [← HA.out], HBy⟩
              case rest =>
              obtain ⟨w12, rfl⟩ : ∃ w12, w12 = wc := ⟨_, rfl⟩
              obtain ⟨rfl, HB12⟩ := hcut
              go_upto_if 163 with fail
              go_cut [31] from 39 (fun v wc => v = .int .i64 Bv ∧ Hid (Below w11.heap.size w11 wc))
              case first =>
                cases vb
                · have HA : Hid (3 = Bv) := by show _ = _; rw [← HEQ.out.2.1]; rfl
                  go_wp2_with fail
                  go_meet
                  case rel => exact ⟨by rw [← HA.out], HB12⟩
                · go_wp2_with fail
                  go_loopw [31, 166] (fun x z wr => ∃ (y : Nat), x = .int .i64 (oc (xB (fun y => V (at_ l y)) want y)) ∧ z = .int .i64 y ∧ y ≤ l.length ∧ Hid (Below w11.heap.size w11 wr)) (fun _ z _ => l.length - (intOf z).toNat)
                  case atStart => exact ⟨0, rfl, rfl, Nat.zero_le _, HB12⟩
                  case round =>
                    obtain ⟨y, rfl, rfl, hy, HBy⟩ := hrel
                    by_cases hyl : y < l.length
                    · have hylI : (y : Int) < (l.length : Int) := by omega
                      have HMy : Hid (DecS wr (some ⟨w9.heap.size + 1, 0, none⟩) l.length (fun j => N (at_ l j)) (fun j => V (at_ l j)) (fun j => R (at_ l j))) := HMD1.out.later HBy.out
                      obtain ⟨bm, om, em, r0, r1, r2⟩ := HMy.out y hyl
                      simp only [Option.some.injEq, Addr.mk.injEq, and_true] at em
                      obtain ⟨rfl, rfl⟩ := em
                      simp only [Nat.zero_add] at r0 r1 r2
                      have HBW : Hid (Below w11.heap.size w11 (wr.alloc (.cells #[.int .i64 (N (at_ l y)), .int .i64 (V (at_ l y)), .int .i64 (R (at_ l y))] 39))) := HBy.out.alloc HBy.out.size _
                      have E := xB_succ (fun y => V (at_ l y)) want y
                      generalize ht : oc (xB (fun y => V (at_ l y)) want y) = ty
                      have HTY : Hid (oc (xB (fun y => V (at_ l y)) want y) = ty) := ht
                      cases h1 : (V (at_ l y) == want)
                      · have h1' : (V (at_ l y) != want) = true := by rw [bne, h1]; rfl
                        have E1 : Hid (oc (xB (fun y => V (at_ l y)) want (y + 1)) = 2) := by show _ = _; rw [E, h1, Bool.and_false]; rfl
                        clear E h1 ht
                        go_wp2_with fail
                        go_roundw
                        case rel => exact ⟨y + 1, by rw [E1.out], by go_num, by omega, HBW⟩
                        case measure => simp [intOf]; omega
                      · have h1' : (V (at_ l y) != want) = false := by rw [bne, h1]; rfl
                        have E1 : Hid (oc (xB (fun y => V (at_ l y)) want (y + 1)) = ty) := by show _ = _; rw [E, h1, Bool.and_true]; exact ht
                        clear E h1 ht
                        go_wp2_with fail
                        go_roundw
                        case rel => exact ⟨y + 1, by rw [E1.out], by go_num, by omega, HBW⟩
                        case measure => simp [intOf]; omega
                    · have hylI : ¬ (y : Int) < (l.length : Int) := by omega
                      obtain rfl : y = l.length := by omega
                      have HA : Hid (oc (xB (fun y => V (at_ l y)) want l.length) = Bv) := HEQ.out.2.1
                      generalize oc (xB (fun y => V (at_ l y)) want l.length) = ty at HA ⊢
                      go_wp2_with fail
                      go_meet
                      case rel => exact ⟨by rw [← HA.out], HBy⟩
              case rest =>
              obtain ⟨w13, rfl⟩ : ∃ w13, w13 = wc := ⟨_, rfl⟩
              obtain ⟨rfl, HB13⟩ := hcut
              go_wp2_with fail
              go_loopw [34, 177] (fun x z wr => ∃ (y : Nat), x = .int .i64 (mx (fun y => R (at_ l y)) y) ∧ z = .int .i64 y ∧ y ≤ l.length ∧ Hid (Below w11.heap.size w11 wr)) (fun _ z _ => l.length - (intOf z).toNat)
              case atStart => exact ⟨0, rfl, rfl, Nat.zero_le _, HB13⟩
              case round =>
                obtain ⟨y, rfl, rfl, hy, HBy⟩ := hrel
                by_cases hyl : y < l.length
                · have hylI : (y : Int) < (l.length : Int) := by omega
                  have HMy : Hid (DecS wr (some ⟨w9.heap.size + 1, 0, none⟩) l.length (fun j => N (at_ l j)) (fun j => V (at_ l j)) (fun j => R (at_ l j))) := HMD1.out.later HBy.out
                  obtain ⟨bm, om, em, r0, r1, r2⟩ := HMy.out y hyl
                  simp only [Option.some.injEq, Addr.mk.injEq, and_true] at em
                  obtain ⟨rfl, rfl⟩ := em
                  simp only [Nat.zero_add] at r0 r1 r2
                  have HBW : Hid (Below w11.heap.size w11 (wr.alloc (.cells #[.int .i64 (N (at_ l y)), .int .i64 (V (at_ l y)), .int .i64 (R (at_ l y))] 39))) := HBy.out.alloc HBy.out.size _
                  have E : mx (fun y => R (at_ l y)) (y + 1) = if mx (fun y => R (at_ l y)) y < R (at_ l y) then R (at_ l y) else mx (fun y => R (at_ l y)) y := rfl
                  generalize mx (fun y => R (at_ l y)) y = mm at E ⊢
                  by_cases h1 : mm < R (at_ l y)
                  · have E1 : Hid (mx (fun y => R (at_ l y)) (y + 1) = R (at_ l y)) := by show _ = _; rw [E, if_pos h1]
                    clear E
                    go_wp2_with fail
                    go_roundw
                    case rel => exact ⟨y + 1, by rw [E1.out], by go_num, by omega, HBW⟩
                    case measure => simp [intOf]; omega
                  · have E1 : Hid (mx (fun y => R (at_ l y)) (y + 1) = mm) := by show _ = _; rw [E, if_neg h1]
                    clear E
                    go_wp2_with fail
                    go_roundw
                    case rel => exact ⟨y + 1, by rw [E1.out], by go_num, by omega, HBW⟩
                    case measure => simp [intOf]; omega
                · have hylI : ¬ (y : Int) < (l.length : Int) := by omega
                  obtain rfl : y = l.length := by omega
                  rw [HEQ.out.2.2.2]
                  have HVr : Hid (wr.heap[w9.heap.size]? = some (.cells #[.int .i64 A, .int .i64 Bv, .int .i64 C, .int .i64 M, .int .i64 bound] 35 (0, 0))) := (HBy.out.block _ (by omega)).trans HV11.out
                  have HWW : Hid (w9.heap.size < wr.heap.size) := (Array.getElem?_eq_some_iff.1 HVr.out).1
                  have hbv : ∀ o, (wr.alloc o).heap[w9.heap.size]? = some (.cells #[.int .i64 A, .int .i64 Bv, .int .i64 C, .int .i64 M, .int .i64 bound] 35 (0, 0)) := fun o => (Below.heap_alloc _ _ _ HWW.out).trans HVr.out
                  have v0 : ∀ o, (wr.alloc o).cell? ⟨w9.heap.size, 0, none⟩ = some (.int .i64 A) := fun o => (block_cell (hbv o) 0).trans rfl
                  have v1 : ∀ o, (wr.alloc o).cell? ⟨w9.heap.size, 1, none⟩ = some (.int .i64 Bv) := fun o => (block_cell (hbv o) 1).trans rfl
                  have v2 : ∀ o, (wr.alloc o).cell? ⟨w9.heap.size, 2, none⟩ = some (.int .i64 C) := fun o => (block_cell (hbv o) 2).trans rfl
                  have v3 : ∀ o, (wr.alloc o).cell? ⟨w9.heap.size, 3, none⟩ = some (.int .i64 M) := fun o => (block_cell (hbv o) 3).trans rfl
                  have v4 : ∀ o, (wr.alloc o).cell? ⟨w9.heap.size, 4, none⟩ = some (.int .i64 bound) := fun o => (block_cell (hbv o) 4).trans rfl
                  obtain ⟨f, hrow, hlc, hBg, hf⟩ := owns_row HK10.out rfl
                  have HROW : Hid ((wr.alloc (.cells #[.int .i64 A, .int .i64 Bv, .int .i64 C, .int .i64 M, .int .i64 bound] 35)).rowIs g 43 (cg * 3) f) := by
                    have h9 := HGlt.out
                    refine World.rowIs.alloc (hrow.of_block ?_) _
                    exact (HBy.out.block g (by omega)).trans (HB11.out.block g (by omega))
                  have HFF : Hid (∀ j, 0 ≤ j → j < l.length → ∃ x, f (j * 3 + 1) = .int .i64 x) := fun j _ hj => hf j hj
                  have HBE : Hid (Below w8.heap.size w8 (wr.alloc (.cells #[.int .i64 A, .int .i64 Bv, .int .i64 C, .int .i64 M, .int .i64 bound] 35))) := by
                    have h1 := HB8b.out.trans (HBy.out.mono HB8b.out.size)
                    exact h1.alloc h1.size _
                  clear hbv hrow hf HVr
                  go_wp2_with fail
                  go_loopw [199] (fun z wx => ∃ (y : Nat) (f : Nat → Value), z = .int .i64 y ∧ y ≤ l.length ∧ Hid (wx.rowIs g 43 (cg * 3) f) ∧ Hid (∀ j, y ≤ j → j < l.length → ∃ x, f (j * 3 + 1) = .int .i64 x) ∧ Hid (Below w8.heap.size w8 wx)) (fun z _ => l.length - (intOf z).toNat)
                  case atStart => exact ⟨0, f, rfl, Nat.zero_le _, HROW, HFF, HBE⟩
                  case round =>
                    obtain ⟨y, f', rfl, hy', HR, HF, HB⟩ := hrel
                    by_cases hyl' : y < l.length
                    · have hylI' : (y : Int) < (l.length : Int) := by omega
                      obtain ⟨x, hx⟩ := HF.out y (Nat.le_refl _) hyl'
                      have c1 := HR.out.cell (i := y * 3 + 1) (by omega)
                      rw [hx] at c1
                      have z1 := HR.out.frozen (y * 3 + 1)
                      clear hx
                      go_wp2_with fail
                      go_roundw
                      case rel =>
                        refine ⟨y + 1, _, by go_num, by omega, HR.out.set (y * 3 + 1) _, ?_, HB.out.setCell hBg _⟩
                        intro j h1 h2
                        simp only [show ¬ (j * 3 + 1 = y * 3 + 1) by omega, if_false]
                        exact HF.out j (by omega) h2
                      case measure => simp [intOf]; omega
                    · have hylI' : ¬ (y : Int) < (l.length : Int) := by omega
                      go_wp2_with fail
                      refine (sameDec_any ax a5' i cx c5' N V R _ (by omega) (HX.out.later HB.out) (hE.out.later HB.out)).mono ?_
                      rintro e w99 ⟨rfl, s99⟩
                      go_wp2_with fail
                      go_ret
                      exact ⟨rfl, (B1.out.trans (HB.out.mono HS8.out)).trans (s99.below _)⟩
end Go.Proofs.Qxb6604244a
