import Derived.Test.Qxb6603855aW4
import Derived.Deep.RegionWith
namespace Go.Proofs.Qxb6603855a
open Go.RowKit

theorem run_cut_from {P : Program} (t e : TypeId) (ht : P.underlying t = some (.slice e)) (hs : (P.info? e).map (·.size) = some 1) (a : Option Addr) (n c i : Nat) (hi : i ≤ n) (w : World) :
    (Instr.slice t (.slice a n c) (some (.int .i64 (i : Int))) none none).run P w = .ok (.slice (if c = i then a else a.map (·.add i)) (n - i) (c - i)) w := by
  obtain ⟨inf, h1, h2⟩ := Option.map_eq_some_iff.1 hs
  have h3 : (i : Int) ≤ (n : Int) := by omega
  simp [Instr.slice, run_underlying ht, Instr.sliceBounds, run_sliceBound, sizeOf, typeInfo, h1, h2, hi]
theorem run_cut_to {P : Program} (t e : TypeId) (ht : P.underlying t = some (.slice e)) (hs : (P.info? e).map (·.size) = some 1) (a : Option Addr) (n c i : Nat) (hi : i ≤ c) (w : World) :
    (Instr.slice t (.slice a n c) none (some (.int .i64 (i : Int))) none).run P w = .ok (.slice (if c = 0 then a else a.map (·.add 0)) i c) w := by
  obtain ⟨inf, h1, h2⟩ := Option.map_eq_some_iff.1 hs
  have h3 : (i : Int) ≤ (c : Int) := by omega
  simp [Instr.slice, run_underlying ht, Instr.sliceBounds, run_sliceBound, sizeOf, typeInfo, h1, hi]

theorem add_map_str {w : World} {a : Option Addr} {n : Nat} {K : Nat → ByteArray} (h : StrS w a n K) {c i : Nat} (hc : n ≤ c) : StrS w (if c = i then a else a.map (·.add i)) (n - i) (fun k => K (i + k)) := by
  intro j hj
  obtain ⟨b, off, rfl, d⟩ := h (i + j) (by omega)
  refine ⟨b, off + i, ?_, by rw [Nat.add_assoc]; exact d⟩
  rw [if_neg (by omega)]
  simp [Go.WideShapes.add_plain]
theorem add_map_int {w : World} {a : Option Addr} {n : Nat} {K : Nat → Int} (h : IntS w a n K) {c i : Nat} (hc : n ≤ c) : IntS w (if c = i then a else a.map (·.add i)) (n - i) (fun k => K (i + k)) := by
  intro j hj
  obtain ⟨b, off, rfl, d⟩ := h (i + j) (by omega)
  refine ⟨b, off + i, ?_, by rw [Nat.add_assoc]; exact d⟩
  rw [if_neg (by omega)]
  simp [Go.WideShapes.add_plain]
theorem cut_str {w : World} {a : Option Addr} {n m c : Nat} {K : Nat → ByteArray} (h : StrS w a n K) (hm : m ≤ n) : StrS w (if c = 0 then a else a.map (·.add 0)) m K := by
  intro j hj
  obtain ⟨b, off, rfl, d⟩ := h j (by omega)
  refine ⟨b, off, ?_, d⟩
  split <;> simp [Go.WideShapes.add_plain]
theorem cut_int {w : World} {a : Option Addr} {n m c : Nat} {K : Nat → Int} (h : IntS w a n K) (hm : m ≤ n) : IntS w (if c = 0 then a else a.map (·.add 0)) m K := by
  intro j hj
  obtain ⟨b, off, rfl, d⟩ := h j (by omega)
  refine ⟨b, off, ?_, d⟩
  split <;> simp [Go.WideShapes.add_plain]
theorem nilz_from {a : Option Addr} {n c i : Nat} (h : NilZ a n) : NilZ (if c = i then a else a.map (·.add i)) (n - i) := by
  intro e
  have : a = none := by split at e <;> simp_all
  have := h this
  omega
theorem nilz_to {a : Option Addr} {n m c : Nat} (h : NilZ a n) (hm : m ≤ n) : NilZ (if c = 0 then a else a.map (·.add 0)) m := by
  intro e
  have : a = none := by split at e <;> simp_all
  have := h this
  omega

theorem zzEnd_zero (a0 a1 a2 : Option Addr) (n c0 c1 c2 : Nat) (K T : Nat → ByteArray) (L : Nat → Int) (w : World) (hn : n ≤ 65536) (h0 : NilZ a0 n)
    (hK : Hid (StrS w a0 n K)) (hT : Hid (StrS w a1 n T)) (hL : Hid (IntS w a2 n L)) :
    Calls Try.prog 8 #[.slice a0 n c0, .slice a1 n c1, .slice a2 n c2, .int .i64 0] w fun e w' => e = .returned (.int .i64 (se n K T 0)) ∧ Below w.heap.size w w' := by
  have := zzEnd_any a0 a1 a2 n c0 c1 c2 K T L 0 w hn (by omega) h0 hK hT hL
  rwa [show ((0 : Nat) : Int) = 0 from rfl] at this

set_option maxRecDepth 100000 in
set_option maxHeartbeats 1000000 in
theorem law4 (a0 a1 a2 : Option Addr) (n0 n1 n2 c0 c1 c2 : Nat) (K T : Nat → ByteArray) (L : Nat → Int) (i : Int) (w : World)
    (Z0 : NilZ a0 n0) (Z1 : NilZ a1 n1) (Z2 : NilZ a2 n2)
    (hK : Hid (StrS w a0 n0 K)) (hT : Hid (StrS w a1 n1 T)) (hL : Hid (IntS w a2 n2 L)) :
    Calls Try.prog 4 #[.slice a0 n0 c0, .slice a1 n1 c1, .slice a2 n2 c2, .int .i64 i] w fun e w' => e = .returned (.bool true) ∧ Below w.heap.size w w' := by
  go_enter Try.func4, Try.ntmps4
  go_wp2_with fail
  refine (bytes9_any a0 a1 a2 n0 n1 n2 c0 c1 c2 K T i w hK hT).mono ?_
  rintro e w' ⟨b, rfl, rfl⟩
  cases b
  · go_wp2_with fail
    go_ret
    exact ⟨rfl, Below.refl _ _⟩
  go_wp2_with fail
  refine (tooBig_any a0 a1 a2 n0 n1 n2 c0 c1 c2 K T w hK hT).mono ?_
  rintro e w' ⟨b, rfl, rfl, hsm⟩
  cases b
  rotate_left
  · clear hsm
    go_wp2_with fail
    go_ret
    exact ⟨rfl, Below.refl _ _⟩
  replace hsm := hsm rfl
  have HM : Hid (n0 ≤ 65536) := hsm.1
  clear hsm
  go_wp2_with fail
  refine (sameLen_any a0 a1 a2 n0 n1 n2 c0 c1 c2 w).mono ?_
  rintro e w' ⟨rfl, rfl⟩
  cases hB : sameB n0 n1 n2
  · go_wp2_with fail
    go_ret
    exact ⟨rfl, Below.refl _ _⟩
  obtain ⟨rfl, rfl⟩ : n0 = n1 ∧ n1 = n2 := of_decide_eq_true hB
  clear hB
  by_cases i0 : i < 0
  · go_wp2_with fail
    go_ret
    exact ⟨rfl, Below.refl _ _⟩
  have i0' : decide (i < 0) = false := by simpa using i0
  by_cases i1 : (n0 : Int) < i
  · clear i0
    go_wp2_with fail
    go_ret
    exact ⟨rfl, Below.refl _ _⟩
  have i1' : decide ((n0 : Int) < i) = false := by simpa using i1
  obtain ⟨i, rfl⟩ := Int.eq_ofNat_of_zero_le (show 0 ≤ i by omega)
  have hn : n0 ≤ 65536 := HM.out
  have hi : i ≤ 1073741824 := by omega
  have hin : (i : Int) ≤ (n0 : Int) := by omega
  clear HM i0 i1
  go_upto_if 39 with fail
  go_cut [0] from 15 (fun v wc => ∃ a c, v = .slice a n0 c ∧ n0 ≤ c ∧ NilZ a n0 ∧ Hid (StrS wc a n0 K) ∧ Below w.heap.size w wc)
  case first =>
    cases a0 with
    | none =>
      go_wp2_with fail
      go_meet
      case rel => exact ⟨none, c0, rfl, by rw [Z0 rfl]; omega, Z0, hK, Below.refl _ _⟩
    | some x =>
      have hmk := fun wx => run_make_row' (P := Try.prog) 22 9 (.string ⟨#[]⟩) 16 Try.underlying22 Try.info9 rfl .i64 .i64 n0 (by omega) (by omega) wx
      have HR : Hid ((w.alloc (.cells (madeCells #[.string ⟨#[]⟩] n0) 9)).heap[w.heap.size]? = some (.cells (madeL (.string ⟨#[]⟩) n0).toArray 9 (0, 0))) := madeL_row w (.string ⟨#[]⟩) n0 9
      have HC : Hid (∀ j v, (strCells n0 K)[j]? = some v → (w.alloc (.cells (madeCells #[.string ⟨#[]⟩] n0) 9)).cell? (x.add j) = some v) := src_str hK ((Below.refl _ _).alloc (Nat.le_refl _) _)
      go_wp2_with (refine wpList_copy_splice rfl (.tmp 43) (.tmp 44) 22 22 rfl 9 Try.underlying22 Try.size9 _ _ _ _ _ _ rfl rfl w.heap.size 0 (madeL (.string ⟨#[]⟩) n0) 9 HR.out (strCells n0 K) (by rw [strCells_length]; simp) (fun _ => ⟨rfl, x, rfl, HC.out⟩) (by rw [strCells_length, madeL_length]; omega) (strCells_one n0 K) w.heap.size w ((Below.refl _ _).alloc (Nat.le_refl _) _) (Nat.le_refl _) ?_)
      intro w2 hg2 hb2
      go_wp2_with fail
      go_meet
      case rel => exact ⟨_, _, rfl, Nat.le_refl _, NilZ_some _ _, str_copied hg2 (madeL_length _ _), hb2⟩
  case rest =>
  obtain ⟨w1, rfl⟩ : ∃ w1, w1 = wc := ⟨_, rfl⟩
  obtain ⟨b0, d0, rfl, m0, Y0, hK', hbw1⟩ := hcut
  replace hT : Hid (StrS w1 a1 n0 T) := hT.out.later hbw1
  replace hL : Hid (IntS w1 a2 n0 L) := hL.out.later hbw1
  have HB1 : Hid (Below w.heap.size w w1) := hbw1
  clear hbw1 hK
  go_upto_if 48 with fail
  go_cut [1] from 15 (fun v wc => ∃ a c, v = .slice a n0 c ∧ n0 ≤ c ∧ NilZ a n0 ∧ Hid (StrS wc a n0 T) ∧ Below w1.heap.size w1 wc)
  case first =>
    cases a1 with
    | none =>
      go_wp2_with fail
      go_meet
      case rel => exact ⟨none, c1, rfl, by rw [Z1 rfl]; omega, Z1, hT, Below.refl _ _⟩
    | some x =>
      have hmk := fun wx => run_make_row' (P := Try.prog) 22 9 (.string ⟨#[]⟩) 16 Try.underlying22 Try.info9 rfl .i64 .i64 n0 (by omega) (by omega) wx
      have HR : Hid ((w1.alloc (.cells (madeCells #[.string ⟨#[]⟩] n0) 9)).heap[w1.heap.size]? = some (.cells (madeL (.string ⟨#[]⟩) n0).toArray 9 (0, 0))) := madeL_row w1 (.string ⟨#[]⟩) n0 9
      have HC : Hid (∀ j v, (strCells n0 T)[j]? = some v → (w1.alloc (.cells (madeCells #[.string ⟨#[]⟩] n0) 9)).cell? (x.add j) = some v) := src_str hT ((Below.refl _ _).alloc (Nat.le_refl _) _)
      go_wp2_with (refine wpList_copy_splice rfl (.tmp 52) (.tmp 53) 22 22 rfl 9 Try.underlying22 Try.size9 _ _ _ _ _ _ rfl rfl w1.heap.size 0 (madeL (.string ⟨#[]⟩) n0) 9 HR.out (strCells n0 T) (by rw [strCells_length]; simp) (fun _ => ⟨rfl, x, rfl, HC.out⟩) (by rw [strCells_length, madeL_length]; omega) (strCells_one n0 T) w1.heap.size w1 ((Below.refl _ _).alloc (Nat.le_refl _) _) (Nat.le_refl _) ?_)
      intro w2 hg2 hb2
      go_wp2_with fail
      go_meet
      case rel => exact ⟨_, _, rfl, Nat.le_refl _, NilZ_some _ _, str_copied hg2 (madeL_length _ _), hb2⟩
  case rest =>
  obtain ⟨w2, rfl⟩ : ∃ w2, w2 = wc := ⟨_, rfl⟩
  obtain ⟨b1, d1, rfl, m1, Y1, hT', hbw2⟩ := hcut
  replace hK' : Hid (StrS w2 b0 n0 K) := hK'.out.later hbw2
  replace hL : Hid (IntS w2 a2 n0 L) := hL.out.later hbw2
  replace HB1 : Hid (Below w.heap.size w w2) := HB1.out.trans (hbw2.mono HB1.out.size)
  clear hbw2 hT
  go_upto_if 57 with fail
  go_cut [2] from 15 (fun v wc => ∃ a c, v = .slice a n0 c ∧ n0 ≤ c ∧ NilZ a n0 ∧ Hid (IntS wc a n0 L) ∧ Below w2.heap.size w2 wc)
  case first =>
    cases a2 with
    | none =>
      go_wp2_with fail
      go_meet
      case rel => exact ⟨none, c2, rfl, by rw [Z2 rfl]; omega, Z2, hL, Below.refl _ _⟩
    | some x =>
      have hmk := fun wx => run_make_row' (P := Try.prog) 23 3 (.int .i64 0) 8 Try.underlying23 Try.info3 rfl .i64 .i64 n0 (by omega) (by omega) wx
      have HR : Hid ((w2.alloc (.cells (madeCells #[.int .i64 0] n0) 3)).heap[w2.heap.size]? = some (.cells (madeL (.int .i64 0) n0).toArray 3 (0, 0))) := madeL_row w2 (.int .i64 0) n0 3
      have HC : Hid (∀ j v, (intCells n0 L)[j]? = some v → (w2.alloc (.cells (madeCells #[.int .i64 0] n0) 3)).cell? (x.add j) = some v) := src_int hL ((Below.refl _ _).alloc (Nat.le_refl _) _)
      go_wp2_with (refine wpList_copy_splice rfl (.tmp 61) (.tmp 62) 23 23 rfl 3 Try.underlying23 Try.size3 _ _ _ _ _ _ rfl rfl w2.heap.size 0 (madeL (.int .i64 0) n0) 3 HR.out (intCells n0 L) (by rw [intCells_length]; simp) (fun _ => ⟨rfl, x, rfl, HC.out⟩) (by rw [intCells_length, madeL_length]; omega) (intCells_one n0 L) w2.heap.size w2 ((Below.refl _ _).alloc (Nat.le_refl _) _) (Nat.le_refl _) ?_)
      intro w2 hg2 hb2
      go_wp2_with fail
      go_meet
      case rel => exact ⟨_, _, rfl, Nat.le_refl _, NilZ_some _ _, int_copied hg2 (madeL_length _ _), hb2⟩
  case rest =>
  obtain ⟨w3, rfl⟩ : ∃ w3, w3 = wc := ⟨_, rfl⟩
  obtain ⟨b2, d2, rfl, m2, Y2, hL', hbw3⟩ := hcut
  replace hK' : Hid (StrS w3 b0 n0 K) := hK'.out.later hbw3
  replace hT' : Hid (StrS w3 b1 n0 T) := hT'.out.later hbw3
  replace HB1 : Hid (Below w.heap.size w w3) := HB1.out.trans (hbw3.mono HB1.out.size)
  clear hbw3 hL
  go_wp2_with fail
  refine (zzEnd_any b0 b1 b2 n0 d0 d1 d2 K T L i w3 hn hi Y0 hK' hT' hL').mono ?_
  rintro e w4 ⟨rfl, hb4⟩
  have hle := se_le n0 K T i
  have hin' : i ≤ n0 := by omega
  replace hK' : Hid (StrS w4 b0 n0 K) := hK'.out.later hb4
  replace hT' : Hid (StrS w4 b1 n0 T) := hT'.out.later hb4
  replace hL' : Hid (IntS w4 b2 n0 L) := hL'.out.later hb4
  replace HB1 : Hid (Below w.heap.size w w4) := HB1.out.trans (hb4.mono HB1.out.size)
  clear hb4
  obtain ⟨s, hs⟩ : ∃ s, s = se (n0 - i) (fun k => K (i + k)) (fun k => T (i + k)) 0 := ⟨_, rfl⟩
  have hsh := se_shift n0 i K T hin'
  rw [← hs] at hsh
  have HS : Hid (s = se (n0 - i) (fun k => K (i + k)) (fun k => T (i + k)) 0) := hs
  have HC : Hid (i + s < n0 → se (i + s + 1) K T i = i + s) := fun h => by
    have := se_cut n0 (i + s + 1) K T i (by omega) (by rw [← hsh]; omega)
    rw [this, hsh]
  rw [← hsh] at hle ⊢
  clear hs hsh
  go_upto_region 22 with fail
  go_cut [13] from 15 (fun v wc => v = .int .i64 (s : Int) ∧ Below w4.heap.size w4 wc)
  case first =>
    have e0 := run_cut_from (P := Try.prog) 22 9 Try.underlying22 Try.size9 b0 n0 d0 i hin'
    have e1 := run_cut_from (P := Try.prog) 22 9 Try.underlying22 Try.size9 b1 n0 d1 i hin'
    have e2 := run_cut_from (P := Try.prog) 23 3 Try.underlying23 Try.size3 b2 n0 d2 i hin'
    have sK : Hid (StrS w4 _ _ _) := add_map_str (i := i) hK'.out m0
    have sT : Hid (StrS w4 _ _ _) := add_map_str (i := i) hT'.out m1
    have sL : Hid (IntS w4 _ _ _) := add_map_int (i := i) hL'.out m2
    have sZ : Hid (NilZ _ _) := nilz_from (c := d0) (i := i) Y0
    generalize (if d0 = i then b0 else b0.map (·.add i)) = p0 at e0 sK sZ
    generalize (if d1 = i then b1 else b1.map (·.add i)) = p1 at e1 sT
    generalize (if d2 = i then b2 else b2.map (·.add i)) = p2 at e2 sL
    generalize d0 - i = q0 at e0
    generalize d1 - i = q1 at e1
    generalize d2 - i = q2 at e2
    generalize hm : n0 - i = m at *
    have hm' : m ≤ 65536 := by omega
    clear hm
    have HZ : Hid (∀ W, Below w4.heap.size w4 W → Calls Try.prog 8 #[.slice p0 m q0, .slice p1 m q1, .slice p2 m q2, .int .i64 0] W fun e w' => e = .returned (.int .i64 (s : Int)) ∧ Below W.heap.size W w') := by
      intro W hW
      rw [HS.out]
      exact zzEnd_zero p0 p1 p2 m q0 q1 q2 _ _ _ W hm' sZ.out (sK.out.later hW) (sT.out.later hW) (sL.out.later hW)
    clear HS sK sT sL sZ
    go_region_with (go_at_call 8; refine (HZ.out _ ?_).mono ?_; exact (Below.refl _ _).drew; rintro e w5 ⟨rfl, hb5⟩)
    all_goals
      go_wp2_with fail
      go_meet
      case rel => exact ⟨rfl, (Below.refl _ _).drew.trans hb5⟩
  case rest =>
  obtain ⟨w5, rfl⟩ : ∃ w5, w5 = wc := ⟨_, rfl⟩
  obtain ⟨rfl, hb5⟩ := hcut
  replace hK' : Hid (StrS w5 b0 n0 K) := hK'.out.later hb5
  replace hT' : Hid (StrS w5 b1 n0 T) := hT'.out.later hb5
  replace hL' : Hid (IntS w5 b2 n0 L) := hL'.out.later hb5
  replace HB1 : Hid (Below w.heap.size w w5) := HB1.out.trans (hb5.mono HB1.out.size)
  clear hb5
  have hpos : (0 : Int) ≤ (i : Int) + (s : Int) := by omega
  by_cases hg : i + s < n0
  · have hg' : (i : Int) + (s : Int) < (n0 : Int) := by omega
    go_upto_region 26 with fail
    go_cut [14] from 15 (fun v wc => v = .int .i64 ((i : Int) + (s : Int)) ∧ Below w5.heap.size w5 wc)
    case first =>
      have hsm : i + s + 1 ≤ n0 := by omega
      have ew : IntKind.i64.wrap ((i : Int) + (s : Int) + 1) = (i : Int) + (s : Int) + 1 := by rw [IntKind.wrap_i64]; omega
      have ec : ((i + s + 1 : Nat) : Int) = (i : Int) + (s : Int) + 1 := by omega
      have e0 := run_cut_to (P := Try.prog) 22 9 Try.underlying22 Try.size9 b0 n0 d0 (i + s + 1) (by omega)
      have e1 := run_cut_to (P := Try.prog) 22 9 Try.underlying22 Try.size9 b1 n0 d1 (i + s + 1) (by omega)
      have e2 := run_cut_to (P := Try.prog) 23 3 Try.underlying23 Try.size3 b2 n0 d2 (i + s + 1) (by omega)
      rw [ec] at e0 e1 e2
      have sK : Hid (StrS w5 _ _ _) := cut_str (c := d0) hK'.out hsm
      have sT : Hid (StrS w5 _ _ _) := cut_str (c := d1) hT'.out hsm
      have sL : Hid (IntS w5 _ _ _) := cut_int (c := d2) hL'.out hsm
      have sZ : Hid (NilZ _ _) := nilz_to (c := d0) Y0 hsm
      generalize (if d0 = 0 then b0 else b0.map (·.add 0)) = p0 at e0 sK sZ
      generalize (if d1 = 0 then b1 else b1.map (·.add 0)) = p1 at e1 sT
      generalize (if d2 = 0 then b2 else b2.map (·.add 0)) = p2 at e2 sL
      have HC' : Hid (se (i + s + 1) K T i = i + s) := HC.out hg
      clear HC
      generalize hm : i + s + 1 = m at e0 e1 e2 sK sT sL sZ HC'
      have hm' : m ≤ 65536 := by omega
      clear hm ec
      have HZ : Hid (∀ W, Below w5.heap.size w5 W → Calls Try.prog 8 #[.slice p0 m d0, .slice p1 m d1, .slice p2 m d2, .int .i64 (i : Int)] W fun e w' => e = .returned (.int .i64 ((i + s : Nat) : Int)) ∧ Below W.heap.size W w') := by
        intro W hW
        have := zzEnd_any p0 p1 p2 m d0 d1 d2 _ _ _ i W hm' hi sZ.out (sK.out.later hW) (sT.out.later hW) (sL.out.later hW)
        rwa [HC'.out] at this
      clear HC' sK sT sL sZ
      go_region_with (go_at_call 8; refine (HZ.out _ ?_).mono ?_; exact (Below.refl _ _).drew; rintro e w6 ⟨rfl, hb6⟩)
      all_goals
        go_wp2_with fail
        go_meet
        case rel => exact ⟨by go_num, (Below.refl _ _).drew.trans hb6⟩
    case rest =>
    obtain ⟨rfl, hb6⟩ := hcut
    go_wp2_with fail
    go_ret
    exact ⟨rfl, HB1.out.trans (hb6.mono HB1.out.size)⟩
  · have hg' : decide ((i : Int) + (s : Int) < (n0 : Int)) = false := by simp; omega
    go_wp2_with fail
    go_ret
    exact ⟨rfl, HB1.out⟩

end Go.Proofs.Qxb6603855a
