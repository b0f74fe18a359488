import Derived.Test.Qxb6603855aW3
import Derived.Laws.CopyOwn
namespace Go.Proofs.Qxb6603855a
open Go.RowKit

theorem StrS.later {w w' : World} {a : Option Addr} {n : Nat} {K : Nat → ByteArray} (h : StrS w a n K) (hb : Below w.heap.size w w') : StrS w' a n K := by
  intro j hj
  obtain ⟨b, off, e, c⟩ := h j hj
  exact ⟨b, off, e, cell_later hb c⟩
theorem IntS.later {w w' : World} {a : Option Addr} {n : Nat} {L : Nat → Int} (h : IntS w a n L) (hb : Below w.heap.size w w') : IntS w' a n L := by
  intro j hj
  obtain ⟨b, off, e, c⟩ := h j hj
  exact ⟨b, off, e, cell_later hb c⟩

theorem Try.info9 : (Try.prog.info? 9).map (fun i => (i.zero, i.size, i.bytes)) = some (some (.string ⟨#[]⟩), 1, 16) := by kernel_rfl
theorem Try.info3 : (Try.prog.info? 3).map (fun i => (i.zero, i.size, i.bytes)) = some (some (.int .i64 0), 1, 8) := by kernel_rfl
theorem Try.size9 : (Try.prog.info? 9).map (·.size) = some 1 := by kernel_rfl
theorem Try.size3 : (Try.prog.info? 3).map (·.size) = some 1 := by kernel_rfl

/-- a nil slice has no element -/
def NilZ (a : Option Addr) (n : Nat) : Prop := a = none → n = 0

theorem NilZ_some (x : Addr) (n : Nat) : NilZ (some x) n := fun h => by cases h

theorem splice_whole {α : Type} (cur cs : List α) (h : cs.length = cur.length) : splice cur 0 cs = cs := by
  simp [splice, h]

/-- the strings, the integers as cells -/
def strCells (n : Nat) (K : Nat → ByteArray) : List Value := (List.range n).map fun j => .string (K j)
def intCells (n : Nat) (L : Nat → Int) : List Value := (List.range n).map fun j => .int .i64 (L j)
theorem strCells_length (n : Nat) (K : Nat → ByteArray) : (strCells n K).length = n := by simp [strCells]
theorem intCells_length (n : Nat) (L : Nat → Int) : (intCells n L).length = n := by simp [intCells]
theorem strCells_one (n : Nat) (K : Nat → ByteArray) : ∀ v ∈ strCells n K, v.oneCell' = true := by
  intro v hv
  obtain ⟨j, _, rfl⟩ := List.mem_map.1 hv
  rfl
theorem intCells_one (n : Nat) (L : Nat → Int) : ∀ v ∈ intCells n L, v.oneCell' = true := by
  intro v hv
  obtain ⟨j, _, rfl⟩ := List.mem_map.1 hv
  rfl
theorem strCells_at {n : Nat} {K : Nat → ByteArray} {j : Nat} {v : Value} (h : (strCells n K)[j]? = some v) : j < n ∧ v = .string (K j) := by
  have hj : j < n := by
    have := (List.getElem?_eq_some_iff.1 h).1
    rwa [strCells_length] at this
  refine ⟨hj, ?_⟩
  simp [strCells, hj] at h
  exact h.symm
theorem intCells_at {n : Nat} {L : Nat → Int} {j : Nat} {v : Value} (h : (intCells n L)[j]? = some v) : j < n ∧ v = .int .i64 (L j) := by
  have hj : j < n := by
    have := (List.getElem?_eq_some_iff.1 h).1
    rwa [intCells_length] at this
  refine ⟨hj, ?_⟩
  simp [intCells, hj] at h
  exact h.symm
theorem str_copied {w : World} {g n : Nat} {t : TypeId} {cur : List Value} {K : Nat → ByteArray} (h : Hid (w.heap[g]? = some (.cells (splice cur 0 (strCells n K)).toArray t (0, 0)))) (hc : cur.length = n) : StrS w (some ⟨g, 0, none⟩) n K := by
  intro j hj
  refine ⟨g, 0, rfl, ?_⟩
  have := h.out
  rw [splice_whole _ _ (by rw [strCells_length, hc])] at this
  simp [World.cell?, this, strCells, hj]
theorem int_copied {w : World} {g n : Nat} {t : TypeId} {cur : List Value} {L : Nat → Int} (h : Hid (w.heap[g]? = some (.cells (splice cur 0 (intCells n L)).toArray t (0, 0)))) (hc : cur.length = n) : IntS w (some ⟨g, 0, none⟩) n L := by
  intro j hj
  refine ⟨g, 0, rfl, ?_⟩
  have := h.out
  rw [splice_whole _ _ (by rw [intCells_length, hc])] at this
  simp [World.cell?, this, intCells, hj]
/-- the row that make lays, as a list -/
def madeL (z : Value) (n : Nat) : List Value := (madeCells #[z] n).toList
theorem madeL_length (z : Value) (n : Nat) : (madeL z n).length = n := by simp [madeL, size_madeCells]
theorem madeL_row (w : World) (z : Value) (n : Nat) (t : TypeId) : (w.alloc (.cells (madeCells #[z] n) t)).heap[w.heap.size]? = some (.cells (madeL z n).toArray t (0, 0)) := by
  simp only [madeL, Array.toArray_toList]
  exact Deep.blk_alloc_new _ _

theorem src_str {w w' : World} {x : Addr} {n : Nat} {K : Nat → ByteArray} (h : StrS w (some x) n K) (hb : Below w.heap.size w w') : ∀ j v, (strCells n K)[j]? = some v → w'.cell? (x.add j) = some v := by
  intro j v hv
  obtain ⟨hj, rfl⟩ := strCells_at hv
  obtain ⟨b, off, e, d⟩ := h j hj
  obtain rfl := Option.some.inj e
  have := cell_later hb d
  rwa [← Go.WideShapes.add_plain] at this
theorem src_int {w w' : World} {x : Addr} {n : Nat} {K : Nat → Int} (h : IntS w (some x) n K) (hb : Below w.heap.size w w') : ∀ j v, (intCells n K)[j]? = some v → w'.cell? (x.add j) = some v := by
  intro j v hv
  obtain ⟨hj, rfl⟩ := intCells_at hv
  obtain ⟨b, off, e, d⟩ := h j hj
  obtain rfl := Option.some.inj e
  have := cell_later hb d
  rwa [← Go.WideShapes.add_plain] at this

set_option maxRecDepth 100000 in
set_option maxHeartbeats 1000000 in
theorem law3 (a0 a1 a2 : Option Addr) (n0 n1 n2 c0 c1 c2 : Nat) (K T : Nat → ByteArray) (L : Nat → Int) (i : Int) (w : World)
    (Z0 : NilZ a0 n0) (Z1 : NilZ a1 n1) (Z2 : NilZ a2 n2)
    (hK : Hid (StrS w a0 n0 K)) (hT : Hid (StrS w a1 n1 T)) (hL : Hid (IntS w a2 n2 L)) :
    Calls Try.prog 3 #[.slice a0 n0 c0, .slice a1 n1 c1, .slice a2 n2 c2, .int .i64 i] w fun e w' => e = .returned (.bool true) ∧ Below w.heap.size w w' := by
  go_enter Try.func3, Try.ntmps3
  go_wp2_with fail
  refine (bytes5_any a0 a1 a2 n0 n1 n2 c0 c1 c2 K T i w hK hT).mono ?_
  rintro e w' ⟨b, rfl, rfl⟩
  cases b
  · go_wp2_with fail
    go_ret
    exact ⟨rfl, Below.refl _ _⟩
  go_wp2_with fail
  refine (tooBig_any a0 a1 a2 n0 n1 n2 c0 c1 c2 K T w hK hT).mono ?_
  rintro e w' ⟨b, rfl, rfl, hsm⟩
  cases b
  rotate_left
  · clear hsm
    go_wp2_with fail
    go_ret
    exact ⟨rfl, Below.refl _ _⟩
  replace hsm := hsm rfl
  have HM : Hid (n0 ≤ 65536) := hsm.1
  clear hsm
  go_wp2_with fail
  refine (sameLen_any a0 a1 a2 n0 n1 n2 c0 c1 c2 w).mono ?_
  rintro e w' ⟨rfl, rfl⟩
  cases hB : sameB n0 n1 n2
  · go_wp2_with fail
    go_ret
    exact ⟨rfl, Below.refl _ _⟩
  obtain ⟨rfl, rfl⟩ : n0 = n1 ∧ n1 = n2 := of_decide_eq_true hB
  clear hB
  by_cases i0 : i < 0
  · go_wp2_with fail
    go_ret
    exact ⟨rfl, Below.refl _ _⟩
  have i0' : decide (i < 0) = false := by simpa using i0
  by_cases i1 : 1073741824 < i
  · clear i0
    go_wp2_with fail
    go_ret
    exact ⟨rfl, Below.refl _ _⟩
  have i1' : decide (1073741824 < i) = false := by simpa using i1
  obtain ⟨i, rfl⟩ := Int.eq_ofNat_of_zero_le (show 0 ≤ i by omega)
  have hn : n0 ≤ 65536 := HM.out
  have hi : i ≤ 1073741824 := by omega
  have hin : (i : Int) ≤ 1073741824 := by omega
  clear HM i0 i1
  go_upto_if 35 with fail
  go_cut [0] from 13 (fun v wc => ∃ a c, v = .slice a n0 c ∧ NilZ a n0 ∧ Hid (StrS wc a n0 K) ∧ Below w.heap.size w wc)
  case first =>
    cases a0 with
    | none =>
      go_wp2_with fail
      go_meet
      case rel => exact ⟨none, c0, rfl, Z0, hK, Below.refl _ _⟩
    | some x =>
      have hmk := fun wx => run_make_row' (P := Try.prog) 22 9 (.string ⟨#[]⟩) 16 Try.underlying22 Try.info9 rfl .i64 .i64 n0 (by omega) (by omega) wx
      have HR : Hid ((w.alloc (.cells (madeCells #[.string ⟨#[]⟩] n0) 9)).heap[w.heap.size]? = some (.cells (madeL (.string ⟨#[]⟩) n0).toArray 9 (0, 0))) := madeL_row w (.string ⟨#[]⟩) n0 9
      have HC : Hid (∀ j v, (strCells n0 K)[j]? = some v → (w.alloc (.cells (madeCells #[.string ⟨#[]⟩] n0) 9)).cell? (x.add j) = some v) := src_str hK ((Below.refl _ _).alloc (Nat.le_refl _) _)
      go_wp2_with (refine wpList_copy_splice rfl (.tmp 39) (.tmp 40) 22 22 rfl 9 Try.underlying22 Try.size9 _ _ _ _ _ _ rfl rfl w.heap.size 0 (madeL (.string ⟨#[]⟩) n0) 9 HR.out (strCells n0 K) (by rw [strCells_length]; simp) (fun _ => ⟨rfl, x, rfl, HC.out⟩) (by rw [strCells_length, madeL_length]; omega) (strCells_one n0 K) w.heap.size w ((Below.refl _ _).alloc (Nat.le_refl _) _) (Nat.le_refl _) ?_)
      intro w2 hg2 hb2
      go_wp2_with fail
      go_meet
      case rel => exact ⟨_, _, rfl, NilZ_some _ _, str_copied hg2 (madeL_length _ _), hb2⟩
  case rest =>
  obtain ⟨w1, rfl⟩ : ∃ w1, w1 = wc := ⟨_, rfl⟩
  obtain ⟨b0, d0, rfl, Y0, hK', hbw1⟩ := hcut
  replace hT : Hid (StrS w1 a1 n0 T) := hT.out.later hbw1
  replace hL : Hid (IntS w1 a2 n0 L) := hL.out.later hbw1
  have HB1 : Hid (Below w.heap.size w w1) := hbw1
  clear hbw1 hK
  go_upto_if 44 with fail
  go_cut [1] from 13 (fun v wc => ∃ a c, v = .slice a n0 c ∧ NilZ a n0 ∧ Hid (StrS wc a n0 T) ∧ Below w1.heap.size w1 wc)
  case first =>
    cases a1 with
    | none =>
      go_wp2_with fail
      go_meet
      case rel => exact ⟨none, c1, rfl, Z1, hT, Below.refl _ _⟩
    | some x =>
      have hmk := fun wx => run_make_row' (P := Try.prog) 22 9 (.string ⟨#[]⟩) 16 Try.underlying22 Try.info9 rfl .i64 .i64 n0 (by omega) (by omega) wx
      have HR : Hid ((w1.alloc (.cells (madeCells #[.string ⟨#[]⟩] n0) 9)).heap[w1.heap.size]? = some (.cells (madeL (.string ⟨#[]⟩) n0).toArray 9 (0, 0))) := madeL_row w1 (.string ⟨#[]⟩) n0 9
      have HC : Hid (∀ j v, (strCells n0 T)[j]? = some v → (w1.alloc (.cells (madeCells #[.string ⟨#[]⟩] n0) 9)).cell? (x.add j) = some v) := src_str hT ((Below.refl _ _).alloc (Nat.le_refl _) _)
      go_wp2_with (refine wpList_copy_splice rfl (.tmp 48) (.tmp 49) 22 22 rfl 9 Try.underlying22 Try.size9 _ _ _ _ _ _ rfl rfl w1.heap.size 0 (madeL (.string ⟨#[]⟩) n0) 9 HR.out (strCells n0 T) (by rw [strCells_length]; simp) (fun _ => ⟨rfl, x, rfl, HC.out⟩) (by rw [strCells_length, madeL_length]; omega) (strCells_one n0 T) w1.heap.size w1 ((Below.refl _ _).alloc (Nat.le_refl _) _) (Nat.le_refl _) ?_)
      intro w2 hg2 hb2
      go_wp2_with fail
      go_meet
      case rel => exact ⟨_, _, rfl, NilZ_some _ _, str_copied hg2 (madeL_length _ _), hb2⟩
  case rest =>
  obtain ⟨w2, rfl⟩ : ∃ w2, w2 = wc := ⟨_, rfl⟩
  obtain ⟨b1, d1, rfl, Y1, hT', hbw2⟩ := hcut
  replace hK' : Hid (StrS w2 b0 n0 K) := hK'.out.later hbw2
  replace hL : Hid (IntS w2 a2 n0 L) := hL.out.later hbw2
  replace HB1 : Hid (Below w.heap.size w w2) := HB1.out.trans (hbw2.mono HB1.out.size)
  clear hbw2 hT
  go_upto_if 53 with fail
  go_cut [2] from 13 (fun v wc => ∃ a c, v = .slice a n0 c ∧ NilZ a n0 ∧ Hid (IntS wc a n0 L) ∧ Below w2.heap.size w2 wc)
  case first =>
    cases a2 with
    | none =>
      go_wp2_with fail
      go_meet
      case rel => exact ⟨none, c2, rfl, Z2, hL, Below.refl _ _⟩
    | some x =>
      have hmk := fun wx => run_make_row' (P := Try.prog) 23 3 (.int .i64 0) 8 Try.underlying23 Try.info3 rfl .i64 .i64 n0 (by omega) (by omega) wx
      have HR : Hid ((w2.alloc (.cells (madeCells #[.int .i64 0] n0) 3)).heap[w2.heap.size]? = some (.cells (madeL (.int .i64 0) n0).toArray 3 (0, 0))) := madeL_row w2 (.int .i64 0) n0 3
      have HC : Hid (∀ j v, (intCells n0 L)[j]? = some v → (w2.alloc (.cells (madeCells #[.int .i64 0] n0) 3)).cell? (x.add j) = some v) := src_int hL ((Below.refl _ _).alloc (Nat.le_refl _) _)
      go_wp2_with (refine wpList_copy_splice rfl (.tmp 57) (.tmp 58) 23 23 rfl 3 Try.underlying23 Try.size3 _ _ _ _ _ _ rfl rfl w2.heap.size 0 (madeL (.int .i64 0) n0) 3 HR.out (intCells n0 L) (by rw [intCells_length]; simp) (fun _ => ⟨rfl, x, rfl, HC.out⟩) (by rw [intCells_length, madeL_length]; omega) (intCells_one n0 L) w2.heap.size w2 ((Below.refl _ _).alloc (Nat.le_refl _) _) (Nat.le_refl _) ?_)
      intro w2 hg2 hb2
      go_wp2_with fail
      go_meet
      case rel => exact ⟨_, _, rfl, NilZ_some _ _, int_copied hg2 (madeL_length _ _), hb2⟩
  case rest =>
  obtain ⟨w3, rfl⟩ : ∃ w3, w3 = wc := ⟨_, rfl⟩
  obtain ⟨b2, d2, rfl, Y2, hL', hbw3⟩ := hcut
  replace hK' : Hid (StrS w3 b0 n0 K) := hK'.out.later hbw3
  replace hT' : Hid (StrS w3 b1 n0 T) := hT'.out.later hbw3
  replace HB1 : Hid (Below w.heap.size w w3) := HB1.out.trans (hbw3.mono HB1.out.size)
  clear hbw3 hL
  go_wp2_with fail
  refine (zzEnd_any b0 b1 b2 n0 d0 d1 d2 K T L i w3 hn hi Y0 hK' hT' hL').mono ?_
  rintro e w4 ⟨rfl, hb4⟩
  have hle := se_le n0 K T i
  have HL : Hid (se n0 K T i < n0 → i ≤ se n0 K T i ∧ is (T (se n0 K T i)) [59] = true) := se_lands n0 K T i
  replace hT' : Hid (StrS w4 b1 n0 T) := hT'.out.later hb4
  replace HB1 : Hid (Below w.heap.size w w4) := HB1.out.trans (hb4.mono HB1.out.size)
  clear hb4 hK' hL'
  generalize se n0 K T i = g at *
  by_cases hg : g = n0
  · subst hg
    go_wp2_with fail
    go_ret
    exact ⟨rfl, HB1.out⟩
  · have hg' : ((g : Int) == (n0 : Int)) = false := beq_eq_false_iff_ne.2 (by omega)
    have hlt : (g : Int) < (n0 : Int) := by omega
    obtain ⟨h1, h2⟩ := HL.out (by omega)
    have h1' : (i : Int) ≤ (g : Int) := by omega
    have h2' := isB h2
    obtain ⟨b, off, rfl, hc⟩ := hT'.out g (by omega)
    clear h2 HL hg
    go_wp2_with fail
    go_ret
    exact ⟨rfl, HB1.out⟩

end Go.Proofs.Qxb6603855a
