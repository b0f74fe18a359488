/-
  increasing, among, slices.BinarySearch, isAmong, hasLoyal, loyalNodes, loyalBelow; the two counts of bytes.
-/
import Derived.Test.Qxb6604244aBase
namespace Go.Proofs.Qxb6604244a
open Go.RowKit

/-! ### plain -/
/-- is x one of L 0 .. L (k-1)? -/
def inB (k : Nat) (L : Nat → Int) (x : Int) : Bool := (List.range k).any fun j => L j == x
theorem inB_iff {k : Nat} {L : Nat → Int} {x : Int} : inB k L x = true ↔ ∃ j, j < k ∧ L j = x := by
  simp [inB, List.any_eq_true]
theorem inB_false {k : Nat} {L : Nat → Int} {x : Int} : inB k L x = false ↔ ∀ j, j < k → L j ≠ x := by
  rw [Bool.eq_false_iff, Ne, inB_iff]
  exact ⟨fun h j hj e => h ⟨j, hj, e⟩, fun h ⟨j, hj, e⟩ => h j hj e⟩
/-- strictly increasing -/
def Inc (k : Nat) (L : Nat → Int) : Prop := ∀ j, 0 < j → j < k → L (j - 1) < L j
theorem Inc.lt {k : Nat} {L : Nat → Int} (h : Inc k L) : ∀ {j i : Nat}, i < j → j < k → L i < L j := by
  intro j
  induction j with
  | zero => intro i hi; omega
  | succ j ih =>
    intro i hi hj
    have h1 := h (j + 1) (by omega) hj
    simp only [Nat.add_sub_cancel] at h1
    by_cases e : i = j
    · subst e; exact h1
    · have := ih (show i < j by omega) (by omega)
      omega
theorem Inc.le {k : Nat} {L : Nat → Int} (h : Inc k L) {j i : Nat} (hij : i ≤ j) (hj : j < k) : L i ≤ L j := by
  by_cases e : i = j
  · subst e; exact Int.le_refl _
  · exact Int.le_of_lt (h.lt (by omega) hj)
/-- the nodes below n that are not among L -/
def ly (k : Nat) (L : Nat → Int) (n : Nat) : List Nat := (List.range n).filter fun i => !inB k L i
theorem ly_succ (k : Nat) (L : Nat → Int) (n : Nat) : ly k L (n + 1) = if inB k L n = true then ly k L n else ly k L n ++ [n] := by
  unfold ly
  rw [List.range_succ, List.filter_append]
  by_cases h : inB k L n = true
  · simp [h]
  · simp [h]
theorem ly_length_le (k : Nat) (L : Nat → Int) (n : Nat) : (ly k L n).length ≤ n := by
  have := List.length_filter_le (fun i => !inB k L ((i : Nat) : Int)) (List.range n)
  simpa [ly] using this
theorem ly_lt {k : Nat} {L : Nat → Int} {n i : Nat} (h : i ∈ ly k L n) : i < n := by
  simp [ly] at h; exact h.1

/-! ### increasing -/
def IncPost (k : Nat) (L : Nat → Int) (w : World) (e : Ending) (w' : World) : Prop := ∃ b : Bool, e = .returned (.bool b) ∧ (b = true ↔ Inc k L) ∧ Same w w'

set_option maxRecDepth 100000 in
set_option maxHeartbeats 400000 in
theorem inc_any (a : Option Addr) (n c : Nat) (L : Nat → Int) (w : World) (hn : n ≤ 65536) (hL : Hid (IntS w a n L)) : Calls Try.prog 16 #[.slice a n c] w (IncPost n L w) := by
  go_enter Try.func16, Try.ntmps16
  go_wp2
  go_loopw [3] (fun y wr => ∃ (k : Nat), y = .int .i64 ((k : Int) + 1) ∧ (k < n ∨ k = 0) ∧ Hid (∀ j, 0 < j → j ≤ k → j < n → L (j - 1) < L j) ∧ Same w wr) (fun y _ => n - (intOf y).toNat)
  case atStart => exact ⟨0, rfl, by omega, fun j h1 h2 => by omega, Same.refl _⟩
  case round =>
    obtain ⟨k, rfl, hk, HS, hsame⟩ := hrel
    by_cases hlt : k + 1 < n
    · have hltI : (k : Int) + 1 < (n : Int) := by omega
      obtain ⟨b, off, rfl, d⟩ := hL.out (k + 1) hlt
      obtain ⟨b', off', e', d'⟩ := hL.out k (by omega)
      simp only [Option.some.injEq, Addr.mk.injEq, and_true] at e'
      obtain ⟨rfl, rfl⟩ := e'
      rw [← hsame.cell] at d d'
      have HM : Hid (Same w wr) := hsame
      clear hsame
      by_cases h2 : L (k + 1) ≤ L k
      · have fin : Hid (¬ Inc n L) := fun h => by have := h (k + 1) (by omega) hlt; simp at this; omega
        go_wp2
        go_quiet (fail)
        go_wp2
        go_ret
        exact ⟨false, rfl, by simpa using fin.out, HM.out.drewN _⟩
      · have h2' : decide (L (k + 1) ≤ L k) = false := by simpa using h2
        have fin : Hid (∀ j, 0 < j → j ≤ k + 1 → j < n → L (j - 1) < L j) := fun j h1 h3 h4 => by
          by_cases e : j = k + 1
          · subst e; simp; omega
          · exact HS.out j h1 (by omega) h4
        clear h2
        go_wp2
        go_quiet (fail)
        go_wp2
        go_roundw
        case rel => exact ⟨k + 1, by go_num, by omega, fin, HM.out.drewN _⟩
        case measure => simp [intOf]; omega
    · have hltI : ¬ (k : Int) + 1 < (n : Int) := by omega
      have fin : Hid (Inc n L) := fun j h1 h2 => HS.out j h1 (by omega) h2
      go_wp2
      go_ret
      exact ⟨true, rfl, by simpa using fin.out, hsame⟩

/-! ### among -/
set_option maxHeartbeats 400000 in
theorem among_any (x : Int) (a : Option Addr) (n c : Nat) (L : Nat → Int) (w : World) (hn : n ≤ 65536) (hL : Hid (IntS w a n L)) :
    Calls Try.prog 21 #[.int .i64 x, .slice a n c] w fun e w' => e = .returned (.bool (inB n L x)) ∧ w = w' := by
  go_enter Try.func21, Try.ntmps21
  go_wp2
  go_loop [5] (fun y => ∃ (k : Nat), y = .int .i64 k ∧ k ≤ n ∧ Hid (∀ j, j < k → L j ≠ x)) (fun y => n - (intOf y).toNat)
  case atStart => exact ⟨0, rfl, Nat.zero_le _, fun j hj => by omega⟩
  case round =>
    obtain ⟨k, rfl, hk, HS⟩ := hrel
    by_cases hlt : k < n
    · have hltI : (k : Int) < (n : Int) := by omega
      obtain ⟨b, off, rfl, d⟩ := hL.out k hlt
      by_cases h2 : L k = x
      · have fin : Hid (inB n L x = true) := inB_iff.2 ⟨k, hlt, h2⟩
        have h2' : (L k == x) = true := by rw [beq_iff_eq]; exact h2
        clear h2
        go_wp2
        go_ret
        exact ⟨by rw [fin.out]; rfl, rfl⟩
      · have h2' : (L k == x) = false := beq_eq_false_iff_ne.2 h2
        have fin : Hid (∀ j, j < k + 1 → L j ≠ x) := fun j hj => by
          by_cases e : j = k
          · subst e; exact h2
          · exact HS.out j (by omega)
        clear h2
        go_wp2
        go_round
        case rel => exact ⟨k + 1, by go_num, by omega, fin⟩
        case measure => simp [intOf]; omega
    · have hltI : ¬ (k : Int) < (n : Int) := by omega
      obtain rfl : k = n := by omega
      have fin : Hid (inB k L x = false) := inB_false.2 HS.out
      go_wp2
      go_ret
      exact ⟨by rw [fin.out]; rfl, rfl⟩

/-! ### hasLoyal -/
def HasPost (n k : Nat) (L : Nat → Int) (w : World) (e : Ending) (w' : World) : Prop := ∃ b : Bool, e = .returned (.bool b) ∧ (b = true → ly k L n ≠ []) ∧ w = w'

set_option maxHeartbeats 400000 in
theorem hasLoyal_any (n : Nat) (a : Option Addr) (k c : Nat) (L : Nat → Int) (w : World) (hn : n ≤ 65536) (hk : k ≤ 65536) (hL : Hid (IntS w a k L)) :
    Calls Try.prog 25 #[.int .i64 (n : Int), .slice a k c] w (HasPost n k L w) := by
  go_enter Try.func25, Try.ntmps25
  go_wp2
  go_loop [5] (fun y => ∃ (i : Nat), y = .int .i64 i ∧ i ≤ n) (fun y => n - (intOf y).toNat)
  case atStart => exact ⟨0, rfl, Nat.zero_le _⟩
  case round =>
    obtain ⟨i, rfl, hi⟩ := hrel
    by_cases hlt : i < n
    · have hltI : (i : Int) < (n : Int) := by omega
      go_wp2_with fail
      refine (among_any (i : Int) a k c L w hk hL).mono ?_
      rintro e w' ⟨rfl, rfl⟩
      cases hb : inB k L (i : Int)
      · have fin : Hid (ly k L n ≠ []) := by
          intro h
          have : i ∈ ly k L n := by simp [ly, hb, hlt]
          rw [h] at this
          cases this
        go_wp2_with fail
        go_ret
        exact ⟨true, rfl, fun _ => fin.out, rfl⟩
      · go_wp2_with fail
        go_round
        case rel => exact ⟨i + 1, by go_num, by omega⟩
        case measure => simp [intOf]; omega
    · have hltI : ¬ (i : Int) < (n : Int) := by omega
      go_wp2_with fail
      go_ret
      exact ⟨false, rfl, (fun h => by cases h), rfl⟩

/-! ### slices.BinarySearch -/
set_option maxHeartbeats 400000 in
theorem less_any (x y : Int) (w : World) : Calls Try.prog 35 #[.int .i64 x, .int .i64 y] w fun e w' => e = .returned (.bool (decide (x < y))) ∧ w = w' := by
  go_enter Try.func35, Try.ntmps35
  go_wp2
  go_ret
  exact ⟨rfl, rfl⟩

set_option maxRecDepth 100000 in
set_option maxHeartbeats 1000000 in
theorem search_any (a : Option Addr) (n c : Nat) (L : Nat → Int) (x : Int) (w : World) (hn : n ≤ 65536) (hI : Hid (Inc n L)) (hL : Hid (IntS w a n L)) :
    Calls Try.prog 34 #[.slice a n c, .int .i64 x] w fun e w' => ∃ q : Nat, e = .returned (.tuple #[.int .i64 q, .bool (inB n L x)]) ∧ w = w' := by
  go_enter Try.func34, Try.ntmps34
  go_wp2_with fail
  go_loop [7, 8] (fun y z => ∃ (i j : Nat), y = .int .i64 i ∧ z = .int .i64 j ∧ i ≤ j ∧ j ≤ n ∧ Hid (∀ q, q < i → L q < x) ∧ Hid (∀ q, j ≤ q → q < n → x ≤ L q)) (fun y z => (intOf z - intOf y).toNat)
  case atStart => exact ⟨0, n, rfl, rfl, Nat.zero_le _, Nat.le_refl _, fun q hq => by omega, fun q h1 h2 => by omega⟩
  case round =>
    obtain ⟨i, j, rfl, rfl, hij, hjn, H1, H2⟩ := hrel
    by_cases hlt : i < j
    · have hltI : (i : Int) < (j : Int) := by omega
      obtain ⟨h, hh, h1, h2⟩ : ∃ h : Nat, ((i : Int) + (j : Int)) / 2 = (h : Int) ∧ i ≤ h ∧ h < j := ⟨(i + j) / 2, by omega, by omega, by omega⟩
      have hhn : (h : Int) < (n : Int) := by omega
      obtain ⟨b, off, rfl, d⟩ := hL.out h (by omega)
      by_cases hx : L h < x
      · have hx' : decide (L h < x) = true := by simpa using hx
        have fin : Hid (∀ q, q < h + 1 → L q < x) := fun q hq => by
          have := hI.out.le (show q ≤ h by omega) (by omega)
          omega
        clear hx
        go_wp2_with fail
        refine (less_any (L h) x w).mono ?_
        rintro e w' ⟨rfl, rfl⟩
        go_wp2_with fail
        go_round
        case rel => exact ⟨h + 1, j, by go_num, rfl, by omega, by omega, fin, H2⟩
        case measure => simp [intOf]; omega
      · have hx' : decide (L h < x) = false := by simpa using hx
        have fin : Hid (∀ q, h ≤ q → q < n → x ≤ L q) := fun q h1 h2 => by
          have := hI.out.le h1 h2
          omega
        clear hx
        go_wp2_with fail
        refine (less_any (L h) x w).mono ?_
        rintro e w' ⟨rfl, rfl⟩
        go_wp2_with fail
        go_round
        case rel => exact ⟨i, h, rfl, by go_num, by omega, by omega, H1, fin⟩
        case measure => simp [intOf]; omega
    · have hltI : ¬ (i : Int) < (j : Int) := by omega
      obtain rfl : i = j := by omega
      by_cases hin : i < n
      · have hinI : (i : Int) < (n : Int) := by omega
        obtain ⟨b, off, rfl, d⟩ := hL.out i hin
        by_cases hx : L i = x
        · have hx' : (L i == x) = true := by rw [beq_iff_eq]; exact hx
          have fin : Hid (inB n L x = true) := inB_iff.2 ⟨i, hin, hx⟩
          clear hx
          go_wp2
          go_ret2
          exact ⟨⟨i, by rw [fin.out]; rfl⟩, rfl⟩
        · have hx' : (L i == x) = false := beq_eq_false_iff_ne.2 hx
          have fin : Hid (inB n L x = false) := inB_false.2 fun q hq e => by
            rcases Nat.lt_or_ge q i with h | h
            · have := H1.out q h; omega
            · have h3 := H2.out i (Nat.le_refl _) hin
              have h4 := hI.out.le h hq
              omega
          clear hx
          go_wp2
          go_ret2
          exact ⟨⟨i, by rw [fin.out]; rfl⟩, rfl⟩
      · have hinI : decide ((i : Int) < (n : Int)) = false := by simp; omega
        have fin : Hid (inB n L x = false) := inB_false.2 fun q hq e => by
          have := H1.out q (by omega); omega
        go_wp2
        go_ret2
        exact ⟨⟨i, by rw [fin.out]; rfl⟩, rfl⟩

set_option maxHeartbeats 400000 in
theorem isAmong_any (x : Int) (a : Option Addr) (n c : Nat) (L : Nat → Int) (w : World) (hn : n ≤ 65536) (hI : Hid (Inc n L)) (hL : Hid (IntS w a n L)) :
    Calls Try.prog 32 #[.int .i64 x, .slice a n c] w fun e w' => e = .returned (.bool (inB n L x)) ∧ w = w' := by
  go_enter Try.func32, Try.ntmps32
  go_wp2_with fail
  refine (search_any a n c L x w hn hI hL).mono ?_
  rintro e w' ⟨q, rfl, rfl⟩
  go_wp2_with fail
  go_ret
  exact ⟨rfl, rfl⟩

/-! ### loyalNodes, loyalBelow -/
def lyCells (k : Nat) (L : Nat → Int) (n : Nat) : List Value := (ly k L n).map fun (i : Nat) => .int .i64 (i : Int)
theorem lyCells_length (k : Nat) (L : Nat → Int) (n : Nat) : (lyCells k L n).length = (ly k L n).length := by simp [lyCells]
/-- the list's numbers by their place -/
def lyAt (k : Nat) (L : Nat → Int) (n : Nat) (j : Nat) : Nat := (ly k L n).getD j 0
theorem lyCells_at {k : Nat} {L : Nat → Int} {n j : Nat} (h : j < (ly k L n).length) : (lyCells k L n)[j]? = some (.int .i64 (lyAt k L n j : Int)) := by
  simp [lyCells, lyAt, h]
theorem lyCells_skip {k : Nat} {L : Nat → Int} {n : Nat} (h : inB k L n = true) : ly k L (n + 1) = ly k L n := by rw [ly_succ, if_pos h]
theorem lyCells_take {k : Nat} {L : Nat → Int} {n : Nat} (h : inB k L n = false) : ly k L (n + 1) = ly k L n ++ [n] := by rw [ly_succ, if_neg (by rw [h]; simp)]

/-- A LIST OF NODES HAS BEEN MADE. -/
def LyPost (k : Nat) (L : Nat → Int) (n : Nat) (w : World) (e : Ending) (w' : World) : Prop :=
  ∃ c, e = .returned (.slice (some ⟨w.heap.size, 0, none⟩) (ly k L n).length c) ∧ IntS w' (some ⟨w.heap.size, 0, none⟩) (ly k L n).length (fun j => (lyAt k L n j : Int)) ∧ w.heap.size < w'.heap.size ∧ Below w.heap.size w w'

theorem owns_ints {w : World} {B g n c : Nat} {k : Nat} {L : Nat → Int} (h : w.ownsRow B 3 1 (.slice (some ⟨g, 0, none⟩) (ly k L n).length c) (ly k L n).length (lyCells k L n)) :
    IntS w (some ⟨g, 0, none⟩) (ly k L n).length (fun j => (lyAt k L n j : Int)) := by
  intro j hj
  refine ⟨g, 0, rfl, ?_⟩
  rw [Nat.zero_add, h.cellAt j (by omega), lyCells_at hj]
theorem owns_lt {w : World} {B g n c : Nat} {e : TypeId} {xs : List Value} (h : w.ownsRow B e 1 (.slice (some ⟨g, 0, none⟩) n c) n xs) : g < w.heap.size := by
  rcases h.2 with ⟨h', _⟩ | ⟨g', cap', cur, h', _, hg, _⟩
  · simp at h'
  · simp only [Value.slice.injEq, Option.some.injEq, Addr.mk.injEq, and_true, true_and] at h'
    obtain ⟨rfl, rfl⟩ := h'
    exact (Array.getElem?_eq_some_iff.1 hg).1

theorem ly_step {w2 : World} {g n k i : Nat} {L : Nat → Int} (E : ly k L (i + 1) = ly k L i ++ [i])
    (h : w2.ownsRow g 3 1 (.slice (some ⟨g, 0, none⟩) ((ly k L i).length + 1) n) ((ly k L i).length + 1) (lyCells k L i ++ [.int .i64 (i : Int)])) :
    w2.ownsRow g 3 1 (.slice (some ⟨g, 0, none⟩) (ly k L (i + 1)).length n) (ly k L (i + 1)).length (lyCells k L (i + 1)) := by
  have e1 : (ly k L (i + 1)).length = (ly k L i).length + 1 := by rw [E]; simp
  have e2 : lyCells k L (i + 1) = lyCells k L i ++ [.int .i64 (i : Int)] := by unfold lyCells; rw [E]; simp
  rw [e1, e2]; exact h

set_option maxRecDepth 100000 in
set_option maxHeartbeats 1000000 in
theorem loyalNodes_any (n : Nat) (a : Option Addr) (k c : Nat) (L : Nat → Int) (w : World) (hn : n ≤ 65536) (hk : k ≤ 65536) (hI : Hid (Inc k L)) (hL : Hid (IntS w a k L)) :
    Calls Try.prog 33 #[.int .i64 0, .int .i64 (n : Int), .slice a k c] w (LyPost k L n w) := by
  obtain ⟨i0, hi, hz0, hz1, hz2⟩ := info_parts Try.info3
  go_enter Try.func33, Try.ntmps33
  go_wp2_with (refine wpList_make_own _ rfl (.const (.int .i64 0)) (.tmp 11) 22 rfl w.heap.size 3 i0 (.int .i64 0) 1 Try.underlying22 hi hz0 hz1 .i64 .i64 _ n rfl rfl (by omega) (by rw [hz2]; omega) (by unfold maxLen; omega) (Nat.le_refl _) ?_)
  intro w1 hown1 hgrow1
  have hb1 : Below w.heap.size w w1 := (Below.refl _ _).grown hgrow1 (Nat.le_refl _) (fun k h => by cases h)
  have hown0 : w1.ownsRow w.heap.size 3 1 (.slice (some ⟨w.heap.size, 0, none⟩) (ly k L 0).length n) (ly k L 0).length (lyCells k L 0) := hown1
  have HO : Hid (w1.ownsRow w.heap.size 3 1 (.slice (some ⟨w.heap.size, 0, none⟩) (ly k L 0).length n) (ly k L 0).length (lyCells k L 0)) := hown0
  clear hown1 hown0 hgrow1
  go_wp2_with fail
  go_loopw [7, 8] (fun v y wr => ∃ (i : Nat), y = .int .i64 i ∧ i ≤ n ∧ v = .slice (some ⟨w.heap.size, 0, none⟩) (ly k L i).length n ∧
      Hid (wr.ownsRow w.heap.size 3 1 (.slice (some ⟨w.heap.size, 0, none⟩) (ly k L i).length n) (ly k L i).length (lyCells k L i)) ∧ Below w.heap.size w wr) (fun _ y _ => n - (intOf y).toNat)
  case atStart => exact ⟨0, rfl, Nat.zero_le _, rfl, HO, hb1⟩
  case round =>
    obtain ⟨i, rfl, hin, rfl, HOr, hbr⟩ := hrel
    have HB : Hid (Below w.heap.size w wr) := hbr
    by_cases hlt : i < n
    · have hltI : (i : Int) < (n : Int) := by omega
      go_wp2_with fail
      refine (isAmong_any (i : Int) a k c L wr hk hI (hL.out.later hbr)).mono ?_
      rintro e w' ⟨rfl, rfl⟩
      cases hb : inB k L (i : Int)
      · have hll := ly_length_le k L i
        have e1 := lyCells_take hb
        have E1 : Hid (ly k L (i + 1) = ly k L i ++ [i]) := e1
        clear e1 hbr
        go_wp2_with (at_builtin; refine wpList_append_fits _ rfl (.tmp 23) (.tmp 25) 22 rfl w.heap.size 3 i0 1 Try.underlying22 hi hz1 w.heap.size (ly k L i).length n (lyCells k L i) rfl (HOr.out.alloc _) ⟨wr.heap.size, 0, none⟩ 1 1 [.int .i64 (i : Int)] rfl rfl (cell_one_new _ _ _) (ints_oneCell _ [(i : Int)]) (by omega) ?_)
        intro w2 hown2 hgrow2
        have HO2 : Hid (w2.ownsRow w.heap.size 3 1 (.slice (some ⟨w.heap.size, 0, none⟩) (ly k L (i + 1)).length n) (ly k L (i + 1)).length (lyCells k L (i + 1))) := ly_step E1.out hown2
        have HB2 : Hid (Below w.heap.size w w2) := (HB.out.alloc HB.out.size _).grown hgrow2 (by have := HB.out.size; simp; omega) (fun k h => by cases h; exact Nat.le_refl _)
        clear hown2 hgrow2
        go_wp2_with fail
        go_roundw
        case rel => exact ⟨i + 1, by go_num, by omega, by rw [E1.out]; simp, HO2, HB2.out⟩
        case measure => simp [intOf]; omega
      · have E1 : Hid (ly k L (i + 1) = ly k L i) := lyCells_skip hb
        go_wp2_with fail
        go_roundw
        case rel => exact ⟨i + 1, by go_num, by omega, by rw [E1.out], by show Hid _; unfold lyCells; rw [E1.out]; exact HOr, HB.out⟩
        case measure => simp [intOf]; omega
    · have hltI : ¬ (i : Int) < (n : Int) := by omega
      obtain rfl : i = n := by omega
      go_wp2_with fail
      go_ret
      exact ⟨_, rfl, owns_ints HOr.out, owns_lt HOr.out, hbr⟩
set_option maxRecDepth 100000 in
set_option maxHeartbeats 1000000 in
theorem loyalBelow_any (n : Nat) (a : Option Addr) (k c : Nat) (L : Nat → Int) (w : World) (hn : n ≤ 65536) (hk : k ≤ 65536) (hn0 : 0 < n) (hL : Hid (IntS w a k L)) :
    Calls Try.prog 27 #[.int .i64 (n : Int), .slice a k c] w (LyPost k L n w) := by
  obtain ⟨i0, hi, hz0, hz1, hz2⟩ := info_parts Try.info3
  have hn1 : ¬ (n : Int) ≤ 0 := by omega
  go_enter Try.func27, Try.ntmps27
  go_wp2_with (refine wpList_make_own _ rfl (.const (.int .i64 0)) (.tmp 9) 22 rfl w.heap.size 3 i0 (.int .i64 0) 1 Try.underlying22 hi hz0 hz1 .i64 .i64 _ n rfl rfl (by omega) (by rw [hz2]; omega) (by unfold maxLen; omega) (Nat.le_refl _) ?_)
  intro w1 hown1 hgrow1
  have hb1 : Below w.heap.size w w1 := (Below.refl _ _).grown hgrow1 (Nat.le_refl _) (fun k h => by cases h)
  have hown0 : w1.ownsRow w.heap.size 3 1 (.slice (some ⟨w.heap.size, 0, none⟩) (ly k L 0).length n) (ly k L 0).length (lyCells k L 0) := hown1
  have HO : Hid (w1.ownsRow w.heap.size 3 1 (.slice (some ⟨w.heap.size, 0, none⟩) (ly k L 0).length n) (ly k L 0).length (lyCells k L 0)) := hown0
  clear hown1 hown0 hgrow1
  go_wp2_with fail
  go_loopw [5, 6] (fun v y wr => ∃ (i : Nat), y = .int .i64 i ∧ i ≤ n ∧ v = .slice (some ⟨w.heap.size, 0, none⟩) (ly k L i).length n ∧
      Hid (wr.ownsRow w.heap.size 3 1 (.slice (some ⟨w.heap.size, 0, none⟩) (ly k L i).length n) (ly k L i).length (lyCells k L i)) ∧ Below w.heap.size w wr) (fun _ y _ => n - (intOf y).toNat)
  case atStart => exact ⟨0, rfl, Nat.zero_le _, rfl, HO, hb1⟩
  case round =>
    obtain ⟨i, rfl, hin, rfl, HOr, hbr⟩ := hrel
    have HB : Hid (Below w.heap.size w wr) := hbr
    by_cases hlt : i < n
    · have hltI : (i : Int) < (n : Int) := by omega
      go_wp2_with fail
      refine (among_any (i : Int) a k c L wr hk (hL.out.later hbr)).mono ?_
      rintro e w' ⟨rfl, rfl⟩
      cases hb : inB k L (i : Int)
      · have hll := ly_length_le k L i
        have e1 := lyCells_take hb
        have E1 : Hid (ly k L (i + 1) = ly k L i ++ [i]) := e1
        clear e1 hbr
        go_wp2_with (at_builtin; refine wpList_append_fits _ rfl (.tmp 20) (.tmp 22) 22 rfl w.heap.size 3 i0 1 Try.underlying22 hi hz1 w.heap.size (ly k L i).length n (lyCells k L i) rfl (HOr.out.alloc _) ⟨wr.heap.size, 0, none⟩ 1 1 [.int .i64 (i : Int)] rfl rfl (cell_one_new _ _ _) (ints_oneCell _ [(i : Int)]) (by omega) ?_)
        intro w2 hown2 hgrow2
        have HO2 : Hid (w2.ownsRow w.heap.size 3 1 (.slice (some ⟨w.heap.size, 0, none⟩) (ly k L (i + 1)).length n) (ly k L (i + 1)).length (lyCells k L (i + 1))) := ly_step E1.out hown2
        have HB2 : Hid (Below w.heap.size w w2) := (HB.out.alloc HB.out.size _).grown hgrow2 (by have := HB.out.size; simp; omega) (fun k h => by cases h; exact Nat.le_refl _)
        clear hown2 hgrow2
        go_wp2_with fail
        go_roundw
        case rel => exact ⟨i + 1, by go_num, by omega, by rw [E1.out]; simp, HO2, HB2.out⟩
        case measure => simp [intOf]; omega
      · have E1 : Hid (ly k L (i + 1) = ly k L i) := lyCells_skip hb
        go_wp2_with fail
        go_roundw
        case rel => exact ⟨i + 1, by go_num, by omega, by rw [E1.out], by show Hid _; unfold lyCells; rw [E1.out]; exact HOr, HB.out⟩
        case measure => simp [intOf]; omega
    · have hltI : ¬ (i : Int) < (n : Int) := by omega
      obtain rfl : i = n := by omega
      go_wp2_with fail
      go_ret
      exact ⟨_, rfl, owns_ints HOr.out, owns_lt HOr.out, hbr⟩

set_option maxHeartbeats 400000 in
theorem bytes24_any (a a' : Option Addr) (n c m c' : Nat) (x : Int) (w : World) : Calls Try.prog 24 #[.slice a n c, .slice a' m c', .int .i64 x] w (BoolPost w) := by
  by_cases h0 : (1048576 : Int) < (n : Int)
  · go_enter Try.func24, Try.ntmps24
    go_wp2
    go_ret
    exact ⟨_, rfl, Same.refl _⟩
  have h0' : (n : Int) ≤ 1048576 := by omega
  by_cases h1 : (1048576 : Int) < (m : Int)
  · go_enter Try.func24, Try.ntmps24
    go_wp2
    all_goals (go_ret; exact ⟨_, rfl, Same.refl _⟩)
  have h1' : (m : Int) ≤ 1048576 := by omega
  go_enter Try.func24, Try.ntmps24
  go_wp2
  all_goals (go_ret; exact ⟨_, rfl, Same.refl _⟩)

set_option maxHeartbeats 400000 in
theorem bytes28_any (a a' : Option Addr) (n c m c' : Nat) (x y z : Int) (w : World) : Calls Try.prog 28 #[.slice a n c, .slice a' m c', .int .i64 x, .int .i64 y, .int .i64 z] w (BoolPost w) := by
  by_cases h0 : (1048576 : Int) < (n : Int)
  · go_enter Try.func28, Try.ntmps28
    go_wp2
    go_ret
    exact ⟨_, rfl, Same.refl _⟩
  have h0' : (n : Int) ≤ 1048576 := by omega
  by_cases h1 : (1048576 : Int) < (m : Int)
  · go_enter Try.func28, Try.ntmps28
    go_wp2
    all_goals (go_ret; exact ⟨_, rfl, Same.refl _⟩)
  have h1' : (m : Int) ≤ 1048576 := by omega
  go_enter Try.func28, Try.ntmps28
  go_wp2
  all_goals (go_ret; exact ⟨_, rfl, Same.refl _⟩)

end Go.Proofs.Qxb6604244a
