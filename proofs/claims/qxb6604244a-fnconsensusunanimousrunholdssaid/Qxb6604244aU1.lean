/-
  FnConsensusUnanimousRunHolds.
-/
import Derived.Test.Qxb6604244aJ2
import Derived.Test.Qxb6604244aN1
namespace Go.Proofs.Qxb6604244a
open Go.RowKit

/-! ### plain -/
theorem range_sorted (f : Nat → Bool) (n : Nat) : ∀ j i, i < j → j < ((List.range n).filter f).length → at_ ((List.range n).filter f) i < at_ ((List.range n).filter f) j := by
  have hp : ((List.range n).filter f).Pairwise (· < ·) := List.Pairwise.filter _ List.pairwise_lt_range
  intro j i hij hj
  have := List.pairwise_iff_getElem.1 hp i j (by omega) hj hij
  simpa [at_, hj, show i < ((List.range n).filter f).length by omega] using this
theorem ly_inc (k : Nat) (L : Nat → Int) (n : Nat) : Inc (ly k L n).length (fun j => (lyAt k L n j : Int)) := by
  intro j h0 hj
  have := range_sorted (fun i => !inB k L i) n j (j - 1) (by omega) hj
  show (lyAt k L n (j - 1) : Int) < (lyAt k L n j : Int)
  have e : ∀ i, lyAt k L n i = at_ ((List.range n).filter fun i => !inB k L i) i := fun i => rfl
  rw [e, e]
  omega
theorem KL_same (m : Nat) (N : Nat → Int) : KL m N m N = List.range m := by
  unfold KL
  rw [List.filter_eq_self]
  intro q hq
  exact inB_iff.2 ⟨q, List.mem_range.1 hq, rfl⟩
theorem tB_same (m : Nat) (N : Nat → Int) : tB m N m N = true := by
  simp only [tB, List.all_eq_true]
  intro q hq
  exact inB_iff.2 ⟨q, List.mem_range.1 hq, rfl⟩
theorem at_range {m j : Nat} (h : j < m) : at_ (List.range m) j = j := by
  simp [at_, h]
theorem xB_const (v x : Int) (m : Nat) (hm : 0 < m) : xB (fun _ => v) x m = (v == x) := by
  rw [Bool.eq_iff_iff, xB_iff, beq_iff_eq]
  exact ⟨fun h => h 0 hm, fun h _ _ => h⟩
theorem mx_const (r : Int) (m : Nat) (hm : 0 < m) : mx (fun _ => r) m = if r < 0 then 0 else r := by
  have : ∀ m, mx (fun _ => r) (m + 1) = if r < 0 then 0 else r := by
    intro m
    induction m with
    | zero =>
      show (if (0 : Int) < r then r else 0) = _
      by_cases h : 0 < r
      · rw [if_pos h, if_neg (by omega)]
      · rw [if_neg h]
        by_cases h2 : r < 0
        · rw [if_pos h2]
        · rw [if_neg h2]; omega
    | succ m ih =>
      show (if mx (fun _ => r) (m + 1) < r then r else mx (fun _ => r) (m + 1)) = _
      rw [ih]
      by_cases h2 : r < 0
      · rw [if_pos h2, if_neg (by omega)]
      · rw [if_neg h2, if_neg (by omega)]
  obtain ⟨q, rfl⟩ : ∃ q, m = q + 1 := ⟨m - 1, by omega⟩
  exact this q

theorem owns_decs_range {w : World} {B g c m : Nat} {N V R : Nat → Int} (h : w.ownsRow B 43 3 (.slice (some ⟨g, 0, none⟩) m c) m (kCells (List.range m) N V R)) : DecS w (some ⟨g, 0, none⟩) m N V R := by
  intro j hj
  have := kCells_at N V R (List.range m) j (by simpa using hj)
  rw [at_range hj] at this
  refine ⟨g, 0, rfl, ?_, ?_, ?_⟩
  · rw [Nat.zero_add, h.cellAt _ (by omega)]; exact this.1
  · rw [Nat.zero_add, h.cellAt _ (by omega)]; exact this.2.1
  · rw [Nat.zero_add, h.cellAt _ (by omega)]; exact this.2.2

set_option maxRecDepth 100000 in
set_option maxHeartbeats 2000000 in
theorem law6 (a af : Option Addr) (n c k cf : Nat) (X L : Nat → Int) (bound round value : Int) (w : World) (Z : NilZ a n) (Zf : NilZ af k) (hX : Hid (IntS w a n X)) (hL : Hid (IntS w af k L)) :
    Calls Try.prog 6 #[.slice a n c, .slice af k cf, .int .i64 bound, .int .i64 round, .int .i64 value] w fun e w' => e = .returned (.bool true) ∧ Below w.heap.size w w' := by
  obtain ⟨i0, hi, hz0, hz1, hz2⟩ := info_parts Try.info43
  go_enter Try.func6, Try.ntmps6
  go_wp2_with fail
  refine (bytes28_any a af n c k cf bound round value w).mono ?_
  rintro e w1 ⟨b, rfl, s1⟩
  have B1 : Hid (Below w.heap.size w w1) := s1.below _
  replace hX : Hid (IntS w1 a n X) := s1.ints hX.out
  replace hL : Hid (IntS w1 af k L) := s1.ints hL.out
  clear s1
  cases b
  · go_wp2_with fail
    go_ret
    exact ⟨rfl, B1.out⟩
  by_cases hn : (4096 : Int) < (n : Int)
  · go_wp2_with fail
    go_ret
    exact ⟨rfl, B1.out⟩
  replace hn : n ≤ 4096 := by omega
  have hnI : ¬ (4096 : Int) < (n : Int) := by omega
  by_cases hk : (4096 : Int) < (k : Int)
  · go_wp2_with fail
    go_ret
    exact ⟨rfl, B1.out⟩
  replace hk : k ≤ 4096 := by omega
  have hkI : ¬ (4096 : Int) < (k : Int) := by omega
  go_wp2_with fail
  refine (inc_any af k cf L w1 (by omega) hL).mono ?_
  rintro e w2 ⟨b, rfl, hb, s2⟩
  replace B1 : Hid (Below w.heap.size w w2) := B1.out.trans (s2.below _)
  replace hX : Hid (IntS w2 a n X) := s2.ints hX.out
  replace hL : Hid (IntS w2 af k L) := s2.ints hL.out
  clear s2
  cases b
  · clear hb
    go_wp2_with fail
    go_ret
    exact ⟨rfl, B1.out⟩
  have hI : Hid (Inc k L) := hb.1 rfl
  clear hb
  go_wp2_with fail
  refine (hasLoyal_any n af k cf L w2 (by omega) (by omega) hL).mono ?_
  rintro e w2' ⟨b, rfl, hb, rfl⟩
  cases b
  · clear hb
    go_wp2_with fail
    go_ret
    exact ⟨rfl, B1.out⟩
  have hne : Hid (ly k L n ≠ []) := hb rfl
  clear hb
  go_wp2_with fail
  refine (clone_any a n c X w2 (by omega) Z hX).mono ?_
  rintro e w3 ⟨a1, c1, rfl, hc1, Z1, q1, O1, b3⟩
  have HX : Hid (IntS w3 a1 n X) := O1.ints
  replace B1 : Hid (Below w.heap.size w w3) := B1.out.trans (b3.mono B1.out.size)
  replace hL : Hid (IntS w3 af k L) := hL.out.later b3
  clear b3 hX O1 q1
  go_wp2_with fail
  refine (clone_any af k cf L w3 (by omega) Zf hL).mono ?_
  rintro e w4 ⟨a2, c2, rfl, hc2, Z2, q2, O2, b4⟩
  replace HX : Hid (IntS w4 a1 n X) := HX.out.later b4
  replace B1 : Hid (Below w.heap.size w w4) := B1.out.trans (b4.mono B1.out.size)
  replace hL : Hid (IntS w4 a2 k L) := O2.ints
  clear b4 O2 q2
  go_wp2_with fail
  refine (zterms_any a1 a2 n c1 k c2 X L bound w4 (by omega) (by omega) hI hne HX hL).mono ?_
  rintro e w6 ⟨g, cl, rfl, hS, b6⟩
  have HD : Hid (IntS w6 (some ⟨g, 0, none⟩) (ly k L n).length (fun j => (lyAt k L n j : Int))) := hS
  replace B1 : Hid (Below w.heap.size w w6) := B1.out.trans (b6.mono B1.out.size)
  have hm0 : 0 < (ly k L n).length := List.length_pos_iff.2 hne.out
  have hmn := ly_length_le k L n
  have HINC : Hid (Inc (ly k L n).length (fun j => (lyAt k L n j : Int))) := ly_inc k L n
  clear b6 hS hne HX hL
  generalize vB (lv X k L n) (ly k L n).length = V
  generalize (if V = true then lv X k L n 0 else 0) = want
  generalize (ly k L n).length = m at *
  generalize lyAt k L n = P at *
  unfold tCells
  have hm0' : ((m : Int) == 0) = false := beq_eq_false_iff_ne.2 (by omega)
  have hmn' : decide ((n : Int) < (m : Int)) = false := by simp; omega
  go_wp2_with (refine wpList_make_own _ rfl (.const (.int .i64 0)) (.tmp 71) 31 rfl w6.heap.size 43 i0 (.agg #[.int .i64 0, .int .i64 0, .int .i64 0]) 3 Try.underlying31 hi hz0 hz1 .i64 .i64 _ m rfl rfl rfl (by rw [hz2]; omega) (by unfold maxLen; omega) (Nat.le_refl _) ?_)
  intro w7 hown7 hgrow7
  have HB7 : Hid (Below w6.heap.size w6 w7) := (Below.refl _ _).grown hgrow7 (Nat.le_refl _) (fun k h => by cases h)
  generalize hg7 : w6.heap.size = g7 at hown7 HB7 ⊢
  have HG7 : Hid (w6.heap.size = g7) := hg7
  have HO7 : Hid (w7.ownsRow g7 43 3 (.slice (some ⟨g7, 0, none⟩) 0 m) 0 (kCells (List.range 0) (fun q => (P q : Int)) (fun _ => value) (fun _ => round))) := hown7
  clear hown7 hgrow7 hg7
  go_wp2_with fail
  go_loopw [16, 75] (fun v z wr => ∃ (j : Nat), v = .slice (some ⟨g7, 0, none⟩) j m ∧ z = .int .i64 j ∧ j ≤ m ∧ Hid (wr.ownsRow g7 43 3 (.slice (some ⟨g7, 0, none⟩) j m) j (kCells (List.range j) (fun q => (P q : Int)) (fun _ => value) (fun _ => round))) ∧ Hid (Below g7 w6 wr)) (fun _ z _ => m - (intOf z).toNat)
  case atStart => exact ⟨0, rfl, rfl, Nat.zero_le _, HO7, HB7⟩
  case round =>
    obtain ⟨j, rfl, rfl, hj, HO, HB⟩ := hrel
    clear HO7 HB7
    have HB' : Hid (Below w6.heap.size w6 wr) := by rw [HG7.out]; exact HB
    have HDr : Hid (IntS wr (some ⟨g, 0, none⟩) m (fun j => (P j : Int))) := HD.out.later HB'.out
    by_cases hlt : j < m
    · have hltI : (j : Int) < (m : Int) := by omega
      obtain ⟨bd, od, e', dj⟩ := HDr.out j hlt
      simp only [Option.some.injEq, Addr.mk.injEq, and_true] at e'
      obtain ⟨rfl, rfl⟩ := e'
      simp only [Nat.zero_add] at dj
      go_wp2_with (at_builtin; refine wpList_append_fits _ rfl (.tmp 79) (.tmp 84) 31 rfl g7 43 i0 3 Try.underlying31 hi hz1 g7 j m (kCells (List.range j) (fun q => (P q : Int)) (fun _ => value) (fun _ => round)) rfl (HO.out.alloc _) ⟨wr.heap.size, 0, none⟩ 1 1 [.int .i64 (P j : Int), .int .i64 value, .int .i64 round] rfl rfl (cell_three_new _ _ _ _ _) (three_one _ _ _) (by omega) ?_)
      intro w8 hown8 hgrow8
      have HO8 : Hid (w8.ownsRow g7 43 3 (.slice (some ⟨g7, 0, none⟩) (j + 1) m) (j + 1) (kCells (List.range (j + 1)) (fun q => (P q : Int)) (fun _ => value) (fun _ => round))) := by
        show World.ownsRow _ _ _ _ _ _ _
        rw [List.range_succ, kCells_snoc]; exact hown8
      have HB8 : Hid (Below g7 w6 w8) := by
        have hs : g7 ≤ wr.heap.size := by have := HB'.out.size; rw [HG7.out] at this; exact this
        exact (HB.out.alloc hs _).grown hgrow8 (by simp; omega) (fun k h => by cases h; exact Nat.le_refl _)
      clear hown8 hgrow8
      go_wp2_with fail
      go_roundw
      case rel => exact ⟨j + 1, rfl, by go_num, by omega, HO8, HB8⟩
      case measure => simp [intOf]; omega
    · have hltI : ¬ (j : Int) < (m : Int) := by omega
      obtain rfl : j = m := by omega
      have HE : Hid (DecS wr (some ⟨g7, 0, none⟩) j (fun q => (P q : Int)) (fun _ => value) (fun _ => round)) := owns_decs_range HO.out
      replace B1 : Hid (Below w.heap.size w wr) := B1.out.trans (HB'.out.mono B1.out.size)
      have hgs := owns_lt' HO.out
      go_wp2_with fail
      refine (zjudge_any a2 (some ⟨g, 0, none⟩) k c2 j cl V want bound (some ⟨g7, 0, none⟩) none j j 0 0 (fun q => (P q : Int)) (fun q => (P q : Int)) (fun _ => value) (fun _ => round) (fun _ => 0) wr (by omega) (by omega) (by omega) HINC HINC HDr HE (fun q hq => by omega)).mono ?_
      rintro e w9 ⟨gk, ck, rfl, hown9, b9⟩
      have HO9 : Hid (w9.ownsRow wr.heap.size 43 3 (.slice (some ⟨gk, 0, none⟩) j ck) j (kCells (List.range j) (fun q => (P q : Int)) (fun _ => value) (fun _ => round))) := by
        have h := hown9; rw [KL_same, List.length_range] at h; exact h
      replace HE : Hid (DecS w9 (some ⟨g7, 0, none⟩) j (fun q => (P q : Int)) (fun _ => value) (fun _ => round)) := HE.out.later b9
      have HK : Hid (DecS w9 (some ⟨gk, 0, none⟩) j (fun q => (P q : Int)) (fun _ => value) (fun _ => round)) := owns_decs_range HO9.out
      replace B1 : Hid (Below w.heap.size w w9) := B1.out.trans (b9.mono B1.out.size)
      rw [KL_same, List.length_range, tB_same, xB_const _ _ _ hm0, xB_const _ _ _ hm0, mx_const _ _ hm0, show uB j (fun q => (P q : Int)) 0 (fun _ => 0) = true from rfl, beq_self_eq_true, Bool.and_self, oc_true]
      clear hown9 b9 HO HB HB' HDr HO9 HD HINC
      unfold vCells
      go_wp2_with fail
      all_goals
        go_loopw [118] (fun z wx => ∃ (i : Nat), z = .int .i64 i ∧ i ≤ j ∧ Hid (Below w9.heap.size w9 wx)) (fun z _ => j - (intOf z).toNat)
        case atStart => exact ⟨0, rfl, Nat.zero_le _, ((Below.refl _ _).alloc (Nat.le_refl _) _).alloc (by simp) _⟩
        case round =>
          obtain ⟨i, rfl, hi', HBx⟩ := hrel
          by_cases hij : i < j
          · have hijI : (i : Int) < (j : Int) := by omega
            obtain ⟨b1, o1, e1, p0, p1, p2⟩ := HE.out i hij
            obtain ⟨b2, o2, e2, q0, q1, q2⟩ := HK.out i hij
            simp only [Option.some.injEq, Addr.mk.injEq, and_true] at e1 e2
            obtain ⟨rfl, rfl⟩ := e1
            obtain ⟨rfl, rfl⟩ := e2
            simp only [Nat.zero_add] at p0 p1 p2 q0 q1 q2
            replace p0 := cell_later HBx.out p0
            replace p1 := cell_later HBx.out p1
            replace p2 := cell_later HBx.out p2
            replace q0 := cell_later HBx.out q0
            replace q1 := cell_later HBx.out q1
            replace q2 := cell_later HBx.out q2
            go_wp2_with fail
            go_quiet (fail)
            go_wp2
            go_roundw
            case rel => exact ⟨i + 1, by go_num, by omega, below_drewN HBx.out _⟩
            case measure => simp [intOf]; omega
          · have hijI : ¬ (i : Int) < (j : Int) := by omega
            go_wp2_with fail
            go_ret
            exact ⟨rfl, B1.out.trans (HBx.out.mono B1.out.size)⟩
end Go.Proofs.Qxb6604244a
