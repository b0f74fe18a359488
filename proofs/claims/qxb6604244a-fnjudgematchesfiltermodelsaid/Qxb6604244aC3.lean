/-
  FnConsensusTermsMatchesModel.
-/
import Derived.Test.Qxb6604244aC2
import Derived.Test.Qxb6604244aN1
namespace Go.Proofs.Qxb6604244a
open Go.RowKit

/-- lo and hi hold the least and the greatest as far as place j -/
def MM (v : Nat → Int) (j : Nat) (lo hi : Int) : Prop := lo ≤ v 0 ∧ v 0 ≤ hi ∧ (∀ i, i < j → lo ≤ v i ∧ v i ≤ hi) ∧ ((∀ i, i < j → v i = v 0) → lo = v 0 ∧ hi = v 0)
theorem MM.start (v : Nat → Int) : MM v 0 (v 0) (v 0) := ⟨Int.le_refl _, Int.le_refl _, fun i hi => by omega, fun _ => ⟨rfl, rfl⟩⟩
theorem MM.down {v : Nat → Int} {j : Nat} {lo hi : Int} (h : MM v j lo hi) (c : v j < lo) : MM v (j + 1) (v j) hi := by
  obtain ⟨h1, h2, h3, h4⟩ := h
  refine ⟨by omega, h2, fun i hij => ?_, fun h => ?_⟩
  · by_cases e : i = j
    · subst e; omega
    · have := h3 i (by omega); omega
  · have := h j (by omega); omega
theorem MM.up {v : Nat → Int} {j : Nat} {lo hi : Int} (h : MM v j lo hi) (c : hi < v j) : MM v (j + 1) lo (v j) := by
  obtain ⟨h1, h2, h3, h4⟩ := h
  refine ⟨h1, by omega, fun i hij => ?_, fun h => ?_⟩
  · by_cases e : i = j
    · subst e; omega
    · have := h3 i (by omega); omega
  · have := h j (by omega); omega
theorem MM.stay {v : Nat → Int} {j : Nat} {lo hi : Int} (h : MM v j lo hi) (c : ¬ v j < lo) (d : ¬ hi < v j) : MM v (j + 1) lo hi := by
  obtain ⟨h1, h2, h3, h4⟩ := h
  refine ⟨h1, h2, fun i hij => ?_, fun h => h4 fun i hi => h i (by omega)⟩
  by_cases e : i = j
  · subst e; omega
  · exact h3 i (by omega)
theorem MM.yes {v : Nat → Int} {j : Nat} {lo hi : Int} (h : MM v j lo hi) (c : vB v j = true) : lo = v 0 ∧ hi = v 0 := h.2.2.2 (vB_iff.1 c)
theorem MM.no {v : Nat → Int} {j : Nat} {lo hi : Int} (h : MM v j lo hi) (c : vB v j = false) : lo ≠ hi := by
  intro e
  have : vB v j = true := vB_iff.2 fun i hi => by have := h.2.2.1 i hi; have := h.1; have := h.2.1; omega
  rw [c] at this
  cases this

set_option maxRecDepth 100000 in
set_option maxHeartbeats 2000000 in
theorem law5 (a af : Option Addr) (n c k cf : Nat) (X L : Nat → Int) (bound : Int) (w : World) (Z : NilZ a n) (Zf : NilZ af k) (hX : Hid (IntS w a n X)) (hL : Hid (IntS w af k L)) :
    Calls Try.prog 5 #[.slice a n c, .slice af k cf, .int .i64 bound] w fun e w' => e = .returned (.bool true) ∧ Below w.heap.size w w' := by
  go_enter Try.func5, Try.ntmps5
  go_wp2_with fail
  refine (bytes24_any a af n c k cf bound w).mono ?_
  rintro e w1 ⟨b, rfl, s1⟩
  have B1 : Hid (Below w.heap.size w w1) := s1.below _
  replace hX : Hid (IntS w1 a n X) := s1.ints hX.out
  replace hL : Hid (IntS w1 af k L) := s1.ints hL.out
  clear s1
  cases b
  · go_wp2_with fail
    go_ret
    exact ⟨rfl, B1.out⟩
  by_cases hn : (4096 : Int) < (n : Int)
  · go_wp2_with fail
    go_ret
    exact ⟨rfl, B1.out⟩
  replace hn : n ≤ 4096 := by omega
  have hnI : ¬ (4096 : Int) < (n : Int) := by omega
  by_cases hk : (4096 : Int) < (k : Int)
  · go_wp2_with fail
    go_ret
    exact ⟨rfl, B1.out⟩
  replace hk : k ≤ 4096 := by omega
  have hkI : ¬ (4096 : Int) < (k : Int) := by omega
  go_wp2_with fail
  refine (inc_any af k cf L w1 (by omega) hL).mono ?_
  rintro e w2 ⟨b, rfl, hb, s2⟩
  replace B1 : Hid (Below w.heap.size w w2) := B1.out.trans (s2.below _)
  replace hX : Hid (IntS w2 a n X) := s2.ints hX.out
  replace hL : Hid (IntS w2 af k L) := s2.ints hL.out
  clear s2
  cases b
  · clear hb
    go_wp2_with fail
    go_ret
    exact ⟨rfl, B1.out⟩
  have hI : Hid (Inc k L) := hb.1 rfl
  clear hb
  go_wp2_with fail
  refine (hasLoyal_any n af k cf L w2 (by omega) (by omega) hL).mono ?_
  rintro e w2' ⟨b, rfl, hb, rfl⟩
  cases b
  · clear hb
    go_wp2_with fail
    go_ret
    exact ⟨rfl, B1.out⟩
  have hne : Hid (ly k L n ≠ []) := hb rfl
  clear hb
  go_wp2_with fail
  refine (clone_any a n c X w2 (by omega) Z hX).mono ?_
  rintro e w3 ⟨a1, c1, rfl, hc1, Z1, q1, O1, b3⟩
  have HX : Hid (IntS w3 a1 n X) := O1.ints
  replace B1 : Hid (Below w.heap.size w w3) := B1.out.trans (b3.mono B1.out.size)
  replace hL : Hid (IntS w3 af k L) := hL.out.later b3
  clear b3 hX O1 q1
  go_wp2_with fail
  refine (clone_any af k cf L w3 (by omega) Zf hL).mono ?_
  rintro e w4 ⟨a2, c2, rfl, hc2, Z2, q2, O2, b4⟩
  replace HX : Hid (IntS w4 a1 n X) := HX.out.later b4
  replace B1 : Hid (Below w.heap.size w w4) := B1.out.trans (b4.mono B1.out.size)
  replace hL : Hid (IntS w4 a2 k L) := O2.ints
  clear b4 O2 q2
  go_wp2_with fail
  refine (clone_any a2 k c2 L w4 (by omega) Z2 hL).mono ?_
  rintro e w5 ⟨a3, c3, rfl, hc3, Z3, q3, O3, b5⟩
  replace HX : Hid (IntS w5 a1 n X) := HX.out.later b5
  replace B1 : Hid (Below w.heap.size w w5) := B1.out.trans (b5.mono B1.out.size)
  replace hL : Hid (IntS w5 a2 k L) := hL.out.later b5
  have HM : Hid (IntS w5 a3 k L) := O3.ints
  clear b5 O3 q3
  go_wp2_with fail
  refine (zterms_any a1 a2 n c1 k c2 X L bound w5 (by omega) (by omega) hI hne HX hL).mono ?_
  rintro e w6 ⟨g, cl, rfl, hS, b6⟩
  have HD : Hid (IntS w6 (some ⟨g, 0, none⟩) (ly k L n).length (fun j => (lyAt k L n j : Int))) := hS
  replace HX : Hid (IntS w6 a1 n X) := HX.out.later b6
  replace B1 : Hid (Below w.heap.size w w6) := B1.out.trans (b6.mono B1.out.size)
  replace hL : Hid (IntS w6 a2 k L) := hL.out.later b6
  replace HM : Hid (IntS w6 a3 k L) := HM.out.later b6
  have hm0 : 0 < (ly k L n).length := List.length_pos_iff.2 hne.out
  have hmn := ly_length_le k L n
  clear b6 hS
  generalize hV : vB (lv X k L n) (ly k L n).length = V
  generalize hW : (if V = true then lv X k L n 0 else 0) = want
  have HV : Hid (vB (lv X k L n) (ly k L n).length = V ∧ (if V = true then lv X k L n 0 else 0) = want) := ⟨hV, hW⟩
  clear hV hW
  unfold tCells
  go_wp2_with fail
  refine (loyalBelow_any n a3 k c3 L w6 (by omega) (by omega) (by omega) HM).mono ?_
  rintro e w7 ⟨cy, rfl, hS, _, b7⟩
  have HY : Hid (IntS w7 (some ⟨w6.heap.size, 0, none⟩) (ly k L n).length (fun j => (lyAt k L n j : Int))) := hS
  replace HX : Hid (IntS w7 a1 n X) := HX.out.later b7
  replace B1 : Hid (Below w.heap.size w w7) := B1.out.trans (b7.mono B1.out.size)
  replace hL : Hid (IntS w7 a2 k L) := hL.out.later b7
  replace HM : Hid (IntS w7 a3 k L) := HM.out.later b7
  replace HD : Hid (IntS w7 (some ⟨g, 0, none⟩) (ly k L n).length (fun j => (lyAt k L n j : Int))) := HD.out.later b7
  clear b7 hS hne
  have HLT : Hid (∀ j, j < (ly k L n).length → lyAt k L n j < n) := fun j hj => lyAt_mem hj
  generalize hy : w6.heap.size = gy at HY ⊢
  clear hy
  generalize (ly k L n).length = m at *
  have hl0 := HLT.out 0 hm0
  obtain ⟨b, off, rfl, d0⟩ := HX.out _ hl0
  obtain ⟨b2, off2, e2, l0⟩ := HY.out 0 hm0
  simp only [Option.some.injEq, Addr.mk.injEq, and_true] at e2
  obtain ⟨rfl, rfl⟩ := e2
  simp only [Nat.zero_add] at l0
  have hm0' : ((m : Int) == 0) = false := beq_eq_false_iff_ne.2 (by omega)
  have hmI : (0 : Int) < (m : Int) := by omega
  have hpI : ((lyAt k L n 0 : Nat) : Int) < (n : Int) := by omega
  have HST : Hid (MM (lv X k L n) 0 (X (lyAt k L n 0)) (X (lyAt k L n 0))) := MM.start _
  go_wp2_with fail
  go_loop [14, 15, 76] (fun x y z => ∃ (j : Nat) (lo hi : Int), x = .int .i64 lo ∧ y = .int .i64 hi ∧ z = .int .i64 j ∧ j ≤ m ∧ Hid (MM (lv X k L n) j lo hi)) (fun _ _ z => m - (intOf z).toNat)
  case atStart => exact ⟨0, _, _, rfl, rfl, rfl, Nat.zero_le _, HST⟩
  case round =>
    obtain ⟨j, lo, hi, rfl, rfl, rfl, hj, HMM⟩ := hrel
    by_cases hlt : j < m
    · have hltI : (j : Int) < (m : Int) := by omega
      have hlj := HLT.out j hlt
      obtain ⟨b', off', e', dj⟩ := HX.out _ hlj
      simp only [Option.some.injEq, Addr.mk.injEq, and_true] at e'
      obtain ⟨rfl, rfl⟩ := e'
      obtain ⟨b3, off3, e3, lj⟩ := HY.out j hlt
      simp only [Option.some.injEq, Addr.mk.injEq, and_true] at e3
      obtain ⟨rfl, rfl⟩ := e3
      simp only [Nat.zero_add] at lj
      have hpj : ((lyAt k L n j : Nat) : Int) < (n : Int) := by omega
      have hlh : lo ≤ hi := by have := HMM.out.1; have := HMM.out.2.1; omega
      by_cases h1 : X (lyAt k L n j) < lo
      · have h2 : ¬ hi < X (lyAt k L n j) := by omega
        have fin : Hid (MM (lv X k L n) (j + 1) (X (lyAt k L n j)) hi) := HMM.out.down h1
        go_wp2_with fail
        go_round
        case rel => exact ⟨j + 1, _, _, rfl, rfl, by go_num, by omega, fin⟩
        case measure => simp [intOf]; omega
      · by_cases h2 : hi < X (lyAt k L n j)
        · have fin : Hid (MM (lv X k L n) (j + 1) lo (X (lyAt k L n j))) := HMM.out.up h2
          go_wp2_with fail
          go_round
          case rel => exact ⟨j + 1, _, _, rfl, rfl, by go_num, by omega, fin⟩
          case measure => simp [intOf]; omega
        · have fin : Hid (MM (lv X k L n) (j + 1) lo hi) := HMM.out.stay h1 h2
          go_wp2_with fail
          go_round
          case rel => exact ⟨j + 1, _, _, rfl, rfl, by go_num, by omega, fin⟩
          case measure => simp [intOf]; omega
    · have hltI : ¬ (j : Int) < (m : Int) := by omega
      obtain rfl : j = m := by omega
      cases V
      · have hne : (lo == hi) = false := beq_eq_false_iff_ne.2 (HMM.out.no HV.out.1)
        obtain rfl : want = 0 := by have := HV.out.2; simp at this; exact this.symm
        go_wp2_with fail
        refine (equal_any a2 a3 k c2 k c3 L L w7 (by omega) hL HM).mono ?_
        rintro e w8 ⟨b', rfl, hb', s8⟩
        obtain rfl : b' = true := hb'.2 ⟨rfl, fun _ _ => rfl⟩
        clear hb'
        go_wp2_with fail
        refine (equal_any (some ⟨g, 0, none⟩) (some ⟨gy, 0, none⟩) j cl j cy (fun i => (lyAt k L n i : Int)) (fun i => (lyAt k L n i : Int)) w8 (by omega) (s8.ints HD.out) (s8.ints HY.out)).mono ?_
        rintro e w9 ⟨b', rfl, hb', s9⟩
        obtain rfl : b' = true := hb'.2 ⟨rfl, fun _ _ => rfl⟩
        clear hb'
        go_wp2_with fail
        go_ret
        exact ⟨rfl, (B1.out.trans (s8.below _)).trans (s9.below _)⟩
      · obtain ⟨rfl, rfl⟩ := HMM.out.yes HV.out.1
        obtain rfl : want = lv X k L n 0 := by have := HV.out.2; simp at this; exact this.symm
        go_wp2_with fail
        refine (equal_any a2 a3 k c2 k c3 L L w7 (by omega) hL HM).mono ?_
        rintro e w8 ⟨b', rfl, hb', s8⟩
        obtain rfl : b' = true := hb'.2 ⟨rfl, fun _ _ => rfl⟩
        clear hb'
        go_wp2_with fail
        refine (equal_any (some ⟨g, 0, none⟩) (some ⟨gy, 0, none⟩) j cl j cy (fun i => (lyAt k L n i : Int)) (fun i => (lyAt k L n i : Int)) w8 (by omega) (s8.ints HD.out) (s8.ints HY.out)).mono ?_
        rintro e w9 ⟨b', rfl, hb', s9⟩
        obtain rfl : b' = true := hb'.2 ⟨rfl, fun _ _ => rfl⟩
        clear hb'
        go_wp2_with fail
        go_ret
        exact ⟨rfl, (B1.out.trans (s8.below _)).trans (s9.below _)⟩
end Go.Proofs.Qxb6604244a
