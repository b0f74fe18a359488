/-
  FnNextSubsetIsLexSuccessor.
-/
import Derived.Test.Qxb6604244aN2
namespace Go.Proofs.Qxb6604244a
open Go.RowKit

set_option maxHeartbeats 400000 in
theorem next_zero (a : Option Addr) (c : Nat) (N : Int) (w : World) : Calls Try.prog 29 #[.slice a 0 c, .int .i64 N] w fun e w' => e = .returned (.bool false) ∧ w = w' := by
  go_enter Try.func29, Try.ntmps29
  go_wp2
  go_loop [6] (fun y => y = .int .i64 (-1)) (fun _ => 0)
  case atStart => rfl
  case round =>
    subst hrel
    go_wp2
    go_ret
    exact ⟨rfl, rfl⟩

/-- WHAT nextSubset LEAVES, at whatever own row. -/
def NextPost' (w : World) (B : Nat) (a : Option Addr) (k : Nat) (L : Nat → Int) (N : Int) (e : Ending) (w' : World) : Prop :=
  (e = .returned (.bool false) ∧ Last k L N ∧ w = w') ∨
  (e = .returned (.bool true) ∧ ∃ g m, a = some ⟨g, 0, none⟩ ∧ B ≤ g ∧ g < w.heap.size ∧ m < k ∧ L m ≠ N - k + m ∧ (∀ j, m < j → j < k → L j = N - k + j) ∧ w'.rowIs g 3 k (fun j => .int .i64 (nx L m k j)) ∧ Only g w w')

theorem next29 (B : Nat) (a : Option Addr) (k c : Nat) (L : Nat → Int) (N : Int) (w : World) (hk : k ≤ 65536) (hN : N ≤ 9223372036854775807) (hS : Sub k L N) (hO : Own w B a k L) :
    Calls Try.prog 29 #[.slice a k c, .int .i64 N] w (NextPost' w B a k L N) := by
  by_cases h0 : k = 0
  · subst h0
    refine (next_zero a c N w).mono ?_
    rintro e w' ⟨rfl, rfl⟩
    exact .inl ⟨rfl, fun j hj => by omega, rfl⟩
  · rcases hO with h | ⟨g, rfl, hg, r⟩
    · exact absurd h h0
    have hkN : (k : Int) ≤ N := by
      have h1 := hS.lo (k - 1) (by omega)
      have h2 := (hS (k - 1) (by omega)).2.1
      omega
    refine (next_row g k c L N w hk hkN hN hS r).mono ?_
    rintro e w' (⟨rfl, h1, rfl⟩ | ⟨rfl, m, h1, h2, h3, h4, h5⟩)
    · exact .inl ⟨rfl, h1, rfl⟩
    · exact .inr ⟨rfl, g, m, rfl, hg, r.lt, h1, h2, h3, h4, h5⟩

set_option maxHeartbeats 400000 in
theorem next10 (B : Nat) (a : Option Addr) (k c : Nat) (L : Nat → Int) (N : Int) (w : World) (hk : k ≤ 65536) (hN : N ≤ 9223372036854775807) (hS : Hid (Sub k L N)) (hO : Hid (Own w B a k L)) :
    Calls Try.prog 10 #[.slice a k c, .int .i64 N] w (NextPost' w B a k L N) := by
  go_enter Try.func10, Try.ntmps10
  go_wp2_with fail
  refine (next29 B a k c L N w hk hN hS.out hO.out).mono ?_
  rintro e w' (⟨rfl, h⟩ | ⟨rfl, h⟩)
  · have H : Hid (Last k L N ∧ w = w') := h
    clear h
    go_wp2_with fail
    go_ret
    exact .inl ⟨rfl, H.out⟩
  · have H : Hid _ := h
    clear h
    go_wp2_with fail
    go_ret
    exact .inr ⟨rfl, H.out⟩

/-- the plain law: the new set is a valid one, greater, and its predecessor is the old one -/
theorem nx_sub {k : Nat} {L : Nat → Int} {N : Int} (h : Sub k L N) {m : Nat} (hm : m < k) (hne : L m ≠ N - k + m) : Sub k (nx L m k) N := by
  intro j hj
  have htop := h.top hm
  by_cases e : j < m
  · rw [nx_lt e]
    refine ⟨(h j hj).1, (h j hj).2.1, fun h0 => ?_⟩
    rw [nx_lt (by omega)]
    exact (h j hj).2.2 h0
  · rw [nx_in (by omega) hj]
    have hlo := h.lo m hm
    refine ⟨by omega, by omega, fun h0 => ?_⟩
    by_cases e2 : j = m
    · subst e2
      rw [nx_lt (by omega)]
      have := (h j hj).2.2 h0
      omega
    · rw [nx_in (by omega) (by omega)]
      omega
theorem pv_nx {k : Nat} {L : Nat → Int} {N : Int} {m : Nat} (hm : m < k) (heq : ∀ j, m < j → j < k → L j = N - k + j) : ∀ j, j < k → pv (nx L m k) N k m k j = L j := by
  intro j hj
  by_cases e : j < m
  · rw [pv_lt e, nx_lt e]
  · by_cases e2 : j = m
    · subst e2; rw [pv_at hm, nx_in (Nat.le_refl _) hm]; omega
    · rw [pv_in (by omega) hj, heq j (by omega) hj]

set_option maxRecDepth 100000 in
set_option maxHeartbeats 1000000 in
theorem law3 (a : Option Addr) (n c : Nat) (L : Nat → Int) (N : Int) (w : World) (Z : NilZ a n) (hN : N ≤ 9223372036854775807) (hL : Hid (IntS w a n L)) :
    Calls Try.prog 3 #[.slice a n c, .int .i64 N] w fun e w' => e = .returned (.bool true) ∧ Below w.heap.size w w' := by
  go_enter Try.func3, Try.ntmps3
  go_wp2_with fail
  refine (bytes7_any a n c N w).mono ?_
  rintro e w1 ⟨b, rfl, s1⟩
  have B1 : Hid (Below w.heap.size w w1) := s1.below _
  replace hL : Hid (IntS w1 a n L) := s1.ints hL.out
  clear s1
  cases b
  · go_wp2_with fail
    go_ret
    exact ⟨rfl, B1.out⟩
  by_cases hn : (65536 : Int) < (n : Int)
  · go_wp2_with fail
    go_ret
    exact ⟨rfl, B1.out⟩
  replace hn : n ≤ 65536 := by omega
  have hnI : ¬ (65536 : Int) < (n : Int) := by omega
  go_wp2_with fail
  refine (isSub_any a n c L N w1 hn hL).mono ?_
  rintro e w2 ⟨b, rfl, hb, s2⟩
  replace B1 : Hid (Below w.heap.size w w2) := B1.out.trans (s2.below _)
  replace hL : Hid (IntS w2 a n L) := s2.ints hL.out
  clear s2
  cases b
  · clear hb
    go_wp2_with fail
    go_ret
    exact ⟨rfl, B1.out⟩
  have hS : Hid (Sub n L N) := hb.1 rfl
  have hkN : n = 0 ∨ (n : Int) ≤ N := by
    by_cases h0 : n = 0
    · exact .inl h0
    · have h1 := hS.out.lo (n - 1) (by omega)
      have h2 := (hS.out (n - 1) (by omega)).2.1
      omega
  have HKN : Hid (n = 0 ∨ (n : Int) ≤ N) := hkN
  clear hb hkN
  go_wp2_with fail
  refine (clone_any a n c L w2 (by omega) Z hL).mono ?_
  rintro e w3 ⟨a1, c1, rfl, hc1, Z1, _, O1, b3⟩
  have HO1 : Hid (Own w3 w.heap.size a1 n L) := O1.mono B1.out.size
  replace B1 : Hid (Below w.heap.size w w3) := B1.out.trans (b3.mono B1.out.size)
  clear b3 hL O1
  go_wp2_with fail
  refine (clone_any a1 n c1 L w3 (by omega) Z1 HO1.out.ints).mono ?_
  rintro e w4 ⟨a2, c2, rfl, hc2, Z2, _, O2, b4⟩
  have HO2 : Hid (Own w4 w3.heap.size a2 n L) := O2
  replace HO1 : Hid (Own w4 w.heap.size a1 n L ∧ ∀ g, a1 = some ⟨g, 0, none⟩ → n = 0 ∨ g < w3.heap.size) := by
    refine ⟨HO1.out.below b4, fun g hg => ?_⟩
    rcases HO1.out with h | ⟨g', e, _, r⟩
    · exact .inl h
    · obtain rfl : g' = g := by rw [e] at hg; simpa using hg
      exact .inr r.lt
  replace B1 : Hid (Below w.heap.size w w4) := B1.out.trans (b4.mono B1.out.size)
  clear b4 O2
  go_wp2_with fail
  refine (next10 w.heap.size a1 n c1 L N w4 hn hN hS HO1.out.1).mono ?_
  rintro e w5 (⟨rfl, hlast, rfl⟩ | ⟨rfl, g, m, hg, hBg, hgs, hm, hne, heq, hrow, honly⟩)
  · have HLast : Hid (Last n L N) := hlast
    clear hlast
    go_wp2_with fail
    refine (isLast_any a2 n c2 L N w4 hn HKN.out hN HO2.out.ints).mono ?_
    rintro e w6 ⟨b, rfl, hb, s6⟩
    obtain rfl : b = true := hb.2 HLast.out
    clear hb
    go_wp2_with fail
    refine (equal_any a1 a2 n c1 n c2 L L w6 (by omega) (HO1.out.1.same s6).ints (HO2.out.same s6).ints).mono ?_
    rintro e w7 ⟨b, rfl, hb, s7⟩
    obtain rfl : b = true := hb.2 ⟨rfl, fun _ _ => rfl⟩
    clear hb
    go_wp2_with fail
    go_ret
    exact ⟨rfl, (B1.out.trans (s6.below _)).trans (s7.below _)⟩
  · subst hg
    have hg3 : g < w3.heap.size := by
      rcases HO1.out.2 g rfl with h | h
      · omega
      · exact h
    have HR : Hid (w5.rowIs g 3 n (fun j => .int .i64 (nx L m n j))) := hrow
    have HNE : Hid (L m ≠ N - n + m) := hne
    have HEQ : Hid (∀ j, m < j → j < n → L j = N - n + j) := heq
    replace HO2 : Hid (Own w5 w3.heap.size a2 n L) := by
      rcases HO2.out with h | ⟨g', e, h', r⟩
      · exact .inl h
      · exact .inr ⟨g', e, h', honly.row (by omega) r⟩
    replace B1 : Hid (Below w.heap.size w w5) := B1.out.trans (honly.below hBg)
    have hg5 : g < w5.heap.size := by rw [honly.size]; exact hgs
    clear HO1 hrow hne heq honly hgs
    go_wp2_with fail
    refine (isLast_any a2 n c2 L N w5 hn HKN.out hN HO2.out.ints).mono ?_
    rintro e w6 ⟨b, rfl, hb, s6⟩
    obtain rfl : b = false := by
      cases b
      · rfl
      · exact absurd (hb.1 rfl m hm) HNE.out
    replace HR : Hid (w6.rowIs g 3 n (fun j => .int .i64 (nx L m n j))) := s6.row HR.out
    have HI : ∀ wx, wx.rowIs g 3 n (fun j => .int .i64 (nx L m n j)) → IntS wx (some ⟨g, 0, none⟩) n (nx L m n) := fun wx r j hj => ⟨g, 0, rfl, by rw [Nat.zero_add]; exact r.cell hj⟩
    have HI' : Hid (∀ wx, wx.rowIs g 3 n (fun j => .int .i64 (nx L m n j)) → IntS wx (some ⟨g, 0, none⟩) n (nx L m n)) := HI
    replace HO2 : Hid (Own w6 w3.heap.size a2 n L) := HO2.out.same s6
    replace B1 : Hid (Below w.heap.size w w6) := B1.out.trans (s6.below _)
    replace hg5 : g < w6.heap.size := by rw [s6.size]; exact hg5
    clear hb s6 HI
    go_wp2_with fail
    refine (isSub_any (some ⟨g, 0, none⟩) n c1 (nx L m n) N w6 hn (HI'.out _ HR.out)).mono ?_
    rintro e w7 ⟨b, rfl, hb, s7⟩
    obtain rfl : b = true := hb.2 (nx_sub hS.out hm HNE.out)
    replace HR : Hid (w7.rowIs g 3 n (fun j => .int .i64 (nx L m n j))) := s7.row HR.out
    replace HO2 : Hid (Own w7 w3.heap.size a2 n L) := HO2.out.same s7
    replace B1 : Hid (Below w.heap.size w w7) := B1.out.trans (s7.below _)
    replace hg5 : g < w7.heap.size := by rw [s7.size]; exact hg5
    clear hb s7
    go_wp2_with fail
    refine (lexLess_at a2 (some ⟨g, 0, none⟩) n c2 c1 L (nx L m n) m w7 hn hm (fun j hj => (nx_lt hj).symm) (by rw [nx_in (Nat.le_refl _) hm]; omega) HO2.out.ints (HI'.out _ HR.out)).mono ?_
    rintro e w8 ⟨rfl, s8⟩
    replace HR : Hid (w8.rowIs g 3 n (fun j => .int .i64 (nx L m n j))) := s8.row HR.out
    replace HO2 : Hid (Own w8 w3.heap.size a2 n L) := HO2.out.same s8
    replace B1 : Hid (Below w.heap.size w w8) := B1.out.trans (s8.below _)
    replace hg5 : g < w8.heap.size := by rw [s8.size]; exact hg5
    clear s8
    go_wp2_with fail
    refine (clone_any (some ⟨g, 0, none⟩) n c1 (nx L m n) w8 (by omega) (NilZ_some _ _) (HI'.out _ HR.out)).mono ?_
    rintro e w9 ⟨a3, c3, rfl, hc3, Z3, _, O3, b9⟩
    have HO2b : Hid (Own w9 w3.heap.size a2 n L ∧ ∀ g', a2 = some ⟨g', 0, none⟩ → n = 0 ∨ g' < w8.heap.size) := by
      refine ⟨HO2.out.below b9, fun g' hg' => ?_⟩
      rcases HO2.out with h | ⟨g2, e, _, r⟩
      · exact .inl h
      · obtain rfl : g2 = g' := by rw [e] at hg'; simpa using hg'
        exact .inr r.lt
    have B8 : Hid (w.heap.size ≤ w8.heap.size) := B1.out.size
    replace B1 : Hid (Below w.heap.size w w9) := B1.out.trans (b9.mono B1.out.size)
    obtain ⟨g3, ha3, hg3', r3⟩ : ∃ g3, a3 = some ⟨g3, 0, none⟩ ∧ w8.heap.size ≤ g3 ∧ w9.rowIs g3 3 n (fun j => .int .i64 (nx L m n j)) := by
      rcases O3 with h | h
      · omega
      · exact h
    subst ha3
    have HR3 : Hid (w9.rowIs g3 3 n (fun j => .int .i64 (nx L m n j))) := r3
    have hsub := nx_sub hS.out hm HNE.out
    have hlo := hsub.lo m hm
    have HB : Hid (∀ j, j < n → 0 ≤ nx L m n j ∧ nx L m n j < N) := fun j hj => ⟨(hsub j hj).1, (hsub j hj).2.1⟩
    have H0 : Hid (0 < nx L m n m ∧ (0 < m → nx L m n (m - 1) + 1 < nx L m n m)) := by
      have h1 := (hS.out m hm).1
      refine ⟨by rw [nx_in (Nat.le_refl _) hm]; omega, fun h => ?_⟩
      rw [nx_in (Nat.le_refl _) hm, nx_lt (by omega)]
      have := (hS.out m hm).2.2 h
      omega
    have H1 : Hid (∀ j, m < j → j < n → nx L m n j ≤ nx L m n (j - 1) + 1) := fun j h1 h2 => by
      rw [nx_in (by omega) h2, nx_in (by omega) (by omega)]; omega
    have hkN : (n : Int) ≤ N := by have := HKN.out; omega
    clear O3 r3 b9 HO2 hsub hlo HR
    go_wp2_with fail
    refine (prev_row g3 n c3 (nx L m n) N m w9 hn hm hkN hN HB H0 H1 HR3).mono ?_
    rintro e w10 ⟨rfl, hrow, honly⟩
    have HR4 : Hid (w10.rowIs g3 3 n (fun j => .int .i64 (pv (nx L m n) N n m n j))) := hrow
    have HO4 : Hid (IntS w10 a2 n L) := by
      refine Own.ints (B := w3.heap.size) ?_
      rcases HO2b.out.1 with h | ⟨g', e, h', r⟩
      · exact .inl h
      · refine .inr ⟨g', e, h', honly.row ?_ r⟩
        have := HO2b.out.2 g' e
        omega
    replace B1 : Hid (Below w.heap.size w w10) := B1.out.trans (honly.below (Nat.le_trans B8.out hg3'))
    clear hrow honly HO2b
    go_wp2_with fail
    refine (equal_any (some ⟨g3, 0, none⟩) a2 n c3 n c2 (pv (nx L m n) N n m n) L w10 (by omega) (fun j hj => ⟨g3, 0, rfl, by rw [Nat.zero_add]; exact HR4.out.cell hj⟩) HO4).mono ?_
    rintro e w11 ⟨b, rfl, hb, s11⟩
    obtain rfl : b = true := hb.2 ⟨rfl, pv_nx hm HEQ.out⟩
    clear hb
    go_wp2_with fail
    go_ret
    exact ⟨rfl, B1.out.trans (s11.below _)⟩
end Go.Proofs.Qxb6604244a
