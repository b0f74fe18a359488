/-
  nextSubset AND prevSubset: THEY WRITE INTO A ROW OF THE CALL's OWN.
-/
import Derived.Test.Qxb6604244aN1
namespace Go.Proofs.Qxb6604244a
open Go.RowKit

/-- from place m up to q (not q): the run that begins one above L m -/
def nx (L : Nat → Int) (m q j : Nat) : Int := if j < m ∨ q ≤ j then L j else L m + 1 + ((j : Int) - m)
theorem nx_lt {L : Nat → Int} {m q j : Nat} (h : j < m) : nx L m q j = L j := by simp [nx, h]
theorem nx_ge {L : Nat → Int} {m q j : Nat} (h : q ≤ j) : nx L m q j = L j := by simp [nx, h]
theorem nx_in {L : Nat → Int} {m q j : Nat} (h : m ≤ j) (h' : j < q) : nx L m q j = L m + 1 + ((j : Int) - m) := by
  unfold nx; rw [if_neg (by omega)]

theorem Sub.lo {k : Nat} {L : Nat → Int} {N : Int} (h : Sub k L N) : ∀ j, j < k → (j : Int) ≤ L j := by
  intro j
  induction j with
  | zero => intro hj; have := (h 0 hj).1; omega
  | succ j ih => intro hj; have h1 := ih (by omega); have h2 := (h (j + 1) hj).2.2 (by omega); simp at h2; omega
theorem Sub.hi {k : Nat} {L : Nat → Int} {N : Int} (h : Sub k L N) : ∀ d j, j + d + 1 = k → L j ≤ N - k + j := by
  intro d
  induction d with
  | zero => intro j hj; have := (h j (by omega)).2.1; omega
  | succ d ih => intro j hj; have h1 := ih (j + 1) (by omega); have h2 := (h (j + 1) (by omega)).2.2 (by omega); simp at h2; omega
theorem Sub.top {k : Nat} {L : Nat → Int} {N : Int} (h : Sub k L N) {j : Nat} (hj : j < k) : L j ≤ N - k + j := h.hi (k - j - 1) j (by omega)

/-- WHAT nextSubset LEAVES. -/
def NextPost (w : World) (g k : Nat) (L : Nat → Int) (N : Int) (e : Ending) (w' : World) : Prop :=
  (e = .returned (.bool false) ∧ Last k L N ∧ w = w') ∨
  (e = .returned (.bool true) ∧ ∃ m, m < k ∧ L m ≠ N - k + m ∧ (∀ j, m < j → j < k → L j = N - k + j) ∧ w'.rowIs g 3 k (fun j => .int .i64 (nx L m k j)) ∧ Only g w w')

set_option maxRecDepth 100000 in
set_option maxHeartbeats 1000000 in
theorem next_row (g k c : Nat) (L : Nat → Int) (N : Int) (w : World) (hk : k ≤ 65536) (hkN : (k : Int) ≤ N) (hN : N ≤ 9223372036854775807) (hS : Hid (Sub k L N))
    (hR : Hid (w.rowIs g 3 k (fun j => .int .i64 (L j)))) :
    Calls Try.prog 29 #[.slice (some ⟨g, 0, none⟩) k c, .int .i64 N] w (NextPost w g k L N) := by
  go_enter Try.func29, Try.ntmps29
  go_wp2
  go_loop [6] (fun y => ∃ (m : Nat), y = .int .i64 ((m : Int) - 1) ∧ m ≤ k ∧ Hid (∀ j, m ≤ j → j < k → L j = N - k + j)) (fun y => (intOf y + 1).toNat)
  case atStart => exact ⟨k, by go_num, Nat.le_refl _, fun j h1 h2 => by omega⟩
  case round =>
    obtain ⟨m, rfl, hm, HS⟩ := hrel
    by_cases hm0 : m = 0
    · subst hm0
      have fin : Hid (Last k L N) := fun j hj => HS.out j (by omega) hj
      go_wp2
      go_ret
      exact .inl ⟨rfl, fin.out, rfl⟩
    obtain ⟨m, rfl⟩ : ∃ q, m = q + 1 := ⟨m - 1, by omega⟩
    rw [show ((m + 1 : Nat) : Int) - 1 = (m : Int) from by omega]
    have d := hR.out.cell (i := m) (by omega)
    have hmI : (m : Int) < (k : Int) := by omega
    have hm00 : (0 : Int) ≤ (m : Int) := by omega
    have b0 := hS.out.lo m (by omega)
    have b1 := hS.out.top (j := m) (by omega)
    clear hm0
    by_cases he : L m = N - k + m
    · have he' : (L m == N - k + m) = true := by rw [beq_iff_eq]; exact he
      have fin : Hid (∀ j, m ≤ j → j < k → L j = N - k + j) := fun j h1 h2 => by
        by_cases e : j = m
        · subst e; exact he
        · exact HS.out j (by omega) h2
      clear he
      go_wp2
      go_round
      case rel => exact ⟨m, by go_num, by omega, fin⟩
      case measure => simp [intOf]
    · have he' : (L m == N - k + m) = false := beq_eq_false_iff_ne.2 he
      have hlt : L m + 1 ≤ N - k + m := by omega
      have HE : Hid (L m ≠ N - k + m) := he
      have zf := hR.out.frozen m
      clear he b1
      go_wp2
      go_loopw [7] (fun y wr => ∃ (q : Nat), y = .int .i64 q ∧ m < q ∧ q ≤ k ∧ wr.rowIs g 3 k (fun j => .int .i64 (nx L m q j)) ∧ Only g w wr) (fun y _ => k - (intOf y).toNat)
      case atStart =>
        refine ⟨m + 1, by go_num, by omega, by omega, (hR.out.set m _).congr fun j hj => ?_, (Only.refl _ _).setCell _ _⟩
        by_cases e : j = m
        · subst e; rw [if_pos rfl, nx_in (Nat.le_refl _) (by omega)]; congr 1; omega
        · rw [if_neg e]
          by_cases e2 : j < m
          · rw [nx_lt e2]
          · rw [nx_ge (by omega)]
      case round =>
        obtain ⟨q, rfl, hq1, hq2, hrow, honly⟩ := hrel
        have HR2 : Hid (wr.rowIs g 3 k (fun j => .int .i64 (nx L m q j))) := hrow
        have HO : Hid (Only g w wr) := honly
        clear hrow honly
        by_cases hqk : q < k
        · have hqI : (q : Int) < (k : Int) := by omega
          obtain ⟨p, rfl⟩ : ∃ p, q = p + 1 := ⟨q - 1, by omega⟩
          have d1 := HR2.out.cell (i := p) (by omega)
          have d2 := HR2.out.cell (i := p + 1) (by omega)
          have z2 := HR2.out.frozen (p + 1)
          have v1 : nx L m (p + 1) p = L m + 1 + ((p : Int) - m) := nx_in (by omega) (by omega)
          simp only [v1] at d1
          clear v1
          have hb : L m + 1 + ((p : Int) - m) ≤ N - k + p := by omega
          have hb0 : 0 ≤ L m + 1 + ((p : Int) - m) := by omega
          obtain ⟨X, hX⟩ : ∃ X, X = L m + 1 + ((p : Int) - m) := ⟨_, rfl⟩
          rw [← hX] at d1 hb hb0
          have HX : Hid (X = L m + 1 + ((p : Int) - m)) := hX
          clear hX
          go_wp2
          go_roundw
          case rel =>
            refine ⟨p + 1 + 1, by go_num, by omega, by omega, (HR2.out.set (p + 1) _).congr fun j hj => ?_, HO.out.setCell _ _⟩
            by_cases e : j = p + 1
            · subst e; rw [if_pos rfl, nx_in (by omega) (by omega), HX.out]; congr 1; omega
            · rw [if_neg e]
              by_cases e2 : j < m
              · rw [nx_lt e2, nx_lt e2]
              · by_cases e3 : j < p + 1
                · rw [nx_in (by omega) e3, nx_in (by omega) (by omega)]
                · rw [nx_ge (by omega), nx_ge (by omega)]
          case measure => simp [intOf]; omega
        · have hqI : ¬ (q : Int) < (k : Int) := by omega
          obtain rfl : q = k := by omega
          go_wp2
          go_ret
          exact .inr ⟨rfl, m, by omega, HE.out, fun j h1 h2 => HS.out j (by omega) h2, HR2.out, HO.out⟩

/-- what prevSubset leaves of M, up to place q -/
def pv (M : Nat → Int) (N : Int) (k i q j : Nat) : Int := if j < i ∨ q ≤ j then M j else if j = i then M i - 1 else N - k + j
theorem pv_lt {M : Nat → Int} {N : Int} {k i q j : Nat} (h : j < i) : pv M N k i q j = M j := by simp [pv, h]
theorem pv_ge {M : Nat → Int} {N : Int} {k i q j : Nat} (h : q ≤ j) : pv M N k i q j = M j := by simp [pv, h]
theorem pv_at {M : Nat → Int} {N : Int} {k i q : Nat} (h : i < q) : pv M N k i q i = M i - 1 := by
  unfold pv; rw [if_neg (by omega), if_pos rfl]
theorem pv_in {M : Nat → Int} {N : Int} {k i q j : Nat} (h : i < j) (h' : j < q) : pv M N k i q j = N - k + j := by
  unfold pv; rw [if_neg (by omega), if_neg (by omega)]

def PrevPost (w : World) (g k : Nat) (M : Nat → Int) (N : Int) (i : Nat) (e : Ending) (w' : World) : Prop :=
  e = .returned (.bool true) ∧ w'.rowIs g 3 k (fun j => .int .i64 (pv M N k i k j)) ∧ Only g w w'

set_option maxRecDepth 100000 in
set_option maxHeartbeats 1000000 in
theorem prev_row (g k c : Nat) (M : Nat → Int) (N : Int) (i : Nat) (w : World) (hk : k ≤ 65536) (hi : i < k) (hkN : (k : Int) ≤ N) (hN : N ≤ 9223372036854775807)
    (hB : Hid (∀ j, j < k → 0 ≤ M j ∧ M j < N)) (h0 : Hid (0 < M i ∧ (0 < i → M (i - 1) + 1 < M i))) (h1 : Hid (∀ j, i < j → j < k → M j ≤ M (j - 1) + 1))
    (hR : Hid (w.rowIs g 3 k (fun j => .int .i64 (M j)))) :
    Calls Try.prog 14 #[.slice (some ⟨g, 0, none⟩) k c, .int .i64 N] w (PrevPost w g k M N i) := by
  go_enter Try.func14, Try.ntmps14
  go_wp2
  go_loop [6] (fun y => ∃ (p : Nat), y = .int .i64 p ∧ i ≤ p ∧ p < k) (fun y => (intOf y).toNat)
  case atStart => exact ⟨k - 1, by go_num, by omega, by omega⟩
  case round =>
    obtain ⟨p, rfl, hp1, hp2⟩ := hrel
    have hp0 : (0 : Int) ≤ (p : Int) := by omega
    have hpI : (p : Int) < (k : Int) := by omega
    have d := hR.out.cell hp2
    have bp := hB.out p hp2
    by_cases hpi : p = i
    · subst hpi
      have HL : Hid (∀ lo : Int, (lo = 0 ∨ (0 < p ∧ lo = M (p - 1) + 1)) → lo < M p) := by
        intro lo hlo
        rcases hlo with rfl | ⟨h, rfl⟩
        · exact h0.out.1
        · exact h0.out.2 h
      have zf := hR.out.frozen p
      have hgt : 0 < M p := h0.out.1
      by_cases hz : p = 0
      · subst hz
        go_wp2
        go_loopw [8] (fun y wr => ∃ (q : Nat), y = .int .i64 q ∧ 0 < q ∧ q ≤ k ∧ wr.rowIs g 3 k (fun j => .int .i64 (pv M N k 0 q j)) ∧ Only g w wr) (fun y _ => k - (intOf y).toNat)
        case atStart =>
          refine ⟨0 + 1, by go_num, by omega, by omega, (hR.out.set 0 _).congr fun j hj => ?_, (Only.refl _ _).setCell _ _⟩
          by_cases e : j = 0
          · subst e; rw [if_pos rfl, pv_at (by omega)]
          · rw [if_neg e]
            by_cases e2 : j < 0
            · rw [pv_lt e2]
            · rw [pv_ge (by omega)]
        case round =>
          obtain ⟨q, rfl, hq1, hq2, hrow, honly⟩ := hrel
          have HR2 : Hid (wr.rowIs g 3 k (fun j => .int .i64 (pv M N k 0 q j))) := hrow
          have HO : Hid (Only g w wr) := honly
          clear hrow honly
          by_cases hqk : q < k
          · have hqI : (q : Int) < (k : Int) := by omega
            have d2 := HR2.out.cell (i := q) (by omega)
            have z2 := HR2.out.frozen q
            go_wp2
            go_roundw
            case rel =>
              refine ⟨q + 1, by go_num, by omega, by omega, (HR2.out.set q _).congr fun j hj => ?_, HO.out.setCell _ _⟩
              by_cases e : j = q
              · subst e; rw [if_pos rfl, pv_in (by omega) (by omega)]
              · rw [if_neg e]
                by_cases e2 : j < 0
                · rw [pv_lt e2, pv_lt e2]
                · by_cases e3 : j < q
                  · by_cases e4 : j = 0
                    · subst e4; rw [pv_at (by omega), pv_at (by omega)]
                    · rw [pv_in (by omega) e3, pv_in (by omega) (by omega)]
                  · rw [pv_ge (by omega), pv_ge (by omega)]
            case measure => simp [intOf]; omega
          · have hqI : ¬ (q : Int) < (k : Int) := by omega
            obtain rfl : q = k := by omega
            go_wp2
            go_ret
            exact ⟨rfl, HR2.out, HO.out⟩
      · obtain ⟨r, rfl⟩ : ∃ r, p = r + 1 := ⟨p - 1, by omega⟩
        have dr := hR.out.cell (i := r) (by omega)
        have br := hB.out r (by omega)
        have hlow : M r + 1 < M (r + 1) := by have := h0.out.2 (by omega); simpa using this
        have hpos : (0 : Int) < ((r + 1 : Nat) : Int) := by omega
        go_wp2
        go_loopw [8] (fun y wr => ∃ (q : Nat), y = .int .i64 q ∧ (r + 1) < q ∧ q ≤ k ∧ wr.rowIs g 3 k (fun j => .int .i64 (pv M N k (r + 1) q j)) ∧ Only g w wr) (fun y _ => k - (intOf y).toNat)
        case atStart =>
          refine ⟨(r + 1) + 1, by go_num, by omega, by omega, (hR.out.set (r + 1) _).congr fun j hj => ?_, (Only.refl _ _).setCell _ _⟩
          by_cases e : j = (r + 1)
          · subst e; rw [if_pos rfl, pv_at (by omega)]
          · rw [if_neg e]
            by_cases e2 : j < (r + 1)
            · rw [pv_lt e2]
            · rw [pv_ge (by omega)]
        case round =>
          obtain ⟨q, rfl, hq1, hq2, hrow, honly⟩ := hrel
          have HR2 : Hid (wr.rowIs g 3 k (fun j => .int .i64 (pv M N k (r + 1) q j))) := hrow
          have HO : Hid (Only g w wr) := honly
          clear hrow honly
          by_cases hqk : q < k
          · have hqI : (q : Int) < (k : Int) := by omega
            have d2 := HR2.out.cell (i := q) (by omega)
            have z2 := HR2.out.frozen q
            go_wp2
            go_roundw
            case rel =>
              refine ⟨q + 1, by go_num, by omega, by omega, (HR2.out.set q _).congr fun j hj => ?_, HO.out.setCell _ _⟩
              by_cases e : j = q
              · subst e; rw [if_pos rfl, pv_in (by omega) (by omega)]
              · rw [if_neg e]
                by_cases e2 : j < (r + 1)
                · rw [pv_lt e2, pv_lt e2]
                · by_cases e3 : j < q
                  · by_cases e4 : j = (r + 1)
                    · subst e4; rw [pv_at (by omega), pv_at (by omega)]
                    · rw [pv_in (by omega) e3, pv_in (by omega) (by omega)]
                  · rw [pv_ge (by omega), pv_ge (by omega)]
            case measure => simp [intOf]; omega
          · have hqI : ¬ (q : Int) < (k : Int) := by omega
            obtain rfl : q = k := by omega
            go_wp2
            go_ret
            exact ⟨rfl, HR2.out, HO.out⟩
    · obtain ⟨r, rfl⟩ : ∃ r, p = r + 1 := ⟨p - 1, by omega⟩
      have dr := hR.out.cell (i := r) (by omega)
      have br := hB.out r (by omega)
      have hlow : ¬ (M r + 1 < M (r + 1)) := by have := h1.out (r + 1) (by omega) hp2; simp at this; omega
      have hpos : (0 : Int) < ((r + 1 : Nat) : Int) := by omega
      go_wp2
      go_round
      case rel => exact ⟨r, by go_num, by omega, by omega⟩
      case measure => simp [intOf]
end Go.Proofs.Qxb6604244a
