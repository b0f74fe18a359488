/-
  THE WALKS OF FnNextSubsetIsLexSuccessor's HELPERS THAT ONLY READ.
-/
import Derived.Test.Qxb6604244aBase
namespace Go.Proofs.Qxb6604244a
open Go.RowKit

set_option maxHeartbeats 400000 in
theorem bytes7_any (a : Option Addr) (n c : Nat) (i : Int) (w : World) : Calls Try.prog 7 #[.slice a n c, .int .i64 i] w (BoolPost w) := by
  by_cases h0 : (1048576 : Int) < (n : Int)
  · go_enter Try.func7, Try.ntmps7
    go_wp2
    go_ret
    exact ⟨_, rfl, Same.refl _⟩
  have h0' : (n : Int) ≤ 1048576 := by omega
  go_enter Try.func7, Try.ntmps7
  go_wp2
  all_goals (go_ret; exact ⟨_, rfl, Same.refl _⟩)

/-- a set of distinct numbers below N in increasing order -/
def Sub (k : Nat) (L : Nat → Int) (N : Int) : Prop := ∀ j, j < k → 0 ≤ L j ∧ L j < N ∧ (0 < j → L (j - 1) < L j)
def SubPost (k : Nat) (L : Nat → Int) (N : Int) (w : World) (e : Ending) (w' : World) : Prop := ∃ b : Bool, e = .returned (.bool b) ∧ (b = true ↔ Sub k L N) ∧ Same w w'

theorem Sub.succ {k : Nat} {L : Nat → Int} {N : Int} (h : Sub k L N) (h0 : 0 ≤ L k) (h1 : L k < N) (h2 : 0 < k → L (k - 1) < L k) : Sub (k + 1) L N := by
  intro j hj
  by_cases e : j = k
  · subst e; exact ⟨h0, h1, h2⟩
  · exact h j (by omega)

set_option maxRecDepth 100000 in
set_option maxHeartbeats 1000000 in
theorem isSub_any (a : Option Addr) (n c : Nat) (L : Nat → Int) (N : Int) (w : World) (hn : n ≤ 65536) (hL : Hid (IntS w a n L)) :
    Calls Try.prog 8 #[.slice a n c, .int .i64 N] w (SubPost n L N w) := by
  go_enter Try.func8, Try.ntmps8
  go_wp2
  go_loopw [5] (fun y wr => ∃ (k : Nat), y = .int .i64 k ∧ k ≤ n ∧ Hid (Sub k L N) ∧ Same w wr) (fun y _ => n - (intOf y).toNat)
  case atStart => exact ⟨0, rfl, Nat.zero_le _, fun j hj => by omega, Same.refl _⟩
  case round =>
    obtain ⟨k, rfl, hk, HS, hsame⟩ := hrel
    by_cases hlt : k < n
    · have hltI : (k : Int) < (n : Int) := by omega
      obtain ⟨b, off, rfl, d⟩ := hL.out k hlt
      rw [← hsame.cell] at d
      have HM : Hid (Same w wr) := hsame
      clear hsame
      by_cases h0 : L k < 0
      · have fin : Hid (¬ Sub n L N) := fun h => by have := (h k hlt).1; omega
        go_wp2
        go_ret
        exact ⟨false, rfl, by simpa using fin.out, HM.out⟩
      have h0' : decide (L k < 0) = false := by simpa using h0
      by_cases h1 : N ≤ L k
      · have fin : Hid (¬ Sub n L N) := fun h => by have := (h k hlt).2.1; omega
        clear h0
        go_wp2
        go_ret
        exact ⟨false, rfl, by simpa using fin.out, HM.out⟩
      have h1' : decide (N ≤ L k) = false := by simpa using h1
      by_cases hk0 : k = 0
      · subst hk0
        simp only [Nat.add_zero] at d
        have fin : Hid (Sub (0 + 1) L N) := HS.out.succ (by omega) (by omega) (fun h => by omega)
        clear h0 h1
        go_wp2
        go_quiet (fail)
        go_wp2
        go_roundw
        case rel => exact ⟨0 + 1, by go_num, by omega, fin, HM.out.drewN _⟩
        case measure => simp [intOf]; omega
      · obtain ⟨b', off', e', d'⟩ := hL.out (k - 1) (by omega)
        obtain ⟨m, rfl⟩ : ∃ m, k = m + 1 := ⟨k - 1, by omega⟩
        simp only [Option.some.injEq, Addr.mk.injEq, and_true] at e'
        obtain ⟨rfl, rfl⟩ := e'
        rw [← HM.out.cell] at d'
        simp only [Nat.add_sub_cancel] at d'
        have hgt : (0 : Int) < ((m + 1 : Nat) : Int) := by omega
        by_cases h2 : L (m + 1) ≤ L m
        · have fin : Hid (¬ Sub n L N) := fun h => by have := (h (m + 1) hlt).2.2 (by omega); simp at this; omega
          clear h0 h1 hk0
          go_wp2
          go_quiet (fail)
          go_wp2
          go_ret
          exact ⟨false, rfl, by simpa using fin.out, HM.out.drewN _⟩
        · have h2' : decide (L (m + 1) ≤ L m) = false := by simpa using h2
          have fin : Hid (Sub (m + 1 + 1) L N) := HS.out.succ (by omega) (by omega) (fun h => by simp; omega)
          clear h0 h1 h2 hk0
          go_wp2
          go_quiet (fail)
          go_wp2
          go_roundw
          case rel => exact ⟨m + 1 + 1, by go_num, by omega, fin, HM.out.drewN _⟩
          case measure => simp [intOf]; omega
    · have hltI : ¬ (k : Int) < (n : Int) := by omega
      obtain rfl : k = n := by omega
      go_wp2
      go_ret
      exact ⟨true, rfl, by simpa using HS.out, hsame⟩

/-! ### isLastSubset -/
def Last (k : Nat) (L : Nat → Int) (N : Int) : Prop := ∀ j, j < k → L j = N - k + j
def LastPost (k : Nat) (L : Nat → Int) (N : Int) (w : World) (e : Ending) (w' : World) : Prop := ∃ b : Bool, e = .returned (.bool b) ∧ (b = true ↔ Last k L N) ∧ Same w w'

set_option maxRecDepth 100000 in
set_option maxHeartbeats 400000 in
theorem isLast_any (a : Option Addr) (n c : Nat) (L : Nat → Int) (N : Int) (w : World) (hn : n ≤ 65536) (h0 : n = 0 ∨ (n : Int) ≤ N) (h1 : N ≤ 9223372036854775807) (hL : Hid (IntS w a n L)) :
    Calls Try.prog 11 #[.slice a n c, .int .i64 N] w (LastPost n L N w) := by
  go_enter Try.func11, Try.ntmps11
  go_wp2
  go_loop [6] (fun y => ∃ (k : Nat), y = .int .i64 k ∧ k ≤ n ∧ Hid (∀ j, j < k → L j = N - n + j)) (fun y => n - (intOf y).toNat)
  case atStart => exact ⟨0, rfl, Nat.zero_le _, fun j hj => by omega⟩
  case round =>
    obtain ⟨k, rfl, hk, HS⟩ := hrel
    by_cases hlt : k < n
    · have hltI : (k : Int) < (n : Int) := by omega
      have hN : (n : Int) ≤ N := by omega
      obtain ⟨b, off, rfl, d⟩ := hL.out k hlt
      by_cases h2 : L k = N - n + k
      · have fin : Hid (∀ j, j < k + 1 → L j = N - n + j) := fun j hj => by
          by_cases e : j = k
          · subst e; exact h2
          · exact HS.out j (by omega)
        have h2' : (L k != N - n + k) = false := by rw [bne_eq_false_iff_eq]; exact h2
        clear h2 h0
        go_wp2
        go_round
        case rel => exact ⟨k + 1, by go_num, by omega, fin⟩
        case measure => simp [intOf]; omega
      · have fin : Hid (¬ Last n L N) := fun h => h2 (h k hlt)
        have h2' : (L k != N - n + k) = true := by rw [bne_iff_ne]; exact h2
        clear h2 h0
        go_wp2
        go_ret
        exact ⟨false, rfl, by simpa using fin.out, Same.refl _⟩
    · have hltI : ¬ (k : Int) < (n : Int) := by omega
      obtain rfl : k = n := by omega
      go_wp2
      go_ret
      exact ⟨true, rfl, ⟨fun _ => HS.out, fun _ => rfl⟩, Same.refl _⟩

/-! ### equalInts -/
def EqPost (n m : Nat) (L M : Nat → Int) (w : World) (e : Ending) (w' : World) : Prop := ∃ b : Bool, e = .returned (.bool b) ∧ (b = true ↔ n = m ∧ ∀ j, j < n → L j = M j) ∧ Same w w'

set_option maxRecDepth 100000 in
set_option maxHeartbeats 400000 in
theorem equal_any (a a' : Option Addr) (n c m c' : Nat) (L M : Nat → Int) (w : World) (hn : n ≤ 1048576) (hL : Hid (IntS w a n L)) (hM : Hid (IntS w a' m M)) :
    Calls Try.prog 12 #[.slice a n c, .slice a' m c'] w (EqPost n m L M w) := by
  by_cases hnm : n = m
  · subst hnm
    go_enter Try.func12, Try.ntmps12
    go_wp2
    go_loopw [5] (fun y wr => ∃ (k : Nat), y = .int .i64 k ∧ k ≤ n ∧ Hid (∀ j, j < k → L j = M j) ∧ Same w wr) (fun y _ => n - (intOf y).toNat)
    case atStart => exact ⟨0, rfl, Nat.zero_le _, fun j hj => by omega, Same.refl _⟩
    case round =>
      obtain ⟨k, rfl, hk, HS, hsame⟩ := hrel
      by_cases hlt : k < n
      · have hltI : (k : Int) < (n : Int) := by omega
        obtain ⟨b, off, rfl, d⟩ := hL.out k hlt
        obtain ⟨b', off', rfl, d'⟩ := hM.out k hlt
        rw [← hsame.cell] at d d'
        have HM : Hid (Same w wr) := hsame
        clear hsame
        by_cases h2 : L k = M k
        · have fin : Hid (∀ j, j < k + 1 → L j = M j) := fun j hj => by
            by_cases e : j = k
            · subst e; exact h2
            · exact HS.out j (by omega)
          have h2' : (L k != M k) = false := by rw [bne_eq_false_iff_eq]; exact h2
          clear h2
          go_wp2
          go_quiet (fail)
          go_wp2
          go_roundw
          case rel => exact ⟨k + 1, by go_num, by omega, fin, HM.out.drewN _⟩
          case measure => simp [intOf]; omega
        · have fin : Hid (¬ (n = n ∧ ∀ j, j < n → L j = M j)) := fun h => h2 (h.2 k hlt)
          have h2' : (L k != M k) = true := by rw [bne_iff_ne]; exact h2
          clear h2
          go_wp2
          go_quiet (fail)
          go_wp2
          go_ret
          exact ⟨false, rfl, by simpa using fin.out, HM.out.drewN _⟩
      · have hltI : ¬ (k : Int) < (n : Int) := by omega
        obtain rfl : k = n := by omega
        go_wp2
        go_ret
        exact ⟨true, rfl, by simpa using HS.out, hsame⟩
  · have hnm' : ((n : Int) != (m : Int)) = true := by rw [bne_iff_ne]; omega
    have fin : Hid (¬ (n = m ∧ ∀ j, j < n → L j = M j)) := fun h => hnm h.1
    clear hnm
    go_enter Try.func12, Try.ntmps12
    go_wp2
    go_ret
    exact ⟨false, rfl, by simpa using fin.out, Same.refl _⟩

/-! ### lexLess, where the first place that parts the two is known -/
def TruePost (w : World) (e : Ending) (w' : World) : Prop := e = .returned (.bool true) ∧ Same w w'

set_option maxRecDepth 100000 in
set_option maxHeartbeats 400000 in
theorem lexLess_at (a a' : Option Addr) (n c c' : Nat) (L M : Nat → Int) (i : Nat) (w : World) (hn : n ≤ 65536) (hi : i < n) (heq : Hid (∀ j, j < i → L j = M j)) (hlt : L i < M i) (hL : Hid (IntS w a n L)) (hM : Hid (IntS w a' n M)) :
    Calls Try.prog 13 #[.slice a n c, .slice a' n c'] w (TruePost w) := by
  go_enter Try.func13, Try.ntmps13
  go_wp2
  go_loopw [5] (fun y wr => ∃ (k : Nat), y = .int .i64 k ∧ k ≤ i ∧ Same w wr) (fun y _ => n - (intOf y).toNat)
  case atStart => exact ⟨0, rfl, Nat.zero_le _, Same.refl _⟩
  case round =>
    obtain ⟨k, rfl, hk, hsame⟩ := hrel
    have hkn : k < n := by omega
    have hltI : (k : Int) < (n : Int) := by omega
    obtain ⟨b, off, rfl, d⟩ := hL.out k hkn
    obtain ⟨b', off', rfl, d'⟩ := hM.out k hkn
    rw [← hsame.cell] at d d'
    have HM : Hid (Same w wr) := hsame
    clear hsame
    by_cases h2 : k = i
    · subst h2
      have h2' : (L k != M k) = true := by rw [bne_iff_ne]; omega
      go_wp2
      go_quiet (fail)
      go_wp2
      go_quiet (fail)
      go_wp2
      go_ret
      exact ⟨rfl, (HM.out.drewN _).drewN _⟩
    · have h2' : (L k != M k) = false := by rw [bne_eq_false_iff_eq]; exact heq.out k (by omega)
      go_wp2
      go_quiet (fail)
      go_wp2
      go_roundw
      case rel => exact ⟨k + 1, by go_num, by omega, HM.out.drewN _⟩
      case measure => simp [intOf]; omega

end Go.Proofs.Qxb6604244a
