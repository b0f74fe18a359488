/-
  copyNamesB1, columnsB1, firstPosB1, sameIntsB1.
-/
import Derived.Test.Qxb6604266aT1
namespace Go.Proofs.Qxb6604266a
open Go.RowKit

def CopyPost (w : World) (a : Option Addr) (n : Nat) (K : Nat → ByteArray) (e : Ending) (w' : World) : Prop :=
  ∃ a' c', e = .returned (.slice a' n c') ∧ NilZ a' n ∧ a'.isNone = a.isNone ∧ StrS w' a' n K ∧ Below w.heap.size w w'

set_option maxHeartbeats 400000 in
theorem copyNames_any (a : Option Addr) (n c : Nat) (K : Nat → ByteArray) (w : World) (hn : n ≤ 4096) (Z : NilZ a n) (hK : Hid (StrS w a n K)) : Calls Try.prog 6 #[.slice a n c] w (CopyPost w a n K) := by
  have q23 := eql23
  cases a with
  | none =>
    obtain rfl := Z rfl
    go_enter Try.func6, Try.ntmps6
    go_wp2
    go_ret
    exact ⟨none, 0, rfl, fun _ => rfl, rfl, fun j hj => by omega, Below.refl _ _⟩
  | some x =>
    have hmk := fun wx => run_make_row' (P := Try.prog) 23 9 (.string ⟨#[]⟩) 16 Try.underlying23 Try.info9 rfl .i64 .i64 n (by omega) (by omega) wx
    go_enter Try.func6, Try.ntmps6
    go_wp2
    go_loopw [4] (fun y wr => ∃ (k : Nat) (f : Nat → Value), y = .int .i64 k ∧ k ≤ n ∧ wr.rowIs w.heap.size 9 n f ∧ Hid (∀ j, j < k → f j = .string (K j)) ∧ Below w.heap.size w wr) (fun y _ => n - (intOf y).toNat)
    case atStart => exact ⟨0, _, rfl, Nat.zero_le _, World.rowIs_made _ _ _ _, fun j hj => by omega, (Below.refl _ _).alloc (Nat.le_refl _) _⟩
    case round =>
      obtain ⟨k, f, rfl, hk, hrow, HF, hbel⟩ := hrel
      have HR : Hid (wr.rowIs w.heap.size 9 n f) := hrow
      by_cases hlt : k < n
      · have hltI : (k : Int) < (n : Int) := by omega
        obtain ⟨b0, o0, e0, d0⟩ := hK.out k hlt
        obtain rfl := Option.some.inj e0
        clear e0
        replace d0 := cell_later hbel d0
        have g0 := hrow.cell hlt
        have z0 := hrow.frozen k
        clear hrow hmk q23
        go_wp2
        go_roundw
        case rel =>
          refine ⟨k + 1, _, by go_num, by omega, HR.out.set k (.string (K k)), ?_, hbel.setCell (Nat.le_refl _) _⟩
          intro j hj
          by_cases e : j = k
          · subst e; simp
          · simp only [e, if_false]; exact HF.out j (by omega)
        case measure => simp [intOf]; omega
      · have hltI : ¬ (k : Int) < (n : Int) := by omega
        clear hrow hmk q23
        go_wp2
        go_ret
        refine ⟨_, _, rfl, NilZ_some _ _, rfl, fun j hj => ⟨w.heap.size, 0, rfl, ?_⟩, hbel⟩
        rw [Nat.zero_add, HR.out.cell hj, HF.out j (by omega)]

/-- the row holds the first k columns -/
def RowC (f : Nat → Value) (k : Nat) (C T : Nat → ByteArray) : Prop := ∀ j, j < k → f (j * 2) = .string (C j) ∧ f (j * 2 + 1) = .string (T j)
theorem RowC.step {f : Nat → Value} {k : Nat} {C T : Nat → ByteArray} (h : RowC f k C T) :
    RowC (fun j => if j = k * 2 + 1 then .string (T k) else (fun j => if j = k * 2 then .string (C k) else f j) j) (k + 1) C T := by
  intro j hj
  by_cases e : j = k
  · subst e
    refine ⟨?_, ?_⟩
    · simp only [show ¬ (j * 2 = j * 2 + 1) by omega, if_false, if_true]
    · simp only [if_true]
  · have := h j (by omega)
    refine ⟨?_, ?_⟩
    · simp only [show ¬ (j * 2 = k * 2 + 1) by omega, show ¬ (j * 2 = k * 2) by omega, if_false]; exact this.1
    · simp only [show ¬ (j * 2 + 1 = k * 2 + 1) by omega, show ¬ (j * 2 + 1 = k * 2) by omega, if_false]; exact this.2
def ColPost (w : World) (n : Nat) (C T : Nat → ByteArray) (e : Ending) (w' : World) : Prop :=
  ∃ a' c', e = .returned (.slice a' n c') ∧ ColS w' a' n C T ∧ Below w.heap.size w w'

set_option maxRecDepth 100000 in
set_option maxHeartbeats 1000000 in
theorem columns_any (a : Option Addr) (n c : Nat) (C T : Nat → ByteArray) (w : World) (hn : n ≤ 4096) (Z : NilZ a n) (hC : Hid (ColS w a n C T)) : Calls Try.prog 7 #[.slice a n c] w (ColPost w n C T) := by
  have q22 := eql22
  cases a with
  | none =>
    obtain rfl := Z rfl
    go_enter Try.func7, Try.ntmps7
    go_wp2
    go_ret
    exact ⟨none, 0, rfl, fun j hj => by omega, Below.refl _ _⟩
  | some x =>
    have hmk := fun wx => run_make_gen (P := Try.prog) 26 34 _ 2 32 Try.underlying26 Try.info34 n (by omega) (by omega) wx
    go_enter Try.func7, Try.ntmps7
    go_wp2
    go_loopw [4] (fun y wr => ∃ (k : Nat) (f : Nat → Value), y = .int .i64 k ∧ k ≤ n ∧ wr.rowIs w.heap.size 34 (n * 2) f ∧ Hid (RowC f k C T) ∧ Below w.heap.size w wr) (fun y _ => n - (intOf y).toNat)
    case atStart => exact ⟨0, _, rfl, Nat.zero_le _, made_row _ _ _ _, fun j hj => by omega, (Below.refl _ _).alloc (Nat.le_refl _) _⟩
    case round =>
      obtain ⟨k, f, rfl, hk, hrow, HF, hbel⟩ := hrel
      have HR : Hid (wr.rowIs w.heap.size 34 (n * 2) f) := hrow
      by_cases hlt : k < n
      · have hltI : (k : Int) < (n : Int) := by omega
        obtain ⟨b0, o0, e0, d0, d1⟩ := hC.out k hlt
        obtain rfl := Option.some.inj e0
        clear e0
        replace d0 := cell_later hbel d0
        replace d1 := cell_later hbel d1
        have g0 := hrow.cell (i := k * 2) (by omega)
        have g1 := hrow.cell (i := k * 2 + 1) (by omega)
        have z0 := hrow.frozen (k * 2)
        have z1 := hrow.frozen (k * 2 + 1)
        clear hrow hmk q22
        go_wp2
        go_region
        go_wp2
        go_roundw
        case rel => exact ⟨k + 1, _, by go_num, by omega, ((HR.out.set (k * 2) (.string (C k))).set (k * 2 + 1) (.string (T k))).drew, HF.out.step, ((hbel.setCell (Nat.le_refl _) _).setCell (Nat.le_refl _) _).drew⟩
        case measure => simp [intOf]; omega
      · have hltI : ¬ (k : Int) < (n : Int) := by omega
        obtain rfl : k = n := by omega
        clear hrow hmk q22
        go_wp2
        go_ret
        refine ⟨_, _, rfl, fun j hj => ⟨w.heap.size, 0, rfl, ?_, ?_⟩, hbel⟩
        · rw [Nat.zero_add, HR.out.cell (by omega), (HF.out j hj).1]
        · rw [Nat.zero_add, HR.out.cell (by omega), (HF.out j hj).2]

/-! ### sameIntsB1 -/
def EqPost (n m : Nat) (L M : Nat → Int) (w : World) (e : Ending) (w' : World) : Prop := ∃ b : Bool, e = .returned (.bool b) ∧ (b = true ↔ n = m ∧ ∀ j, j < n → L j = M j) ∧ Same w w'
set_option maxRecDepth 100000 in
set_option maxHeartbeats 400000 in
theorem sameInts_any (a a' : Option Addr) (n c m c' : Nat) (L M : Nat → Int) (w : World) (hn : n ≤ 1048576) (hL : Hid (IntS w a n L)) (hM : Hid (IntS w a' m M)) :
    Calls Try.prog 10 #[.slice a n c, .slice a' m c'] w (EqPost n m L M w) := by
  by_cases hnm : n = m
  · subst hnm
    go_enter Try.func10, Try.ntmps10
    go_wp2
    go_loopw [5] (fun y wr => ∃ (k : Nat), y = .int .i64 k ∧ k ≤ n ∧ Hid (∀ j, j < k → L j = M j) ∧ Same w wr) (fun y _ => n - (intOf y).toNat)
    case atStart => exact ⟨0, rfl, Nat.zero_le _, fun j hj => by omega, Same.refl _⟩
    case round =>
      obtain ⟨k, rfl, hk, HS, hsame⟩ := hrel
      by_cases hlt : k < n
      · have hltI : (k : Int) < (n : Int) := by omega
        obtain ⟨b, off, rfl, d⟩ := hL.out k hlt
        obtain ⟨b', off', rfl, d'⟩ := hM.out k hlt
        rw [← hsame.cell] at d d'
        have HM : Hid (Same w wr) := hsame
        clear hsame
        by_cases h2 : L k = M k
        · have fin : Hid (∀ j, j < k + 1 → L j = M j) := fun j hj => by
            by_cases e : j = k
            · subst e; exact h2
            · exact HS.out j (by omega)
          have h2' : (L k != M k) = false := by rw [bne_eq_false_iff_eq]; exact h2
          clear h2
          go_wp2
          go_quiet (fail)
          go_wp2
          go_roundw
          case rel => exact ⟨k + 1, by go_num, by omega, fin, HM.out.drewN _⟩
          case measure => simp [intOf]; omega
        · have fin : Hid (¬ (n = n ∧ ∀ j, j < n → L j = M j)) := fun h => h2 (h.2 k hlt)
          have h2' : (L k != M k) = true := by rw [bne_iff_ne]; exact h2
          clear h2
          go_wp2
          go_quiet (fail)
          go_wp2
          go_ret
          exact ⟨false, rfl, by simpa using fin.out, HM.out.drewN _⟩
      · have hltI : ¬ (k : Int) < (n : Int) := by omega
        obtain rfl : k = n := by omega
        go_wp2
        go_ret
        exact ⟨true, rfl, by simpa using HS.out, hsame⟩
  · have hnm' : ((n : Int) != (m : Int)) = true := by rw [bne_iff_ne]; omega
    have fin : Hid (¬ (n = m ∧ ∀ j, j < n → L j = M j)) := fun h => hnm h.1
    clear hnm
    go_enter Try.func10, Try.ntmps10
    go_wp2
    go_ret
    exact ⟨false, rfl, by simpa using fin.out, Same.refl _⟩


/-! ### firstPosB1 -/
/-- the first place of s among the first n of e; -1 where there is none -/
def fpI (e : Nat → ByteArray) (s : ByteArray) (n : Nat) : Int := if fc e s n < n then (fc e s n : Int) else -1

theorem strEq (a b : ByteArray) : (a.toList == b.toList) = decide (a = b) := by
  rw [ByteArray.toList_eq, ByteArray.toList_eq, Bool.eq_iff_iff, beq_iff_eq, decide_eq_true_iff]
  constructor
  · intro h
    cases a; cases b
    congr 1
    exact Array.ext' h
  · rintro rfl; rfl

set_option maxHeartbeats 400000 in
theorem fp_names (a0 : Option Addr) (n0 c0 : Nat) (x : Addr) (n c : Nat) (K : Nat → ByteArray) (s : ByteArray) (w : World) (hn : n ≤ 4096) (hK : Hid (StrS w (some x) n K)) :
    Calls Try.prog 9 #[.slice a0 n0 c0, .slice (some x) n c, .string s] w fun e w' => e = .returned (.int .i64 (fpI K s n)) ∧ w = w' := by
  have q23 := eql23
  go_enter Try.func9, Try.ntmps9
  go_wp2
  go_loop [8] (fun y => ∃ (k : Nat), y = .int .i64 k ∧ k ≤ n ∧ Hid (∀ j, j < k → K j ≠ s)) (fun y => n - (intOf y).toNat)
  case atStart => exact ⟨0, rfl, Nat.zero_le _, fun j hj => by omega⟩
  case round =>
    obtain ⟨k, rfl, hk, HS⟩ := hrel
    by_cases hlt : k < n
    · have hltI : (k : Int) < (n : Int) := by omega
      obtain ⟨b, off, e0, d⟩ := hK.out k hlt
      obtain rfl := Option.some.inj e0
      clear e0
      by_cases he : K k = s
      · have he' : ((K k).toList == s.toList) = true := by rw [strEq, he]; simp
        have fin : Hid (fpI K s n = (k : Int)) := by
          show _ = _
          unfold fpI
          rw [fc_eq hlt he HS.out, if_pos hlt]
        clear he q23
        go_wp2_with fail
        go_ret
        exact ⟨by rw [fin.out]; rfl, rfl⟩
      · have he' : ((K k).toList == s.toList) = false := by rw [strEq]; simpa using he
        have fin : Hid (∀ j, j < k + 1 → K j ≠ s) := fun j hj => by
          by_cases e : j = k
          · subst e; exact he
          · exact HS.out j (by omega)
        clear he q23
        go_wp2_with fail
        go_round
        case rel => exact ⟨k + 1, by go_num, by omega, fin⟩
        case measure => simp [intOf]; omega
    · have hltI : ¬ (k : Int) < (n : Int) := by omega
      obtain rfl : k = n := by omega
      have fin : Hid (fpI K s k = -1) := by
        show _ = _
        unfold fpI
        rw [fc_none HS.out, if_neg (by omega)]
      clear q23
      go_wp2_with fail
      go_ret
      exact ⟨by rw [fin.out]; rfl, rfl⟩

set_option maxHeartbeats 400000 in
theorem fp_cols (a0 : Option Addr) (n c0 m1 c1 : Nat) (K T : Nat → ByteArray) (s : ByteArray) (w : World) (hn : n ≤ 4096) (hK : Hid (ColS w a0 n K T)) :
    Calls Try.prog 9 #[.slice a0 n c0, .slice none m1 c1, .string s] w fun e w' => e = .returned (.int .i64 (fpI K s n)) ∧ w = w' := by
  have q23 := eql23
  go_enter Try.func9, Try.ntmps9
  go_wp2
  go_loop [7] (fun y => ∃ (k : Nat), y = .int .i64 k ∧ k ≤ n ∧ Hid (∀ j, j < k → K j ≠ s)) (fun y => n - (intOf y).toNat)
  case atStart => exact ⟨0, rfl, Nat.zero_le _, fun j hj => by omega⟩
  case round =>
    obtain ⟨k, rfl, hk, HS⟩ := hrel
    by_cases hlt : k < n
    · have hltI : (k : Int) < (n : Int) := by omega
      obtain ⟨b, off, rfl, d, _⟩ := hK.out k hlt
      by_cases he : K k = s
      · have he' : ((K k).toList == s.toList) = true := by rw [strEq, he]; simp
        have fin : Hid (fpI K s n = (k : Int)) := by
          show _ = _
          unfold fpI
          rw [fc_eq hlt he HS.out, if_pos hlt]
        clear he q23
        go_wp2_with fail
        go_ret
        exact ⟨by rw [fin.out]; rfl, rfl⟩
      · have he' : ((K k).toList == s.toList) = false := by rw [strEq]; simpa using he
        have fin : Hid (∀ j, j < k + 1 → K j ≠ s) := fun j hj => by
          by_cases e : j = k
          · subst e; exact he
          · exact HS.out j (by omega)
        clear he q23
        go_wp2_with fail
        go_round
        case rel => exact ⟨k + 1, by go_num, by omega, fin⟩
        case measure => simp [intOf]; omega
    · have hltI : ¬ (k : Int) < (n : Int) := by omega
      obtain rfl : k = n := by omega
      have fin : Hid (fpI K s k = -1) := by
        show _ = _
        unfold fpI
        rw [fc_none HS.out, if_neg (by omega)]
      clear q23
      go_wp2_with fail
      go_ret
      exact ⟨by rw [fin.out]; rfl, rfl⟩

end Go.Proofs.Qxb6604266a
