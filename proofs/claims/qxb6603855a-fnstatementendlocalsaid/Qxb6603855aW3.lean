import Derived.Test.Qxb6603855aW2
namespace Go.Proofs.Qxb6603855a
open Go.RowKit

/-- SOME BOOL COMES BACK; nothing turns. -/
def BoolPost (w : World) (e : Ending) (w' : World) : Prop := ∃ b : Bool, e = .returned (.bool b) ∧ w = w'

set_option maxRecDepth 100000 in
set_option maxHeartbeats 1000000 in
theorem bytes5_any (a0 a1 a2 : Option Addr) (n0 n1 n2 c0 c1 c2 : Nat) (K T : Nat → ByteArray) (i : Int) (w : World)
    (hK : Hid (StrS w a0 n0 K)) (hT : Hid (StrS w a1 n1 T)) :
    Calls Try.prog 5 #[.slice a0 n0 c0, .slice a1 n1 c1, .slice a2 n2 c2, .int .i64 i] w (BoolPost w) := by
  by_cases h0 : (1048576 : Int) < (n0 : Int)
  · go_enter Try.func5, Try.ntmps5
    go_wp2
    go_ret
    exact ⟨_, rfl, rfl⟩
  have h0' : (n0 : Int) ≤ 1048576 := by omega
  go_enter Try.func5, Try.ntmps5
  go_wp2
  go_loop [9, 10] (fun y x => ∃ (k : Nat) (z : Int), x = .int .i64 k ∧ y = .int .i64 z ∧ k ≤ n0) (fun _ x => n0 - (intOf x).toNat)
  case atStart => exact ⟨0, _, rfl, rfl, Nat.zero_le _⟩
  case round =>
    obtain ⟨k, z, rfl, rfl, hk⟩ := hrel
    by_cases hlt : k < n0
    · have hltI : (k : Int) < (n0 : Int) := by omega
      obtain ⟨b, off, rfl, hc⟩ := hK.out k hlt
      go_wp2
      all_goals first
        | (go_ret; exact ⟨_, rfl, rfl⟩)
        | (go_round
           case rel => exact ⟨k + 1, _, by go_num, rfl, by omega⟩
           case measure => simp [intOf]; omega)
    · have hltI : ¬ (k : Int) < (n0 : Int) := by omega
      by_cases h1 : (1048576 : Int) < (n1 : Int)
      · go_wp2
        go_ret
        exact ⟨_, rfl, rfl⟩
      have h1' : (n1 : Int) ≤ 1048576 := by omega
      go_wp2
      · go_ret
        exact ⟨_, rfl, rfl⟩
      · go_loop [9, 11] (fun y x => ∃ (j : Nat) (z : Int), x = .int .i64 j ∧ y = .int .i64 z ∧ j ≤ n1) (fun _ x => n1 - (intOf x).toNat)
        case atStart => exact ⟨0, _, rfl, rfl, Nat.zero_le _⟩
        case round =>
          obtain ⟨j, z', rfl, rfl, hj⟩ := hrel
          by_cases hlj : j < n1
          · have hljI : (j : Int) < (n1 : Int) := by omega
            obtain ⟨b, off, rfl, hc⟩ := hT.out j hlj
            go_wp2
            all_goals first
              | (go_ret; exact ⟨_, rfl, rfl⟩)
              | (go_round
                 case rel => exact ⟨j + 1, _, by go_num, rfl, by omega⟩
                 case measure => simp [intOf]; omega)
          · have hljI : ¬ (j : Int) < (n1 : Int) := by omega
            go_wp2
            all_goals (go_ret; exact ⟨_, rfl, rfl⟩)
set_option maxRecDepth 100000 in
set_option maxHeartbeats 1000000 in
theorem bytes9_any (a0 a1 a2 : Option Addr) (n0 n1 n2 c0 c1 c2 : Nat) (K T : Nat → ByteArray) (i : Int) (w : World)
    (hK : Hid (StrS w a0 n0 K)) (hT : Hid (StrS w a1 n1 T)) :
    Calls Try.prog 9 #[.slice a0 n0 c0, .slice a1 n1 c1, .slice a2 n2 c2, .int .i64 i] w (BoolPost w) := by
  by_cases h0 : (1048576 : Int) < (n0 : Int)
  · go_enter Try.func9, Try.ntmps9
    go_wp2
    go_ret
    exact ⟨_, rfl, rfl⟩
  have h0' : (n0 : Int) ≤ 1048576 := by omega
  go_enter Try.func9, Try.ntmps9
  go_wp2
  go_loop [9, 10] (fun y x => ∃ (k : Nat) (z : Int), x = .int .i64 k ∧ y = .int .i64 z ∧ k ≤ n0) (fun _ x => n0 - (intOf x).toNat)
  case atStart => exact ⟨0, _, rfl, rfl, Nat.zero_le _⟩
  case round =>
    obtain ⟨k, z, rfl, rfl, hk⟩ := hrel
    by_cases hlt : k < n0
    · have hltI : (k : Int) < (n0 : Int) := by omega
      obtain ⟨b, off, rfl, hc⟩ := hK.out k hlt
      go_wp2
      all_goals first
        | (go_ret; exact ⟨_, rfl, rfl⟩)
        | (go_round
           case rel => exact ⟨k + 1, _, by go_num, rfl, by omega⟩
           case measure => simp [intOf]; omega)
    · have hltI : ¬ (k : Int) < (n0 : Int) := by omega
      by_cases h1 : (1048576 : Int) < (n1 : Int)
      · go_wp2
        go_ret
        exact ⟨_, rfl, rfl⟩
      have h1' : (n1 : Int) ≤ 1048576 := by omega
      go_wp2
      · go_ret
        exact ⟨_, rfl, rfl⟩
      · go_loop [9, 11] (fun y x => ∃ (j : Nat) (z : Int), x = .int .i64 j ∧ y = .int .i64 z ∧ j ≤ n1) (fun _ x => n1 - (intOf x).toNat)
        case atStart => exact ⟨0, _, rfl, rfl, Nat.zero_le _⟩
        case round =>
          obtain ⟨j, z', rfl, rfl, hj⟩ := hrel
          by_cases hlj : j < n1
          · have hljI : (j : Int) < (n1 : Int) := by omega
            obtain ⟨b, off, rfl, hc⟩ := hT.out j hlj
            go_wp2
            all_goals first
              | (go_ret; exact ⟨_, rfl, rfl⟩)
              | (go_round
                 case rel => exact ⟨j + 1, _, by go_num, rfl, by omega⟩
                 case measure => simp [intOf]; omega)
          · have hljI : ¬ (j : Int) < (n1 : Int) := by omega
            go_wp2
            all_goals (go_ret; exact ⟨_, rfl, rfl⟩)

/-- SOME BOOL COMES BACK; nothing turns; 'false' says that the lengths are small. -/
def BigPost (n0 n1 n2 : Nat) (w : World) (e : Ending) (w' : World) : Prop := ∃ b : Bool, e = .returned (.bool b) ∧ w = w' ∧ (b = false → n0 ≤ 65536 ∧ n1 ≤ 65536 ∧ n2 ≤ 65536)

set_option maxRecDepth 100000 in
set_option maxHeartbeats 1000000 in
theorem tooBig_any (a0 a1 a2 : Option Addr) (n0 n1 n2 c0 c1 c2 : Nat) (K T : Nat → ByteArray) (w : World)
    (hK : Hid (StrS w a0 n0 K)) (hT : Hid (StrS w a1 n1 T)) :
    Calls Try.prog 6 #[.slice a0 n0 c0, .slice a1 n1 c1, .slice a2 n2 c2] w (BigPost n0 n1 n2 w) := by
  by_cases h0 : (65536 : Int) < (n0 : Int)
  · go_enter Try.func6, Try.ntmps6
    go_wp2
    go_ret
    exact ⟨_, rfl, rfl, fun h => by cases h⟩
  have h0' : (n0 : Int) ≤ 65536 := by omega
  have d0 : decide ((65536 : Int) < (n0 : Int)) = false := by simpa using h0
  clear h0
  by_cases h1 : (65536 : Int) < (n1 : Int)
  · go_enter Try.func6, Try.ntmps6
    go_wp2
    go_ret
    exact ⟨_, rfl, rfl, fun h => by cases h⟩
  have h1' : (n1 : Int) ≤ 65536 := by omega
  have d1 : decide ((65536 : Int) < (n1 : Int)) = false := by simpa using h1
  clear h1
  by_cases h2 : (65536 : Int) < (n2 : Int)
  · go_enter Try.func6, Try.ntmps6
    go_wp2
    go_ret
    exact ⟨_, rfl, rfl, fun h => by cases h⟩
  have h2' : (n2 : Int) ≤ 65536 := by omega
  have d2 : decide ((65536 : Int) < (n2 : Int)) = false := by simpa using h2
  clear h2
  have fin : Hid (n0 ≤ 65536 ∧ n1 ≤ 65536 ∧ n2 ≤ 65536) := ⟨by omega, by omega, by omega⟩
  go_enter Try.func6, Try.ntmps6
  go_wp2
  · go_ret
    exact ⟨_, rfl, rfl, fun h => by cases h⟩
  · go_loop [7, 8] (fun y x => ∃ (k : Nat) (z : Int), x = .int .i64 k ∧ y = .int .i64 z ∧ k ≤ n0) (fun _ x => n0 - (intOf x).toNat)
    case atStart => exact ⟨0, _, rfl, rfl, Nat.zero_le _⟩
    case round =>
      obtain ⟨k, z, rfl, rfl, hk⟩ := hrel
      by_cases hlt : k < n0
      · have hltI : (k : Int) < (n0 : Int) := by omega
        obtain ⟨b, off, rfl, hc⟩ := hK.out k hlt
        go_wp2
        all_goals first
          | (go_ret; exact ⟨_, rfl, rfl, fun _ => fin.out⟩)
          | (go_round
             case rel => exact ⟨k + 1, _, by go_num, rfl, by omega⟩
             case measure => simp [intOf]; omega)
      · have hltI : ¬ (k : Int) < (n0 : Int) := by omega
        go_wp2
        go_loop [7, 9] (fun y x => ∃ (j : Nat) (z : Int), x = .int .i64 j ∧ y = .int .i64 z ∧ j ≤ n1) (fun _ x => n1 - (intOf x).toNat)
        case atStart => exact ⟨0, _, rfl, rfl, Nat.zero_le _⟩
        case round =>
          obtain ⟨j, z', rfl, rfl, hj⟩ := hrel
          by_cases hlj : j < n1
          · have hljI : (j : Int) < (n1 : Int) := by omega
            obtain ⟨b, off, rfl, hc⟩ := hT.out j hlj
            go_wp2
            all_goals first
              | (go_ret; exact ⟨_, rfl, rfl, fun _ => fin.out⟩)
              | (go_round
                 case rel => exact ⟨j + 1, _, by go_num, rfl, by omega⟩
                 case measure => simp [intOf]; omega)
          · have hljI : ¬ (j : Int) < (n1 : Int) := by omega
            go_wp2
            all_goals (go_ret; exact ⟨_, rfl, rfl, fun _ => fin.out⟩)

/-- THE THREE LENGTHS ARE ONE, AS A BOOL. -/
def sameB (n0 n1 n2 : Nat) : Bool := decide (n0 = n1 ∧ n1 = n2)

set_option maxHeartbeats 400000 in
theorem sameLen_any (a0 a1 a2 : Option Addr) (n0 n1 n2 c0 c1 c2 : Nat) (w : World) :
    Calls Try.prog 7 #[.slice a0 n0 c0, .slice a1 n1 c1, .slice a2 n2 c2] w fun e w' => e = .returned (.bool (sameB n0 n1 n2)) ∧ w = w' := by
  by_cases h0 : n0 = n1
  · subst h0
    by_cases h1 : n0 = n2
    · subst h1
      rw [show sameB n0 n0 n0 = true from by simp [sameB]]
      go_enter Try.func7, Try.ntmps7
      go_wp2
      go_ret
      exact ⟨rfl, rfl⟩
    · have h1' : ((n0 : Int) == (n2 : Int)) = false := beq_eq_false_iff_ne.2 (by omega)
      rw [show sameB n0 n0 n2 = false from by simp [sameB, h1]]
      clear h1
      go_enter Try.func7, Try.ntmps7
      go_wp2
      go_ret
      exact ⟨rfl, rfl⟩
  · have h0' : ((n0 : Int) == (n1 : Int)) = false := beq_eq_false_iff_ne.2 (by omega)
    rw [show sameB n0 n1 n2 = false from by simp [sameB, h0]]
    clear h0
    go_enter Try.func7, Try.ntmps7
    go_wp2
    go_ret
    exact ⟨rfl, rfl⟩

end Go.Proofs.Qxb6603855a
