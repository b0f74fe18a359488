/-
  zOpsTooBig, zCloneOps, zOperationFromZ, the step's accessors.
-/
import Derived.Test.Qxb6602630aB1
namespace Go.Proofs.Qxb6602630a
open Go.RowKit

def BigPost (n : Nat) (w : World) (e : Ending) (w' : World) : Prop := ∃ b : Bool, e = .returned (.bool b) ∧ Below w.heap.size w w' ∧ (b = false → n ≤ 65536)
set_option maxRecDepth 100000 in
set_option maxHeartbeats 1000000 in
theorem tooBig_any (a0 : Option Addr) (n c0 : Nat) (R : Nat → OpR) (w : World) (hC : Hid (OpS w a0 n R)) : Calls Try.prog 12 #[.slice a0 n c0] w (BigPost n w) := by
  by_cases h0 : (65536 : Int) < (n : Int)
  · go_enter Try.func12, Try.ntmps12
    go_wp2
    go_ret
    exact ⟨_, rfl, Below.refl _ _, fun h => by cases h⟩
  have h0' : (n : Int) ≤ 65536 := by omega
  have fin : Hid (n ≤ 65536) := by show _ ≤ _; omega
  go_enter Try.func12, Try.ntmps12
  go_wp2
  go_loopw [3, 4] (fun y x wr => ∃ (k : Nat) (z : Int), x = .int .i64 k ∧ y = .int .i64 z ∧ k ≤ n ∧ Hid (Below w.heap.size w wr)) (fun _ x _ => n - (intOf x).toNat)
  case atStart => exact ⟨0, _, rfl, rfl, Nat.zero_le _, Below.refl _ _⟩
  case round =>
    obtain ⟨k, z, rfl, rfl, hk, HB⟩ := hrel
    by_cases hlt : k < n
    · have hltI : (k : Int) < (n : Int) := by omega
      have HCr : Hid (OpS wr a0 n R) := hC.out.later HB.out
      obtain ⟨b, off, rfl, d⟩ := HCr.out k hlt
      have d0 := d.c0
      have d1 := d.c1
      have d2 := d.c2
      have d3 := d.c3
      have d4 := d.c4
      have d5 := d.c5
      have d6 := d.c6
      have d7 := d.c7
      clear d
      go_wp2_with fail
      refine (opBytes_any (R k) wr).mono ?_
      rintro e' w1 ⟨z', rfl, hb⟩
      have HB1 : Hid (Below w.heap.size w w1) := HB.out.trans (hb.mono HB.out.size)
      clear hb d0 d1 d2 d3 d4 d5 d6 d7
      go_wp2
      all_goals first
        | (go_ret; exact ⟨_, rfl, HB1.out, fun _ => fin.out⟩)
        | (go_roundw
           case rel => exact ⟨k + 1, _, by go_num, rfl, by omega, HB1⟩
           case measure => simp [intOf]; omega)
    · have hltI : ¬ (k : Int) < (n : Int) := by omega
      go_wp2
      go_ret
      exact ⟨_, rfl, HB.out, fun _ => fin.out⟩

def ClonePost (w : World) (n : Nat) (R : Nat → OpR) (e : Ending) (w' : World) : Prop :=
  ∃ a' c', e = .returned (.slice a' n c') ∧ NilZ a' n ∧ OpS w' a' n R ∧ Below w.heap.size w w'
set_option maxRecDepth 100000 in
set_option maxHeartbeats 2000000 in
theorem clone_any (a : Option Addr) (n c : Nat) (R : Nat → OpR) (w : World) (hn : n ≤ 65536) (Z : NilZ a n) (hL : Hid (OpS w a n R)) : Calls Try.prog 13 #[.slice a n c] w (ClonePost w n R) := by
  have q36 := eql36
  cases a with
  | none =>
    obtain rfl := Z rfl
    go_enter Try.func13, Try.ntmps13
    go_wp2
    go_ret
    exact ⟨none, 0, rfl, fun _ => rfl, fun j hj => by omega, Below.refl _ _⟩
  | some x =>
    have hmk := fun wx => run_make_gen (P := Try.prog) 36 43 _ 8 96 Try.underlying36 Try.info43 n (by omega) (by omega) wx
    go_enter Try.func13, Try.ntmps13
    go_wp2
    go_loopw [4] (fun y wr => ∃ (k : Nat) (f : Nat → Value), y = .int .i64 k ∧ k ≤ n ∧ wr.rowIs w.heap.size 43 (n * 8) f ∧ Hid (RowO f k R) ∧ Hid (Below w.heap.size w wr)) (fun y _ => n - (intOf y).toNat)
    case atStart => exact ⟨0, _, rfl, Nat.zero_le _, made_row _ _ _ _, fun j hj => by omega, (Below.refl _ _).alloc (Nat.le_refl _) _⟩
    case round =>
      obtain ⟨k, f, rfl, hk, hrow, HF, HB⟩ := hrel
      have HR : Hid (wr.rowIs w.heap.size 43 (n * 8) f) := hrow
      by_cases hlt : k < n
      · have hltI : (k : Int) < (n : Int) := by omega
        have HCr : Hid (OpS wr (some x) n R) := hL.out.later HB.out
        obtain ⟨b0, o0, e0, d⟩ := HCr.out k hlt
        obtain rfl := Option.some.inj e0
        clear e0
        have d0 := d.c0
        have d1 := d.c1
        have d2 := d.c2
        have d3 := d.c3
        have d4 := d.c4
        have d5 := d.c5
        have d6 := d.c6
        have d7 := d.c7
        have g0 := hrow.cell (i := k * 8) (by omega)
        have g1 := hrow.cell (i := k * 8 + 1) (by omega)
        have g2 := hrow.cell (i := k * 8 + 2) (by omega)
        have g3 := hrow.cell (i := k * 8 + 3) (by omega)
        have g4 := hrow.cell (i := k * 8 + 4) (by omega)
        have g5 := hrow.cell (i := k * 8 + 5) (by omega)
        have g6 := hrow.cell (i := k * 8 + 6) (by omega)
        have g7 := hrow.cell (i := k * 8 + 7) (by omega)
        have z0 := hrow.frozen (k * 8)
        have z1 := hrow.frozen (k * 8 + 1)
        have z2 := hrow.frozen (k * 8 + 2)
        have z3 := hrow.frozen (k * 8 + 3)
        have z4 := hrow.frozen (k * 8 + 4)
        have z5 := hrow.frozen (k * 8 + 5)
        have z6 := hrow.frozen (k * 8 + 6)
        have z7 := hrow.frozen (k * 8 + 7)
        clear hrow hmk q36 d
        go_wp2_with fail
        go_roundw
        case rel => exact ⟨k + 1, _, by go_num, by omega, row_set8 HR.out (R k), HF.out.step, bel_set8 HB.out (Nat.le_refl _) (R k)⟩
        case measure => simp [intOf]; omega
      · have hltI : ¬ (k : Int) < (n : Int) := by omega
        obtain rfl : k = n := by omega
        clear hrow hmk q36
        go_wp2
        go_ret
        exact ⟨_, _, rfl, NilZ_some _ _, HF.out.ops HR.out, HB.out⟩

def FromPost (w : World) (r : OpR) (e : Ending) (w' : World) : Prop := e = .returned (opV r) ∧ Below w.heap.size w w'
set_option maxRecDepth 100000 in
set_option maxHeartbeats 2000000 in
theorem fromZ_any (r : OpR) (w : World) : Calls Try.prog 14 #[opV r] w (FromPost w r) := by
  unfold opV
  go_enter Try.func14, Try.ntmps14
  go_wp2_with fail
  refine bodyPost_ret (v := opV r) (by simp [results, Try.results14, go_sem, opV]) rfl ?_
  exact ⟨rfl, ((Below.refl _ _).alloc (Nat.le_refl _) _).alloc (by simp) _⟩

/-! ### the step's accessors -/
/-- a step over the operation at p: by 0, unread false, after nil -/
def stV (p : Addr) : Value := .agg #[.pointer (some p), .int .i64 0, .bool false, .pointer none]
theorem by_any (p : Addr) (w : World) : Calls Try.prog 16 #[stV p] w fun e w' => e = .returned (.int .i64 0) ∧ Below w.heap.size w w' := by
  unfold stV
  go_enter Try.func16, Try.ntmps16
  go_wp2
  go_ret
  exact ⟨rfl, (Below.refl _ _).alloc (Nat.le_refl _) _⟩
theorem unread_any (p : Addr) (w : World) : Calls Try.prog 17 #[stV p] w fun e w' => e = .returned (.bool false) ∧ Below w.heap.size w w' := by
  unfold stV
  go_enter Try.func17, Try.ntmps17
  go_wp2
  go_ret
  exact ⟨rfl, (Below.refl _ _).alloc (Nat.le_refl _) _⟩
theorem after_any (p : Addr) (w : World) : Calls Try.prog 18 #[stV p] w fun e w' => e = .returned (.pointer none) ∧ Below w.heap.size w w' := by
  unfold stV
  go_enter Try.func18, Try.ntmps18
  go_wp2
  go_ret
  exact ⟨rfl, (Below.refl _ _).alloc (Nat.le_refl _) _⟩
end Go.Proofs.Qxb6602630a
