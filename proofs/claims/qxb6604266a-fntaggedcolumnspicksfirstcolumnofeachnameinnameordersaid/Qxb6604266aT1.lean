/-
  WHAT THIS SEAT's WALKS SHARE, AND ITS SMALL HELPERS.
-/
import Derived.Test.Qxb6604266aProg
import Derived.Test.Qxb6604266aPlain
import Derived.WalkKit
import Derived.WalkSpells
import Derived.WalkLawsBesides
import Derived.Deep.DeepCutAuto
import Derived.Deep.LoopGhost
import Derived.Deep.OwnRows
import Derived.Deep.QuietTactic
import Derived.BigQuiet
import Derived.RegionTactic
import Derived.ChangeAlike
import Derived.BigRegion
namespace Go.Proofs.Qxb6604266a
open Go.RowKit

/-- A SLICE OF INTEGERS LIES IN MEMORY. -/
def IntS (w : World) (a : Option Addr) (n : Nat) (L : Nat → Int) : Prop :=
  ∀ j, j < n → ∃ b off, a = some ⟨b, off, none⟩ ∧ w.cell? ⟨b, off + j, none⟩ = some (.int .i64 (L j))
/-- a nil slice has no element -/
def NilZ (a : Option Addr) (n : Nat) : Prop := a = none → n = 0
theorem NilZ_some (x : Addr) (n : Nat) : NilZ (some x) n := fun h => by cases h

/-- NOTHING HAS TURNED but draws. -/
structure Same (w w' : World) : Prop where
  os : w'.os = w.os
  tape : w'.tape = w.tape
  output : w'.output = w.output
  heap : w'.heap = w.heap
theorem Same.refl (w : World) : Same w w := ⟨rfl, rfl, rfl, rfl⟩
theorem Same.trans {a b c : World} (h : Same a b) (k : Same b c) : Same a c := ⟨k.os.trans h.os, k.tape.trans h.tape, k.output.trans h.output, k.heap.trans h.heap⟩
theorem Same.drew {a b : World} (h : Same a b) : Same a b.drew := ⟨h.os, h.tape, h.output, h.heap⟩
theorem Same.drewN {a b : World} (h : Same a b) (n : Nat) : Same a (b.drewN n) := h.trans ⟨rfl, rfl, rfl, rfl⟩
theorem Same.cell {w w' : World} (h : Same w w') (a : Addr) : w'.cell? a = w.cell? a := by simp [World.cell?, h.heap]
theorem Same.below {w w' : World} (h : Same w w') (B : Nat) : Below B w w' := ⟨h.os, h.tape, h.output, by rw [h.heap]; exact Nat.le_refl _, fun k _ => by rw [h.heap]⟩
theorem Same.row {w w' : World} (h : Same w w') {g t n f} (r : w.rowIs g t n f) : w'.rowIs g t n f := r.of_block (by rw [h.heap])
theorem Same.ints {w w' : World} (h : Same w w') {a n L} (r : IntS w a n L) : IntS w' a n L := by
  intro j hj
  obtain ⟨b, off, e, d⟩ := r j hj
  exact ⟨b, off, e, by rw [h.cell]; exact d⟩
theorem Same.size {w w' : World} (h : Same w w') : w'.heap.size = w.heap.size := by rw [h.heap]

theorem IntS.later {w w' : World} {a : Option Addr} {n : Nat} {L : Nat → Int} (h : IntS w a n L) (hb : Below w.heap.size w w') : IntS w' a n L := by
  intro j hj
  obtain ⟨b, off, e, c⟩ := h j hj
  exact ⟨b, off, e, cell_later hb c⟩


/-- A SLICE OF STRINGS LIES IN MEMORY. -/
def StrS (w : World) (a : Option Addr) (n : Nat) (K : Nat → ByteArray) : Prop :=
  ∀ j, j < n → ∃ b off, a = some ⟨b, off, none⟩ ∧ w.cell? ⟨b, off + j, none⟩ = some (.string (K j))
theorem StrS.later {w w' : World} {a : Option Addr} {n : Nat} {K : Nat → ByteArray} (h : StrS w a n K) (hb : Below w.heap.size w w') : StrS w' a n K := by
  intro j hj
  obtain ⟨b, off, e, c⟩ := h j hj
  exact ⟨b, off, e, cell_later hb c⟩
/-- A SLICE OF COLUMNS (two strings each) LIES IN MEMORY. -/
def ColS (w : World) (a : Option Addr) (n : Nat) (C T : Nat → ByteArray) : Prop :=
  ∀ j, j < n → ∃ b off, a = some ⟨b, off, none⟩ ∧ w.cell? ⟨b, off + j * 2, none⟩ = some (.string (C j)) ∧ w.cell? ⟨b, off + j * 2 + 1, none⟩ = some (.string (T j))
theorem ColS.later {w w' : World} {a : Option Addr} {n : Nat} {C T : Nat → ByteArray} (h : ColS w a n C T) (hb : Below w.heap.size w w') : ColS w' a n C T := by
  intro j hj
  obtain ⟨b, off, e, c, d⟩ := h j hj
  exact ⟨b, off, e, cell_later hb c, cell_later hb d⟩
theorem Same.strs {w w' : World} (h : Same w w') {a n K} (r : StrS w a n K) : StrS w' a n K := r.later (h.below _)
theorem Same.cols {w w' : World} (h : Same w w') {a n C T} (r : ColS w a n C T) : ColS w' a n C T := r.later (h.below _)
/-- SOME BOOL COMES BACK; nothing turns. -/
def BoolPost (w : World) (e : Ending) (w' : World) : Prop := ∃ b : Bool, e = .returned (.bool b) ∧ Same w w'

theorem run_make_gen {P : Program} (t e : TypeId) (z : Value) (size bytes : Nat) (ht : P.underlying t = some (.slice e)) (hinfo : (P.info? e).map (fun i => (i.zero, i.size, i.bytes)) = some (some z, size, bytes))
    (n : Nat) (hbytes : bytes * n ≤ 281474976710656) (h63 : n ≤ 9223372036854775807) (w : World) :
    (Instr.makeSlice t (.int .i64 (n : Int)) (.int .i64 (n : Int))).run P w = .ok (.slice (some ⟨w.heap.size, 0, none⟩) n n) (w.alloc (.cells (madeCells z.cells (n * size)) e)) := by
  obtain ⟨i, hi, hzz⟩ := Option.map_eq_some_iff.1 hinfo
  simp only [Prod.mk.injEq] at hzz
  obtain ⟨hz, hs, hb⟩ := hzz
  subst hs; subst hb
  have hb' : (i.bytes : Int) * (n : Int) ≤ 281474976710656 := by
    have h : ((i.bytes * n : Nat) : Int) ≤ 281474976710656 := by omega
    rwa [Int.natCast_mul] at h
  have hr := run_make (P := P) w t e i z ht hi hz .i64 .i64 n n (by omega) (Int.le_refl _) hb' (by omega)
  simpa only [Int.toNat_natCast] using hr
theorem made_row (w : World) (z : Array Value) (N : Nat) (t : TypeId) : (w.alloc (.cells (madeCells z N) t)).rowIs w.heap.size t N (fun i => ((madeCells z N)[i]?).getD (.bool false)) := by
  refine ⟨_, Deep.blk_alloc_new _ _, size_madeCells _ _, fun i hi => ?_⟩
  have h : i < (madeCells z N).size := by rw [size_madeCells]; exact hi
  show (madeCells z N)[i]? = some (((madeCells z N)[i]?).getD (.bool false))
  rw [Array.getElem?_eq_getElem h]; rfl
theorem Try.info9 : (Try.prog.info? 9).map (fun i => (i.zero, i.size, i.bytes)) = some (some (.string ⟨#[]⟩), 1, 16) := by kernel_rfl
theorem Try.info34 : (Try.prog.info? 34).map (fun i => (i.zero, i.size, i.bytes)) = some (some (.agg #[.string ⟨#[]⟩, .string ⟨#[]⟩]), 2, 32) := by kernel_rfl
theorem Try.info3 : (Try.prog.info? 3).map (fun i => (i.zero, i.size, i.bytes)) = some (some (.int .i64 0), 1, 8) := by kernel_rfl
theorem eql22 (w : World) (a : Option Addr) (n c n' c' : Nat) : (binOp .eql 22 (.slice a n c) (.slice none n' c')).run Try.prog w = .ok (.bool a.isNone) w := Lib.run_eql_slice_nil w _ _ a n c n' c' Try.underlying22
theorem eql23 (w : World) (a : Option Addr) (n c n' c' : Nat) : (binOp .eql 23 (.slice a n c) (.slice none n' c')).run Try.prog w = .ok (.bool a.isNone) w := Lib.run_eql_slice_nil w _ _ a n c n' c' Try.underlying23
theorem eql28 (w : World) (a : Option Addr) (n c n' c' : Nat) : (binOp .eql 28 (.slice a n c) (.slice none n' c')).run Try.prog w = .ok (.bool a.isNone) w := Lib.run_eql_slice_nil w _ _ a n c n' c' Try.underlying28

/-! ### the count of bytes -/
set_option maxRecDepth 100000 in
set_option maxHeartbeats 1000000 in
theorem bytes4_any (a0 a1 : Option Addr) (n0 c0 n1 c1 : Nat) (C T K : Nat → ByteArray) (w : World) (hC : Hid (ColS w a0 n0 C T)) (hK : Hid (StrS w a1 n1 K)) : Calls Try.prog 4 #[.slice a0 n0 c0, .slice a1 n1 c1] w (BoolPost w) := by
  by_cases h0 : (1048576 : Int) < (n0 : Int)
  · go_enter Try.func4, Try.ntmps4
    go_wp2
    go_ret
    exact ⟨_, rfl, Same.refl _⟩
  have h0' : (n0 : Int) ≤ 1048576 := by omega
  go_enter Try.func4, Try.ntmps4
  go_wp2
  go_loop [5, 6] (fun y x => ∃ (k : Nat) (z : Int), x = .int .i64 k ∧ y = .int .i64 z ∧ k ≤ n0) (fun _ x => n0 - (intOf x).toNat)
  case atStart => exact ⟨0, _, rfl, rfl, Nat.zero_le _⟩
  case round =>
    obtain ⟨k, z, rfl, rfl, hk⟩ := hrel
    by_cases hlt : k < n0
    · have hltI : (k : Int) < (n0 : Int) := by omega
      obtain ⟨b, off, rfl, d0, d1⟩ := hC.out k hlt
      go_wp2
      all_goals first
        | (go_ret; exact ⟨_, rfl, Same.refl _⟩)
        | (go_round
           case rel => exact ⟨k + 1, _, by go_num, rfl, by omega⟩
           case measure => simp [intOf]; omega)
    · have hltI : ¬ (k : Int) < (n0 : Int) := by omega
      by_cases h1 : (1048576 : Int) < (n1 : Int)
      · go_wp2
        go_ret
        exact ⟨_, rfl, Same.refl _⟩
      have h1' : (n1 : Int) ≤ 1048576 := by omega
      go_wp2
      · go_ret
        exact ⟨_, rfl, Same.refl _⟩
      · go_loop [5, 7] (fun y x => ∃ (j : Nat) (z : Int), x = .int .i64 j ∧ y = .int .i64 z ∧ j ≤ n1) (fun _ x => n1 - (intOf x).toNat)
        case atStart => exact ⟨0, _, rfl, rfl, Nat.zero_le _⟩
        case round =>
          obtain ⟨j, z', rfl, rfl, hj⟩ := hrel
          by_cases hlj : j < n1
          · have hljI : (j : Int) < (n1 : Int) := by omega
            obtain ⟨b, off, rfl, hc⟩ := hK.out j hlj
            go_wp2
            all_goals first
              | (go_ret; exact ⟨_, rfl, Same.refl _⟩)
              | (go_round
                 case rel => exact ⟨j + 1, _, by go_num, rfl, by omega⟩
                 case measure => simp [intOf]; omega)
          · have hljI : ¬ (j : Int) < (n1 : Int) := by omega
            go_wp2
            all_goals (go_ret; exact ⟨_, rfl, Same.refl _⟩)

/-! ### columnsNamesFitB1 -/
def FitPost (n0 n1 : Nat) (w : World) (e : Ending) (w' : World) : Prop := ∃ b : Bool, e = .returned (.bool b) ∧ Same w w' ∧ (b = true → n0 ≤ 4096 ∧ n1 ≤ 4096)
set_option maxRecDepth 100000 in
set_option maxHeartbeats 1000000 in
theorem fits_any (a0 a1 : Option Addr) (n0 c0 n1 c1 : Nat) (C T K : Nat → ByteArray) (w : World) (hC : Hid (ColS w a0 n0 C T)) (hK : Hid (StrS w a1 n1 K)) : Calls Try.prog 5 #[.slice a0 n0 c0, .slice a1 n1 c1] w (FitPost n0 n1 w) := by
  by_cases h0 : (4096 : Int) < (n0 : Int)
  · go_enter Try.func5, Try.ntmps5
    go_wp2
    go_ret
    exact ⟨_, rfl, Same.refl _, fun h => by cases h⟩
  have h0' : (n0 : Int) ≤ 4096 := by omega
  have d0 : decide ((4096 : Int) < (n0 : Int)) = false := by simpa using h0
  clear h0
  by_cases h1 : (4096 : Int) < (n1 : Int)
  · go_enter Try.func5, Try.ntmps5
    go_wp2
    go_ret
    exact ⟨_, rfl, Same.refl _, fun h => by cases h⟩
  have h1' : (n1 : Int) ≤ 4096 := by omega
  have d1 : decide ((4096 : Int) < (n1 : Int)) = false := by simpa using h1
  clear h1
  have fin : Hid (n0 ≤ 4096 ∧ n1 ≤ 4096) := ⟨by omega, by omega⟩
  go_enter Try.func5, Try.ntmps5
  go_wp2
  go_loopw [5, 6] (fun y x wr => ∃ (k : Nat) (z : Int), x = .int .i64 k ∧ y = .int .i64 z ∧ k ≤ n0 ∧ Hid (Same w wr)) (fun _ x _ => n0 - (intOf x).toNat)
  case atStart => exact ⟨0, _, rfl, rfl, Nat.zero_le _, Same.refl _⟩
  case round =>
    obtain ⟨k, z, rfl, rfl, hk, HS⟩ := hrel
    by_cases hlt : k < n0
    · have hltI : (k : Int) < (n0 : Int) := by omega
      obtain ⟨b, off, rfl, e0, e1⟩ := hC.out k hlt
      rw [← HS.out.cell] at e0 e1
      by_cases s0 : (1048576 : Int) < ((C k).size : Int)
      · go_wp2
        go_ret
        exact ⟨_, rfl, HS.out, fun h => by cases h⟩
      have s0' : decide ((1048576 : Int) < ((C k).size : Int)) = false := by simpa using s0
      clear s0
      by_cases s1 : (1048576 : Int) < ((T k).size : Int)
      · go_wp2
        go_ret
        exact ⟨_, rfl, HS.out, fun h => by cases h⟩
      have s1' : decide ((1048576 : Int) < ((T k).size : Int)) = false := by simpa using s1
      clear s1
      go_wp2
      go_quiet (fail)
      go_wp2
      all_goals first
        | (go_ret; exact ⟨_, rfl, HS.out.drewN _, fun _ => fin.out⟩)
        | (go_roundw
           case rel => exact ⟨k + 1, _, by go_num, rfl, by omega, HS.out.drewN _⟩
           case measure => simp [intOf]; omega)
    · have hltI : ¬ (k : Int) < (n0 : Int) := by omega
      go_wp2
      go_loop [5, 7] (fun y x => ∃ (j : Nat) (z : Int), x = .int .i64 j ∧ y = .int .i64 z ∧ j ≤ n1) (fun _ x => n1 - (intOf x).toNat)
      case atStart => exact ⟨0, _, rfl, rfl, Nat.zero_le _⟩
      case round =>
        obtain ⟨j, z', rfl, rfl, hj⟩ := hrel
        by_cases hlj : j < n1
        · have hljI : (j : Int) < (n1 : Int) := by omega
          obtain ⟨b, off, rfl, hc⟩ := hK.out j hlj
          rw [← HS.out.cell] at hc
          go_wp2
          all_goals first
            | (go_ret; exact ⟨_, rfl, HS.out, fun _ => fin.out⟩)
            | (go_round
               case rel => exact ⟨j + 1, _, by go_num, rfl, by omega⟩
               case measure => simp [intOf]; omega)
        · have hljI : ¬ (j : Int) < (n1 : Int) := by omega
          go_wp2
          all_goals (go_ret; exact ⟨_, rfl, HS.out, fun _ => fin.out⟩)
end Go.Proofs.Qxb6604266a
