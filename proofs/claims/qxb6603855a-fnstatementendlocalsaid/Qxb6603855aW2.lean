import Derived.Test.Qxb6603855aW1
import Derived.RegionTactic
import Derived.ChangeAlike
import Derived.BigRegion
import Derived.Deep.OwnRows
namespace Go.Proofs.Qxb6603855a
open Go.RowKit

/-- A SLICE OF STRINGS LIES IN MEMORY. -/
def StrS (w : World) (a : Option Addr) (n : Nat) (K : Nat → ByteArray) : Prop :=
  ∀ j, j < n → ∃ b off, a = some ⟨b, off, none⟩ ∧ w.cell? ⟨b, off + j, none⟩ = some (.string (K j))
/-- A SLICE OF INTEGERS LIES IN MEMORY. -/
def IntS (w : World) (a : Option Addr) (n : Nat) (L : Nat → Int) : Prop :=
  ∀ j, j < n → ∃ b off, a = some ⟨b, off, none⟩ ∧ w.cell? ⟨b, off + j, none⟩ = some (.int .i64 (L j))

theorem Try.info33 : (Try.prog.info? 33).map (fun i => (i.zero, i.size, i.bytes)) = some (some (.agg #[.string ⟨#[]⟩, .string ⟨#[]⟩, .int .i64 0]), 3, 40) := by kernel_rfl

theorem run_make_gen {P : Program} (t e : TypeId) (z : Value) (size bytes : Nat) (ht : P.underlying t = some (.slice e)) (hinfo : (P.info? e).map (fun i => (i.zero, i.size, i.bytes)) = some (some z, size, bytes))
    (n : Nat) (hbytes : bytes * n ≤ 281474976710656) (h63 : n ≤ 9223372036854775807) (w : World) :
    (Instr.makeSlice t (.int .i64 (n : Int)) (.int .i64 (n : Int))).run P w = .ok (.slice (some ⟨w.heap.size, 0, none⟩) n n) (w.alloc (.cells (madeCells z.cells (n * size)) e)) := by
  obtain ⟨i, hi, hzz⟩ := Option.map_eq_some_iff.1 hinfo
  simp only [Prod.mk.injEq] at hzz
  obtain ⟨hz, hs, hb⟩ := hzz
  subst hs; subst hb
  have hb' : (i.bytes : Int) * (n : Int) ≤ 281474976710656 := by
    have h : ((i.bytes * n : Nat) : Int) ≤ 281474976710656 := by omega
    rwa [Int.natCast_mul] at h
  have hr := run_make (P := P) w t e i z ht hi hz .i64 .i64 n n (by omega) (Int.le_refl _) hb' (by omega)
  simpa only [Int.toNat_natCast] using hr

theorem made_row (w : World) (z : Array Value) (N : Nat) (t : TypeId) : (w.alloc (.cells (madeCells z N) t)).rowIs w.heap.size t N (fun i => ((madeCells z N)[i]?).getD (.bool false)) := by
  refine ⟨_, Deep.blk_alloc_new _ _, size_madeCells _ _, fun i hi => ?_⟩
  have h : i < (madeCells z N).size := by rw [size_madeCells]; exact hi
  show (madeCells z N)[i]? = some (((madeCells z N)[i]?).getD (.bool false))
  rw [Array.getElem?_eq_getElem h]; rfl

set_option maxRecDepth 100000 in
set_option maxHeartbeats 1000000 in
theorem zzToks_some (x0 : Addr) (a1 a2 : Option Addr) (n c0 c1 c2 : Nat) (K T : Nat → ByteArray) (L : Nat → Int) (w : World) (hn : n ≤ 65536)
    (hK : Hid (StrS w (some x0) n K)) (hT : Hid (StrS w a1 n T)) (hL : Hid (IntS w a2 n L)) :
    Calls Try.prog 11 #[.slice (some x0) n c0, .slice a1 n c1, .slice a2 n c2] w fun e w' => ∃ a c, e = .returned (.slice a n c) ∧ TokS w' a n K T ∧ Below w.heap.size w w' := by
  have hmk := fun wx => run_make_gen (P := Try.prog) 28 33 _ 3 40 Try.underlying28 Try.info33 n (by omega) (by omega) wx
  have q22 : ∀ (w : World) (a : Option Addr) (n c n' c' : Nat), (binOp .eql 22 (.slice a n c) (.slice none n' c')).run Try.prog w = .ok (.bool a.isNone) w := fun w a n c n' c' => Lib.run_eql_slice_nil w _ _ a n c n' c' Try.underlying22
  go_enter Try.func11, Try.ntmps11
  go_wp2
  go_loopw [8] (fun x wr => ∃ (k : Nat) (f : Nat → Value), x = .int .i64 k ∧ k ≤ n ∧ wr.rowIs w.heap.size 33 (n * 3) f ∧ (∀ j, j < k → f (j * 3) = .string (K j) ∧ f (j * 3 + 1) = .string (T j)) ∧ Below w.heap.size w wr) (fun x _ => n - (intOf x).toNat)
  case atStart =>
    exact ⟨0, _, rfl, Nat.zero_le _, made_row _ _ _ _, fun j hj => by omega, (Below.refl _ _).alloc (Nat.le_refl _) _⟩
  case round =>
    obtain ⟨k, f, rfl, hk, hrow, hf, hbel⟩ := hrel
    have HF : Hid (∀ j, j < k → f (j * 3) = .string (K j) ∧ f (j * 3 + 1) = .string (T j)) := hf
    clear hf
    by_cases hlt : k < n
    · have hltI : (k : Int) < (n : Int) := by omega
      obtain ⟨b0, o0, e0, d0⟩ := hK.out k hlt
      obtain ⟨b1, o1, rfl, d1⟩ := hT.out k hlt
      obtain ⟨b2, o2, rfl, d2⟩ := hL.out k hlt
      obtain rfl := Option.some.inj e0
      clear e0
      replace d0 := cell_later hbel d0
      replace d1 := cell_later hbel d1
      replace d2 := cell_later hbel d2
      have g0 := hrow.cell (i := k * 3) (by omega)
      have g1 := hrow.cell (i := k * 3 + 1) (by omega)
      have g2 := hrow.cell (i := k * 3 + 2) (by omega)
      have z0 := hrow.frozen (k * 3)
      have z1 := hrow.frozen (k * 3 + 1)
      have z2 := hrow.frozen (k * 3 + 2)
      have HR : Hid (wr.rowIs w.heap.size 33 (n * 3) f) := hrow
      clear hrow hmk q22
      go_wp2
      go_region
      go_wp2
      go_roundw
      case rel =>
        refine ⟨k + 1, _, by go_num, by omega, ((((HR.out.set (k * 3) (.string (K k))).set (k * 3 + 1) (.string (T k))).set (k * 3 + 2) (.int .i64 (L k))).drew), ?_, (((hbel.setCell (Nat.le_refl _) _).setCell (Nat.le_refl _) _).setCell (Nat.le_refl _) _).drew⟩
        intro j hj
        by_cases e : j = k
        · subst e
          refine ⟨?_, ?_⟩
          · simp only [show ¬ (j * 3 = j * 3 + 2) by omega, show ¬ (j * 3 = j * 3 + 1) by omega, if_false, if_true]
          · simp only [show ¬ (j * 3 + 1 = j * 3 + 2) by omega, if_false, if_true]
        · have := HF.out j (by omega)
          refine ⟨?_, ?_⟩
          · simp only [show ¬ (j * 3 = k * 3 + 2) by omega, show ¬ (j * 3 = k * 3 + 1) by omega, show ¬ (j * 3 = k * 3) by omega, if_false]; exact this.1
          · simp only [show ¬ (j * 3 + 1 = k * 3 + 2) by omega, show ¬ (j * 3 + 1 = k * 3 + 1) by omega, show ¬ (j * 3 + 1 = k * 3) by omega, if_false]; exact this.2
      case measure => simp [intOf]; omega
    · have hltI : ¬ (k : Int) < (n : Int) := by omega
      have HR : Hid (wr.rowIs w.heap.size 33 (n * 3) f) := hrow
      clear hrow hmk q22
      go_wp2
      go_ret
      refine ⟨_, ⟨_, rfl⟩, fun j hj => ⟨w.heap.size, 0, rfl, ?_, ?_⟩, hbel⟩
      · rw [Nat.zero_add, HR.out.cell (by omega), (HF.out j (by omega)).1]
      · rw [Nat.zero_add, HR.out.cell (by omega), (HF.out j (by omega)).2]

set_option maxHeartbeats 400000 in
theorem zzToks_nil (v1 v2 : Value) (c0 : Nat) (w : World) :
    Calls Try.prog 11 #[.slice none 0 c0, v1, v2] w fun e w' => e = .returned (.slice none 0 0) ∧ w = w' := by
  have q22 : ∀ (w : World) (a : Option Addr) (n c n' c' : Nat), (binOp .eql 22 (.slice a n c) (.slice none n' c')).run Try.prog w = .ok (.bool a.isNone) w := fun w a n c n' c' => Lib.run_eql_slice_nil w _ _ a n c n' c' Try.underlying22
  go_enter Try.func11, Try.ntmps11
  go_wp2
  go_ret
  exact ⟨rfl, rfl⟩

/-- 'zzToks' AT WHATEVER SLICES OF ONE LENGTH. -/
theorem zzToks_any (a0 a1 a2 : Option Addr) (n c0 c1 c2 : Nat) (K T : Nat → ByteArray) (L : Nat → Int) (w : World) (hn : n ≤ 65536) (h0 : a0 = none → n = 0)
    (hK : Hid (StrS w a0 n K)) (hT : Hid (StrS w a1 n T)) (hL : Hid (IntS w a2 n L)) :
    Calls Try.prog 11 #[.slice a0 n c0, .slice a1 n c1, .slice a2 n c2] w fun e w' => ∃ a c, e = .returned (.slice a n c) ∧ TokS w' a n K T ∧ Below w.heap.size w w' := by
  cases a0 with
  | none =>
    obtain rfl := h0 rfl
    refine (zzToks_nil _ _ c0 w).mono ?_
    rintro e w' ⟨rfl, rfl⟩
    exact ⟨none, 0, rfl, fun j hj => by omega, Below.refl _ _⟩
  | some x0 => exact zzToks_some x0 a1 a2 n c0 c1 c2 K T L w hn hK hT hL

/-- 'statementEnd' AT WHATEVER TOKENS. -/
theorem stEnd_any (a : Option Addr) (n c : Nat) (K T : Nat → ByteArray) (w : World) (hn : n ≤ 65536) (hT : Hid (TokS w a n K T)) (i : Nat) (hi : i ≤ 1073741824) :
    Calls Try.prog 10 #[.slice a n c, .int .i64 i] w fun e w' => e = .returned (.int .i64 (se n K T i)) ∧ w = w' := by
  have main : ∀ m i : Nat, n - i ≤ m → i ≤ 1073741824 → Calls Try.prog 10 #[.slice a n c, .int .i64 i] w fun e w' => e = .returned (.int .i64 (se n K T i)) ∧ w = w' := by
    intro m
    induction m with
    | zero => intro i hm hi; exact stEnd_step a n c K T i w hn hi hT (fun j hj hjn => by omega)
    | succ m ih => intro i hm hi; exact stEnd_step a n c K T i w hn hi hT (fun j hj hjn => ih j (by omega) (by omega))
  exact main (n - i) i (Nat.le_refl _) hi

set_option maxHeartbeats 400000 in
/-- 'ZZStatementEnd'. -/
theorem zzEnd_any (a0 a1 a2 : Option Addr) (n c0 c1 c2 : Nat) (K T : Nat → ByteArray) (L : Nat → Int) (i : Nat) (w : World) (hn : n ≤ 65536) (hi : i ≤ 1073741824) (h0 : a0 = none → n = 0)
    (hK : Hid (StrS w a0 n K)) (hT : Hid (StrS w a1 n T)) (hL : Hid (IntS w a2 n L)) :
    Calls Try.prog 8 #[.slice a0 n c0, .slice a1 n c1, .slice a2 n c2, .int .i64 i] w fun e w' => e = .returned (.int .i64 (se n K T i)) ∧ Below w.heap.size w w' := by
  go_enter Try.func8, Try.ntmps8
  go_wp2_with fail
  refine (zzToks_any a0 a1 a2 n c0 c1 c2 K T L w hn h0 hK hT hL).mono ?_
  rintro e w' ⟨a, c, rfl, hS, hb⟩
  have HS : Hid (TokS w' a n K T) := hS
  clear hS
  go_wp2_with fail
  refine (stEnd_any a n c K T w' hn HS i hi).mono ?_
  rintro e w'' ⟨rfl, rfl⟩
  go_wp2_with fail
  go_ret
  exact ⟨rfl, hb⟩

end Go.Proofs.Qxb6603855a
