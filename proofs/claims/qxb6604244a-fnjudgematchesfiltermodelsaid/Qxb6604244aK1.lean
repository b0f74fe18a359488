/-
  THE HELPERS OF FnJudgeMatchesFilterModel: decNodesIncreasing, cloneDecs, toDecisions, sameDecisions, decidedBy, the count of bytes.
-/
import Derived.Test.Qxb6604244aJ2
namespace Go.Proofs.Qxb6604244a
open Go.RowKit

set_option maxHeartbeats 400000 in
theorem bytes15_any (a0 a1 a5 a6 : Option Addr) (n0 c0 n1 c1 n5 c5 n6 c6 : Nat) (vb : Bool) (x y : Int) (w : World) : Calls Try.prog 15 #[.slice a0 n0 c0, .slice a1 n1 c1, .bool vb, .int .i64 x, .int .i64 y, .slice a5 n5 c5, .slice a6 n6 c6] w (BoolPost w) := by
  by_cases h0 : (1048576 : Int) < (n0 : Int)
  · go_enter Try.func15, Try.ntmps15
    go_wp2
    go_ret
    exact ⟨_, rfl, Same.refl _⟩
  have h0' : (n0 : Int) ≤ 1048576 := by omega
  by_cases h1 : (1048576 : Int) < (n1 : Int)
  · go_enter Try.func15, Try.ntmps15
    go_wp2
    all_goals (go_ret; exact ⟨_, rfl, Same.refl _⟩)
  have h1' : (n1 : Int) ≤ 1048576 := by omega
  by_cases h2 : (1048576 : Int) < (n5 : Int)
  · go_enter Try.func15, Try.ntmps15
    go_wp2
    all_goals (go_ret; exact ⟨_, rfl, Same.refl _⟩)
  have h2' : (n5 : Int) ≤ 1048576 := by omega
  by_cases h3 : (1048576 : Int) < (n6 : Int)
  · go_enter Try.func15, Try.ntmps15
    go_wp2
    all_goals (go_ret; exact ⟨_, rfl, Same.refl _⟩)
  have h3' : (n6 : Int) ≤ 1048576 := by omega
  go_enter Try.func15, Try.ntmps15
  go_wp2
  all_goals (go_ret; exact ⟨_, rfl, Same.refl _⟩)

set_option maxRecDepth 100000 in
set_option maxHeartbeats 400000 in
theorem decInc_any (a : Option Addr) (n c : Nat) (L V R : Nat → Int) (w : World) (hn : n ≤ 65536) (hL : Hid (DecS w a n L V R)) : Calls Try.prog 17 #[.slice a n c] w (IncPost n L w) := by
  go_enter Try.func17, Try.ntmps17
  go_wp2
  go_loopw [3] (fun y wr => ∃ (k : Nat), y = .int .i64 ((k : Int) + 1) ∧ (k < n ∨ k = 0) ∧ Hid (∀ j, 0 < j → j ≤ k → j < n → L (j - 1) < L j) ∧ Same w wr) (fun y _ => n - (intOf y).toNat)
  case atStart => exact ⟨0, rfl, by omega, fun j h1 h2 => by omega, Same.refl _⟩
  case round =>
    obtain ⟨k, rfl, hk, HS, hsame⟩ := hrel
    by_cases hlt : k + 1 < n
    · have hltI : (k : Int) + 1 < (n : Int) := by omega
      obtain ⟨b, off, rfl, d, _, _⟩ := hL.out (k + 1) hlt
      obtain ⟨b', off', e', d', _, _⟩ := hL.out k (by omega)
      simp only [Option.some.injEq, Addr.mk.injEq, and_true] at e'
      obtain ⟨rfl, rfl⟩ := e'
      rw [← hsame.cell] at d d'
      have HM : Hid (Same w wr) := hsame
      clear hsame
      by_cases h2 : L (k + 1) ≤ L k
      · have fin : Hid (¬ Inc n L) := fun h => by have := h (k + 1) (by omega) hlt; simp at this; omega
        go_wp2
        go_quiet (fail)
        go_wp2
        go_ret
        exact ⟨false, rfl, by simpa using fin.out, HM.out.drewN _⟩
      · have h2' : decide (L (k + 1) ≤ L k) = false := by simpa using h2
        have fin : Hid (∀ j, 0 < j → j ≤ k + 1 → j < n → L (j - 1) < L j) := fun j h1 h3 h4 => by
          by_cases e : j = k + 1
          · subst e; simp; omega
          · exact HS.out j h1 (by omega) h4
        clear h2
        go_wp2
        go_quiet (fail)
        go_wp2
        go_roundw
        case rel => exact ⟨k + 1, by go_num, by omega, fin, HM.out.drewN _⟩
        case measure => simp [intOf]; omega
    · have hltI : ¬ (k : Int) + 1 < (n : Int) := by omega
      have fin : Hid (Inc n L) := fun j h1 h2 => HS.out j h1 (by omega) h2
      go_wp2
      go_ret
      exact ⟨true, rfl, by simpa using fin.out, hsame⟩

set_option maxHeartbeats 400000 in
theorem decidedBy_any (x : Int) (a : Option Addr) (n c : Nat) (L V R : Nat → Int) (w : World) (hn : n ≤ 65536) (hL : Hid (DecS w a n L V R)) :
    Calls Try.prog 23 #[.int .i64 x, .slice a n c] w fun e w' => e = .returned (.bool (inB n L x)) ∧ w = w' := by
  go_enter Try.func23, Try.ntmps23
  go_wp2
  go_loop [5] (fun y => ∃ (k : Nat), y = .int .i64 k ∧ k ≤ n ∧ Hid (∀ j, j < k → L j ≠ x)) (fun y => n - (intOf y).toNat)
  case atStart => exact ⟨0, rfl, Nat.zero_le _, fun j hj => by omega⟩
  case round =>
    obtain ⟨k, rfl, hk, HS⟩ := hrel
    by_cases hlt : k < n
    · have hltI : (k : Int) < (n : Int) := by omega
      obtain ⟨b, off, rfl, d, _, _⟩ := hL.out k hlt
      by_cases h2 : L k = x
      · have fin : Hid (inB n L x = true) := inB_iff.2 ⟨k, hlt, h2⟩
        have h2' : (L k == x) = true := by rw [beq_iff_eq]; exact h2
        clear h2
        go_wp2
        go_ret
        exact ⟨by rw [fin.out]; rfl, rfl⟩
      · have h2' : (L k == x) = false := beq_eq_false_iff_ne.2 h2
        have fin : Hid (∀ j, j < k + 1 → L j ≠ x) := fun j hj => by
          by_cases e : j = k
          · subst e; exact h2
          · exact HS.out j (by omega)
        clear h2
        go_wp2
        go_round
        case rel => exact ⟨k + 1, by go_num, by omega, fin⟩
        case measure => simp [intOf]; omega
    · have hltI : ¬ (k : Int) < (n : Int) := by omega
      obtain rfl : k = n := by omega
      have fin : Hid (inB k L x = false) := inB_false.2 HS.out
      go_wp2
      go_ret
      exact ⟨by rw [fin.out]; rfl, rfl⟩

/-- sameDecisions OVER EQUAL DATA. -/
def SamePost (w : World) (e : Ending) (w' : World) : Prop := e = .returned (.bool true) ∧ Same w w'
set_option maxRecDepth 100000 in
set_option maxHeartbeats 1000000 in
theorem sameDec_any (a a' : Option Addr) (n c c' : Nat) (N V R : Nat → Int) (w : World) (hn : n ≤ 65536) (hA : Hid (DecS w a n N V R)) (hB : Hid (DecS w a' n N V R)) :
    Calls Try.prog 22 #[.slice a n c, .slice a' n c'] w (SamePost w) := by
  go_enter Try.func22, Try.ntmps22
  go_wp2
  go_loopw [5] (fun y wr => ∃ (k : Nat), y = .int .i64 k ∧ k ≤ n ∧ Same w wr) (fun y _ => n - (intOf y).toNat)
  case atStart => exact ⟨0, rfl, Nat.zero_le _, Same.refl _⟩
  case round =>
    obtain ⟨k, rfl, hk, hsame⟩ := hrel
    by_cases hlt : k < n
    · have hltI : (k : Int) < (n : Int) := by omega
      obtain ⟨b, off, rfl, d0, d1, d2⟩ := hA.out k hlt
      obtain ⟨b', off', rfl, e0, e1, e2⟩ := hB.out k hlt
      rw [← hsame.cell] at d0 d1 d2 e0 e1 e2
      have HM : Hid (Same w wr) := hsame
      clear hsame
      have x0 : (N k != N k) = false := by simp
      have x1 : (V k != V k) = false := by simp
      have x2 : (R k != R k) = false := by simp
      go_wp2
      go_quiet (fail)
      go_wp2
      go_roundw
      case rel => exact ⟨k + 1, by go_num, by omega, HM.out.drewN _⟩
      case measure => simp [intOf]; omega
    · have hltI : ¬ (k : Int) < (n : Int) := by omega
      go_wp2
      go_ret
      exact ⟨rfl, hsame⟩

/-! ### cloneDecs, toDecisions -/
theorem run_make_gen {P : Program} (t e : TypeId) (z : Value) (size bytes : Nat) (ht : P.underlying t = some (.slice e)) (hinfo : (P.info? e).map (fun i => (i.zero, i.size, i.bytes)) = some (some z, size, bytes))
    (n : Nat) (hbytes : bytes * n ≤ 281474976710656) (h63 : n ≤ 9223372036854775807) (w : World) :
    (Instr.makeSlice t (.int .i64 (n : Int)) (.int .i64 (n : Int))).run P w = .ok (.slice (some ⟨w.heap.size, 0, none⟩) n n) (w.alloc (.cells (madeCells z.cells (n * size)) e)) := by
  obtain ⟨i, hi, hzz⟩ := Option.map_eq_some_iff.1 hinfo
  simp only [Prod.mk.injEq] at hzz
  obtain ⟨hz, hs, hb⟩ := hzz
  subst hs; subst hb
  have hb' : (i.bytes : Int) * (n : Int) ≤ 281474976710656 := by
    have h : ((i.bytes * n : Nat) : Int) ≤ 281474976710656 := by omega
    rwa [Int.natCast_mul] at h
  have hr := run_make (P := P) w t e i z ht hi hz .i64 .i64 n n (by omega) (Int.le_refl _) hb' (by omega)
  simpa only [Int.toNat_natCast] using hr
theorem made_row (w : World) (z : Array Value) (N : Nat) (t : TypeId) : (w.alloc (.cells (madeCells z N) t)).rowIs w.heap.size t N (fun i => ((madeCells z N)[i]?).getD (.bool false)) := by
  refine ⟨_, Deep.blk_alloc_new _ _, size_madeCells _ _, fun i hi => ?_⟩
  have h : i < (madeCells z N).size := by rw [size_madeCells]; exact hi
  show (madeCells z N)[i]? = some (((madeCells z N)[i]?).getD (.bool false))
  rw [Array.getElem?_eq_getElem h]; rfl
theorem Try.info39 : (Try.prog.info? 39).map (fun i => (i.zero, i.size, i.bytes)) = some (some (.agg #[.int .i64 0, .int .i64 0, .int .i64 0]), 3, 24) := by kernel_rfl
theorem eql26 (w : World) (a : Option Addr) (n c n' c' : Nat) : (binOp .eql 26 (.slice a n c) (.slice none n' c')).run Try.prog w = .ok (.bool a.isNone) w := Lib.run_eql_slice_nil w _ _ a n c n' c' Try.underlying26

/-- the row holds the first k decisions -/
def RowD (f : Nat → Value) (k : Nat) (N V R : Nat → Int) : Prop := ∀ j, j < k → f (j * 3) = .int .i64 (N j) ∧ f (j * 3 + 1) = .int .i64 (V j) ∧ f (j * 3 + 2) = .int .i64 (R j)
theorem RowD.step {f : Nat → Value} {k : Nat} {N V R : Nat → Int} (h : RowD f k N V R) :
    RowD (fun j => if j = k * 3 + 2 then .int .i64 (R k) else (fun j => if j = k * 3 + 1 then .int .i64 (V k) else (fun j => if j = k * 3 then .int .i64 (N k) else f j) j) j) (k + 1) N V R := by
  intro j hj
  by_cases e : j = k
  · subst e
    refine ⟨?_, ?_, ?_⟩
    · simp only [show ¬ (j * 3 = j * 3 + 2) by omega, show ¬ (j * 3 = j * 3 + 1) by omega, if_false, if_true]
    · simp only [show ¬ (j * 3 + 1 = j * 3 + 2) by omega, if_false, if_true]
    · simp only [if_true]
  · have := h j (by omega)
    refine ⟨?_, ?_, ?_⟩
    · simp only [show ¬ (j * 3 = k * 3 + 2) by omega, show ¬ (j * 3 = k * 3 + 1) by omega, show ¬ (j * 3 = k * 3) by omega, if_false]; exact this.1
    · simp only [show ¬ (j * 3 + 1 = k * 3 + 2) by omega, show ¬ (j * 3 + 1 = k * 3 + 1) by omega, show ¬ (j * 3 + 1 = k * 3) by omega, if_false]; exact this.2.1
    · simp only [show ¬ (j * 3 + 2 = k * 3 + 2) by omega, show ¬ (j * 3 + 2 = k * 3 + 1) by omega, show ¬ (j * 3 + 2 = k * 3) by omega, if_false]; exact this.2.2
theorem RowD.decs {w : World} {g t n : Nat} {f : Nat → Value} {N V R : Nat → Int} (h : RowD f n N V R) (r : w.rowIs g t (n * 3) f) : DecS w (some ⟨g, 0, none⟩) n N V R := by
  intro j hj
  have := h j hj
  refine ⟨g, 0, rfl, ?_, ?_, ?_⟩
  · rw [Nat.zero_add, r.cell (by omega), this.1]
  · rw [Nat.zero_add, r.cell (by omega), this.2.1]
  · rw [Nat.zero_add, r.cell (by omega), this.2.2]

def DClonePost (w : World) (n : Nat) (N V R : Nat → Int) (e : Ending) (w' : World) : Prop :=
  ∃ a' c', e = .returned (.slice a' n c') ∧ NilZ a' n ∧ DecS w' a' n N V R ∧ Below w.heap.size w w'

set_option maxRecDepth 100000 in
set_option maxHeartbeats 1000000 in
theorem cloneDecs_any (a : Option Addr) (n c : Nat) (N V R : Nat → Int) (w : World) (hn : n ≤ 65536) (Z : NilZ a n) (hL : Hid (DecS w a n N V R)) : Calls Try.prog 18 #[.slice a n c] w (DClonePost w n N V R) := by
  have q26 := eql26
  cases a with
  | none =>
    obtain rfl := Z rfl
    go_enter Try.func18, Try.ntmps18
    go_wp2
    go_ret
    exact ⟨none, 0, rfl, fun _ => rfl, fun j hj => by omega, Below.refl _ _⟩
  | some x =>
    have hmk := fun wx => run_make_gen (P := Try.prog) 26 39 _ 3 24 Try.underlying26 Try.info39 n (by omega) (by omega) wx
    go_enter Try.func18, Try.ntmps18
    go_wp2
    go_loopw [4] (fun y wr => ∃ (k : Nat) (f : Nat → Value), y = .int .i64 k ∧ k ≤ n ∧ wr.rowIs w.heap.size 39 (n * 3) f ∧ Hid (RowD f k N V R) ∧ Below w.heap.size w wr) (fun y _ => n - (intOf y).toNat)
    case atStart => exact ⟨0, _, rfl, Nat.zero_le _, made_row _ _ _ _, fun j hj => by omega, (Below.refl _ _).alloc (Nat.le_refl _) _⟩
    case round =>
      obtain ⟨k, f, rfl, hk, hrow, HF, hbel⟩ := hrel
      have HR : Hid (wr.rowIs w.heap.size 39 (n * 3) f) := hrow
      by_cases hlt : k < n
      · have hltI : (k : Int) < (n : Int) := by omega
        obtain ⟨b0, o0, e0, d0, d1, d2⟩ := hL.out k hlt
        obtain rfl := Option.some.inj e0
        clear e0
        replace d0 := cell_later hbel d0
        replace d1 := cell_later hbel d1
        replace d2 := cell_later hbel d2
        have g0 := hrow.cell (i := k * 3) (by omega)
        have g1 := hrow.cell (i := k * 3 + 1) (by omega)
        have g2 := hrow.cell (i := k * 3 + 2) (by omega)
        have z0 := hrow.frozen (k * 3)
        have z1 := hrow.frozen (k * 3 + 1)
        have z2 := hrow.frozen (k * 3 + 2)
        clear hrow hmk q26
        go_wp2
        go_roundw
        case rel => exact ⟨k + 1, _, by go_num, by omega, (((HR.out.set (k * 3) (.int .i64 (N k))).set (k * 3 + 1) (.int .i64 (V k))).set (k * 3 + 2) (.int .i64 (R k))), HF.out.step, (((hbel.setCell (Nat.le_refl _) _).setCell (Nat.le_refl _) _).setCell (Nat.le_refl _) _)⟩
        case measure => simp [intOf]; omega
      · have hltI : ¬ (k : Int) < (n : Int) := by omega
        obtain rfl : k = n := by omega
        clear hrow hmk q26
        go_wp2
        go_ret
        exact ⟨_, _, rfl, NilZ_some _ _, HF.out.decs HR.out, hbel⟩

set_option maxRecDepth 100000 in
set_option maxHeartbeats 1000000 in
theorem toDecs_any (a : Option Addr) (n c : Nat) (N V R : Nat → Int) (w : World) (hn : n ≤ 65536) (hL : Hid (DecS w a n N V R)) : Calls Try.prog 19 #[.slice a n c] w (DClonePost w n N V R) := by
  have hmk := fun wx => run_make_gen (P := Try.prog) 31 43 _ 3 24 Try.underlying31 Try.info43 n (by omega) (by omega) wx
  go_enter Try.func19, Try.ntmps19
  go_wp2
  go_loopw [4] (fun y wr => ∃ (k : Nat) (f : Nat → Value), y = .int .i64 k ∧ k ≤ n ∧ wr.rowIs w.heap.size 43 (n * 3) f ∧ Hid (RowD f k N V R) ∧ Below w.heap.size w wr) (fun y _ => n - (intOf y).toNat)
  case atStart => exact ⟨0, _, rfl, Nat.zero_le _, made_row _ _ _ _, fun j hj => by omega, (Below.refl _ _).alloc (Nat.le_refl _) _⟩
  case round =>
    obtain ⟨k, f, rfl, hk, hrow, HF, hbel⟩ := hrel
    have HR : Hid (wr.rowIs w.heap.size 43 (n * 3) f) := hrow
    by_cases hlt : k < n
    · have hltI : (k : Int) < (n : Int) := by omega
      obtain ⟨b0, o0, e0, d0, d1, d2⟩ := hL.out k hlt
      subst e0
      replace d0 := cell_later hbel d0
      replace d1 := cell_later hbel d1
      replace d2 := cell_later hbel d2
      have g0 := hrow.cell (i := k * 3) (by omega)
      have g1 := hrow.cell (i := k * 3 + 1) (by omega)
      have g2 := hrow.cell (i := k * 3 + 2) (by omega)
      have z0 := hrow.frozen (k * 3)
      have z1 := hrow.frozen (k * 3 + 1)
      have z2 := hrow.frozen (k * 3 + 2)
      clear hrow hmk
      go_wp2
      go_region
      go_wp2
      go_roundw
      case rel => exact ⟨k + 1, _, by go_num, by omega, (((HR.out.set (k * 3) (.int .i64 (N k))).set (k * 3 + 1) (.int .i64 (V k))).set (k * 3 + 2) (.int .i64 (R k))).drew, HF.out.step, (((hbel.setCell (Nat.le_refl _) _).setCell (Nat.le_refl _) _).setCell (Nat.le_refl _) _).drew⟩
      case measure => simp [intOf]; omega
    · have hltI : ¬ (k : Int) < (n : Int) := by omega
      obtain rfl : k = n := by omega
      clear hrow hmk
      go_wp2
      go_ret
      exact ⟨_, _, rfl, NilZ_some _ _, HF.out.decs HR.out, hbel⟩

end Go.Proofs.Qxb6604244a
