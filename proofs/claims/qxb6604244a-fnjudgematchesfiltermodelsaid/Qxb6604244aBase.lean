/-
  WHAT THIS SEAT's WALKS SHARE: slices of integers in memory, rows of the call's own, worlds that part in draws or in one block alone.
-/
import Derived.Test.Qxb6604244aProg
import Derived.WalkKit
import Derived.WalkSpells
import Derived.WalkLawsBesides
import Derived.Deep.DeepCutAuto
import Derived.Deep.LoopGhost
import Derived.Deep.OwnRows
import Derived.Deep.QuietTactic
import Derived.BigQuiet
import Derived.RegionTactic
import Derived.ChangeAlike
import Derived.BigRegion
namespace Go.Proofs.Qxb6604244a
open Go.RowKit

/-- A SLICE OF INTEGERS LIES IN MEMORY. -/
def IntS (w : World) (a : Option Addr) (n : Nat) (L : Nat → Int) : Prop :=
  ∀ j, j < n → ∃ b off, a = some ⟨b, off, none⟩ ∧ w.cell? ⟨b, off + j, none⟩ = some (.int .i64 (L j))
/-- a nil slice has no element -/
def NilZ (a : Option Addr) (n : Nat) : Prop := a = none → n = 0
theorem NilZ_some (x : Addr) (n : Nat) : NilZ (some x) n := fun h => by cases h

/-- NOTHING HAS TURNED but draws. -/
structure Same (w w' : World) : Prop where
  os : w'.os = w.os
  tape : w'.tape = w.tape
  output : w'.output = w.output
  heap : w'.heap = w.heap
theorem Same.refl (w : World) : Same w w := ⟨rfl, rfl, rfl, rfl⟩
theorem Same.trans {a b c : World} (h : Same a b) (k : Same b c) : Same a c := ⟨k.os.trans h.os, k.tape.trans h.tape, k.output.trans h.output, k.heap.trans h.heap⟩
theorem Same.drew {a b : World} (h : Same a b) : Same a b.drew := ⟨h.os, h.tape, h.output, h.heap⟩
theorem Same.drewN {a b : World} (h : Same a b) (n : Nat) : Same a (b.drewN n) := h.trans ⟨rfl, rfl, rfl, rfl⟩
theorem Same.cell {w w' : World} (h : Same w w') (a : Addr) : w'.cell? a = w.cell? a := by simp [World.cell?, h.heap]
theorem Same.below {w w' : World} (h : Same w w') (B : Nat) : Below B w w' := ⟨h.os, h.tape, h.output, by rw [h.heap]; exact Nat.le_refl _, fun k _ => by rw [h.heap]⟩
theorem Same.row {w w' : World} (h : Same w w') {g t n f} (r : w.rowIs g t n f) : w'.rowIs g t n f := r.of_block (by rw [h.heap])
theorem Same.ints {w w' : World} (h : Same w w') {a n L} (r : IntS w a n L) : IntS w' a n L := by
  intro j hj
  obtain ⟨b, off, e, d⟩ := r j hj
  exact ⟨b, off, e, by rw [h.cell]; exact d⟩
theorem Same.size {w w' : World} (h : Same w w') : w'.heap.size = w.heap.size := by rw [h.heap]

/-- BLOCK g ALONE HAS TURNED. -/
structure Only (g : Nat) (w w' : World) : Prop where
  os : w'.os = w.os
  tape : w'.tape = w.tape
  output : w'.output = w.output
  size : w'.heap.size = w.heap.size
  block : ∀ k, k ≠ g → w'.heap[k]? = w.heap[k]?
theorem Only.refl (g : Nat) (w : World) : Only g w w := ⟨rfl, rfl, rfl, rfl, fun _ _ => rfl⟩
theorem Only.trans {g : Nat} {a b c : World} (h : Only g a b) (k : Only g b c) : Only g a c := ⟨k.os.trans h.os, k.tape.trans h.tape, k.output.trans h.output, k.size.trans h.size, fun i hi => (k.block i hi).trans (h.block i hi)⟩
theorem Only.setCell {g : Nat} {a w : World} (h : Only g a w) (o : Nat) (v : Value) : Only g a (w.setCell ⟨g, o, none⟩ v) :=
  h.trans ⟨rfl, rfl, rfl, by simp [World.setCell], fun k hk => Below.heap_setCell _ _ _ _ hk⟩
theorem Only.drew {g : Nat} {a w : World} (h : Only g a w) : Only g a w.drew := ⟨h.os, h.tape, h.output, h.size, h.block⟩
theorem Only.same {g : Nat} {a w w' : World} (h : Only g a w) (s : Same w w') : Only g a w' := h.trans ⟨s.os, s.tape, s.output, by rw [s.heap], fun k _ => by rw [s.heap]⟩
theorem Only.below {g B : Nat} {w w' : World} (h : Only g w w') (hB : B ≤ g) : Below B w w' := ⟨h.os, h.tape, h.output, by rw [h.size]; exact Nat.le_refl _, fun k hk => h.block k (by omega)⟩
theorem Only.row {g g' : Nat} {w w' : World} (h : Only g w w') (hg : g' ≠ g) {t n f} (r : w.rowIs g' t n f) : w'.rowIs g' t n f := r.of_block (h.block _ hg)

/-- A ROW OF INTEGERS OF THE CALL's OWN, from block B on. -/
def Own (w : World) (B : Nat) (a : Option Addr) (n : Nat) (L : Nat → Int) : Prop :=
  n = 0 ∨ ∃ g, a = some ⟨g, 0, none⟩ ∧ B ≤ g ∧ w.rowIs g 3 n (fun j => .int .i64 (L j))
theorem Own.ints {w : World} {B : Nat} {a : Option Addr} {n : Nat} {L : Nat → Int} (h : Own w B a n L) : IntS w a n L := by
  intro j hj
  rcases h with h | ⟨g, e, _, r⟩
  · omega
  · exact ⟨g, 0, e, by rw [Nat.zero_add]; exact r.cell hj⟩
theorem Own.below {w w' : World} {B : Nat} {a : Option Addr} {n : Nat} {L : Nat → Int} (h : Own w B a n L) (hb : Below w.heap.size w w') : Own w' B a n L := by
  rcases h with h | ⟨g, e, hg, r⟩
  · exact .inl h
  · exact .inr ⟨g, e, hg, r.of_block (hb.block g r.lt)⟩
theorem Own.same {w w' : World} {B : Nat} {a : Option Addr} {n : Nat} {L : Nat → Int} (h : Own w B a n L) (s : Same w w') : Own w' B a n L := h.below (s.below _)
theorem Own.mono {w : World} {B B' : Nat} {a : Option Addr} {n : Nat} {L : Nat → Int} (h : Own w B a n L) (hB : B' ≤ B) : Own w B' a n L := by
  rcases h with h | ⟨g, e, hg, r⟩
  · exact .inl h
  · exact .inr ⟨g, e, by omega, r⟩
theorem IntS.later {w w' : World} {a : Option Addr} {n : Nat} {L : Nat → Int} (h : IntS w a n L) (hb : Below w.heap.size w w') : IntS w' a n L := by
  intro j hj
  obtain ⟨b, off, e, c⟩ := h j hj
  exact ⟨b, off, e, cell_later hb c⟩

theorem Try.info3 : (Try.prog.info? 3).map (fun i => (i.zero, i.size, i.bytes)) = some (some (.int .i64 0), 1, 8) := by kernel_rfl
theorem Try.size3 : (Try.prog.info? 3).map (·.size) = some 1 := by kernel_rfl
theorem eql22 (w : World) (a : Option Addr) (n c n' c' : Nat) : (binOp .eql 22 (.slice a n c) (.slice none n' c')).run Try.prog w = .ok (.bool a.isNone) w := Lib.run_eql_slice_nil w _ _ a n c n' c' Try.underlying22

/-- SOME BOOL COMES BACK; nothing turns. -/
def BoolPost (w : World) (e : Ending) (w' : World) : Prop := ∃ b : Bool, e = .returned (.bool b) ∧ Same w w'

/-! ### cloneInts -/
def ClonePost (w : World) (a : Option Addr) (n : Nat) (L : Nat → Int) (e : Ending) (w' : World) : Prop :=
  ∃ a' c', e = .returned (.slice a' n c') ∧ n ≤ c' ∧ NilZ a' n ∧ (a'.isNone = a.isNone) ∧ Own w' w.heap.size a' n L ∧ Below w.heap.size w w'

set_option maxHeartbeats 400000 in
theorem clone_any (a : Option Addr) (n c : Nat) (L : Nat → Int) (w : World) (hn : n ≤ 1048576) (Z : NilZ a n) (hL : Hid (IntS w a n L)) :
    Calls Try.prog 9 #[.slice a n c] w (ClonePost w a n L) := by
  have q22 := eql22
  cases a with
  | none =>
    obtain rfl := Z rfl
    go_enter Try.func9, Try.ntmps9
    go_wp2
    go_ret
    exact ⟨none, 0, rfl, Nat.le_refl _, fun _ => rfl, rfl, .inl rfl, Below.refl _ _⟩
  | some x =>
    have hmk := fun wx => run_make_row' (P := Try.prog) 22 3 (.int .i64 0) 8 Try.underlying22 Try.info3 rfl .i64 .i64 n (by omega) (by omega) wx
    go_enter Try.func9, Try.ntmps9
    go_wp2
    go_loopw [4] (fun y wr => ∃ (k : Nat) (f : Nat → Value), y = .int .i64 k ∧ k ≤ n ∧ wr.rowIs w.heap.size 3 n f ∧ (∀ j, j < k → f j = .int .i64 (L j)) ∧ Below w.heap.size w wr) (fun y _ => n - (intOf y).toNat)
    case atStart =>
      exact ⟨0, _, rfl, Nat.zero_le _, World.rowIs_made _ _ _ _, fun j hj => by omega, (Below.refl _ _).alloc (Nat.le_refl _) _⟩
    case round =>
      obtain ⟨k, f, rfl, hk, hrow, hf, hbel⟩ := hrel
      have HF : Hid (∀ j, j < k → f j = .int .i64 (L j)) := hf
      clear hf
      by_cases hlt : k < n
      · have hltI : (k : Int) < (n : Int) := by omega
        obtain ⟨b0, o0, e0, d0⟩ := hL.out k hlt
        obtain rfl := Option.some.inj e0
        clear e0
        replace d0 := cell_later hbel d0
        have g0 := hrow.cell hlt
        have z0 := hrow.frozen k
        have HR : Hid (wr.rowIs w.heap.size 3 n f) := hrow
        clear hrow hmk q22
        go_wp2
        go_roundw
        case rel =>
          refine ⟨k + 1, _, by go_num, by omega, HR.out.set k (.int .i64 (L k)), ?_, hbel.setCell (Nat.le_refl _) _⟩
          intro j hj
          by_cases e : j = k
          · subst e; simp
          · simp only [e, if_false]; exact HF.out j (by omega)
        case measure => simp [intOf]; omega
      · have hltI : ¬ (k : Int) < (n : Int) := by omega
        have HR : Hid (wr.rowIs w.heap.size 3 n f) := hrow
        clear hrow hmk q22
        go_wp2
        go_ret
        refine ⟨_, _, rfl, Nat.le_refl _, NilZ_some _ _, rfl, .inr ⟨w.heap.size, rfl, Nat.le_refl _, HR.out.congr fun i hi => ?_⟩, hbel⟩
        exact HF.out i (by omega)

end Go.Proofs.Qxb6604244a
