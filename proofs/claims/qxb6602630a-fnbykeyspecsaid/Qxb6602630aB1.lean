/-
  WHAT THIS SEAT's WALKS SHARE, AND THE HELPERS OVER OPERATIONS.
-/
import Derived.Test.Qxb6602630aProg
import Derived.Test.Qxb6602630aPlain
import Derived.WalkKit
import Derived.WalkSpells
import Derived.WalkLawsBesides
import Derived.Deep.DeepCutAuto
import Derived.Deep.LoopGhost
import Derived.Deep.OwnRows
import Derived.Deep.QuietTactic
import Derived.BigQuiet
import Derived.RegionTactic
import Derived.ChangeAlike
import Derived.BigRegion
namespace Go.Proofs.Qxb6602630a
open Go.RowKit

/-- a nil slice has no element -/
def NilZ (a : Option Addr) (n : Nat) : Prop := a = none → n = 0
theorem NilZ_some (x : Addr) (n : Nat) : NilZ (some x) n := fun h => by cases h
/-- one operation's eight cells -/
structure OpR where
  cl : Int
  kd : ByteArray
  ky : ByteArray
  vl : ByteArray
  ou : ByteArray
  ca : Int
  re : Int
  an : Bool
structure OpAt (w : World) (b o : Nat) (r : OpR) : Prop where
  c0 : w.cell? ⟨b, o, none⟩ = some (.int .i64 r.cl)
  c1 : w.cell? ⟨b, o + 1, none⟩ = some (.string r.kd)
  c2 : w.cell? ⟨b, o + 2, none⟩ = some (.string r.ky)
  c3 : w.cell? ⟨b, o + 3, none⟩ = some (.string r.vl)
  c4 : w.cell? ⟨b, o + 4, none⟩ = some (.string r.ou)
  c5 : w.cell? ⟨b, o + 5, none⟩ = some (.int .i64 r.ca)
  c6 : w.cell? ⟨b, o + 6, none⟩ = some (.int .i64 r.re)
  c7 : w.cell? ⟨b, o + 7, none⟩ = some (.bool r.an)
/-- A SLICE OF OPERATIONS LIES IN MEMORY. -/
def OpS (w : World) (a : Option Addr) (n : Nat) (R : Nat → OpR) : Prop := ∀ j, j < n → ∃ b off, a = some ⟨b, off, none⟩ ∧ OpAt w b (off + j * 8) (R j)
theorem OpAt.later {w w' : World} {b o : Nat} {r : OpR} (h : OpAt w b o r) (hb : Below w.heap.size w w') : OpAt w' b o r :=
  ⟨cell_later hb h.c0, cell_later hb h.c1, cell_later hb h.c2, cell_later hb h.c3, cell_later hb h.c4, cell_later hb h.c5, cell_later hb h.c6, cell_later hb h.c7⟩
theorem OpS.later {w w' : World} {a : Option Addr} {n : Nat} {R : Nat → OpR} (h : OpS w a n R) (hb : Below w.heap.size w w') : OpS w' a n R := by
  intro j hj
  obtain ⟨b, off, e, c⟩ := h j hj
  exact ⟨b, off, e, c.later hb⟩
structure OpF (f : Nat → Value) (o : Nat) (r : OpR) : Prop where
  f0 : f (o) = .int .i64 r.cl
  f1 : f (o + 1) = .string r.kd
  f2 : f (o + 2) = .string r.ky
  f3 : f (o + 3) = .string r.vl
  f4 : f (o + 4) = .string r.ou
  f5 : f (o + 5) = .int .i64 r.ca
  f6 : f (o + 6) = .int .i64 r.re
  f7 : f (o + 7) = .bool r.an
def put8 (f : Nat → Value) (o : Nat) (r : OpR) : Nat → Value := fun j => if j = o + 7 then .bool r.an else (fun j => if j = o + 6 then .int .i64 r.re else (fun j => if j = o + 5 then .int .i64 r.ca else (fun j => if j = o + 4 then .string r.ou else (fun j => if j = o + 3 then .string r.vl else (fun j => if j = o + 2 then .string r.ky else (fun j => if j = o + 1 then .string r.kd else (fun j => if j = o then .int .i64 r.cl else f j) j) j) j) j) j) j) j
theorem put8_at (f : Nat → Value) (o : Nat) (r : OpR) : OpF (put8 f o r) o r := by
  constructor <;> simp [put8]
theorem put8_other {f : Nat → Value} {o x : Nat} {r : OpR} (h : x < o ∨ o + 8 ≤ x) : put8 f o r x = f x := by
  unfold put8
  simp only [show ¬ (x = o) by omega, show ¬ (x = o + 1) by omega, show ¬ (x = o + 2) by omega, show ¬ (x = o + 3) by omega, show ¬ (x = o + 4) by omega, show ¬ (x = o + 5) by omega, show ¬ (x = o + 6) by omega, show ¬ (x = o + 7) by omega, if_false]
/-- the row holds the first k operations -/
def RowO (f : Nat → Value) (k : Nat) (R : Nat → OpR) : Prop := ∀ j, j < k → OpF f (j * 8) (R j)
theorem RowO.step {f : Nat → Value} {k : Nat} {R : Nat → OpR} (h : RowO f k R) : RowO (put8 f (k * 8) (R k)) (k + 1) R := by
  intro j hj
  by_cases e : j = k
  · subst e; exact put8_at _ _ _
  · have := h j (by omega)
    constructor
    · rw [put8_other (by omega)]; exact this.f0
    · rw [put8_other (by omega)]; exact this.f1
    · rw [put8_other (by omega)]; exact this.f2
    · rw [put8_other (by omega)]; exact this.f3
    · rw [put8_other (by omega)]; exact this.f4
    · rw [put8_other (by omega)]; exact this.f5
    · rw [put8_other (by omega)]; exact this.f6
    · rw [put8_other (by omega)]; exact this.f7
theorem RowO.at {w : World} {g t n k j : Nat} {f : Nat → Value} {R : Nat → OpR} (h : RowO f k R) (r : w.rowIs g t (n * 8) f) (hj : j < k) (hk : k ≤ n) : OpAt w g (j * 8) (R j) := by
  have := h j hj
  constructor
  · rw [r.cell (by omega), this.f0]
  · rw [r.cell (by omega), this.f1]
  · rw [r.cell (by omega), this.f2]
  · rw [r.cell (by omega), this.f3]
  · rw [r.cell (by omega), this.f4]
  · rw [r.cell (by omega), this.f5]
  · rw [r.cell (by omega), this.f6]
  · rw [r.cell (by omega), this.f7]
theorem RowO.ops {w : World} {g t n : Nat} {f : Nat → Value} {R : Nat → OpR} (h : RowO f n R) (r : w.rowIs g t (n * 8) f) : OpS w (some ⟨g, 0, none⟩) n R := by
  intro j hj
  refine ⟨g, 0, rfl, ?_⟩
  rw [Nat.zero_add]
  exact h.at r hj (Nat.le_refl _)
theorem row_set8 {w : World} {g t n o : Nat} {f : Nat → Value} (r : w.rowIs g t n f) (x : OpR) :
    ((((((((w.setCell ⟨g, o, none⟩ (.int .i64 x.cl)).setCell ⟨g, o + 1, none⟩ (.string x.kd)).setCell ⟨g, o + 2, none⟩ (.string x.ky)).setCell ⟨g, o + 3, none⟩ (.string x.vl)).setCell ⟨g, o + 4, none⟩ (.string x.ou)).setCell ⟨g, o + 5, none⟩ (.int .i64 x.ca)).setCell ⟨g, o + 6, none⟩ (.int .i64 x.re)).setCell ⟨g, o + 7, none⟩ (.bool x.an)).rowIs g t n (put8 f o x) := (((((((r.set (o) (.int .i64 x.cl)).set (o + 1) (.string x.kd)).set (o + 2) (.string x.ky)).set (o + 3) (.string x.vl)).set (o + 4) (.string x.ou)).set (o + 5) (.int .i64 x.ca)).set (o + 6) (.int .i64 x.re)).set (o + 7) (.bool x.an)
theorem bel_set8 {a w : World} {B g o : Nat} (h : Below B a w) (hg : B ≤ g) (x : OpR) :
    Below B a ((((((((w.setCell ⟨g, o, none⟩ (.int .i64 x.cl)).setCell ⟨g, o + 1, none⟩ (.string x.kd)).setCell ⟨g, o + 2, none⟩ (.string x.ky)).setCell ⟨g, o + 3, none⟩ (.string x.vl)).setCell ⟨g, o + 4, none⟩ (.string x.ou)).setCell ⟨g, o + 5, none⟩ (.int .i64 x.ca)).setCell ⟨g, o + 6, none⟩ (.int .i64 x.re)).setCell ⟨g, o + 7, none⟩ (.bool x.an)) := (((((((h.setCell hg _).setCell hg _).setCell hg _).setCell hg _).setCell hg _).setCell hg _).setCell hg _).setCell hg _

/-- what one operation is as a value -/
def opV (r : OpR) : Value := .agg #[.int .i64 r.cl, .string r.kd, .string r.ky, .string r.vl, .string r.ou, .int .i64 r.ca, .int .i64 r.re, .bool r.an]

theorem run_make_gen {P : Program} (t e : TypeId) (z : Value) (size bytes : Nat) (ht : P.underlying t = some (.slice e)) (hinfo : (P.info? e).map (fun i => (i.zero, i.size, i.bytes)) = some (some z, size, bytes))
    (n : Nat) (hbytes : bytes * n ≤ 281474976710656) (h63 : n ≤ 9223372036854775807) (w : World) :
    (Instr.makeSlice t (.int .i64 (n : Int)) (.int .i64 (n : Int))).run P w = .ok (.slice (some ⟨w.heap.size, 0, none⟩) n n) (w.alloc (.cells (madeCells z.cells (n * size)) e)) := by
  obtain ⟨i, hi, hzz⟩ := Option.map_eq_some_iff.1 hinfo
  simp only [Prod.mk.injEq] at hzz
  obtain ⟨hz, hs, hb⟩ := hzz
  subst hs; subst hb
  have hb' : (i.bytes : Int) * (n : Int) ≤ 281474976710656 := by
    have h : ((i.bytes * n : Nat) : Int) ≤ 281474976710656 := by omega
    rwa [Int.natCast_mul] at h
  have hr := run_make (P := P) w t e i z ht hi hz .i64 .i64 n n (by omega) (Int.le_refl _) hb' (by omega)
  simpa only [Int.toNat_natCast] using hr
theorem made_row (w : World) (z : Array Value) (N : Nat) (t : TypeId) : (w.alloc (.cells (madeCells z N) t)).rowIs w.heap.size t N (fun i => ((madeCells z N)[i]?).getD (.bool false)) := by
  refine ⟨_, Deep.blk_alloc_new _ _, size_madeCells _ _, fun i hi => ?_⟩
  have h : i < (madeCells z N).size := by rw [size_madeCells]; exact hi
  show (madeCells z N)[i]? = some (((madeCells z N)[i]?).getD (.bool false))
  rw [Array.getElem?_eq_getElem h]; rfl
theorem Try.info43 : (Try.prog.info? 43).map (fun i => (i.zero, i.size, i.bytes)) = some (some (.agg #[.int .i64 0, .string ⟨#[]⟩, .string ⟨#[]⟩, .string ⟨#[]⟩, .string ⟨#[]⟩, .int .i64 0, .int .i64 0, .bool false]), 8, 96) := by kernel_rfl
theorem Try.info41 : (Try.prog.info? 41).map (fun i => (i.zero, i.size, i.bytes)) = some (some (.agg #[.int .i64 0, .string ⟨#[]⟩, .string ⟨#[]⟩, .string ⟨#[]⟩, .string ⟨#[]⟩, .int .i64 0, .int .i64 0, .bool false]), 8, 96) := by kernel_rfl
theorem eql36 (w : World) (a : Option Addr) (n c n' c' : Nat) : (binOp .eql 36 (.slice a n c) (.slice none n' c')).run Try.prog w = .ok (.bool a.isNone) w := Lib.run_eql_slice_nil w _ _ a n c n' c' Try.underlying36
theorem eql44 (w : World) (a : Option Addr) (n c n' c' : Nat) : (binOp .eql 44 (.slice a n c) (.slice none n' c')).run Try.prog w = .ok (.bool a.isNone) w := Lib.run_eql_slice_nil w _ _ a n c n' c' Try.underlying44

/-- SOME BOOL COMES BACK; nothing that was there turns. -/
def BoolPost (w : World) (e : Ending) (w' : World) : Prop := ∃ b : Bool, e = .returned (.bool b) ∧ w = w'
set_option maxRecDepth 100000 in
set_option maxHeartbeats 2000000 in
theorem bytes11_any (a0 : Option Addr) (n c0 : Nat) (R : Nat → OpR) (w : World) (hC : Hid (OpS w a0 n R)) : Calls Try.prog 11 #[.slice a0 n c0] w (BoolPost w) := by
  by_cases h0 : (1048576 : Int) < (n : Int)
  · go_enter Try.func11, Try.ntmps11
    go_wp2
    go_ret
    exact ⟨_, rfl, rfl⟩
  have h0' : (n : Int) ≤ 1048576 := by omega
  go_enter Try.func11, Try.ntmps11
  go_wp2
  go_loop [3, 4] (fun y x => ∃ (k : Nat) (z : Int), x = .int .i64 k ∧ y = .int .i64 z ∧ k ≤ n) (fun _ x => n - (intOf x).toNat)
  case atStart => exact ⟨0, _, rfl, rfl, Nat.zero_le _⟩
  case round =>
    obtain ⟨k, z, rfl, rfl, hk⟩ := hrel
    by_cases hlt : k < n
    · have hltI : (k : Int) < (n : Int) := by omega
      obtain ⟨b, off, rfl, d⟩ := hC.out k hlt
      have d1 := d.c1
      have d2 := d.c2
      have d3 := d.c3
      have d4 := d.c4
      clear d
      go_wp2
      all_goals first
        | (go_ret; exact ⟨_, rfl, rfl⟩)
        | (go_round
           case rel => exact ⟨k + 1, _, by go_num, rfl, by omega⟩
           case measure => simp [intOf]; omega)
    · have hltI : ¬ (k : Int) < (n : Int) := by omega
      go_wp2
      all_goals (go_ret; exact ⟨_, rfl, rfl⟩)

/-! ### zOpBytes -/
def IntPost (w : World) (e : Ending) (w' : World) : Prop := ∃ z : Int, e = .returned (.int .i64 z) ∧ Below w.heap.size w w'
set_option maxRecDepth 100000 in
set_option maxHeartbeats 1000000 in
theorem opBytes_any (r : OpR) (w : World) : Calls Try.prog 25 #[opV r] w (IntPost w) := by
  have HB : Hid (Below w.heap.size w (w.alloc (.cells #[.int .i64 r.cl, .string r.kd, .string r.ky, .string r.vl, .string r.ou, .int .i64 r.ca, .int .i64 r.re, .bool r.an] 43))) := (Below.refl _ _).alloc (Nat.le_refl _) _
  unfold opV
  by_cases h1 : (1048576 : Int) < (r.kd.size : Int)
  · have h1' : decide ((1048576 : Int) < (r.kd.size : Int)) = true := by simpa using h1
    go_enter Try.func25, Try.ntmps25
    go_wp2
    go_ret
    exact ⟨_, rfl, HB.out⟩
  have h1' : decide ((1048576 : Int) < (r.kd.size : Int)) = false := by simpa using h1
  clear h1
  by_cases h2 : (1048576 : Int) < (r.ky.size : Int)
  · have h2' : decide ((1048576 : Int) < (r.ky.size : Int)) = true := by simpa using h2
    go_enter Try.func25, Try.ntmps25
    go_wp2
    go_ret
    exact ⟨_, rfl, HB.out⟩
  have h2' : decide ((1048576 : Int) < (r.ky.size : Int)) = false := by simpa using h2
  clear h2
  by_cases h3 : (1048576 : Int) < (r.vl.size : Int)
  · have h3' : decide ((1048576 : Int) < (r.vl.size : Int)) = true := by simpa using h3
    go_enter Try.func25, Try.ntmps25
    go_wp2
    go_ret
    exact ⟨_, rfl, HB.out⟩
  have h3' : decide ((1048576 : Int) < (r.vl.size : Int)) = false := by simpa using h3
  clear h3
  by_cases h4 : (1048576 : Int) < (r.ou.size : Int)
  · have h4' : decide ((1048576 : Int) < (r.ou.size : Int)) = true := by simpa using h4
    go_enter Try.func25, Try.ntmps25
    go_wp2
    go_ret
    exact ⟨_, rfl, HB.out⟩
  have h4' : decide ((1048576 : Int) < (r.ou.size : Int)) = false := by simpa using h4
  clear h4
  go_enter Try.func25, Try.ntmps25
  go_wp2
  go_ret
  exact ⟨_, rfl, HB.out⟩
end Go.Proofs.Qxb6602630a
