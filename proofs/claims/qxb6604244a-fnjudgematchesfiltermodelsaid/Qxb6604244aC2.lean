/-
  consensusTerms, ZZConsensusTerms.
-/
import Derived.Test.Qxb6604244aC1
namespace Go.Proofs.Qxb6604244a
open Go.RowKit

/-- are the loyal inputs one value, as far as place j? -/
def vB (v : Nat → Int) (j : Nat) : Bool := (List.range j).all fun i => v i == v 0
theorem vB_iff {v : Nat → Int} {j : Nat} : vB v j = true ↔ ∀ i, i < j → v i = v 0 := by
  simp [vB, List.all_eq_true]
theorem vB_succ (v : Nat → Int) (j : Nat) : vB v (j + 1) = (vB v j && (v j == v 0)) := by
  simp [vB, List.range_succ, List.all_append]
/-- the loyal inputs, by their place -/
def lv (X : Nat → Int) (k : Nat) (L : Nat → Int) (n : Nat) (j : Nat) : Int := X (lyAt k L n j)

theorem lyAt_mem {k : Nat} {L : Nat → Int} {n j : Nat} (h : j < (ly k L n).length) : lyAt k L n j < n := by
  have : lyAt k L n j ∈ ly k L n := by simp [lyAt, h]
  exact ly_lt this

/-- the cells of a 'terms' -/
def tCells (af : Option Addr) (k cf g m cl : Nat) (v : Bool) (want bound : Int) : Array Value := #[.slice af k cf, .slice (some ⟨g, 0, none⟩) m cl, .bool v, .int .i64 want, .int .i64 bound]

theorem block_cell {w : World} {T : Nat} {c : Array Value} {t : TypeId} (h : w.heap[T]? = some (.cells c t (0, 0))) (i : Nat) : w.cell? ⟨T, i, none⟩ = c[i]? := by
  simp [World.cell?, h]
theorem block_free {w : World} {T : Nat} {c : Array Value} {t : TypeId} (h : w.heap[T]? = some (.cells c t (0, 0))) (i : Nat) : w.frozen? ⟨T, i, none⟩ = false := by
  simp [World.frozen?, h]
theorem block_set {w : World} {T : Nat} {c : Array Value} {t : TypeId} (h : w.heap[T]? = some (.cells c t (0, 0))) (i : Nat) (v : Value) : (w.setCell ⟨T, i, none⟩ v).heap[T]? = some (.cells (c.setIfInBounds i v) t (0, 0)) := by
  simp [World.setCell, Array.getElem?_modify, h]
theorem block_new (w : World) (c : Array Value) (t : TypeId) : (w.alloc (.cells c t)).heap[w.heap.size]? = some (.cells c t (0, 0)) := Deep.blk_alloc_new _ _

theorem cell_far (w : World) (p a : Addr) (v : Value) (h : a.block ≠ p.block) : (w.setCell p v).cell? a = w.cell? a :=
  World.cell?_of_block (w := w) (Below.heap_setCell w p v a.block h)
theorem IntS.setFar {w : World} {g n : Nat} {L : Nat → Int} (h : IntS w (some ⟨g, 0, none⟩) n L) (p : Addr) (v : Value) (hp : g ≠ p.block) : IntS (w.setCell p v) (some ⟨g, 0, none⟩) n L := by
  intro j hj
  obtain ⟨b, off, e, d⟩ := h j hj
  simp only [Option.some.injEq, Addr.mk.injEq, and_true] at e
  obtain ⟨rfl, rfl⟩ := e
  exact ⟨g, 0, rfl, by rw [cell_far _ _ _ _ hp]; exact d⟩

/-- WHAT consensusTerms LEAVES. -/
def TermsPost (af : Option Addr) (n k cf : Nat) (X L : Nat → Int) (bound : Int) (w : World) (e : Ending) (w' : World) : Prop :=
  ∃ g cl, e = .returned (.agg (tCells af k cf g (ly k L n).length cl (vB (lv X k L n) (ly k L n).length) (if vB (lv X k L n) (ly k L n).length = true then lv X k L n 0 else 0) bound)) ∧
    IntS w' (some ⟨g, 0, none⟩) (ly k L n).length (fun j => (lyAt k L n j : Int)) ∧ Below w.heap.size w w'

set_option maxRecDepth 100000 in
set_option maxHeartbeats 1000000 in
theorem terms_any (a af : Option Addr) (n c k cf : Nat) (X L : Nat → Int) (bound : Int) (w : World) (hn : n ≤ 65536) (hk : k ≤ 65536) (hI : Hid (Inc k L)) (hne : Hid (ly k L n ≠ []))
    (hX : Hid (IntS w a n X)) (hL : Hid (IntS w af k L)) :
    Calls Try.prog 31 #[.slice a n c, .slice af k cf, .int .i64 bound] w (TermsPost af n k cf X L bound w) := by
  have hm0 : 0 < (ly k L n).length := List.length_pos_iff.2 hne.out
  have hmn := ly_length_le k L n
  go_enter Try.func31, Try.ntmps31
  go_wp2_with fail
  refine (loyalNodes_any n af k cf L _ hn hk hI (hL.out.later ((Below.refl _ _).alloc (Nat.le_refl _) _))).mono ?_
  rintro e w1 ⟨cl, rfl, hS1, hlt1, hb1⟩
  have HB1 : Hid (Below w.heap.size w w1) := ((Below.refl _ _).alloc (Nat.le_refl _) _).trans (hb1.mono (by simp))
  have HR1 : Hid (w1.heap[w.heap.size]? = some (.cells #[.slice none 0 0, .slice none 0 0, .bool false, .int .i64 0, .int .i64 0] 50 (0, 0))) := (hb1.block w.heap.size (by simp)).trans (block_new _ _ _)
  have hsz1 : w.heap.size + 1 < w1.heap.size := by simpa using hlt1
  have HX1 : Hid (IntS w1 a n X) := hX.out.later HB1.out
  have HS1 : Hid (IntS w1 (some ⟨w.heap.size + 1, 0, none⟩) (ly k L n).length (fun j => (lyAt k L n j : Int))) := by show IntS _ _ _ _; simpa using hS1
  obtain ⟨m, hm⟩ : ∃ m, m = (ly k L n).length := ⟨_, rfl⟩
  have HM : Hid (m = (ly k L n).length) := hm
  rw [← hm] at hm0 hmn HS1
  simp only [← hm]
  clear hS1 hlt1 hb1 hm hX hL
  go_wp2_with fail
  go_loopw [21] (fun y wr => ∃ (j : Nat), y = .int .i64 j ∧ j ≤ m ∧ Hid (wr.heap[w1.heap.size]? = some (.cells (tCells af k cf (w.heap.size + 1) m cl (vB (lv X k L n) j) 0 bound) 50 (0, 0))) ∧ Below w1.heap.size w1 wr) (fun y _ => m - (intOf y).toNat)
  case atStart => exact ⟨0, rfl, Nat.zero_le _, block_new _ _ _, (Below.refl _ _).alloc (Nat.le_refl _) _⟩
  case round =>
    obtain ⟨j, rfl, hj, HT, hbr⟩ := hrel
    have HB : Hid (Below w1.heap.size w1 wr) := hbr
    have HX2 : Hid (IntS wr a n X) := HX1.out.later hbr
    have HS2 : Hid (IntS wr (some ⟨w.heap.size + 1, 0, none⟩) m (fun j => (lyAt k L n j : Int))) := HS1.out.later hbr
    clear hbr
    have c2 : wr.cell? ⟨w1.heap.size, 2, none⟩ = some (.bool (vB (lv X k L n) j)) := (block_cell HT.out 2).trans rfl
    have f2 := block_free HT.out 2
    by_cases hlt : j < m
    · have hltI : (j : Int) < (m : Int) := by omega
      have hlj := lyAt_mem (k := k) (L := L) (n := n) (j := j) (by rw [← HM.out]; exact hlt)
      have hl0 := lyAt_mem (k := k) (L := L) (n := n) (j := 0) (by rw [← HM.out]; exact hm0)
      obtain ⟨b, off, rfl, dj⟩ := HX2.out _ hlj
      obtain ⟨b', off', e', d0⟩ := HX2.out _ hl0
      simp only [Option.some.injEq, Addr.mk.injEq, and_true] at e'
      obtain ⟨rfl, rfl⟩ := e'
      obtain ⟨b2, off2, e2, l0⟩ := HS2.out 0 hm0
      obtain ⟨b3, off3, e3, lj⟩ := HS2.out j hlt
      simp only [Option.some.injEq, Addr.mk.injEq, and_true] at e2 e3
      obtain ⟨rfl, rfl⟩ := e2
      obtain ⟨rfl, rfl⟩ := e3
      simp only [Nat.zero_add] at l0 lj
      have vs := vB_succ (lv X k L n) j
      have VS : Hid (vB (lv X k L n) (j + 1) = (vB (lv X k L n) j && (X (lyAt k L n j) == X (lyAt k L n 0)))) := vs
      clear vs
      generalize lyAt k L n j = pj at *
      generalize lyAt k L n 0 = p0 at *
      have hpjI : (pj : Int) < (n : Int) := by omega
      have hp0I : (p0 : Int) < (n : Int) := by omega
      cases hv : vB (lv X k L n) j
      · rw [hv] at c2 VS HT
        clear hv
        go_wp2_with fail
        go_region
        go_wp2
        go_roundw
        case rel =>
          refine ⟨j + 1, by go_num, by omega, ?_, (HB.out.setCell (Nat.le_refl _) _).drew⟩
          rw [VS.out]
          exact block_set HT.out 2 (.bool false)
        case measure => simp [intOf]; omega
      · rw [hv] at c2 VS HT
        clear hv
        cases he : (X pj == X p0)
        all_goals
          rw [he] at VS
          go_wp2_with fail
          go_region
          go_wp2
          go_roundw
          case rel =>
            refine ⟨j + 1, by go_num, by omega, ?_, (HB.out.setCell (Nat.le_refl _) _).drew⟩
            rw [VS.out]
            exact block_set HT.out 2 _
          case measure => simp [intOf]; omega
    · have hltI : ¬ (j : Int) < (m : Int) := by omega
      obtain rfl : j = m := by omega
      have hl0 := lyAt_mem (k := k) (L := L) (n := n) (j := 0) (by rw [← HM.out]; exact hm0)
      obtain ⟨b, off, rfl, d0⟩ := HX2.out _ hl0
      obtain ⟨b2, off2, e2, l0⟩ := HS2.out 0 hm0
      simp only [Option.some.injEq, Addr.mk.injEq, and_true] at e2
      obtain ⟨rfl, rfl⟩ := e2
      simp only [Nat.zero_add] at l0
      have HR2 : Hid (wr.heap[w.heap.size]? = some (.cells #[.slice none 0 0, .slice none 0 0, .bool false, .int .i64 0, .int .i64 0] 50 (0, 0))) := (HB.out.block w.heap.size (by omega)).trans HR1.out
      have c0 : wr.cell? ⟨w1.heap.size, 0, none⟩ = some (.slice af k cf) := (block_cell HT.out 0).trans rfl
      have c1 : wr.cell? ⟨w1.heap.size, 1, none⟩ = some (.slice (some ⟨w.heap.size + 1, 0, none⟩) j cl) := (block_cell HT.out 1).trans rfl
      have c3 : wr.cell? ⟨w1.heap.size, 3, none⟩ = some (.int .i64 0) := (block_cell HT.out 3).trans rfl
      have c4 : wr.cell? ⟨w1.heap.size, 4, none⟩ = some (.int .i64 bound) := (block_cell HT.out 4).trans rfl
      have f3 := block_free HT.out 3
      have r0 : wr.cell? ⟨w.heap.size, 0, none⟩ = some (.slice none 0 0) := (block_cell HR2.out 0).trans rfl
      have r1 : wr.cell? ⟨w.heap.size, 1, none⟩ = some (.slice none 0 0) := (block_cell HR2.out 1).trans rfl
      have r2 : wr.cell? ⟨w.heap.size, 2, none⟩ = some (.bool false) := (block_cell HR2.out 2).trans rfl
      have r3 : wr.cell? ⟨w.heap.size, 3, none⟩ = some (.int .i64 0) := (block_cell HR2.out 3).trans rfl
      have r4 : wr.cell? ⟨w.heap.size, 4, none⟩ = some (.int .i64 0) := (block_cell HR2.out 4).trans rfl
      have g0 := block_free HR2.out 0
      have g1 := block_free HR2.out 1
      have g2 := block_free HR2.out 2
      have g3 := block_free HR2.out 3
      have g4 := block_free HR2.out 4
      have hpI : ((lyAt k L n 0 : Nat) : Int) < (n : Int) := by omega
      have hmI : (0 : Int) < (j : Int) := by omega
      have hne1 : ¬ (w.heap.size = w1.heap.size) := by omega
      have hne2 : ¬ (w1.heap.size = w.heap.size) := by omega
      cases hv : vB (lv X k L n) j
      · rw [hv] at c2
        have fin : Hid (vB (lv X k L n) j = false) := hv
        clear hv
        go_wp2
        refine bodyPost_ret (v := .agg (tCells af k cf (w.heap.size + 1) j cl false 0 bound)) (by simp [results, Try.results31, go_sem, tCells, r0, r1, r2, r3, r4]) rfl ?_
        refine ⟨w.heap.size + 1, cl, ?_, ?_, ?_⟩
        · rw [← HM.out, fin.out]; rfl
        · rw [← HM.out]
          exact ((((HS2.out.setFar _ _ (by simp)).setFar _ _ (by simp)).setFar _ _ (by simp)).setFar _ _ (by simp)).setFar _ _ (by simp)
        · exact (((((HB1.out.trans (HB.out.mono (by omega))).setCell (Nat.le_refl _) _).setCell (Nat.le_refl _) _).setCell (Nat.le_refl _) _).setCell (Nat.le_refl _) _).setCell (Nat.le_refl _) _
      · rw [hv] at c2
        have fin : Hid (vB (lv X k L n) j = true) := hv
        clear hv
        go_wp2
        refine bodyPost_ret (v := .agg (tCells af k cf (w.heap.size + 1) j cl true (X (lyAt k L n 0)) bound)) (by simp [results, Try.results31, go_sem, tCells, r0, r1, r2, r3, r4]) rfl ?_
        refine ⟨w.heap.size + 1, cl, ?_, ?_, ?_⟩
        · rw [← HM.out, fin.out]; rfl
        · rw [← HM.out]
          exact (((((HS2.out.setFar ⟨w1.heap.size, 3, none⟩ _ (by simp; omega)).setFar _ _ (by simp)).setFar _ _ (by simp)).setFar _ _ (by simp)).setFar _ _ (by simp)).setFar _ _ (by simp)
        · exact ((((((HB1.out.trans (HB.out.mono (by omega))).setCell (by show _ ≤ w1.heap.size; omega) _).setCell (Nat.le_refl _) _).setCell (Nat.le_refl _) _).setCell (Nat.le_refl _) _).setCell (Nat.le_refl _) _).setCell (Nat.le_refl _) _

/-- WHAT ZZConsensusTerms LEAVES. -/
def ZTermsPost (af : Option Addr) (n k cf : Nat) (X L : Nat → Int) (bound : Int) (w : World) (e : Ending) (w' : World) : Prop :=
  ∃ g cl, e = .returned (.tuple (tCells af k cf g (ly k L n).length cl (vB (lv X k L n) (ly k L n).length) (if vB (lv X k L n) (ly k L n).length = true then lv X k L n 0 else 0) bound)) ∧
    IntS w' (some ⟨g, 0, none⟩) (ly k L n).length (fun j => (lyAt k L n j : Int)) ∧ Below w.heap.size w w'

set_option maxRecDepth 100000 in
set_option maxHeartbeats 1000000 in
theorem zterms_any (a af : Option Addr) (n c k cf : Nat) (X L : Nat → Int) (bound : Int) (w : World) (hn : n ≤ 65536) (hk : k ≤ 65536) (hI : Hid (Inc k L)) (hne : Hid (ly k L n ≠ []))
    (hX : Hid (IntS w a n X)) (hL : Hid (IntS w af k L)) :
    Calls Try.prog 26 #[.slice a n c, .slice af k cf, .int .i64 bound] w (ZTermsPost af n k cf X L bound w) := by
  go_enter Try.func26, Try.ntmps26
  go_wp2_with fail
  refine (terms_any a af n c k cf X L bound w hn hk hI hne hX hL).mono ?_
  rintro e w1 ⟨g, cl, rfl, hS, hb⟩
  have HS : Hid (IntS w1 (some ⟨g, 0, none⟩) (ly k L n).length (fun j => (lyAt k L n j : Int)) ∧ Below w.heap.size w w1) := ⟨hS, hb⟩
  generalize hm : (ly k L n).length = m at HS ⊢
  generalize hV : vB (lv X k L n) m = V
  generalize hW : (if V = true then lv X k L n 0 else 0) = want
  have HE : Hid ((ly k L n).length = m ∧ vB (lv X k L n) m = V ∧ (if V = true then lv X k L n 0 else 0) = want) := ⟨hm, hV, hW⟩
  clear hm hV hW
  unfold tCells
  clear hS hb
  go_wp2_with fail
  go_quiet (fail)
  go_wp2
  refine bodyPost_ret (v := .tuple #[.slice af k cf, .slice (some ⟨g, 0, none⟩) m cl, .bool V, .int .i64 want, .int .i64 bound]) (by simp [results, Try.results26, go_sem]) rfl ?_
  refine ⟨g, cl, by rw [HE.out.1, HE.out.2.1, HE.out.2.2]; rfl, ?_, ?_⟩
  · rw [HE.out.1]
    exact HS.out.1.later (((Below.refl _ _).alloc (Nat.le_refl _) _).trans (below_drewN (Below.refl _ _) _))
  · exact (HS.out.2.alloc HS.out.2.size _).trans (below_drewN (Below.refl _ _) _)
end Go.Proofs.Qxb6604244a
