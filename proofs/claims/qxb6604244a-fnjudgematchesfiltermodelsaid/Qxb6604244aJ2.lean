/-
  ZZJudge.
-/
import Derived.Test.Qxb6604244aJ1
namespace Go.Proofs.Qxb6604244a
open Go.RowKit

set_option maxRecDepth 100000 in
set_option maxHeartbeats 1000000 in
theorem zjudge_any (at' ad : Option Addr) (nt ct k cd : Nat) (vb : Bool) (want bound : Int) (ax au : Option Addr) (m cx u cu : Nat) (D N V R U : Nat → Int) (w : World)
    (hk : k ≤ 65536) (hm : m ≤ 65536) (hu : u ≤ 65536) (hID : Hid (Inc k D)) (hIN : Hid (Inc m N)) (hD : Hid (IntS w ad k D)) (hE : Hid (DecS w ax m N V R)) (hU : Hid (IntS w au u U)) :
    Calls Try.prog 20 #[.slice at' nt ct, .slice ad k cd, .bool vb, .int .i64 want, .int .i64 bound, .slice ax m cx, .slice au u cu] w (JudgePost k vb want bound m u D N V R U w) := by
  go_enter Try.func20, Try.ntmps20
  go_wp2_with fail
  refine (judge_any at' ad nt ct k cd vb want bound ax au m cx u cu D N V R U _ hk hm hu hID hIN (hD.out.later ((Below.refl _ _).alloc (Nat.le_refl _) _)) (hE.out.later ((Below.refl _ _).alloc (Nat.le_refl _) _)) (hU.out.later ((Below.refl _ _).alloc (Nat.le_refl _) _))).mono ?_
  rintro e w1 ⟨g, c, rfl, hown, hb⟩
  have HB : Hid (Below w.heap.size w w1) := ((Below.refl _ _).alloc (Nat.le_refl _) _).trans (hb.mono (by simp))
  have HR : Hid (w1.heap[w.heap.size]? = some (.cells #[.int .i64 0, .int .i64 0, .int .i64 0, .int .i64 0, .int .i64 0] 35 (0, 0))) := (hb.block w.heap.size (by simp)).trans (block_new _ _ _)
  have HO : Hid (w1.ownsRow (w.heap.size + 1) 43 3 (.slice (some ⟨g, 0, none⟩) (KL m N k D).length c) (KL m N k D).length (kCells (KL m N k D) N V R)) := by
    show World.ownsRow _ _ _ _ _ _ _; simpa using hown
  obtain ⟨l, hl⟩ : ∃ l, KL m N k D = l := ⟨_, rfl⟩
  rw [hl] at HO ⊢
  generalize hA : oc (xB (fun i => V (at_ l i)) (V (at_ l 0)) l.length) = A
  generalize hV : vv vb (xB (fun i => V (at_ l i)) want l.length) = Bv
  generalize hC : oc (tB m N k D && uB k D u U) = C
  generalize hM : mx (fun i => R (at_ l i)) l.length = M
  have HE : Hid (KL m N k D = l ∧ oc (xB (fun i => V (at_ l i)) (V (at_ l 0)) l.length) = A ∧ vv vb (xB (fun i => V (at_ l i)) want l.length) = Bv ∧ oc (tB m N k D && uB k D u U) = C ∧ mx (fun i => R (at_ l i)) l.length = M) := ⟨hl, hA, hV, hC, hM⟩
  clear hl hA hV hC hM hown hb
  have z0 : w1.cell? ⟨w.heap.size, 0, none⟩ = some (.int .i64 0) := (block_cell HR.out 0).trans rfl
  have z1 : w1.cell? ⟨w.heap.size, 1, none⟩ = some (.int .i64 0) := (block_cell HR.out 1).trans rfl
  have z2 : w1.cell? ⟨w.heap.size, 2, none⟩ = some (.int .i64 0) := (block_cell HR.out 2).trans rfl
  have z3 : w1.cell? ⟨w.heap.size, 3, none⟩ = some (.int .i64 0) := (block_cell HR.out 3).trans rfl
  have z4 : w1.cell? ⟨w.heap.size, 4, none⟩ = some (.int .i64 0) := (block_cell HR.out 4).trans rfl
  have f0 := block_free HR.out 0
  have f1 := block_free HR.out 1
  have f2 := block_free HR.out 2
  have f3 := block_free HR.out 3
  have f4 := block_free HR.out 4
  unfold vCells
  go_wp2_with fail
  refine bodyPost_ret (v := .tuple #[.slice (some ⟨g, 0, none⟩) l.length c, .agg (vCells A Bv C M bound)]) (by simp [results, Try.results20, go_sem, vCells, z0, z1, z2, z3, z4]) rfl ?_
  refine ⟨g, c, ?_, ?_, ?_⟩
  · rw [HE.out.1, HE.out.2.1, HE.out.2.2.1, HE.out.2.2.2.1, HE.out.2.2.2.2]
  · rw [HE.out.1]
    refine ownsRow_base (B := w.heap.size + 1) ?_ (by omega)
    exact ownsRow_setCell_below (ownsRow_setCell_below (ownsRow_setCell_below (ownsRow_setCell_below (ownsRow_setCell_below HO.out (by simp) _) (by simp) _) (by simp) _) (by simp) _) (by simp) _
  · exact ((((HB.out.setCell (Nat.le_refl _) _).setCell (Nat.le_refl _) _).setCell (Nat.le_refl _) _).setCell (Nat.le_refl _) _).setCell (Nat.le_refl _) _
end Go.Proofs.Qxb6604244a
