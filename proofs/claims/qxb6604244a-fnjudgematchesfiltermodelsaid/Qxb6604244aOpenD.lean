/-
  A SLICE OF Dec (three integers), OPENED.
-/
import Derived.Test.Qxb6604244aK1
import Derived.ProofKit
import Derived.Deep.Slices
import Derived.Deep.Strs
namespace Go.Proofs.Qxb6604244a
open Go.ChangeShapes Go.WideShapes Go.RowKit Go.Deep

theorem Try.cells39 : Try.prog.cellsOf 39 = 3 := by kernel_rfl
theorem Try.cells3 : Try.prog.cellsOf 3 = 1 := by kernel_rfl

theorem open_decs {H : Type} {enc : TypeId × Value → H} {W : World} {a : Option Addr} {len cap : Nat} {d : DataW H} {p : List MemPlace}
    (h : DataW.Trod enc Try.prog W 0 (fun _ => true) true 26 (.slice a len cap) d p) : NilZ a len ∧ ∃ N V R : Nat → Int, DecS W a len N V R := by
  obtain ⟨fuel, hf⟩ := h
  rcases open_slice Try.underlying26 hf with ⟨hcs, _⟩ | ⟨x, l, c, m, n, D, Pl, hcs, _, hl, hm, hmm, _, hel⟩
  · simp [Value.cells] at hcs
    obtain ⟨rfl, rfl, rfl⟩ := hcs
    exact ⟨fun _ => rfl, fun _ => 0, fun _ => 0, fun _ => 0, fun j hj => by omega⟩
  · simp [Value.cells] at hcs
    obtain ⟨rfl, rfl, rfl⟩ := hcs
    refine ⟨NilZ_some _ _, ?_⟩
    have hmc : m = cap := by simpa using hmm
    have each : ∀ i, i < len → ∃ q : Int × Int × Int, W.cell? ((x.add (i * 3)).add 0) = some (.int .i64 q.1) ∧ W.cell? ((x.add (i * 3)).add 1) = some (.int .i64 q.2.1) ∧ W.cell? ((x.add (i * 3)).add 2) = some (.int .i64 q.2.2) := by
      intro i hi
      obtain ⟨cs', h1, h2⟩ := hel i (by omega)
      rw [Try.cells39] at h1
      obtain ⟨y0, y1, y2, k, _, hlen, t0, t1, t2⟩ := trod_struct3 Try.underlying39 h2
      rw [Try.cells39] at hlen
      simp only [Try.cells3] at t0 t1 t2
      obtain ⟨v0, e0, _, _⟩ := DataW.trod_int Try.underlying3 t0
      obtain ⟨v1, e1, _, _⟩ := DataW.trod_int Try.underlying3 t1
      obtain ⟨v2, e2, _, _⟩ := DataW.trod_int Try.underlying3 t2
      match cs', hlen with
      | [x0, x1, x2], _ =>
        simp at e0 e1 e2
        subst e0; subst e1; subst e2
        obtain ⟨_, _, hc⟩ := World.cells?_some h1
        exact ⟨(v0, v1, v2), by simpa using hc 0 (by omega), by simpa using hc 1 (by omega), by simpa using hc 2 (by omega)⟩
    obtain ⟨f, hfn⟩ := choose_lt each
    refine ⟨fun i => (f i).1, fun i => (f i).2.1, fun i => (f i).2.2, fun j hj => ?_⟩
    obtain ⟨b, off, spot⟩ := x
    obtain ⟨h0, h1, h2⟩ := hfn j hj
    have hspot : spot = none := by
      have := World.cell?_spot (hfn 0 (by omega)).1
      simpa [Addr.add] using this
    subst hspot
    rw [add_plain, add_plain] at h0 h1 h2
    rw [Nat.add_zero] at h0
    exact ⟨b, off, rfl, h0, h1, h2⟩
end Go.Proofs.Qxb6604244a
