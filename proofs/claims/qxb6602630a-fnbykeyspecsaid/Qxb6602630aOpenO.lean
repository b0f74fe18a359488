/-
  A SLICE OF OPERATIONS (eight cells), OPENED.
-/
import Derived.Test.Qxb6602630aB1
import Derived.ProofKit
import Derived.SliceStrings
import Derived.Deep.Slices
import Derived.Deep.Strs
namespace Go.Proofs.Qxb6602630a
open Go.ChangeShapes Go.WideShapes Go.RowKit Go.Deep

theorem Try.cells43 : Try.prog.cellsOf 43 = 8 := by kernel_rfl
theorem Try.cells9 : Try.prog.cellsOf 9 = 1 := by kernel_rfl
theorem Try.cells3 : Try.prog.cellsOf 3 = 1 := by kernel_rfl
theorem Try.cells2 : Try.prog.cellsOf 2 = 1 := by kernel_rfl
theorem Try.cells4 : Try.prog.cellsOf 4 = 1 := by kernel_rfl

theorem open_ops {H : Type} {enc : TypeId × Value → H} {W : World} {a : Option Addr} {len cap : Nat} {d : DataW H} {p : List MemPlace}
    (h : DataW.Trod enc Try.prog W 0 (fun _ => true) true 36 (.slice a len cap) d p) : NilZ a len ∧ ∃ R : Nat → OpR, OpS W a len R ∧ ∀ j, j < len → (R j).ky.size ≤ maxLen := by
  obtain ⟨fuel, hf⟩ := h
  rcases open_slice Try.underlying36 hf with ⟨hcs, _⟩ | ⟨x, l, c, m, n, D, Pl, hcs, _, hl, hm, hmm, _, hel⟩
  · simp [Value.cells] at hcs
    obtain ⟨rfl, rfl, rfl⟩ := hcs
    exact ⟨fun _ => rfl, fun _ => ⟨0, ⟨#[]⟩, ⟨#[]⟩, ⟨#[]⟩, ⟨#[]⟩, 0, 0, false⟩, fun j hj => by omega, fun j hj => by omega⟩
  · simp [Value.cells] at hcs
    obtain ⟨rfl, rfl, rfl⟩ := hcs
    refine ⟨NilZ_some _ _, ?_⟩
    have hmc : m = cap := by simpa using hmm
    have each : ∀ i, i < len → ∃ q : OpR, W.cell? ((x.add (i * 8)).add 0) = some (.int .i64 q.cl) ∧ W.cell? ((x.add (i * 8)).add 1) = some (.string q.kd) ∧ W.cell? ((x.add (i * 8)).add 2) = some (.string q.ky) ∧ W.cell? ((x.add (i * 8)).add 3) = some (.string q.vl) ∧ W.cell? ((x.add (i * 8)).add 4) = some (.string q.ou) ∧ W.cell? ((x.add (i * 8)).add 5) = some (.int .i64 q.ca) ∧ W.cell? ((x.add (i * 8)).add 6) = some (.int .i64 q.re) ∧ W.cell? ((x.add (i * 8)).add 7) = some (.bool q.an) ∧ q.ky.size ≤ maxLen := by
      intro i hi
      obtain ⟨cs', h1, h2⟩ := hel i (by omega)
      rw [Try.cells43] at h1
      obtain ⟨xs, k, _, _, hlen, hxs, hfs⟩ := DataW.trod_struct Try.underlying43 h2
      rw [Try.cells43] at hlen
      match xs, hxs with
      | [y0, y1, y2, y3, y4, y5, y6, y7], _ =>
      have t0 := hfs 0 _ rfl
      have t1 := hfs 1 _ rfl
      have t2 := hfs 2 _ rfl
      have t3 := hfs 3 _ rfl
      have t4 := hfs 4 _ rfl
      have t5 := hfs 5 _ rfl
      have t6 := hfs 6 _ rfl
      have t7 := hfs 7 _ rfl
      obtain ⟨v0, e0, _⟩ := DataW.trod_int Try.underlying3 (t0 : DataW.trod enc Try.prog W 0 (fun _ => true) true _ 3 ((cs'.drop 0).take (Try.prog.cellsOf 3)) = some _)
      obtain ⟨v1, e1, _, z1⟩ := DataW.trod_string Try.underlying9 (t1 : DataW.trod enc Try.prog W 0 (fun _ => true) true _ 9 ((cs'.drop 1).take (Try.prog.cellsOf 9)) = some _)
      obtain ⟨v2, e2, _, z2⟩ := DataW.trod_string Try.underlying9 (t2 : DataW.trod enc Try.prog W 0 (fun _ => true) true _ 9 ((cs'.drop 2).take (Try.prog.cellsOf 9)) = some _)
      obtain ⟨v3, e3, _, z3⟩ := DataW.trod_string Try.underlying9 (t3 : DataW.trod enc Try.prog W 0 (fun _ => true) true _ 9 ((cs'.drop 3).take (Try.prog.cellsOf 9)) = some _)
      obtain ⟨v4, e4, _, z4⟩ := DataW.trod_string Try.underlying9 (t4 : DataW.trod enc Try.prog W 0 (fun _ => true) true _ 9 ((cs'.drop 4).take (Try.prog.cellsOf 9)) = some _)
      obtain ⟨v5, e5, _⟩ := DataW.trod_int Try.underlying2 (t5 : DataW.trod enc Try.prog W 0 (fun _ => true) true _ 2 ((cs'.drop 5).take (Try.prog.cellsOf 2)) = some _)
      obtain ⟨v6, e6, _⟩ := DataW.trod_int Try.underlying2 (t6 : DataW.trod enc Try.prog W 0 (fun _ => true) true _ 2 ((cs'.drop 6).take (Try.prog.cellsOf 2)) = some _)
      obtain ⟨v7, e7, _⟩ := DataW.trod_bool Try.underlying4 (t7 : DataW.trod enc Try.prog W 0 (fun _ => true) true _ 4 ((cs'.drop 7).take (Try.prog.cellsOf 4)) = some _)
      match cs', hlen with
      | [x0, x1, x2, x3, x4, x5, x6, x7], _ =>
        simp [Try.cells3] at e0
        simp [Try.cells9] at e1
        simp [Try.cells9] at e2
        simp [Try.cells9] at e3
        simp [Try.cells9] at e4
        simp [Try.cells2] at e5
        simp [Try.cells2] at e6
        simp [Try.cells4] at e7
        subst e0; subst e1; subst e2; subst e3; subst e4; subst e5; subst e6; subst e7
        obtain ⟨_, _, hc⟩ := World.cells?_some h1
        exact ⟨⟨v0, v1, v2, v3, v4, v5, v6, v7⟩, by simpa using hc 0 (by omega), by simpa using hc 1 (by omega), by simpa using hc 2 (by omega), by simpa using hc 3 (by omega), by simpa using hc 4 (by omega), by simpa using hc 5 (by omega), by simpa using hc 6 (by omega), by simpa using hc 7 (by omega), z2⟩
    haveI : Inhabited OpR := ⟨⟨0, ⟨#[]⟩, ⟨#[]⟩, ⟨#[]⟩, ⟨#[]⟩, 0, 0, false⟩⟩
    obtain ⟨f, hfn⟩ := choose_lt each
    refine ⟨f, fun j hj => ?_, fun j hj => (hfn j hj).2.2.2.2.2.2.2.2⟩
    obtain ⟨b, off, spot⟩ := x
    obtain ⟨h0, h1, h2, h3, h4, h5, h6, h7, _⟩ := hfn j hj
    have hspot : spot = none := by
      have := World.cell?_spot (hfn 0 (by omega)).1
      simpa [Addr.add] using this
    subst hspot
    rw [add_plain, add_plain] at h0 h1 h2 h3 h4 h5 h6 h7
    rw [Nat.add_zero] at h0
    exact ⟨b, off, rfl, ⟨h0, h1, h2, h3, h4, h5, h6, h7⟩⟩
end Go.Proofs.Qxb6602630a
