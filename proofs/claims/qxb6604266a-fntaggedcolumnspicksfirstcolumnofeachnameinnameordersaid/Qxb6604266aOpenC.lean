/-
  A SLICE OF COLUMNS (two strings) AND A SLICE OF STRINGS, OPENED.
-/
import Derived.Test.Qxb6604266aT1
import Derived.ProofKit
import Derived.SliceStrings
import Derived.Deep.Slices
import Derived.Deep.Strs
namespace Go.Proofs.Qxb6604266a
open Go.ChangeShapes Go.WideShapes Go.RowKit Go.Deep

theorem Try.cells31 : Try.prog.cellsOf 31 = 2 := by kernel_rfl
theorem Try.cells9 : Try.prog.cellsOf 9 = 1 := by kernel_rfl

theorem open_cols {H : Type} {enc : TypeId × Value → H} {W : World} {a : Option Addr} {len cap : Nat} {d : DataW H} {p : List MemPlace}
    (h : DataW.Trod enc Try.prog W 0 (fun _ => true) true 22 (.slice a len cap) d p) : NilZ a len ∧ ∃ C T : Nat → ByteArray, ColS W a len C T ∧ ∀ j, j < len → (C j).size ≤ maxLen := by
  obtain ⟨fuel, hf⟩ := h
  rcases open_slice Try.underlying22 hf with ⟨hcs, _⟩ | ⟨x, l, c, m, n, D, Pl, hcs, _, hl, hm, hmm, _, hel⟩
  · simp [Value.cells] at hcs
    obtain ⟨rfl, rfl, rfl⟩ := hcs
    exact ⟨fun _ => rfl, fun _ => ⟨#[]⟩, fun _ => ⟨#[]⟩, fun j hj => by omega, fun j hj => by omega⟩
  · simp [Value.cells] at hcs
    obtain ⟨rfl, rfl, rfl⟩ := hcs
    refine ⟨NilZ_some _ _, ?_⟩
    have hmc : m = cap := by simpa using hmm
    have each : ∀ i, i < len → ∃ q : ByteArray × ByteArray, W.cell? ((x.add (i * 2)).add 0) = some (.string q.1) ∧ W.cell? ((x.add (i * 2)).add 1) = some (.string q.2) ∧ q.1.size ≤ maxLen := by
      intro i hi
      obtain ⟨cs', h1, h2⟩ := hel i (by omega)
      rw [Try.cells31] at h1
      obtain ⟨y0, y1, k, _, hlen, t0, t1⟩ := trod_struct2 Try.underlying31 h2
      rw [Try.cells31] at hlen
      simp only [Try.cells9] at t0 t1
      obtain ⟨v0, e0, _, z0⟩ := DataW.trod_string Try.underlying9 t0
      obtain ⟨v1, e1, _, _⟩ := DataW.trod_string Try.underlying9 t1
      match cs', hlen with
      | [x0, x1], _ =>
        simp at e0 e1
        subst e0; subst e1
        obtain ⟨_, _, hc⟩ := World.cells?_some h1
        exact ⟨(v0, v1), by simpa using hc 0 (by omega), by simpa using hc 1 (by omega), z0⟩
    obtain ⟨f, hfn⟩ := choose_lt each
    refine ⟨fun i => (f i).1, fun i => (f i).2, fun j hj => ?_, fun j hj => (hfn j hj).2.2⟩
    obtain ⟨b, off, spot⟩ := x
    obtain ⟨h0, h1, _⟩ := hfn j hj
    have hspot : spot = none := by
      have := World.cell?_spot (hfn 0 (by omega)).1
      simpa [Addr.add] using this
    subst hspot
    rw [add_plain, add_plain] at h0 h1
    rw [Nat.add_zero] at h0
    exact ⟨b, off, rfl, h0, h1⟩

theorem open_names {H : Type} {enc : TypeId × Value → H} {W : World} {a : Option Addr} {len cap : Nat} {d : DataW H} {p : List MemPlace}
    (h : DataW.Trod enc Try.prog W 0 (fun _ => true) true 23 (.slice a len cap) d p) : NilZ a len ∧ ∃ K : Nat → ByteArray, StrS W a len K ∧ ∀ j, j < len → (K j).size ≤ maxLen := by
  obtain ⟨fuel, hf⟩ := h
  rcases open_strings Try.underlying23 Try.underlying9 Try.cells9 hf with ⟨hcs, _⟩ | ⟨x, l, c, ss, hcs, _, hl, hm, hz, _, hcell, hsz⟩
  · simp [Value.cells] at hcs
    obtain ⟨rfl, rfl, rfl⟩ := hcs
    exact ⟨fun _ => rfl, fun _ => ⟨#[]⟩, fun j hj => by omega, fun j hj => by omega⟩
  · simp [Value.cells] at hcs
    obtain ⟨rfl, rfl, rfl⟩ := hcs
    have hz' : ss.length = cap := by simpa using hz
    refine ⟨NilZ_some _ _, fun i => ss.getD i ByteArray.empty, fun j hj => ?_, fun j hj => ?_⟩
    · obtain ⟨b, off, spot⟩ := x
      have hc := hcell j (by omega)
      have hspot : spot = none := by simpa [Addr.add] using World.cell?_spot (hcell 0 (by omega))
      subst hspot
      rw [add_plain] at hc
      exact ⟨b, off, rfl, hc⟩
    · refine hsz _ ?_
      have hj' : j < ss.length := by omega
      show ss.getD j ByteArray.empty ∈ ss
      rw [List.getD_eq_getElem?_getD, List.getElem?_eq_getElem hj']
      exact List.getElem_mem hj'
end Go.Proofs.Qxb6604266a
