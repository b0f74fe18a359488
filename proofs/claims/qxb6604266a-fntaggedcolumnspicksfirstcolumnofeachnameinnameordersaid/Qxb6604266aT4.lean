/-
  THE LAW.
-/
import Derived.Test.Qxb6604266aT3
namespace Go.Proofs.Qxb6604266a
open Go.RowKit Go.Maps

/-! ### plain -/
def at_ (l : List Nat) (j : Nat) : Nat := l.getD j 0
/-- p put in at place t -/
def insL (l : List Nat) (p t : Nat) : List Nat := l.take t ++ p :: l.drop t
theorem insL_length (l : List Nat) (p t : Nat) (ht : t ≤ l.length) : (insL l p t).length = l.length + 1 := by
  simp [insL]; omega
theorem insL_at {l : List Nat} {p t j : Nat} (ht : t ≤ l.length) : at_ (insL l p t) j = if j < t then at_ l j else if j = t then p else at_ l (j - 1) := by
  have hm : min t l.length = t := by omega
  unfold at_ insL
  by_cases h1 : j < t
  · rw [if_pos h1]
    simp only [List.getD_eq_getElem?_getD]
    rw [List.getElem?_append_left (by simp; omega), List.getElem?_take_of_lt h1]
  · rw [if_neg h1]
    simp only [List.getD_eq_getElem?_getD]
    rw [List.getElem?_append_right (by simp; omega)]
    simp only [List.length_take, hm]
    by_cases h2 : j = t
    · subst h2; simp
    · rw [if_neg h2]
      obtain ⟨d, rfl⟩ : ∃ d, j = t + d + 1 := ⟨j - t - 1, by omega⟩
      rw [show t + d + 1 - t = d + 1 from by omega, List.getElem?_cons_succ, List.getElem?_drop]
      simp
theorem insL_end (l : List Nat) (p : Nat) : insL l p l.length = l ++ [p] := by simp [insL]
theorem at_map {l : List Nat} {f : Nat → Nat} {j : Nat} (h : j < l.length) : at_ (l.map f) j = f (at_ l j) := by
  simp [at_, h]
theorem at_mem {l : List Nat} {j : Nat} (h : j < l.length) : at_ l j ∈ l := by simp [at_, h]
theorem take_lt {l : List Nat} {p t : Nat} (hs : l.Pairwise (· < ·)) (ht : t ≤ l.length) (h : 0 < t → at_ l (t - 1) < p) : ∀ x, x ∈ l.take t → x < p := by
  intro x hx
  obtain ⟨i, hi, rfl⟩ := List.mem_iff_getElem.1 hx
  simp only [List.length_take] at hi
  rw [List.getElem_take]
  have h0 := h (by omega)
  have e1 : at_ l (t - 1) = l[t - 1]'(by omega) := by simp [at_, show t - 1 < l.length by omega]
  rw [e1] at h0
  by_cases e : i = t - 1
  · subst e; exact h0
  · have := List.pairwise_iff_getElem.1 hs i (t - 1) (by omega) (by omega) (by omega)
    omega

/-! ### rows -/
theorem nCells_length (l : List Nat) : (nCells l).length = l.length := by simp [nCells]
theorem nCells_at {l : List Nat} {j : Nat} (h : j < l.length) : (nCells l)[j]? = some (.int .i64 (at_ l j : Int)) := by
  simp [nCells, at_, h]
theorem owns_row {w : World} {B g n c : Nat} {l : List Nat} (h : w.ownsRow B 3 1 (.slice (some ⟨g, 0, none⟩) n c) n (nCells l)) :
    ∃ f, w.rowIs g 3 c f ∧ n ≤ c ∧ c ≤ maxLen ∧ B ≤ g ∧ ∀ j, j < n → f j = .int .i64 (at_ l j : Int) := by
  have hl : l.length = n := by have := h.1; rw [nCells_length] at this; omega
  have hc := fun j => h.cellAt j
  rcases h.2 with ⟨h', _⟩ | ⟨g', cap', cur, h', hB, hg, h1, h2, h3, _⟩
  · simp at h'
  simp only [Value.slice.injEq, Option.some.injEq, Addr.mk.injEq, and_true, true_and] at h'
  obtain ⟨rfl, rfl⟩ := h'
  refine ⟨fun i => (cur[i]?).getD (.bool false), ⟨cur, hg, by omega, fun i hi => ?_⟩, h1, h2, hB, fun j hj => ?_⟩
  · show cur[i]? = some ((cur[i]?).getD (.bool false))
    rw [Array.getElem?_eq_getElem (by omega)]; rfl
  · have := hc j (by omega)
    rw [nCells_at (by omega)] at this
    have h5 : w.cell? ⟨g, j, none⟩ = cur[j]? := by simp [World.cell?, hg]
    rw [h5] at this
    show (cur[j]?).getD (.bool false) = _
    rw [this]; rfl
theorem row_owns {w : World} {B g n c : Nat} {l : List Nat} {f : Nat → Value} (h : w.rowIs g 3 c f) (h1 : n ≤ c) (h2 : c ≤ maxLen) (hB : B ≤ g) (hl : l.length = n) (hf : ∀ j, j < n → f j = .int .i64 (at_ l j : Int)) :
    w.ownsRow B 3 1 (.slice (some ⟨g, 0, none⟩) n c) n (nCells l) := by
  obtain ⟨cur, hg, hs, hc⟩ := h
  refine ⟨by rw [nCells_length]; omega, .inr ⟨g, c, cur, rfl, hB, hg, h1, h2, by omega, ?_⟩⟩
  apply List.ext_getElem?
  intro j
  rw [Nat.mul_one]
  by_cases hj : j < n
  · rw [List.getElem?_take_of_lt hj, nCells_at (by omega), ← hf j hj, ← hc j (by omega)]
    simp
  · rw [List.getElem?_eq_none (by simp; omega), List.getElem?_eq_none (by rw [nCells_length]; omega)]
theorem owns_shape {w : World} {B n : Nat} {v : Value} {xs : List Value} (h : w.ownsRow B 3 1 v n xs) (hn : 0 < n) : ∃ g c, v = .slice (some ⟨g, 0, none⟩) n c ∧ g < w.heap.size := by
  rcases h.2 with ⟨_, h'⟩ | ⟨g', cap', cur, h', hB, hg, _⟩
  · omega
  · exact ⟨g', cap', h', (Array.getElem?_eq_some_iff.1 hg).1⟩
theorem owns_ints {w : World} {B g n c : Nat} {l : List Nat} (h : w.ownsRow B 3 1 (.slice (some ⟨g, 0, none⟩) n c) n (nCells l)) : IntS w (some ⟨g, 0, none⟩) n (fun j => (at_ l j : Int)) := by
  have hl : l.length = n := by have := h.1; rw [nCells_length] at this; omega
  intro j hj
  exact ⟨g, 0, rfl, by rw [Nat.zero_add, h.cellAt j (by omega), nCells_at (by omega)]⟩
/-- two values own no row in common -/
def Dis (v u : Value) : Prop := ∀ g, v.ownBlock = some g → u.ownBlock ≠ some g

set_option maxHeartbeats 400000 in
theorem ztagged_any (a0 a1 : Option Addr) (n c0 m c1 : Nat) (C T K : Nat → ByteArray) (e : Nat → ByteArray) (ne : Nat) (w : World) (hn : n ≤ 4096) (hne : ne ≤ 4096)
    (hnil : Hid (a1 = none → e = C ∧ ne = n)) (hsome : Hid (∀ x, a1 = some x → e = K ∧ ne = m)) (hez : Hid (∀ p, p < ne → (e p).size ≤ maxLen)) (hC : Hid (ColS w a0 n C T)) (hK : Hid (StrS w a1 m K)) :
    Calls Try.prog 8 #[.slice a0 n c0, .slice a1 m c1] w (TagPost (TG e ne C n) w) := by
  go_enter Try.func8, Try.ntmps8
  go_wp2_with fail
  refine (tagged_any a0 a1 n c0 m c1 C T K e ne w hn hne hnil hsome hez hC hK).mono ?_
  rintro e' w' ⟨v, rfl, h⟩
  have H : Hid _ := h
  clear h
  go_wp2_with fail
  go_ret
  exact ⟨v, rfl, H.out⟩

theorem fp_any (a0 a1 : Option Addr) (n c0 m c1 : Nat) (C T K : Nat → ByteArray) (e : Nat → ByteArray) (ne : Nat) (s : ByteArray) (w : World) (hn : n ≤ 4096) (hne : ne ≤ 4096)
    (hnil : Hid (a1 = none → e = C ∧ ne = n)) (hsome : Hid (∀ x, a1 = some x → e = K ∧ ne = m)) (hC : Hid (ColS w a0 n C T)) (hK : Hid (StrS w a1 m K)) :
    Calls Try.prog 9 #[.slice a0 n c0, .slice a1 m c1, .string s] w fun e' w' => e' = .returned (.int .i64 (fpI e s ne)) ∧ w = w' := by
  cases a1 with
  | none => obtain ⟨rfl, rfl⟩ := hnil.out rfl; exact fp_cols a0 ne c0 m c1 e T s w hn hC
  | some x => obtain ⟨rfl, rfl⟩ := hsome.out x rfl; exact fp_names a0 n c0 x ne c1 e s w hne hK
end Go.Proofs.Qxb6604266a
