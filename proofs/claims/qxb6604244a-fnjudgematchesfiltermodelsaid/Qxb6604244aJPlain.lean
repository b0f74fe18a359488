/-
  PLAIN: what judge reckons: the kept decisions, by their places; the verdict's numbers.
-/
import Derived.Test.Qxb6604244aC1
namespace Go.Proofs.Qxb6604244a

/-- the places of the decisions whose node is one of the first j deciders -/
def KL (m : Nat) (N : Nat → Int) (j : Nat) (D : Nat → Int) : List Nat := (List.range m).filter fun q => inB j D (N q)

theorem inB_succ (j : Nat) (D : Nat → Int) (x : Int) : inB (j + 1) D x = (inB j D x || (D j == x)) := by
  simp [inB, List.range_succ, List.any_append]

theorem filter_add (f : Nat → Bool) (p : Nat) (hf : ∀ q, f q = true → q < p) (g : Nat → Bool) (hg : ∀ q, g q = (f q || (q == p))) : ∀ m, (List.range m).filter g = if p < m then (List.range m).filter f ++ [p] else (List.range m).filter f := by
  intro m
  induction m with
  | zero => simp
  | succ m ih =>
    rw [List.range_succ, List.filter_append, List.filter_append, ih]
    by_cases h1 : p < m
    · have fm : f m = false := by
        cases h : f m
        · rfl
        · have := hf m h; omega
      have gm : g m = false := by rw [hg, fm]; simp; omega
      rw [if_pos h1, if_pos (by omega)]
      simp [fm, gm]
    · rw [if_neg h1]
      by_cases h2 : p = m
      · subst h2
        have fm : f p = false := by
          cases h : f p
          · rfl
          · have := hf p h; omega
        have gm : g p = true := by rw [hg]; simp
        rw [if_pos (by omega)]
        simp [fm, gm]
      · have gm : g m = f m := by rw [hg]; simp; omega
        rw [if_neg (by omega)]
        simp [List.filter_cons, gm]

theorem KL_take {m j k : Nat} {N D : Nat → Int} {p : Nat} (hN : Inc m N) (hD : Inc k D) (hj : j < k) (hp : p < m) (e : N p = D j) : KL m N (j + 1) D = KL m N j D ++ [p] := by
  unfold KL
  have hlt : ∀ q, q < m → inB j D (N q) = true → q < p := by
    intro q hq h
    obtain ⟨i, hi, hi'⟩ := inB_iff.1 h
    have h1 := hD.lt hi hj
    rcases Nat.lt_or_ge q p with h2 | h2
    · exact h2
    · have := hN.le h2 hq
      omega
  have h1 : (List.range m).filter (fun q => inB (j + 1) D (N q)) = (List.range m).filter (fun q => (decide (q < m) && inB j D (N q)) || (q == p)) := by
    apply List.filter_congr
    intro q hq
    have hq := List.mem_range.1 hq
    rw [inB_succ]
    have : (D j == N q) = (q == p) := by
      rw [Bool.eq_iff_iff, beq_iff_eq, beq_iff_eq]
      constructor
      · intro h
        rcases Nat.lt_trichotomy q p with h2 | h2 | h2
        · have := hN.lt h2 hp; omega
        · exact h2
        · have := hN.lt h2 hq; omega
      · rintro rfl; exact e.symm
    rw [this]; simp [hq]
  have h2 : (List.range m).filter (fun q => inB j D (N q)) = (List.range m).filter (fun q => decide (q < m) && inB j D (N q)) := by
    apply List.filter_congr
    intro q hq
    have hq := List.mem_range.1 hq
    simp [hq]
  rw [h1, h2, filter_add (fun q => decide (q < m) && inB j D (N q)) p ?_ _ (fun _ => rfl) m, if_pos hp]
  intro q hq
  simp at hq
  exact hlt q hq.1 hq.2

theorem KL_skip {m j : Nat} {N D : Nat → Int} {p : Nat} (hN : Inc m N) (hlt : ∀ q, q < p → N q < D j) (hge : p < m → D j < N p) : KL m N (j + 1) D = KL m N j D := by
  unfold KL
  apply List.filter_congr
  intro q hq
  have hq := List.mem_range.1 hq
  rw [inB_succ]
  have : (D j == N q) = false := by
    rw [beq_eq_false_iff_ne]
    intro e
    rcases Nat.lt_or_ge q p with h | h
    · have := hlt q h; omega
    · have h1 := hge (by omega)
      have h2 := hN.le h hq
      omega
  rw [this]; simp

theorem KL_zero (m : Nat) (N D : Nat → Int) : KL m N 0 D = [] := by
  simp [KL, inB]
theorem KL_lt {m j : Nat} {N D : Nat → Int} {q : Nat} (h : q ∈ KL m N j D) : q < m := by
  simp [KL] at h; exact h.1

/-- has every one of the first j deciders decided? -/
def tB (m : Nat) (N : Nat → Int) (j : Nat) (D : Nat → Int) : Bool := (List.range j).all fun i => inB m N (D i)
theorem tB_succ (m : Nat) (N : Nat → Int) (j : Nat) (D : Nat → Int) : tB m N (j + 1) D = (tB m N j D && inB m N (D j)) := by
  simp [tB, List.range_succ, List.all_append]
/-- is none of the first q unstopped a decider? -/
def uB (k : Nat) (D : Nat → Int) (q : Nat) (U : Nat → Int) : Bool := (List.range q).all fun i => !inB k D (U i)
theorem uB_succ (k : Nat) (D : Nat → Int) (q : Nat) (U : Nat → Int) : uB k D (q + 1) U = (uB k D q U && !inB k D (U q)) := by
  simp [uB, List.range_succ, List.all_append]
/-- do the first j of v equal x? -/
def xB (v : Nat → Int) (x : Int) (j : Nat) : Bool := (List.range j).all fun i => v i == x
theorem xB_succ (v : Nat → Int) (x : Int) (j : Nat) : xB v x (j + 1) = (xB v x j && (v j == x)) := by
  simp [xB, List.range_succ, List.all_append]
theorem xB_iff {v : Nat → Int} {x : Int} {j : Nat} : xB v x j = true ↔ ∀ i, i < j → v i = x := by
  simp [xB, List.all_eq_true]
/-- the greatest of 0 and the first j of r -/
def mx (r : Nat → Int) : Nat → Int
  | 0 => 0
  | j + 1 => if mx r j < r j then r j else mx r j

/-- Held 1, Failed 2 -/
def oc (b : Bool) : Int := if b = true then 1 else 2
theorem oc_true : oc true = 1 := rfl
theorem oc_false : oc false = 2 := rfl
/-- the list's numbers by their place -/
def at_ (l : List Nat) (j : Nat) : Nat := l.getD j 0
theorem at_lt {l : List Nat} {j m : Nat} (hl : ∀ q ∈ l, q < m) (hj : j < l.length) : at_ l j < m := by
  have : at_ l j ∈ l := by simp [at_, hj]
  exact hl _ this

end Go.Proofs.Qxb6604244a
