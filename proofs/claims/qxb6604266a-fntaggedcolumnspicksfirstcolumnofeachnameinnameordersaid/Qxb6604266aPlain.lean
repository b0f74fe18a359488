/-
  PLAIN: the tagged columns, by the names' places; the law's sorted insertion; with no Go in sight.
-/
namespace Go.Proofs.Qxb6604266a

/-- is it the name column? -/
def nmB (s : ByteArray) : Bool := s.toList == [110, 97, 109, 101]
/-- has s been met among the first q names, or is it the name column? -/
def sB (e : Nat → ByteArray) (q : Nat) (s : ByteArray) : Bool := nmB s || (List.range q).any fun p => decide (e p = s)
theorem sB_iff {e : Nat → ByteArray} {q : Nat} {s : ByteArray} : sB e q s = true ↔ nmB s = true ∨ ∃ p, p < q ∧ e p = s := by
  simp [sB, List.any_eq_true]
theorem sB_zero (e : Nat → ByteArray) (s : ByteArray) : sB e 0 s = nmB s := by simp [sB]
theorem sB_succ (e : Nat → ByteArray) (q : Nat) (s : ByteArray) : sB e (q + 1) s = (sB e q s || decide (e q = s)) := by
  simp [sB, List.range_succ, List.any_append, Bool.or_assoc]
/-- the first i < n with C i = s, else n -/
def fc (C : Nat → ByteArray) (s : ByteArray) : Nat → Nat
  | 0 => 0
  | n + 1 => if fc C s n < n then fc C s n else if C n = s then n else n + 1
theorem fc_spec (C : Nat → ByteArray) (s : ByteArray) : ∀ n, fc C s n ≤ n ∧ (∀ i, i < fc C s n → C i ≠ s) ∧ (fc C s n < n → C (fc C s n) = s) := by
  intro n
  induction n with
  | zero => exact ⟨Nat.le_refl _, fun i hi => by simp [fc] at hi, fun h => by omega⟩
  | succ n ih =>
    rw [fc]
    by_cases h : fc C s n < n
    · rw [if_pos h]
      exact ⟨by omega, ih.2.1, fun _ => ih.2.2 h⟩
    · rw [if_neg h]
      have hall : ∀ i, i < n → C i ≠ s := fun i hi => ih.2.1 i (by omega)
      by_cases e : C n = s
      · rw [if_pos e]
        exact ⟨by omega, hall, fun _ => e⟩
      · rw [if_neg e]
        refine ⟨Nat.le_refl _, fun i hi => ?_, fun h => by omega⟩
        by_cases e2 : i = n
        · subst e2; exact e
        · exact hall i (by omega)
theorem fc_eq {C : Nat → ByteArray} {s : ByteArray} {n i : Nat} (hi : i < n) (he : C i = s) (hl : ∀ j, j < i → C j ≠ s) : fc C s n = i := by
  obtain ⟨h1, h2, h3⟩ := fc_spec C s n
  rcases Nat.lt_trichotomy (fc C s n) i with h | h | h
  · exact absurd (h3 (by omega)) (hl _ h)
  · exact h
  · exact absurd he (h2 i h)
theorem fc_none {C : Nat → ByteArray} {s : ByteArray} {n : Nat} (hl : ∀ j, j < n → C j ≠ s) : fc C s n = n := by
  obtain ⟨h1, h2, h3⟩ := fc_spec C s n
  rcases Nat.lt_or_ge (fc C s n) n with h | h
  · exact absurd (h3 h) (hl _ h)
  · omega

/-- is place p the first of its name, which is not the name column's? -/
def newB (e : Nat → ByteArray) (p : Nat) : Bool := !sB e p (e p)
/-- the places that tag, of the first q names, by the first c columns (of n) -/
def G (e : Nat → ByteArray) (q : Nat) (C : Nat → ByteArray) (n c : Nat) : List Nat := (List.range q).filter fun p => newB e p && decide (fc C (e p) n < c)
/-- the columns that are tagged -/
def TG (e : Nat → ByteArray) (q : Nat) (C : Nat → ByteArray) (n : Nat) : List Nat := (G e q C n n).map fun p => fc C (e p) n

theorem G_succ (e : Nat → ByteArray) (q : Nat) (C : Nat → ByteArray) (n c : Nat) : G e (q + 1) C n c = if (newB e q && decide (fc C (e q) n < c)) = true then G e q C n c ++ [q] else G e q C n c := by
  unfold G
  rw [List.range_succ, List.filter_append]
  by_cases h : (newB e q && decide (fc C (e q) n < c)) = true
  · rw [if_pos h]; simp only [List.filter_cons, h, if_true, List.filter_nil]
  · rw [if_neg h]; simp only [List.filter_cons, h, List.filter_nil]; simp
theorem TG_skip {e : Nat → ByteArray} {q : Nat} {C : Nat → ByteArray} {n : Nat} (h : sB e q (e q) = true) : TG e (q + 1) C n = TG e q C n := by
  unfold TG; rw [G_succ, if_neg (by simp [newB, h])]
theorem TG_none {e : Nat → ByteArray} {q : Nat} {C : Nat → ByteArray} {n : Nat} (h : n ≤ fc C (e q) n) : TG e (q + 1) C n = TG e q C n := by
  unfold TG; rw [G_succ, if_neg (by simp; intro _; exact h)]
theorem TG_take {e : Nat → ByteArray} {q : Nat} {C : Nat → ByteArray} {n : Nat} (h : sB e q (e q) = false) (h2 : fc C (e q) n < n) : TG e (q + 1) C n = TG e q C n ++ [fc C (e q) n] := by
  unfold TG; rw [G_succ, if_pos (by simp [newB, h, h2])]; simp
theorem G_len (e : Nat → ByteArray) (q : Nat) (C : Nat → ByteArray) (n c : Nat) : (G e q C n c).length ≤ q := by
  have := List.length_filter_le (fun p => newB e p && decide (fc C (e p) n < c)) (List.range q)
  simpa [G] using this
theorem TG_len (e : Nat → ByteArray) (q : Nat) (C : Nat → ByteArray) (n : Nat) : (TG e q C n).length ≤ q := by
  simp only [TG, List.length_map]; exact G_len _ _ _ _ _
theorem G_sorted (e : Nat → ByteArray) (q : Nat) (C : Nat → ByteArray) (n c : Nat) : (G e q C n c).Pairwise (· < ·) := List.Pairwise.filter _ List.pairwise_lt_range
theorem G_mem {e : Nat → ByteArray} {q : Nat} {C : Nat → ByteArray} {n c x : Nat} : x ∈ G e q C n c ↔ x < q ∧ sB e x (e x) = false ∧ fc C (e x) n < c := by
  simp [G, newB]

/-- two strictly increasing lists of the same numbers are one -/
theorem sorted_ext : ∀ l1 l2 : List Nat, l1.Pairwise (· < ·) → l2.Pairwise (· < ·) → (∀ x, x ∈ l1 ↔ x ∈ l2) → l1 = l2 := by
  intro l1
  induction l1 with
  | nil =>
    intro l2 _ _ h
    cases l2 with
    | nil => rfl
    | cons b l2 => have := (h b).2 (by simp); simp at this
  | cons a l1 ih =>
    intro l2 h1 h2 h
    cases l2 with
    | nil => have := (h a).1 (by simp); simp at this
    | cons b l2 =>
      rw [List.pairwise_cons] at h1 h2
      have hab : a = b := by
        rcases List.mem_cons.1 ((h a).1 (by simp)) with e | e
        · exact e
        · rcases List.mem_cons.1 ((h b).2 (by simp)) with e' | e'
          · exact e'.symm
          · have := h2.1 a e; have := h1.1 b e'; omega
      subst hab
      congr 1
      refine ih l2 h1.2 h2.2 fun x => ⟨fun hx => ?_, fun hx => ?_⟩
      · rcases List.mem_cons.1 ((h x).1 (by simp [hx])) with e | e
        · subst e; have := h1.1 x hx; omega
        · exact e
      · rcases List.mem_cons.1 ((h x).2 (by simp [hx])) with e | e
        · subst e; have := h2.1 x hx; omega
        · exact e

/-- column c adds nothing: it is the name column, or not the first of its name, or not asked for -/
theorem G_col_skip {e : Nat → ByteArray} {q : Nat} {C : Nat → ByteArray} {n c : Nat} (hc : c < n) (h : nmB (C c) = true ∨ (∃ d, d < c ∧ C d = C c) ∨ ∀ p, p < q → e p ≠ C c) : G e q C n (c + 1) = G e q C n c := by
  refine sorted_ext _ _ (G_sorted _ _ _ _ _) (G_sorted _ _ _ _ _) fun x => ?_
  rw [G_mem, G_mem]
  refine ⟨fun ⟨h1, h2, h3⟩ => ⟨h1, h2, ?_⟩, fun ⟨h1, h2, h3⟩ => ⟨h1, h2, by omega⟩⟩
  rcases Nat.lt_or_ge (fc C (e x) n) c with h4 | h4
  · exact h4
  · exfalso
    have e1 : fc C (e x) n = c := by omega
    obtain ⟨_, s2, s3⟩ := fc_spec C (e x) n
    have e2 : C c = e x := by rw [← e1]; exact s3 (by omega)
    rcases h with h | ⟨d, hd, he⟩ | h
    · have : sB e x (e x) = true := sB_iff.2 (.inl (by rw [← e2]; exact h))
      rw [this] at h2; cases h2
    · exact s2 d (by omega) (by rw [he, e2])
    · exact h x h1 e2.symm
/-- column c is the first of its name, which is first asked for at place p -/
theorem G_col_take {e : Nat → ByteArray} {q : Nat} {C : Nat → ByteArray} {n c p : Nat} (hc : c < n) (hn : nmB (C c) = false) (hf : ∀ d, d < c → C d ≠ C c) (hp : p < q) (he : e p = C c) (hl : ∀ p', p' < p → e p' ≠ C c) :
    fc C (e p) n = c ∧ (∀ x, x ∈ G e q C n (c + 1) ↔ x = p ∨ x ∈ G e q C n c) ∧ p ∉ G e q C n c := by
  have e1 : fc C (e p) n = c := fc_eq hc he.symm (fun j hj => by rw [he]; exact hf j hj)
  refine ⟨e1, fun x => ?_, ?_⟩
  · rw [G_mem, G_mem]
    constructor
    · rintro ⟨h1, h2, h3⟩
      rcases Nat.lt_or_ge (fc C (e x) n) c with h4 | h4
      · exact .inr ⟨h1, h2, h4⟩
      · left
        obtain ⟨_, s2, s3⟩ := fc_spec C (e x) n
        have e3 : fc C (e x) n = c := by omega
        have e2 : C c = e x := by rw [← e3]; exact s3 (by omega)
        rcases Nat.lt_trichotomy x p with h5 | h5 | h5
        · exact absurd e2.symm (hl x h5)
        · exact h5
        · have : sB e x (e x) = true := sB_iff.2 (.inr ⟨p, h5, by rw [he, e2]⟩)
          rw [this] at h2; cases h2
    · rintro (rfl | ⟨h1, h2, h3⟩)
      · refine ⟨hp, ?_, by omega⟩
        cases hs : sB e x (e x)
        · rfl
        · rcases sB_iff.1 hs with h | ⟨p', h, h'⟩
          · rw [he, hn] at h; cases h
          · exact absurd (h'.trans he) (hl p' h)
      · exact ⟨h1, h2, by omega⟩
  · rw [G_mem]
    rintro ⟨_, _, h⟩
    omega

theorem G_zero (e : Nat → ByteArray) (q : Nat) (C : Nat → ByteArray) (n : Nat) : G e q C n 0 = [] := by
  simp [G]

/-- the list with p put in at place t -/
theorem insert_at {l l' : List Nat} {p t : Nat} (h1 : l.Pairwise (· < ·)) (h2 : l'.Pairwise (· < ·)) (hm : ∀ x, x ∈ l' ↔ x = p ∨ x ∈ l) (hlo : ∀ x, x ∈ l.take t → x < p) (hhi : ∀ x, x ∈ l.drop t → p < x) :
    l' = l.take t ++ p :: l.drop t := by
  refine sorted_ext _ _ h2 ?_ fun x => ?_
  · rw [List.pairwise_append]
    refine ⟨h1.sublist (List.take_sublist _ _), ?_, ?_⟩
    · rw [List.pairwise_cons]
      exact ⟨hhi, h1.sublist (List.drop_sublist _ _)⟩
    · intro a ha b hb
      rcases List.mem_cons.1 hb with rfl | hb
      · exact hlo a ha
      · have := hlo a ha; have := hhi b hb; omega
  · rw [hm]
    constructor
    · rintro (rfl | hx)
      · simp
      · rw [← List.take_append_drop t l] at hx
        rcases List.mem_append.1 hx with h | h
        · simp [h]
        · simp [h]
    · intro hx
      rcases List.mem_append.1 hx with h | h
      · exact .inr (List.mem_of_mem_take h)
      · rcases List.mem_cons.1 h with rfl | h
        · exact .inl rfl
        · exact .inr (List.mem_of_mem_drop h)

end Go.Proofs.Qxb6604266a
