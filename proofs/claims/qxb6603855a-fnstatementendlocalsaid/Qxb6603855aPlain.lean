/-
  THE PLAIN FUNCTIONS OF THIS SEAT: what 'statementEnd' reckons, with no Go in sight, and its laws.
-/
namespace Go.Proofs.Qxb6603855a

/-- 'wordAt': the text of token i where there is one and it is a word, else the empty text. -/
def wd (n : Nat) (K T : Nat → ByteArray) (i : Nat) : ByteArray := if i < n ∧ ((K i).toList == [119, 111, 114, 100]) = true then T i else ⟨#[]⟩
/-- does the text read as these bytes? -/
def is (s : ByteArray) (l : List UInt8) : Bool := s.toList == l
/-- where the object of 'create [or replace]' stands. -/
def objAt (n : Nat) (K T : Nat → ByteArray) (i : Nat) : Nat :=
  if is (wd n K T (i + 1)) [111, 114] = true ∧ is (wd n K T (i + 2)) [114, 101, 112, 108, 97, 99, 101] = true then i + 3 else i + 1
def routine (n : Nat) (K T : Nat → ByteArray) (i : Nat) : Bool :=
  is (wd n K T i) [99, 114, 101, 97, 116, 101] && (is (wd n K T (objAt n K T i)) [102, 117, 110, 99, 116, 105, 111, 110] || is (wd n K T (objAt n K T i)) [112, 114, 111, 99, 101, 100, 117, 114, 101])

/-- BOTH LOOPS IN ONE, WITH FUEL: 'none': the body's loop at i; 'some (r, p)': the scan at i, r: it is a routine, p: open parentheses. -/
def F (n : Nat) (K T : Nat → ByteArray) : Nat → Option (Bool × Int) → Nat → Nat
  | 0, _, _ => n
  | f + 1, none, i => if i < n ∧ is (wd n K T i) [101, 110, 100] = false then F n K T f none (F n K T f (some (routine n K T i, 0)) i + 1) else i
  | f + 1, some (r, p), i =>
    if i < n then
      if is (T i) [40] = true then F n K T f (some (r, p + 1)) (i + 1)
      else if is (T i) [41] = true then F n K T f (some (r, p - 1)) (i + 1)
      else if is (T i) [59] = true then i
      else if is (T i) [98, 101, 103, 105, 110] = true ∧ r = true ∧ p = 0 ∧ is (wd n K T (i + 1)) [97, 116, 111, 109, 105, 99] = true then F n K T f (some (r, p)) (F n K T f none (i + 2) + 1)
      else F n K T f (some (r, p)) (i + 1)
    else n

theorem F_none (n : Nat) (K T : Nat → ByteArray) (f i : Nat) : F n K T (f + 1) none i = if i < n ∧ is (wd n K T i) [101, 110, 100] = false then F n K T f none (F n K T f (some (routine n K T i, 0)) i + 1) else i := by rw [F]
theorem F_some (n : Nat) (K T : Nat → ByteArray) (f : Nat) (r : Bool) (p : Int) (i : Nat) : F n K T (f + 1) (some (r, p)) i =
    if i < n then
      if is (T i) [40] = true then F n K T f (some (r, p + 1)) (i + 1)
      else if is (T i) [41] = true then F n K T f (some (r, p - 1)) (i + 1)
      else if is (T i) [59] = true then i
      else if is (T i) [98, 101, 103, 105, 110] = true ∧ r = true ∧ p = 0 ∧ is (wd n K T (i + 1)) [97, 116, 111, 109, 105, 99] = true then F n K T f (some (r, p)) (F n K T f none (i + 2) + 1)
      else F n K T f (some (r, p)) (i + 1)
    else n := by rw [F]

theorem is_false_of {s : ByteArray} {a b : List UInt8} (h : is s a = true) (hab : a ≠ b) : is s b = false := by
  unfold is at *
  rw [beq_iff_eq] at h
  rw [h]
  exact beq_eq_false_iff_ne.2 hab

theorem is_empty {b : List UInt8} (hb : b ≠ []) : is ⟨#[]⟩ b = false := by
  unfold is
  refine beq_eq_false_iff_ne.2 ?_
  have : (ByteArray.mk #[]).toList = [] := by decide +kernel
  rw [this]
  exact fun h => hb h.symm

theorem wd_is {n : Nat} {K T : Nat → ByteArray} {i : Nat} {b : List UInt8} (hb : b ≠ []) (h : is (wd n K T i) b = true) : i < n ∧ is (T i) b = true := by
  unfold wd at h
  split at h
  · rename_i c; exact ⟨c.1, h⟩
  · rw [is_empty hb] at h; cases h

/-- WHAT A RESULT BELOW n IS: the scan: at or behind i, on a semicolon; the body: at or behind i, on the word 'end'. -/
theorem F_lands (n : Nat) (K T : Nat → ByteArray) : ∀ (f : Nat) (m : Option (Bool × Int)) (i : Nat), F n K T f m i < n →
    i ≤ F n K T f m i ∧ (m.isSome = true → is (T (F n K T f m i)) [59] = true) := by
  intro f
  induction f with
  | zero => intro m i h; simp [F] at h
  | succ f ih =>
    intro m i h
    match m with
    | none =>
      rw [F] at h ⊢
      split at h
      · rename_i c
        rw [if_pos c]
        have h1 := ih none _ h
        have h2 := ih (some (routine n K T i, 0)) i (by omega)
        exact ⟨by omega, by simp⟩
      · rename_i c
        rw [if_neg c]
        exact ⟨Nat.le_refl _, by simp⟩
    | some (r, p) =>
      rw [F] at h ⊢
      by_cases c0 : i < n
      · rw [if_pos c0] at h ⊢
        by_cases c1 : is (T i) [40] = true
        · rw [if_pos c1] at h ⊢
          have h1 := ih _ _ h
          exact ⟨by omega, fun _ => h1.2 rfl⟩
        rw [if_neg c1] at h ⊢
        by_cases c2 : is (T i) [41] = true
        · rw [if_pos c2] at h ⊢
          have h1 := ih _ _ h
          exact ⟨by omega, fun _ => h1.2 rfl⟩
        rw [if_neg c2] at h ⊢
        by_cases c3 : is (T i) [59] = true
        · rw [if_pos c3] at h ⊢
          exact ⟨Nat.le_refl _, fun _ => c3⟩
        rw [if_neg c3] at h ⊢
        by_cases c4 : is (T i) [98, 101, 103, 105, 110] = true ∧ r = true ∧ p = 0 ∧ is (wd n K T (i + 1)) [97, 116, 111, 109, 105, 99] = true
        · rw [if_pos c4] at h ⊢
          have h1 := ih _ _ h
          have h2 := ih none (i + 2) (by omega)
          exact ⟨by omega, fun _ => h1.2 rfl⟩
        · rw [if_neg c4] at h ⊢
          have h1 := ih _ _ h
          exact ⟨by omega, fun _ => h1.2 rfl⟩
      · rw [if_neg c0] at h
        omega

/-- The scan's result is never beyond n. -/
theorem F_le (n : Nat) (K T : Nat → ByteArray) : ∀ (f : Nat) (r : Bool) (p : Int) (i : Nat), F n K T f (some (r, p)) i ≤ n := by
  intro f
  induction f with
  | zero => intro r p i; simp [F]
  | succ f ih =>
    intro r p i
    rw [F]
    repeat' split
    all_goals first | exact ih _ _ _ | omega

/-- how much fuel a call burns at the most. -/
def need (n : Nat) (m : Option (Bool × Int)) (i : Nat) : Nat := 2 * (n - i) + (match m with | none => 2 | some _ => 1)

theorem F_more (n : Nat) (K T : Nat → ByteArray) : ∀ (f : Nat) (m : Option (Bool × Int)) (i : Nat), need n m i ≤ f → F n K T (f + 1) m i = F n K T f m i := by
  intro f
  induction f with
  | zero => intro m i h; cases m <;> simp [need] at h
  | succ f ih =>
    intro m i h
    match m with
    | none =>
      rw [F_none n K T (f + 1) i, F_none n K T f i]
      by_cases c : i < n ∧ is (wd n K T i) [101, 110, 100] = false
      · rw [if_pos c, if_pos c]
        have e1 : F n K T (f + 1) (some (routine n K T i, 0)) i = F n K T f (some (routine n K T i, 0)) i := ih _ _ (by simp only [need] at h ⊢; omega)
        rw [e1]
        by_cases c2 : F n K T f (some (routine n K T i, 0)) i < n
        · have h2 := F_lands n K T f _ i c2
          exact ih _ _ (by simp only [need] at h ⊢; omega)
        · have h3 : ∀ g, F n K T (g + 1) none (F n K T f (some (routine n K T i, 0)) i + 1) = F n K T f (some (routine n K T i, 0)) i + 1 := by
            intro g; rw [F_none, if_neg (by omega)]
          rw [h3]
          obtain ⟨g, rfl⟩ : ∃ g, f = g + 1 := ⟨f - 1, by simp only [need] at h; omega⟩
          rw [h3]
      · rw [if_neg c, if_neg c]
    | some (r, p) =>
      rw [F_some n K T (f + 1) r p i, F_some n K T f r p i]
      by_cases c0 : i < n
      · rw [if_pos c0, if_pos c0]
        have e1 : ∀ q, F n K T (f + 1) (some (r, q)) (i + 1) = F n K T f (some (r, q)) (i + 1) := fun q => ih _ _ (by simp only [need] at h ⊢; omega)
        rw [e1, e1, e1]
        have e2 : F n K T (f + 1) none (i + 2) = F n K T f none (i + 2) := by
          by_cases c : i + 1 < n
          · exact ih _ _ (by simp only [need] at h ⊢; omega)
          · obtain ⟨g, rfl⟩ : ∃ g, f = g + 1 := ⟨f - 1, by simp only [need] at h; omega⟩
            rw [F_none n K T (g + 1) (i + 2), F_none n K T g (i + 2), if_neg (by omega), if_neg (by omega)]
        rw [e2]
        have e3 : F n K T (f + 1) (some (r, p)) (F n K T f none (i + 2) + 1) = F n K T f (some (r, p)) (F n K T f none (i + 2) + 1) := by
          by_cases c2 : F n K T f none (i + 2) < n
          · have h2 := F_lands n K T f _ _ c2
            exact ih _ _ (by simp only [need] at h ⊢; omega)
          · obtain ⟨g, rfl⟩ : ∃ g, f = g + 1 := ⟨f - 1, by simp only [need] at h; omega⟩
            generalize F n K T (g + 1) none (i + 2) = x at c2
            rw [F_some n K T (g + 1) r p (x + 1), F_some n K T g r p (x + 1), if_neg (by omega), if_neg (by omega)]
        rw [e3]
      · rw [if_neg c0, if_neg c0]

theorem F_any (n : Nat) (K T : Nat → ByteArray) (m : Option (Bool × Int)) (i f g : Nat) (hf : need n m i ≤ f) (hg : f ≤ g) : F n K T g m i = F n K T f m i := by
  obtain ⟨d, rfl⟩ : ∃ d, g = f + d := ⟨g - f, by omega⟩
  clear hg
  induction d with
  | zero => rfl
  | succ d ih => rw [← Nat.add_assoc, F_more n K T _ m i (by omega), ih]

/-- WITHOUT FUEL: enough of it. -/
def G (n : Nat) (K T : Nat → ByteArray) (m : Option (Bool × Int)) (i : Nat) : Nat := F n K T (2 * n + 2) m i

theorem G_eq (n : Nat) (K T : Nat → ByteArray) (m : Option (Bool × Int)) (i f : Nat) (hf : 2 * n + 2 ≤ f) : F n K T f m i = G n K T m i := by
  refine F_any n K T m i (2 * n + 2) f ?_ hf
  unfold need
  cases m <;> simp <;> omega

theorem G_none (n : Nat) (K T : Nat → ByteArray) (i : Nat) :
    G n K T none i = if i < n ∧ is (wd n K T i) [101, 110, 100] = false then G n K T none (G n K T (some (routine n K T i, 0)) i + 1) else i := by
  rw [← G_eq n K T none i (2 * n + 2 + 1) (by omega), F]
  rfl

theorem G_some (n : Nat) (K T : Nat → ByteArray) (r : Bool) (p : Int) (i : Nat) :
    G n K T (some (r, p)) i = if i < n then
      if is (T i) [40] = true then G n K T (some (r, p + 1)) (i + 1)
      else if is (T i) [41] = true then G n K T (some (r, p - 1)) (i + 1)
      else if is (T i) [59] = true then i
      else if is (T i) [98, 101, 103, 105, 110] = true ∧ r = true ∧ p = 0 ∧ is (wd n K T (i + 1)) [97, 116, 111, 109, 105, 99] = true then G n K T (some (r, p)) (G n K T none (i + 2) + 1)
      else G n K T (some (r, p)) (i + 1)
    else n := by
  rw [← G_eq n K T (some (r, p)) i (2 * n + 2 + 1) (by omega), F]
  rfl

theorem G_out {n : Nat} {K T : Nat → ByteArray} {r : Bool} {p : Int} {i : Nat} (h : n ≤ i) : G n K T (some (r, p)) i = n := by
  rw [G_some, if_neg (by omega)]
theorem G_open {n : Nat} {K T : Nat → ByteArray} {r : Bool} {p : Int} {i : Nat} (h : i < n) (c : is (T i) [40] = true) : G n K T (some (r, p)) i = G n K T (some (r, p + 1)) (i + 1) := by
  rw [G_some, if_pos h, if_pos c]
theorem G_shut {n : Nat} {K T : Nat → ByteArray} {r : Bool} {p : Int} {i : Nat} (h : i < n) (c : is (T i) [41] = true) : G n K T (some (r, p)) i = G n K T (some (r, p - 1)) (i + 1) := by
  rw [G_some, if_pos h, if_neg (by rw [is_false_of c (by decide)]; simp), if_pos c]
theorem G_semi {n : Nat} {K T : Nat → ByteArray} {r : Bool} {p : Int} {i : Nat} (h : i < n) (c : is (T i) [59] = true) : G n K T (some (r, p)) i = i := by
  rw [G_some, if_pos h, if_neg (by rw [is_false_of c (by decide)]; simp), if_neg (by rw [is_false_of c (by decide)]; simp), if_pos c]
theorem G_begin {n : Nat} {K T : Nat → ByteArray} {i : Nat} (h : i < n) (c : is (T i) [98, 101, 103, 105, 110] = true) (d : is (wd n K T (i + 1)) [97, 116, 111, 109, 105, 99] = true) :
    G n K T (some (true, 0)) i = G n K T (some (true, 0)) (G n K T none (i + 2) + 1) := by
  rw [G_some, if_pos h, if_neg (by rw [is_false_of c (by decide)]; simp), if_neg (by rw [is_false_of c (by decide)]; simp), if_neg (by rw [is_false_of c (by decide)]; simp), if_pos ⟨c, rfl, rfl, d⟩]
theorem G_other {n : Nat} {K T : Nat → ByteArray} {r : Bool} {p : Int} {i : Nat} (h : i < n) (c1 : is (T i) [40] = false) (c2 : is (T i) [41] = false) (c3 : is (T i) [59] = false)
    (c4 : is (T i) [98, 101, 103, 105, 110] = false ∨ r = false ∨ p ≠ 0 ∨ is (wd n K T (i + 1)) [97, 116, 111, 109, 105, 99] = false) : G n K T (some (r, p)) i = G n K T (some (r, p)) (i + 1) := by
  rw [G_some, if_pos h, if_neg (by rw [c1]; simp), if_neg (by rw [c2]; simp), if_neg (by rw [c3]; simp), if_neg]
  rintro ⟨a, b, c, d⟩
  rcases c4 with e | e | e | e
  · rw [a] at e; cases e
  · rw [b] at e; cases e
  · exact e c
  · rw [d] at e; cases e
theorem G_body_out {n : Nat} {K T : Nat → ByteArray} {i : Nat} (h : n ≤ i) : G n K T none i = i := by
  rw [G_none, if_neg (by omega)]
theorem G_body_end {n : Nat} {K T : Nat → ByteArray} {i : Nat} (h : is (wd n K T i) [101, 110, 100] = true) : G n K T none i = i := by
  rw [G_none, if_neg (by rw [h]; simp)]

/-- THE STATEMENT's END. -/
def se (n : Nat) (K T : Nat → ByteArray) (i : Nat) : Nat := G n K T (some (routine n K T i, 0)) i

theorem se_le (n : Nat) (K T : Nat → ByteArray) (i : Nat) : se n K T i ≤ n := F_le n K T _ _ _ _
theorem G_body {n : Nat} {K T : Nat → ByteArray} {i : Nat} (h : i < n) (c : is (wd n K T i) [101, 110, 100] = false) : G n K T none i = G n K T none (se n K T i + 1) := by
  rw [G_none, if_pos ⟨h, c⟩]; rfl
theorem se_lands (n : Nat) (K T : Nat → ByteArray) (i : Nat) (h : se n K T i < n) : i ≤ se n K T i ∧ is (T (se n K T i)) [59] = true :=
  let h1 := F_lands n K T _ _ i h
  ⟨h1.1, h1.2 rfl⟩

/-! ### shifted -/
theorem wd_shift (n d : Nat) (K T : Nat → ByteArray) (j : Nat) : wd (n - d) (fun k => K (d + k)) (fun k => T (d + k)) j = wd n K T (d + j) := by
  unfold wd
  by_cases h : d + j < n
  · have : j < n - d := by omega
    simp [this, h]
  · have : ¬ j < n - d := by omega
    simp [this, h]
theorem objAt_shift (n d : Nat) (K T : Nat → ByteArray) (j : Nat) : d + objAt (n - d) (fun k => K (d + k)) (fun k => T (d + k)) j = objAt n K T (d + j) := by
  unfold objAt
  rw [wd_shift, wd_shift, show d + (j + 1) = d + j + 1 from rfl, show d + (j + 2) = d + j + 2 from rfl]
  split <;> rfl
theorem routine_shift (n d : Nat) (K T : Nat → ByteArray) (j : Nat) : routine (n - d) (fun k => K (d + k)) (fun k => T (d + k)) j = routine n K T (d + j) := by
  unfold routine
  rw [wd_shift, wd_shift, objAt_shift]
theorem F_shift (n d : Nat) (K T : Nat → ByteArray) (hd : d ≤ n) : ∀ (f : Nat) (m : Option (Bool × Int)) (j : Nat), d + F (n - d) (fun k => K (d + k)) (fun k => T (d + k)) f m j = F n K T f m (d + j) := by
  intro f
  induction f with
  | zero => intro m j; simp [F]; omega
  | succ f ih =>
    intro m j
    match m with
    | none =>
      rw [F, F, wd_shift, routine_shift]
      by_cases c : d + j < n ∧ is (wd n K T (d + j)) [101, 110, 100] = false
      · rw [if_pos ⟨by omega, c.2⟩, if_pos c, ih, ← Nat.add_assoc, ih]
      · rw [if_neg (fun h => c ⟨by omega, h.2⟩), if_neg c]
    | some (r, p) =>
      rw [F, F, wd_shift]
      by_cases c0 : d + j < n
      · rw [if_pos c0, if_pos (show j < n - d by omega), show d + (j + 1) = d + j + 1 from rfl]
        have e1 : ∀ q, d + F (n - d) (fun k => K (d + k)) (fun k => T (d + k)) f (some (r, q)) (j + 1) = F n K T f (some (r, q)) (d + j + 1) := fun q => ih _ _
        have e2 : d + F (n - d) (fun k => K (d + k)) (fun k => T (d + k)) f (some (r, p)) (F (n - d) (fun k => K (d + k)) (fun k => T (d + k)) f none (j + 2) + 1) = F n K T f (some (r, p)) (F n K T f none (d + j + 2) + 1) := by
          rw [ih, ← Nat.add_assoc, ih]; rfl
        rw [← e1, ← e1, ← e1, ← e2]
        repeat' split
        all_goals rfl
      · rw [if_neg c0, if_neg (show ¬ j < n - d by omega)]
        omega

theorem se_shift (n d : Nat) (K T : Nat → ByteArray) (hd : d ≤ n) : d + se (n - d) (fun k => K (d + k)) (fun k => T (d + k)) 0 = se n K T d := by
  unfold se
  rw [← G_eq (n - d) _ _ _ _ (2 * n + 2) (by omega), F_shift n d K T hd, routine_shift]
  rfl

/-! ### cut -/
theorem wd_cut {n n' : Nat} (K T : Nat → ByteArray) {j : Nat} (hn : n' ≤ n) (hj : j < n') : wd n' K T j = wd n K T j := by
  unfold wd
  have : j < n := by omega
  simp [hj, this]

/-- the routine's mark reads nothing behind the statement's end. -/
theorem routine_cut {n n' : Nat} (K T : Nat → ByteArray) {j e : Nat} (hn : n' ≤ n) (he : e < n') (hj : j ≤ e) (hs : is (T e) [59] = true) : routine n' K T j = routine n K T j := by
  have hw : ∀ {k : Nat} {b : List UInt8}, b ≠ [] → [59] ≠ b → is (wd n K T k) b = true → k ≤ e → k < e := by
    intro k b hb h59 hk hke
    rcases Nat.lt_or_ge k e with h | h
    · exact h
    · have : k = e := by omega
      subst this
      have := (wd_is hb hk).2
      rw [is_false_of hs h59] at this
      cases this
  unfold routine
  rw [wd_cut K T hn (show j < n' by omega)]
  by_cases c : is (wd n K T j) [99, 114, 101, 97, 116, 101] = true
  · have hje := hw (by simp) (by simp) c hj
    have w1 : wd n' K T (j + 1) = wd n K T (j + 1) := wd_cut K T hn (by omega)
    have ho : objAt n' K T j = objAt n K T j ∧ wd n' K T (objAt n K T j) = wd n K T (objAt n K T j) := by
      unfold objAt
      rw [w1]
      by_cases c1 : is (wd n K T (j + 1)) [111, 114] = true
      · have h1 := hw (by simp) (by simp) c1 (by omega)
        have w2 : wd n' K T (j + 2) = wd n K T (j + 2) := wd_cut K T hn (by omega)
        rw [w2]
        by_cases c2 : is (wd n K T (j + 2)) [114, 101, 112, 108, 97, 99, 101] = true
        · have h2 := hw (by simp) (by simp) c2 (by omega)
          rw [if_pos ⟨c1, c2⟩]
          exact ⟨rfl, wd_cut K T hn (by omega)⟩
        · rw [if_neg (fun h => c2 h.2)]
          exact ⟨rfl, w1⟩
      · rw [if_neg (fun h => c1 h.1), if_neg (fun h => c1 h.1)]
        exact ⟨rfl, w1⟩
    rw [ho.1, ho.2]
  · have c' : is (wd n K T j) [99, 114, 101, 97, 116, 101] = false := by simpa using c
    rw [c']; rfl

theorem F_cut (n n' : Nat) (K T : Nat → ByteArray) (hn : n' ≤ n) : ∀ (f : Nat) (m : Option (Bool × Int)) (j : Nat), F n K T f m j < n' → F n' K T f m j = F n K T f m j := by
  intro f
  induction f with
  | zero => intro m j h; simp [F] at h; omega
  | succ f ih =>
    intro m j h
    match m with
    | none =>
      rw [F] at h
      rw [F, F]
      by_cases c : j < n ∧ is (wd n K T j) [101, 110, 100] = false
      · rw [if_pos c] at h ⊢
        have h1 := F_lands n K T f none _ (Nat.lt_of_lt_of_le h hn)
        have h2 := F_lands n K T f (some (routine n K T j, 0)) j (by omega)
        have hr : routine n' K T j = routine n K T j := routine_cut K T hn (e := F n K T f (some (routine n K T j, 0)) j) (by omega) h2.1 (h2.2 rfl)
        rw [if_pos ⟨by omega, by rw [wd_cut K T hn (by omega)]; exact c.2⟩, hr, ih (some (routine n K T j, 0)) j (by omega), ih _ _ h]
      · rw [if_neg c] at h ⊢
        rw [if_neg ?_]
        rw [wd_cut K T hn h]
        exact fun x => c ⟨by omega, x.2⟩
    | some (r, p) =>
      rw [F] at h
      rw [F, F]
      by_cases c0 : j < n
      · rw [if_pos c0] at h ⊢
        have hj : j < n' := by
          have := F_lands n K T (f + 1) (some (r, p)) j (by rw [F, if_pos c0]; omega)
          rw [F, if_pos c0] at this
          omega
        rw [if_pos hj]
        by_cases c1 : is (T j) [40] = true
        · rw [if_pos c1] at h ⊢
          rw [if_pos c1, ih _ _ h]
        rw [if_neg c1] at h ⊢
        rw [if_neg c1]
        by_cases c2 : is (T j) [41] = true
        · rw [if_pos c2] at h ⊢
          rw [if_pos c2, ih _ _ h]
        rw [if_neg c2] at h ⊢
        rw [if_neg c2]
        by_cases c3 : is (T j) [59] = true
        · rw [if_pos c3] at h ⊢
          rw [if_pos c3]
        rw [if_neg c3] at h ⊢
        rw [if_neg c3]
        by_cases c4 : is (T j) [98, 101, 103, 105, 110] = true ∧ r = true ∧ p = 0 ∧ is (wd n K T (j + 1)) [97, 116, 111, 109, 105, 99] = true
        · rw [if_pos c4] at h ⊢
          have h1 := F_lands n K T f (some (r, p)) _ (Nat.lt_of_lt_of_le h hn)
          have h2 := F_lands n K T f none (j + 2) (by omega)
          rw [if_pos ⟨c4.1, c4.2.1, c4.2.2.1, by rw [wd_cut K T hn (by omega)]; exact c4.2.2.2⟩, ih none (j + 2) (by omega), ih _ _ h]
        · rw [if_neg c4] at h ⊢
          have h1 := F_lands n K T f (some (r, p)) _ (Nat.lt_of_lt_of_le h hn)
          rw [if_neg ?_, ih _ _ h]
          rw [wd_cut K T hn (by omega)]
          exact c4
      · rw [if_neg c0] at h
        omega

theorem se_cut (n n' : Nat) (K T : Nat → ByteArray) (j : Nat) (hn : n' ≤ n) (h : se n K T j < n') : se n' K T j = se n K T j := by
  have hl := se_lands n K T j (by omega)
  have hr : routine n' K T j = routine n K T j := routine_cut K T hn h hl.1 hl.2
  unfold se at *
  rw [hr, ← G_eq n' K T _ j (2 * n + 2) (by omega)]
  exact F_cut n n' K T hn _ _ j h

end Go.Proofs.Qxb6603855a
