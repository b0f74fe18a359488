/-
  PLAIN: the parts by key, with no Go in sight.
-/
namespace Go.Proofs.Qxb6602630a

/-- the first i < n with C i = s, else n -/
def fc (C : Nat → ByteArray) (s : ByteArray) : Nat → Nat
  | 0 => 0
  | n + 1 => if fc C s n < n then fc C s n else if C n = s then n else n + 1
theorem fc_spec (C : Nat → ByteArray) (s : ByteArray) : ∀ n, fc C s n ≤ n ∧ (∀ i, i < fc C s n → C i ≠ s) ∧ (fc C s n < n → C (fc C s n) = s) := by
  intro n
  induction n with
  | zero => exact ⟨Nat.le_refl _, fun i hi => by simp [fc] at hi, fun h => by omega⟩
  | succ n ih =>
    rw [fc]
    by_cases h : fc C s n < n
    · rw [if_pos h]
      exact ⟨by omega, ih.2.1, fun _ => ih.2.2 h⟩
    · rw [if_neg h]
      have hall : ∀ i, i < n → C i ≠ s := fun i hi => ih.2.1 i (by omega)
      by_cases e : C n = s
      · rw [if_pos e]
        exact ⟨by omega, hall, fun _ => e⟩
      · rw [if_neg e]
        refine ⟨Nat.le_refl _, fun i hi => ?_, fun h => by omega⟩
        by_cases e2 : i = n
        · subst e2; exact e
        · exact hall i (by omega)
theorem fc_eq {C : Nat → ByteArray} {s : ByteArray} {n i : Nat} (hi : i < n) (he : C i = s) (hl : ∀ j, j < i → C j ≠ s) : fc C s n = i := by
  obtain ⟨h1, h2, h3⟩ := fc_spec C s n
  rcases Nat.lt_trichotomy (fc C s n) i with h | h | h
  · exact absurd (h3 (by omega)) (hl _ h)
  · exact h
  · exact absurd he (h2 i h)
theorem fc_none {C : Nat → ByteArray} {s : ByteArray} {n : Nat} (hl : ∀ j, j < n → C j ≠ s) : fc C s n = n := by
  obtain ⟨h1, h2, h3⟩ := fc_spec C s n
  rcases Nat.lt_or_ge (fc C s n) n with h | h
  · exact absurd (h3 h) (hl _ h)
  · omega
theorem fc_lt_iff {C : Nat → ByteArray} {s : ByteArray} {n : Nat} : fc C s n < n ↔ ∃ j, j < n ∧ C j = s := by
  obtain ⟨h1, h2, h3⟩ := fc_spec C s n
  constructor
  · intro h; exact ⟨_, h, h3 h⟩
  · rintro ⟨j, hj, he⟩
    rcases Nat.lt_or_ge (fc C s n) n with h | h
    · exact h
    · exact absurd he (h2 j (by omega))

/-- the key at q has not been met before -/
def New (K : Nat → ByteArray) (q : Nat) : Prop := ∀ j, j < q → K j ≠ K q
theorem new_iff {K : Nat → ByteArray} {q : Nat} : New K q ↔ ¬ fc K (K q) q < q := by
  rw [fc_lt_iff]
  constructor
  · rintro h ⟨j, hj, he⟩; exact h j hj he
  · intro h j hj he; exact h ⟨j, hj, he⟩
/-- how many keys the first q operations bear -/
def dk (K : Nat → ByteArray) : Nat → Nat
  | 0 => 0
  | q + 1 => if fc K (K q) q < q then dk K q else dk K q + 1
theorem dk_new {K : Nat → ByteArray} {q : Nat} (h : New K q) : dk K (q + 1) = dk K q + 1 := by
  rw [dk, if_neg (new_iff.1 h)]
theorem dk_old {K : Nat → ByteArray} {q : Nat} (h : fc K (K q) q < q) : dk K (q + 1) = dk K q := by
  rw [dk, if_pos h]
theorem dk_mono (K : Nat → ByteArray) {a b : Nat} (h : a ≤ b) : dk K a ≤ dk K b := by
  induction b with
  | zero => obtain rfl : a = 0 := by omega
            exact Nat.le_refl _
  | succ b ih =>
    by_cases e : a = b + 1
    · subst e; exact Nat.le_refl _
    · refine Nat.le_trans (ih (by omega)) ?_
      rw [dk]
      split <;> omega
theorem dk_le (K : Nat → ByteArray) (q : Nat) : dk K q ≤ q := by
  induction q with
  | zero => exact Nat.le_refl _
  | succ q ih => rw [dk]; split <;> omega
/-- the first operation of the key at i -/
def fi (K : Nat → ByteArray) (i : Nat) : Nat := fc K (K i) (i + 1)
theorem fi_le (K : Nat → ByteArray) (i : Nat) : fi K i ≤ i := by
  have : fi K i < i + 1 := fc_lt_iff.2 ⟨i, Nat.lt_succ_self _, rfl⟩
  omega
theorem fi_key (K : Nat → ByteArray) (i : Nat) : K (fi K i) = K i := (fc_spec K (K i) (i + 1)).2.2 (fc_lt_iff.2 ⟨i, Nat.lt_succ_self _, rfl⟩)
theorem fi_min {K : Nat → ByteArray} {i j : Nat} (h : j < fi K i) : K j ≠ K i := (fc_spec K (K i) (i + 1)).2.1 j h
theorem fi_new (K : Nat → ByteArray) (i : Nat) : New K (fi K i) := fun j hj => by rw [fi_key K i]; exact fi_min hj
theorem fc_fi {K : Nat → ByteArray} {i n : Nat} (h : i < n) : fc K (K i) n = fi K i := fc_eq (by have := fi_le K i; omega) (fi_key K i) (fun j hj => fi_min hj)
theorem fi_self {K : Nat → ByteArray} {i : Nat} : fi K i = i ↔ New K i := by
  constructor
  · intro h j hj; exact fi_min (by omega)
  · intro h; exact fc_eq (Nat.lt_succ_self _) rfl h
theorem fi_congr {K : Nat → ByteArray} {i j : Nat} (h : K i = K j) : fi K i = fi K j := by
  rcases Nat.le_total i j with h' | h'
  · have := fc_fi (K := K) (i := i) (n := j + 1) (by omega)
    rw [← this, h]; rfl
  · have := fc_fi (K := K) (i := j) (n := i + 1) (by omega)
    rw [← this, ← h]; rfl
/-- the part of the operation i -/
def rk (K : Nat → ByteArray) (i : Nat) : Nat := dk K (fi K i)
theorem rk_lt {K : Nat → ByteArray} {i q : Nat} (h : i < q) : rk K i < dk K q := by
  have h1 := dk_new (fi_new K i)
  have h2 := dk_mono K (a := fi K i + 1) (b := q) (by have := fi_le K i; omega)
  unfold rk; omega
theorem rk_inj {K : Nat → ByteArray} {i j : Nat} : rk K i = rk K j ↔ K i = K j := by
  constructor
  · intro h
    have key : ∀ a b, New K a → New K b → a < b → dk K a ≠ dk K b := by
      intro a b ha _ hab he
      have h1 := dk_new ha
      have h2 := dk_mono K (a := a + 1) (b := b) hab
      omega
    rcases Nat.lt_trichotomy (fi K i) (fi K j) with h' | h' | h'
    · exact absurd h (key _ _ (fi_new K i) (fi_new K j) h')
    · rw [← fi_key K i, ← fi_key K j, h']
    · exact absurd h.symm (key _ _ (fi_new K j) (fi_new K i) h')
  · intro h; unfold rk; rw [fi_congr h]
theorem rk_new {K : Nat → ByteArray} {q : Nat} (h : New K q) : rk K q = dk K q := by unfold rk; rw [fi_self.2 h]
theorem rk_old {K : Nat → ByteArray} {q : Nat} (h : fc K (K q) q < q) : rk K q = dk K (fc K (K q) q) := by
  unfold rk
  obtain ⟨h1, h2, h3⟩ := fc_spec K (K q) q
  rw [show fi K q = fc K (K q) q from fc_eq (by omega) (h3 h) h2]

/-- the part p of the first q operations -/
def pl (K : Nat → ByteArray) (q p : Nat) : List Nat := (List.range q).filter fun i => decide (rk K i = p)
theorem pl_succ (K : Nat → ByteArray) (q p : Nat) : pl K (q + 1) p = if rk K q = p then pl K q p ++ [q] else pl K q p := by
  unfold pl
  rw [List.range_succ, List.filter_append]
  by_cases h : rk K q = p
  · rw [if_pos h]; simp [h]
  · rw [if_neg h]; simp [h]
theorem pl_top (K : Nat → ByteArray) (q : Nat) : pl K q (dk K q) = [] := by
  unfold pl
  rw [List.filter_eq_nil_iff]
  intro i hi
  have := rk_lt (K := K) (List.mem_range.1 hi)
  simp; omega
theorem pl_len (K : Nat → ByteArray) (q p : Nat) : (pl K q p).length ≤ q := by
  have := List.length_filter_le (fun i => decide (rk K i = p)) (List.range q)
  simpa [pl] using this
/-- the operations of the key s among the first q -/
def KL (K : Nat → ByteArray) (q : Nat) (s : ByteArray) : List Nat := (List.range q).filter fun i => decide (K i = s)
def cn (K : Nat → ByteArray) (q : Nat) (s : ByteArray) : Nat := (KL K q s).length
theorem pl_rk (K : Nat → ByteArray) (n i : Nat) : pl K n (rk K i) = KL K n (K i) := by
  unfold pl KL
  congr 1
  funext j
  rw [Bool.eq_iff_iff, decide_eq_true_iff, decide_eq_true_iff]
  exact rk_inj
theorem KL_succ (K : Nat → ByteArray) (q : Nat) (s : ByteArray) : KL K (q + 1) s = if K q = s then KL K q s ++ [q] else KL K q s := by
  unfold KL
  rw [List.range_succ, List.filter_append]
  by_cases h : K q = s
  · rw [if_pos h]; simp [h]
  · rw [if_neg h]; simp [h]
theorem KL_pre (K : Nat → ByteArray) (s : ByteArray) (q d : Nat) : ∃ l, KL K (q + d) s = KL K q s ++ l := by
  induction d with
  | zero => exact ⟨[], by simp⟩
  | succ d ih =>
    obtain ⟨l, h⟩ := ih
    rw [← Nat.add_assoc, KL_succ, h]
    split
    · exact ⟨l ++ [q + d], by simp⟩
    · exact ⟨l, rfl⟩
theorem KL_at {K : Nat → ByteArray} {n i : Nat} (h : i < n) : (KL K n (K i))[cn K i (K i)]? = some i := by
  obtain ⟨l, hl⟩ := KL_pre K (K i) (i + 1) (n - (i + 1))
  rw [show i + 1 + (n - (i + 1)) = n from by omega, KL_succ, if_pos rfl] at hl
  rw [hl]
  unfold cn
  simp
theorem cn_le (K : Nat → ByteArray) (q : Nat) (s : ByteArray) : cn K q s ≤ q := by
  have := List.length_filter_le (fun i => decide (K i = s)) (List.range q)
  simpa [cn, KL] using this
theorem cn_succ_eq {K : Nat → ByteArray} {q : Nat} {s : ByteArray} (h : K q = s) : cn K (q + 1) s = cn K q s + 1 := by
  unfold cn; rw [KL_succ, if_pos h]; simp
theorem cn_succ_ne {K : Nat → ByteArray} {q : Nat} {s : ByteArray} (h : K q ≠ s) : cn K (q + 1) s = cn K q s := by
  unfold cn; rw [KL_succ, if_neg h]
theorem cn_lt {K : Nat → ByteArray} {n i : Nat} (h : i < n) : cn K i (K i) < cn K n (K i) := by
  have := KL_at (K := K) h
  exact (List.getElem?_eq_some_iff.1 this).1

/-! ### the maps as functions -/
def upd (f : ByteArray → Option Int) (s : ByteArray) (v : Int) : ByteArray → Option Int := fun t => if s = t then some v else f t
/-- a number, by the first operation of the key -/
def mF (g : Nat → Nat) (K : Nat → ByteArray) (q : Nat) (s : ByteArray) : Option Int := if fc K s q < q then some (g (fc K s q) : Int) else none
theorem mF_zero (g : Nat → Nat) (K : Nat → ByteArray) (s : ByteArray) : mF g K 0 s = none := by simp [mF]
theorem mF_new {g : Nat → Nat} {K : Nat → ByteArray} {q : Nat} (h : New K q) (s : ByteArray) : upd (mF g K q) (K q) (g q) s = mF g K (q + 1) s := by
  unfold upd mF
  by_cases e : K q = s
  · rw [if_pos e]
    subst e
    rw [show fc K (K q) (q + 1) = q from fc_eq (Nat.lt_succ_self _) rfl h, if_pos (Nat.lt_succ_self _)]
  · rw [if_neg e]
    by_cases h' : fc K s q < q
    · have : fc K s (q + 1) = fc K s q := by rw [fc, if_pos h']
      rw [if_pos h', this, if_pos (by omega)]
    · have : fc K s (q + 1) = q + 1 := by rw [fc, if_neg h', if_neg e]
      rw [if_neg h', this, if_neg (by omega)]
theorem mF_old {g : Nat → Nat} {K : Nat → ByteArray} {q : Nat} (h : fc K (K q) q < q) (s : ByteArray) : mF g K q s = mF g K (q + 1) s := by
  unfold mF
  by_cases h' : fc K s q < q
  · have : fc K s (q + 1) = fc K s q := by rw [fc, if_pos h']
    rw [if_pos h', this, if_pos (by omega)]
  · by_cases e : K q = s
    · subst e; exact absurd h h'
    · have : fc K s (q + 1) = q + 1 := by rw [fc, if_neg h', if_neg e]
      rw [if_neg h', this, if_neg (by omega)]
theorem mF_at {g : Nat → Nat} {K : Nat → ByteArray} {n i : Nat} (h : i < n) : mF g K n (K i) = some (g (fi K i) : Int) := by
  unfold mF
  rw [fc_fi h, if_pos (by have := fi_le K i; omega)]
/-- how often the key has been met -/
def mC (K : Nat → ByteArray) (q : Nat) (s : ByteArray) : Option Int := if cn K q s = 0 then none else some (cn K q s : Int)
theorem mC_zero (K : Nat → ByteArray) (s : ByteArray) : mC K 0 s = none := by simp [mC, cn, KL]
theorem mC_get (K : Nat → ByteArray) (q : Nat) (s : ByteArray) : (mC K q s).getD 0 = (cn K q s : Int) := by
  unfold mC
  by_cases h : cn K q s = 0
  · rw [if_pos h, h]; rfl
  · rw [if_neg h]; rfl
theorem mC_step (K : Nat → ByteArray) (q : Nat) (s : ByteArray) : upd (mC K q) (K q) ((cn K q (K q) : Int) + 1) s = mC K (q + 1) s := by
  unfold upd mC
  by_cases e : K q = s
  · rw [if_pos e]
    subst e
    rw [cn_succ_eq rfl, if_neg (by omega)]
    rfl
  · rw [if_neg e, cn_succ_ne e]
end Go.Proofs.Qxb6602630a
