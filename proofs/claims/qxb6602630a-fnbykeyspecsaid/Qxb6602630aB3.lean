/-
  THE MAP AND THE PARTS; byKey.
-/
import Derived.Test.Qxb6602630aB2
import Derived.Maps.Own
import Derived.Maps.OwnSet
import Derived.Maps.AppendAt
import Derived.StringKeys
import Derived.Deep.AppendLies
import Derived.Deep.RegionLaw
namespace Go.Proofs.Qxb6602630a
open Go.RowKit Go.Maps

/-- A map[string]int THAT THE CALL MAKES, AS A FUNCTION. -/
def IMap (w : World) (B n : Nat) (f : ByteArray → Option Int) : Prop :=
  ∃ D : DataW Unit, w.ownsMap Try.prog 9 (plainElem Try.prog 3) B n D ∧ ∀ s : ByteArray, s.size ≤ maxLen → ∀ z, D.atKey (.string s.data.toList) z = match f s with | none => z | some v => .lit (.int .i64 v)
theorem law9 : Keyed Try.prog 9 := string_keyed Try.underlying9
theorem zero3 (w : World) : (zeroValue 3).run Try.prog w = .ok (.int .i64 0) w := by kernel_rfl
theorem IMap.made (w : World) : IMap (w.alloc (.map #[] 0)) w.heap.size 0 (fun _ => none) :=
  ⟨.map [], World.ownsMap_made w _ _ _, fun _ _ _ => rfl⟩
theorem IMap.congr {w : World} {B n : Nat} {f g : ByteArray → Option Int} (h : IMap w B n f) (e : ∀ s, f s = g s) : IMap w B n g := by
  obtain ⟨D, h1, h2⟩ := h
  exact ⟨D, h1, fun s hs z => by rw [h2 s hs z, e s]⟩
theorem IMap.below {w w' : World} {B n : Nat} {f : ByteArray → Option Int} (h : IMap w B n f) (hb : w'.heap[B]? = w.heap[B]?) : IMap w' B n f := by
  obtain ⟨D, ⟨es, clock, h0, h1⟩, h2⟩ := h
  exact ⟨D, ⟨es, clock, hb.trans h0, h1⟩, h2⟩
theorem IMap.lt {w : World} {B n : Nat} {f : ByteArray → Option Int} (h : IMap w B n f) : B < w.heap.size := by
  obtain ⟨D, h1, _⟩ := h
  exact h1.lt
theorem IMap.mono {w : World} {B n n' : Nat} {f : ByteArray → Option Int} (h : IMap w B n f) (hn : n ≤ n') : IMap w B n' f := by
  obtain ⟨D, h1, h2⟩ := h
  exact ⟨D, h1.mono hn, h2⟩
theorem IMap.later {w w' : World} {B n : Nat} {f : ByteArray → Option Int} (h : IMap w B n f) {C : Nat} (hb : Below C w w') (hC : B < C) : IMap w' B n f := h.below (hb.block B hC)
theorem IMap.look {w : World} {B n : Nat} {f : ByteArray → Option Int} (h : IMap w B n f) {s : ByteArray} (hs : s.size ≤ maxLen) : (Instr.lookup 31 (.map (some B)) (.string s) false).run Try.prog w = .ok (.int .i64 ((f s).getD 0)) w := by
  obtain ⟨D, h1, h2⟩ := h
  obtain ⟨c, hrun, hat, _⟩ := h1.lookup_int law9 Try.underlying31 Try.underlying3 (zero3 w) (WideMaps.keyOf_string_mk Try.underlying9 hs)
  rw [h2 s hs] at hat
  rw [hrun]
  cases hf : f s with
  | none => rw [hf] at hat; simp at hat; simp [hat]
  | some v => rw [hf] at hat; simp at hat; simp [hat]
theorem IMap.look2 {w : World} {B n : Nat} {f : ByteArray → Option Int} (h : IMap w B n f) {s : ByteArray} (hs : s.size ≤ maxLen) : (Instr.lookup 31 (.map (some B)) (.string s) true).run Try.prog w = .ok (.tuple #[.int .i64 ((f s).getD 0), .bool (f s).isSome]) w := by
  obtain ⟨D, h1, h2⟩ := h
  obtain ⟨v, ps, hrun, hv⟩ := h1.look_ok law9 Try.underlying31 (zero3 w) (plainElem_int Try.underlying3 (by decide)) (WideMaps.keyOf_string_mk Try.underlying9 hs)
  obtain ⟨c, rfl, hc, _⟩ := plainElem_int_inv Try.underlying3 hv
  simp only [Prod.mk.injEq] at hc
  have hat := hc.1
  rw [h2 s hs] at hat
  rw [hrun]
  cases hf : f s with
  | none =>
    rw [hf] at hat; simp at hat
    have : has D (.string s.data.toList) = false := has_false_of_atKey fun z => by rw [h2 s hs z, hf]
    simp [this, hat]
  | some v =>
    rw [hf] at hat; simp at hat
    have : has D (.string s.data.toList) = true := has_true_of_atKey (y := .lit (.int .i64 v)) fun z => by rw [h2 s hs z, hf]
    simp [this, hat]
theorem IMap.put {w : World} {B n : Nat} {f : ByteArray → Option Int} (h : IMap w B n f) (hn : n < 1000000) {s : ByteArray} (hs : s.size ≤ maxLen) {v : Int} (hv : (Lit.int .i64 v).wf = true) :
    ∃ w', (Instr.mapUpdate 31 (.map (some B)) (.string s) (.int .i64 v)).run Try.prog w = .ok () w' ∧ IMap w' B (n + 1) (upd f s v) ∧ w.grownBy w' (some B) := by
  obtain ⟨D, h1, h2⟩ := h
  have hkey := WideMaps.keyOf_string_mk (P := Try.prog) Try.underlying9 hs
  obtain ⟨w', hrun, ho, hg⟩ := h1.update law9 Try.underlying31 (by unfold maxLen; omega) hkey (plainElem_int Try.underlying3 hv)
  refine ⟨w', hrun, ⟨_, ho, fun t ht z => ?_⟩, hg⟩
  unfold upd
  by_cases e : s = t
  · subst e
    rw [atKey_put_same h1.isMap (law9.key hkey), if_pos rfl]
  · have hne : (Lit.string t.data.toList) ≠ Lit.string s.data.toList := by
      intro he
      apply e
      have he2 : t.data.toList = s.data.toList := by simpa using he
      cases s; cases t
      congr 1
      exact (Array.ext' he2).symm
    rw [atKey_put_other hne, h2 t ht z, if_neg e]

/-! ### the parts -/
theorem own_ge {w : World} {base : Nat} {e : TypeId} {size : Nat} {v : Value} {n : Nat} {xs : List Value} (h : w.ownsRow base e size v n xs) : ∀ k, v.ownBlock = some k → base ≤ k := by
  rcases h.2 with ⟨rfl, _⟩ | ⟨g', cap, cur, rfl, hb, _⟩
  · intro k hk; simp [Value.ownBlock] at hk
  · intro k hk; simp only [Value.ownBlock, Option.some.injEq] at hk; omega
theorem own_lt {w : World} {base : Nat} {e : TypeId} {size : Nat} {v : Value} {n : Nat} {xs : List Value} (h : w.ownsRow base e size v n xs) : ∀ k, v.ownBlock = some k → k < w.heap.size := by
  rcases h.2 with ⟨rfl, _⟩ | ⟨g', cap, cur, rfl, hb, hg, _⟩
  · intro k hk; simp [Value.ownBlock] at hk
  · intro k hk
    simp only [Value.ownBlock, Option.some.injEq] at hk
    subst hk
    exact (Array.getElem?_eq_some_iff.1 hg).1
theorem own_later {w w' : World} {base : Nat} {e : TypeId} {size : Nat} {v : Value} {n : Nat} {xs : List Value} (h : w.ownsRow base e size v n xs) (hb : Below w.heap.size w w') : w'.ownsRow base e size v n xs := by
  refine ⟨h.1, ?_⟩
  rcases h.2 with h2 | ⟨g, cap, cur, hv, hg, hh, r⟩
  · exact .inl h2
  · exact .inr ⟨g, cap, cur, hv, hg, (hb.block g (Array.getElem?_eq_some_iff.1 hh).1).trans hh, r⟩
/-- two values own no row in common -/
def Dis (v u : Value) : Prop := ∀ g, v.ownBlock = some g → u.ownBlock ≠ some g
theorem Dis.symm {v u : Value} (h : Dis v u) : Dis u v := fun g h1 h2 => h g h2 h1
theorem Dis.nil (v : Value) : Dis v (.slice none 0 0) := fun g _ h => by simp [Value.ownBlock] at h
theorem Dis.kept {v u : Value} (h : Dis v u) : u.ownBlock = none ∨ u.ownBlock ≠ v.ownBlock := by
  cases hu : u.ownBlock with
  | none => exact .inl rfl
  | some g => exact .inr fun e => h g e.symm hu

/-- the cells of the steps over the operations of l, which lie at b, off -/
def sCells (b off : Nat) (l : List Nat) : List Value := l.flatMap fun i => [.pointer (some ⟨b, off + i * 8, none⟩), .int .i64 0, .bool false, .pointer none]
theorem sCells_snoc (b off : Nat) (l : List Nat) (i : Nat) : sCells b off (l ++ [i]) = sCells b off l ++ [.pointer (some ⟨b, off + i * 8, none⟩), .int .i64 0, .bool false, .pointer none] := by simp [sCells]

/-- THE PARTS: m of them, the slices PV, each over its list. -/
structure PS (w : World) (B b off : Nat) (vP : Value) (m : Nat) (PV : Nat → Value) (L : Nat → List Nat) : Prop where
  own : w.ownsRow B 25 1 vP m ((List.range m).map PV)
  part : ∀ p, p < m → w.ownsRow B 30 4 (PV p) (L p).length (sCells b off (L p))
  dis0 : ∀ p, p < m → Dis vP (PV p)
  dis : ∀ p p', p < m → p' < m → p ≠ p' → Dis (PV p) (PV p')
theorem PS.nil (w : World) (B b off : Nat) (PV : Nat → Value) (L : Nat → List Nat) : PS w B b off (.slice none 0 0) 0 PV L :=
  ⟨World.ownsRow_nil _ _ _ _, fun p hp => by omega, fun p hp => by omega, fun p p' hp => by omega⟩
theorem PS.congr {w : World} {B b off : Nat} {vP : Value} {m m' : Nat} {PV : Nat → Value} {L L' : Nat → List Nat} (h : PS w B b off vP m PV L) (hm : m = m') (hL : ∀ p, p < m → L p = L' p) : PS w B b off vP m' PV L' := by
  subst hm
  exact ⟨h.own, fun p hp => hL p hp ▸ h.part p hp, h.dis0, h.dis⟩
/-- ANOTHER ROW THAN THEIRS HAS GROWN, or none. -/
theorem PS.kept {w w' : World} {B b off : Nat} {vP : Value} {m : Nat} {PV : Nat → Value} {L : Nat → List Nat} (h : PS w B b off vP m PV L) {row : Option Nat} (hg : w.grownBy w' row) (hr : ∀ k, row = some k → k < B) : PS w' B b off vP m PV L := by
  have aux : ∀ {e : TypeId} {size : Nat} {v : Value} {n : Nat} {xs : List Value}, w.ownsRow B e size v n xs → w'.ownsRow B e size v n xs := by
    intro e size v n xs ho
    refine ho.kept hg ?_
    cases hv : v.ownBlock with
    | none => exact .inl rfl
    | some k =>
      refine .inr fun e' => ?_
      have := own_ge ho k hv
      have := hr k e'.symm
      omega
  exact ⟨aux h.own, fun p hp => aux (h.part p hp), h.dis0, h.dis⟩
theorem PS.alloc {w : World} {B b off : Nat} {vP : Value} {m : Nat} {PV : Nat → Value} {L : Nat → List Nat} (h : PS w B b off vP m PV L) (o : Obj) : PS (w.alloc o) B b off vP m PV L := h.kept (World.grownBy_alloc w o none) (fun k h => by cases h)
theorem PS.later {w w' : World} {B b off : Nat} {vP : Value} {m : Nat} {PV : Nat → Value} {L : Nat → List Nat} (h : PS w B b off vP m PV L) (hb : Below w.heap.size w w') : PS w' B b off vP m PV L :=
  ⟨own_later h.own hb, fun p hp => own_later (h.part p hp) hb, h.dis0, h.dis⟩
/-- 'parts = append(parts, nil)'. -/
theorem PS.snoc {w w' : World} {B b off : Nat} {vP v' : Value} {m H : Nat} {PV : Nat → Value} {L : Nat → List Nat} (h : PS w B b off vP m PV L)
    (hown : w'.ownsRow B 25 1 v' (m + 1) ((List.range m).map PV ++ [.slice none 0 0])) (hg : w.grownBy w' vP.ownBlock) (hat : v'.ownBlock = vP.ownBlock ∨ v'.ownBlock = some H) (hH : w.heap.size ≤ H) :
    PS w' B b off v' (m + 1) (fun p => if p = m then .slice none 0 0 else PV p) (fun p => if p = m then [] else L p) := by
  refine ⟨?_, fun p hp => ?_, fun p hp => ?_, fun p p' hp hp' hne => ?_⟩
  · rw [List.range_succ, List.map_append]
    have : (List.range m).map (fun p => if p = m then Value.slice none 0 0 else PV p) = (List.range m).map PV := by
      refine List.map_congr_left fun p hp => ?_
      have := List.mem_range.1 hp
      rw [if_neg (by omega)]
    rw [this]
    simpa using hown
  · by_cases e : p = m
    · simp only [e, if_true]
      exact World.ownsRow_nil _ _ _ _
    · simp only [e, if_false]
      exact (h.part p (by omega)).kept hg (h.dis0 p (by omega)).kept
  · by_cases e : p = m
    · simp only [e, if_true]; exact Dis.nil _
    · simp only [e, if_false]
      intro g h1 h2
      rcases hat with h3 | h3
      · exact h.dis0 p (by omega) g (h3 ▸ h1) h2
      · have := own_lt (h.part p (by omega)) g h2
        rw [h3] at h1
        simp at h1
        omega
  · by_cases e : p = m
    · simp only [e, if_true]; exact (Dis.nil _).symm
    · by_cases e' : p' = m
      · simp only [e', if_true]; exact Dis.nil _
      · simp only [e, e', if_false]; exact h.dis p p' (by omega) (by omega) hne
end Go.Proofs.Qxb6602630a
