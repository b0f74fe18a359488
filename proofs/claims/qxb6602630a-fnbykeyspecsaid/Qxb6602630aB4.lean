/-
  byKey.
-/
import Derived.Test.Qxb6602630aB3
namespace Go.Proofs.Qxb6602630a
open Go.RowKit Go.Maps

theorem Try.info25 : (Try.prog.info? 25).map (fun i => (i.zero, i.size, i.bytes)) = some (some (.slice none 0 0), 1, 24) := by kernel_rfl
theorem Try.info30 : (Try.prog.info? 30).map (fun i => (i.zero, i.size, i.bytes)) = some (some (.agg #[.pointer none, .int .i64 0, .bool false, .pointer none]), 4, 32) := by kernel_rfl

theorem own_setOther {w : World} {B : Nat} {e : TypeId} {size : Nat} {v : Value} {n : Nat} {xs : List Value} (h : w.ownsRow B e size v n xs) {a : Addr} (ha : v.ownBlock ≠ some a.block) (u : Value) : (w.setCell a u).ownsRow B e size v n xs := by
  refine ⟨h.1, ?_⟩
  rcases h.2 with h2 | ⟨g, cap, cur, rfl, hg, hh, r⟩
  · exact .inl h2
  · refine .inr ⟨g, cap, cur, rfl, hg, ?_, r⟩
    rw [Below.heap_setCell _ _ _ _ (fun e => ha (by simp [Value.ownBlock, e]))]
    exact hh
theorem own_set {w : World} {B g m cap : Nat} {e : TypeId} {xs : List Value} (h : w.ownsRow B e 1 (.slice (some ⟨g, 0, none⟩) m cap) m xs) {p : Nat} (u : Value) :
    (w.setCell ⟨g, p, none⟩ u).ownsRow B e 1 (.slice (some ⟨g, 0, none⟩) m cap) m (xs.set p u) := by
  rcases h.2 with ⟨h', _⟩ | ⟨g', cap', cur, h', hB, hg, h1, h2, h3, h4⟩
  · simp at h'
  simp only [Value.slice.injEq, Option.some.injEq, Addr.mk.injEq, and_true, true_and] at h'
  obtain ⟨rfl, rfl⟩ := h'
  refine ⟨by simpa using h.1, .inr ⟨g, cap, cur.setIfInBounds p u, rfl, hB, ?_, h1, h2, by simpa using h3, ?_⟩⟩
  · simp [World.setCell, Array.getElem?_modify, hg]
  · rw [Array.toList_setIfInBounds, ← h4]
    rw [Nat.mul_one, List.take_set]
theorem own_cell {w : World} {B g m cap : Nat} {e : TypeId} {xs : List Value} (h : w.ownsRow B e 1 (.slice (some ⟨g, 0, none⟩) m cap) m xs) {p : Nat} {u : Value} (hp : xs[p]? = some u) :
    w.cell? ⟨g, p, none⟩ = some u ∧ w.frozen? ⟨g, p, none⟩ = false := by
  rcases h.2 with ⟨h', _⟩ | ⟨g', cap', cur, h', hB, hg, h1, h2, h3, h4⟩
  · simp at h'
  simp only [Value.slice.injEq, Option.some.injEq, Addr.mk.injEq, and_true, true_and] at h'
  obtain ⟨rfl, rfl⟩ := h'
  refine ⟨?_, by simp [World.frozen?, hg]⟩
  have hlt : p < m := by
    have := (List.getElem?_eq_some_iff.1 hp).1
    have := h.1
    omega
  rw [← h4, List.getElem?_take_of_lt (by omega)] at hp
  simpa [World.cell?, hg] using hp
theorem PS.cell {w : World} {B b off g m cap : Nat} {PV : Nat → Value} {L : Nat → List Nat} (h : PS w B b off (.slice (some ⟨g, 0, none⟩) m cap) m PV L) {p : Nat} (hp : p < m) : w.cell? ⟨g, p, none⟩ = some (PV p) ∧ w.frozen? ⟨g, p, none⟩ = false :=
  own_cell h.own (by simp [hp])

/-- THE PART p HAS GROWN BY i, AND STANDS IN ITS PLACE. -/
theorem PS.put {W w1 : World} {B b off gP m cP p i g cap H : Nat} {PV : Nat → Value} {L : Nat → List Nat} (h : PS W B b off (.slice (some ⟨gP, 0, none⟩) m cP) m PV L) (hp : p < m)
    (hown : w1.ownsRow B 30 4 (.slice (some ⟨g, 0, none⟩) ((L p).length + 1) cap) ((L p).length + 1) (sCells b off (L p) ++ [.pointer (some ⟨b, off + i * 8, none⟩), .int .i64 0, .bool false, .pointer none]))
    (hg : W.grownBy w1 (PV p).ownBlock) (hat : (PV p).ownBlock = some g ∨ g = H) (hH : W.heap.size ≤ H) :
    PS (w1.setCell ⟨gP, p, none⟩ (.slice (some ⟨g, 0, none⟩) ((L p).length + 1) cap)) B b off (.slice (some ⟨gP, 0, none⟩) m cP) m
      (fun q => if q = p then .slice (some ⟨g, 0, none⟩) ((L p).length + 1) cap else PV q) (fun q => if q = p then L p ++ [i] else L q) := by
  have hPlt : gP < W.heap.size := own_lt h.own gP rfl
  have hgP : g ≠ gP := by
    rcases hat with e | e
    · intro e2; exact h.dis0 p hp gP rfl (by rw [e, e2])
    · omega
  have hgq : ∀ q, q < m → q ≠ p → (PV q).ownBlock ≠ some g := by
    intro q hq hne e2
    rcases hat with e | e
    · exact h.dis p q hp hq (fun e => hne e.symm) g e e2
    · have := own_lt (h.part q hq) g e2; omega
  refine ⟨?_, fun q hq => ?_, fun q hq => ?_, fun q q' hq hq' hne => ?_⟩
  · have h1 := own_set (h.own.kept hg ((h.dis0 p hp).symm.kept)) (p := p) (.slice (some ⟨g, 0, none⟩) ((L p).length + 1) cap)
    have e : ((List.range m).map PV).set p (.slice (some ⟨g, 0, none⟩) ((L p).length + 1) cap) = (List.range m).map (fun q => if q = p then Value.slice (some ⟨g, 0, none⟩) ((L p).length + 1) cap else PV q) := by
      apply List.ext_getElem?
      intro j
      rw [List.getElem?_set]
      by_cases e : p = j
      · subst e; simp [hp]
      · rw [if_neg e]
        by_cases hj : j < m
        · simp only [List.getElem?_map, List.getElem?_range hj, Option.map_some, show ¬ (j = p) from fun h => e h.symm, if_false]
        · rw [List.getElem?_eq_none (by simp; omega), List.getElem?_eq_none (by simp; omega)]
    rw [e] at h1
    exact h1
  · by_cases e : q = p
    · simp only [e, if_true]
      rw [sCells_snoc, List.length_append]
      exact own_setOther hown (by simp [Value.ownBlock]; exact hgP) _
    · simp only [e, if_false]
      refine own_setOther ((h.part q hq).kept hg (h.dis p q hp hq (fun e' => e e'.symm)).kept) ?_ _
      intro e2
      exact h.dis0 q hq gP rfl e2
  · by_cases e : q = p
    · simp only [e, if_true]
      intro x h1 h2
      simp only [Value.ownBlock, Option.some.injEq] at h1 h2
      exact hgP (by omega)
    · simp only [e, if_false]; exact h.dis0 q hq
  · by_cases e : q = p
    · by_cases e' : q' = p
      · exact absurd (e.trans e'.symm) hne
      · simp only [e, e', if_true, if_false]
        intro x h1 h2
        simp only [Value.ownBlock, Option.some.injEq] at h1
        subst h1
        exact hgq q' hq' e' h2
    · by_cases e' : q' = p
      · simp only [e, e', if_true, if_false]
        intro x h1 h2
        simp only [Value.ownBlock, Option.some.injEq] at h2
        subst h2
        exact hgq q hq e h1
      · simp only [e, e', if_false]; exact h.dis q q' hq hq' hne
theorem own_shape {w : World} {B n : Nat} {e : TypeId} {size : Nat} {v : Value} {xs : List Value} (h : w.ownsRow B e size v n xs) : ∃ a c, v = .slice a n c := by
  rcases h.2 with ⟨h', rfl⟩ | ⟨g', cap', cur, h', hB, hg, _⟩
  · exact ⟨_, _, h'⟩
  · exact ⟨_, _, h'⟩
theorem own_form {w : World} {B n : Nat} {e : TypeId} {size : Nat} {v : Value} {xs : List Value} (h : w.ownsRow B e size v n xs) (hn : 0 < n) : ∃ g c, v = .slice (some ⟨g, 0, none⟩) n c := by
  rcases h.2 with ⟨_, h'⟩ | ⟨g', cap', cur, h', hB, hg, _⟩
  · omega
  · exact ⟨g', cap', h'⟩

/-- the four cells of a step, just laid -/
theorem news4 (w : World) (x0 x1 x2 x3 : Value) (t : TypeId) : ∀ j u, [x0, x1, x2, x3][j]? = some u → (w.alloc (.cells #[x0, x1, x2, x3] t)).cell? ((⟨w.heap.size, 0, none⟩ : Addr).add j) = some u := by
  intro j u hj
  match j, hj with
  | 0, hj => simp at hj; subst hj; simp [Addr.add]
  | 1, hj => simp at hj; subst hj; simp [Addr.add]
  | 2, hj => simp at hj; subst hj; simp [Addr.add]
  | 3, hj => simp at hj; subst hj; simp [Addr.add]
  | j + 4, hj => simp at hj
theorem ones4 (a : Addr) : ∀ u ∈ ([.pointer (some a), .int .i64 0, .bool false, .pointer none] : List Value), u.oneCell' = true := by
  intro u hu
  simp at hu
  rcases hu with rfl | rfl | rfl | rfl <;> rfl

theorem undrew {w w' : World} {row : Option Nat} (h : w.drew.grownBy w' row) : w.grownBy w' row := ⟨h.os, h.tape, h.output, h.size, h.block⟩
theorem PS.after {W w1 : World} {B b off gP m cP p : Nat} {PV : Nat → Value} {L : Nat → List Nat} (h : PS W B b off (.slice (some ⟨gP, 0, none⟩) m cP) m PV L) (hp : p < m) (hg : W.drew.grownBy w1 (PV p).ownBlock) :
    w1.cell? ⟨gP, p, none⟩ = some (PV p) ∧ w1.frozen? ⟨gP, p, none⟩ = false :=
  own_cell (h.own.kept (undrew hg) ((h.dis0 p hp).symm.kept)) (by simp [hp])
/-- the round's end, in memory -/
theorem round_mem {w wX w1 : World} {o : Obj} {b off gP m cP p i g cap N : Nat} {PV : Nat → Value} {L : Nat → List Nat} {f : ByteArray → Option Int} (hM : IMap wX w.heap.size N f) (hB : Below w.heap.size w wX)
    (h : PS wX (w.heap.size + 1) b off (.slice (some ⟨gP, 0, none⟩) m cP) m PV L) (hp : p < m)
    (hown : w1.ownsRow (w.heap.size + 1) 30 4 (.slice (some ⟨g, 0, none⟩) ((L p).length + 1) cap) ((L p).length + 1) (sCells b off (L p) ++ [.pointer (some ⟨b, off + i * 8, none⟩), .int .i64 0, .bool false, .pointer none]))
    (hg : (wX.alloc o).drew.grownBy w1 (PV p).ownBlock) (hat : (PV p).ownBlock = some g ∨ g = wX.heap.size + 1) :
    IMap (w1.setCell ⟨gP, p, none⟩ (.slice (some ⟨g, 0, none⟩) ((L p).length + 1) cap)) w.heap.size N f ∧
    PS (w1.setCell ⟨gP, p, none⟩ (.slice (some ⟨g, 0, none⟩) ((L p).length + 1) cap)) (w.heap.size + 1) b off (.slice (some ⟨gP, 0, none⟩) m cP) m
      (fun q => if q = p then .slice (some ⟨g, 0, none⟩) ((L p).length + 1) cap else PV q) (fun q => if q = p then L p ++ [i] else L q) ∧
    Below w.heap.size w (w1.setCell ⟨gP, p, none⟩ (.slice (some ⟨g, 0, none⟩) ((L p).length + 1) cap)) := by
  have hgP : w.heap.size + 1 ≤ gP := own_ge h.own gP rfl
  have hlt := hM.lt
  have hrow : ∀ k, (PV p).ownBlock = some k → w.heap.size + 1 ≤ k := own_ge (h.part p hp)
  refine ⟨?_, PS.put (h.alloc o) hp hown (undrew hg) hat (by simp), ?_⟩
  · refine hM.below ?_
    rw [Below.heap_setCell _ _ _ _ (by simp; omega)]
    rw [(undrew hg).block w.heap.size (by simp; omega) (fun e => by have := hrow _ e.symm; omega)]
    exact Below.heap_alloc _ _ _ hlt
  · refine Below.setCell ?_ (by simp; omega) _
    exact (hB.alloc (by omega) o).grown (undrew hg) (by simp; omega) (fun k e => by have := hrow k e; omega)

/-- WHAT byKey LEAVES. -/
def KeyPost (w : World) (b off n : Nat) (K : Nat → ByteArray) (e : Ending) (w' : World) : Prop :=
  ∃ vP PV, e = .returned vP ∧ PS w' (w.heap.size + 1) b off vP (dk K n) PV (pl K n) ∧ (n = 0 → vP = .slice none 0 0) ∧ Below w.heap.size w w'

set_option maxRecDepth 100000 in
set_option maxHeartbeats 4000000 in
theorem byKey_any (b off n c : Nat) (R : Nat → OpR) (K : Nat → ByteArray) (w : World) (hn : n ≤ 65536) (hK : Hid (∀ j, (R j).ky = K j)) (hz : Hid (∀ j, j < n → (K j).size ≤ maxLen)) (hO : Hid (OpS w (some ⟨b, off, none⟩) n R)) :
    Calls Try.prog 26 #[.slice (some ⟨b, off, none⟩) n c] w (KeyPost w b off n K) := by
  obtain ⟨i0, hi, hz0, hz1, hz2⟩ := info_parts Try.info25
  obtain ⟨j0, hj, hy0, hy1, hy2⟩ := info_parts Try.info30
  have hmm := @run_makeMap Try.prog
  have HM0 : Hid (IMap (w.alloc (.map #[] 0)) w.heap.size 0 (mF (dk K) K 0)) := (IMap.made w).congr fun s => (mF_zero _ _ s).symm
  have HB0 : Hid (Below w.heap.size w (w.alloc (.map #[] 0))) := (Below.refl _ _).alloc (Nat.le_refl _) _
  go_enter Try.func26, Try.ntmps26
  go_wp2_with fail
  go_loopw [4, 11] (fun x z wr => ∃ (q : Nat) (PV : Nat → Value), z = .int .i64 q ∧ q ≤ n ∧ Hid (IMap wr w.heap.size q (mF (dk K) K q)) ∧ Hid (PS wr (w.heap.size + 1) b off x (dk K q) PV (pl K q)) ∧ Hid (q = 0 → x = .slice none 0 0) ∧ Hid (Below w.heap.size w wr)) (fun _ z _ => n - (intOf z).toNat)
  case atStart => exact ⟨0, fun _ => .bool false, rfl, Nat.zero_le _, HM0, PS.nil _ _ _ _ _ _, fun _ => rfl, HB0⟩
  case round =>
    obtain ⟨q, PV, rfl, hq, HM, HP, HN, HB⟩ := hrel
    clear hmm HM0 HB0
    obtain ⟨aP, cP, hvP⟩ := own_shape HP.out.own
    subst hvP
    by_cases hlt : q < n
    · have hltI : (q : Int) < (n : Int) := by omega
      obtain ⟨b', off', e0, d⟩ := hO.out q hlt
      simp only [Option.some.injEq, Addr.mk.injEq, and_true] at e0
      obtain ⟨rfl, rfl⟩ := e0
      have d2 := cell_later HB.out d.c2
      rw [hK.out q] at d2
      clear d
      have hsz := hz.out q hlt
      have hlook := HM.out.look2 hsz
      have hlB := HM.out.lt
      have hdk := dk_le K q
      have hpl := fun p => pl_len K q p
      by_cases hold : fc K (K q) q < q
      · have e1 : mF (dk K) K q (K q) = some ((rk K q : Nat) : Int) := by unfold mF; rw [if_pos hold, rk_old hold]
        rw [e1] at hlook
        simp only [Option.getD_some, Option.isSome_some] at hlook
        have hrk : rk K q < dk K q := by have := rk_lt (K := K) (Nat.lt_succ_self q); rw [dk_old hold] at this; exact this
        obtain ⟨gP, cP', hv⟩ := own_form HP.out.own (by omega)
        simp only [Value.slice.injEq, true_and] at hv
        obtain ⟨rfl, rfl⟩ := hv
        have HMX : Hid (IMap wr w.heap.size (q + 1) (mF (dk K) K (q + 1))) := (HM.out.mono (Nat.le_succ _)).congr (mF_old hold)
        have HPX := HP
        have HBX := HB
        have hmX : Hid (dk K q = dk K (q + 1)) := (dk_old hold).symm
        have hplX : Hid (∀ p, (if p = rk K q then pl K q (rk K q) ++ [q] else pl K q p) = pl K (q + 1) p) := fun p => by
          rw [pl_succ]
          by_cases e : p = rk K q
          · subst e; simp
          · rw [if_neg e, if_neg (fun h => e h.symm)]
        clear e1 hold HN HM
        have HPA : Hid (PS (wr.alloc (.cells #[.pointer (some ⟨b, off + q * 8, none⟩), .int .i64 0, .bool false, .pointer none] 30)) (w.heap.size + 1) b off (.slice (some ⟨gP, 0, none⟩) (dk K q) cP) (dk K q) PV (pl K q)) := HPX.out.alloc _
        have hc0 := (HPX.out.cell hrk).1
        have hcA := (HPA.out.cell hrk).1
        have hlenk := hpl (rk K q)
        have hszX : w.heap.size < wr.heap.size := HMX.out.lt
        have hrkI : ((rk K q : Nat) : Int) < (((dk K q) : Nat) : Int) := by omega
        go_wp2_with fail
        go_region_law (refine step_append_lies _ rfl (.tmp 43) (.tmp 48) 25 rfl (w.heap.size + 1) 30 j0 (.agg #[.pointer none, .int .i64 0, .bool false, .pointer none]) 4 32 Try.underlying25 hj hy0 hy1 hy2 rfl (by decide) (PV (rk K q)) (pl K q (rk K q)).length (sCells b off (pl K q (rk K q))) (by simp [Act.eval]) (HPA.out.part _ hrk) ⟨wr.heap.size, 0, none⟩ 1 1 [.pointer (some ⟨b, off + q * 8, none⟩), .int .i64 0, .bool false, .pointer none] (by simp [Act.eval]) rfl (news4 wr _ _ _ _ 30) (ones4 _) (by decide) (by unfold maxLen; omega) (by omega) (by simp; omega) (wr.heap.size + 1) (by simp) ?_
                       intro g cap w5 hown5 hgrow5 hat5 hlt5
                       have hcS := (HPA.out.after hrk hgrow5).1
                       have hfS := (HPA.out.after hrk hgrow5).2
                       have HFin : Hid _ := round_mem HMX.out HBX.out HPX.out hrk hown5 hgrow5 hat5
                       clear hown5 hgrow5 hat5)
        all_goals
          clear hcA hc0 hcS hfS
          go_wp2_with fail
          go_roundw
          case rel => exact ⟨q + 1, _, by go_num, by omega, HFin.out.1, HFin.out.2.1.congr hmX.out (fun p hp => hplX.out p), fun h => by omega, HFin.out.2.2⟩
          case measure => simp [intOf]; omega
      · have hnew : New K q := new_iff.2 hold
        have e1 : mF (dk K) K q (K q) = none := by unfold mF; rw [if_neg hold]
        rw [e1] at hlook
        simp only [Option.getD_none, Option.isSome_none] at hlook
        obtain ⟨w2, hput, hM2, hg2⟩ := HM.out.put (by omega) hsz (v := ((dk K q : Nat) : Int)) (WalkArith.wf_i64 (by omega))
        have HM2 : Hid (IMap w2 w.heap.size (q + 1) (mF (dk K) K (q + 1))) := hM2.congr (mF_new hnew)
        have HP2 : Hid (PS w2 (w.heap.size + 1) b off (.slice aP (dk K q) cP) (dk K q) PV (pl K q)) := HP.out.kept hg2 (fun k h => by cases h; omega)
        have HB2 : Hid (Below w.heap.size w w2) := HB.out.grown hg2 (Nat.le_of_lt hlB) (fun k h => by cases h; exact Nat.le_refl _)
        have hl2 := HM2.out.lt
        clear hM2 hg2 HM HP HN
        go_wp2_with (at_builtin; refine wpList_append_own_at _ rfl (.tmp 35) (.tmp 36) 44 rfl (w.heap.size + 1) 25 i0 (.slice none 0 0) 1 24 Try.underlying44 hi hz0 hz1 hz2 rfl (by decide) (.slice aP (dk K q) cP) (dk K q) ((List.range (dk K q)).map PV) rfl (HP2.out.alloc _).own ⟨w2.heap.size, 0, none⟩ 1 1 [.slice none 0 0] rfl rfl (cell_one_new _ _ _) (fun u hu => by simp at hu; subst hu; rfl) (by unfold maxLen; omega) (by omega) (by simp; omega) ?_)
        intro v3 w3 hown3 hgrow3 hnil3 hat3
        have hP3 := PS.snoc (HP2.out.alloc _) hown3 hgrow3 hat3 (by simp)
        have hown33 := hP3.own
        obtain ⟨gP, cP3, rfl⟩ := own_form hown33 (Nat.succ_pos _)
        have HPX0 : Hid (PS w3 (w.heap.size + 1) b off (.slice (some ⟨gP, 0, none⟩) (dk K q + 1) cP3) (dk K q + 1) (fun p => if p = dk K q then .slice none 0 0 else PV p) (pl K q)) := hP3.congr rfl (fun p hp => by
          by_cases e : p = dk K q
          · subst e; simp [pl_top]
          · simp [e])
        have hdkv : Hid ((fun p => if p = dk K q then Value.slice none 0 0 else PV p) (dk K q) = .slice none 0 0) := by show _ = _; simp
        obtain ⟨PV3, hPV3⟩ : ∃ PV3 : Nat → Value, PV3 = fun p => if p = dk K q then .slice none 0 0 else PV p := ⟨_, rfl⟩
        have HPX : Hid (PS w3 (w.heap.size + 1) b off (.slice (some ⟨gP, 0, none⟩) (dk K q + 1) cP3) (dk K q + 1) PV3 (pl K q)) := by rw [hPV3]; exact HPX0
        have hrow : ∀ k, (Value.slice aP (dk K q) cP).ownBlock = some k → w.heap.size + 1 ≤ k := own_ge HP2.out.own
        have HMX : Hid (IMap w3 w.heap.size (q + 1) (mF (dk K) K (q + 1))) := HM2.out.below (by
          rw [hgrow3.block w.heap.size (by simp; omega) (fun e => by have := hrow _ e.symm; omega)]
          exact Below.heap_alloc _ _ _ hl2)
        have HBX : Hid (Below w.heap.size w w3) := (HB2.out.alloc (Nat.le_of_lt hl2) _).grown hgrow3 (by simp; omega) (fun k e => by have := hrow k e; omega)
        have hrk : dk K q < dk K q + 1 := Nat.lt_succ_self _
        have hmX : Hid (dk K q + 1 = dk K (q + 1)) := (dk_new hnew).symm
        have hplX : Hid (∀ p, (if p = dk K q then pl K q (dk K q) ++ [q] else pl K q p) = pl K (q + 1) p) := fun p => by
          rw [pl_succ, rk_new hnew]
          by_cases e : p = dk K q
          · subst e; simp
          · rw [if_neg e, if_neg (fun h => e h.symm)]
        have hd3 : w3.cell? ⟨b, off + q * 8 + 2, none⟩ = some (.string (K q)) := by
          obtain ⟨b', off', e0, d⟩ := hO.out q hlt
          simp only [Option.some.injEq, Addr.mk.injEq, and_true] at e0
          obtain ⟨rfl, rfl⟩ := e0
          have := cell_later HBX.out d.c2
          rw [hK.out q] at this
          exact this
        clear hP3 hown33 hown3 hgrow3 hnil3 hat3 HPX0 hdkv hPV3 hrow HM2 HP2 HB2 hlook hput hold e1 hnew HB
        generalize dk K q + 1 = m3 at *
        have HPA : Hid (PS (w3.alloc (.cells #[.pointer (some ⟨b, off + q * 8, none⟩), .int .i64 0, .bool false, .pointer none] 30)) (w.heap.size + 1) b off (.slice (some ⟨gP, 0, none⟩) m3 cP3) m3 PV3 (pl K q)) := HPX.out.alloc _
        have hc0 := (HPX.out.cell hrk).1
        have hcA := (HPA.out.cell hrk).1
        have hlenk := hpl (dk K q)
        have hszX : w.heap.size < w3.heap.size := HMX.out.lt
        have hrkI : ((dk K q : Nat) : Int) < ((m3 : Nat) : Int) := by omega
        go_wp2_with fail
        go_region_law (refine step_append_lies _ rfl (.tmp 43) (.tmp 48) 25 rfl (w.heap.size + 1) 30 j0 (.agg #[.pointer none, .int .i64 0, .bool false, .pointer none]) 4 32 Try.underlying25 hj hy0 hy1 hy2 rfl (by decide) (PV3 (dk K q)) (pl K q (dk K q)).length (sCells b off (pl K q (dk K q))) (by simp [Act.eval]) (HPA.out.part _ hrk) ⟨w3.heap.size, 0, none⟩ 1 1 [.pointer (some ⟨b, off + q * 8, none⟩), .int .i64 0, .bool false, .pointer none] (by simp [Act.eval]) rfl (news4 w3 _ _ _ _ 30) (ones4 _) (by decide) (by unfold maxLen; omega) (by omega) (by simp; omega) (w3.heap.size + 1) (by simp) ?_
                       intro g cap w5 hown5 hgrow5 hat5 hlt5
                       have hcS := (HPA.out.after hrk hgrow5).1
                       have hfS := (HPA.out.after hrk hgrow5).2
                       have HFin : Hid _ := round_mem HMX.out HBX.out HPX.out hrk hown5 hgrow5 hat5
                       clear hown5 hgrow5 hat5)
        all_goals
          clear hcA hc0 hcS hfS
          go_wp2_with fail
          go_roundw
          case rel => exact ⟨q + 1, _, by go_num, by omega, HFin.out.1, HFin.out.2.1.congr hmX.out (fun p hp => hplX.out p), fun h => by omega, HFin.out.2.2⟩
          case measure => simp [intOf]; omega
    · have hltI : ¬ (q : Int) < (n : Int) := by omega
      obtain rfl : q = n := by omega
      go_wp2_with fail
      go_ret
      exact ⟨_, PV, rfl, HP.out, HN.out, HB.out⟩
end Go.Proofs.Qxb6602630a
