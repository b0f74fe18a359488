/-
  THE LAW.
-/
import Derived.Test.Qxb6602630aB4
import Derived.Lib.Builder
namespace Go.Proofs.Qxb6602630a
open Go.RowKit Go.Maps

set_option maxHeartbeats 400000 in
theorem zbyKey_any (b off n c : Nat) (R : Nat → OpR) (K : Nat → ByteArray) (w : World) (hn : n ≤ 65536) (hK : Hid (∀ j, (R j).ky = K j)) (hz : Hid (∀ j, j < n → (K j).size ≤ maxLen)) (hO : Hid (OpS w (some ⟨b, off, none⟩) n R)) :
    Calls Try.prog 15 #[.slice (some ⟨b, off, none⟩) n c] w (KeyPost w b off n K) := by
  go_enter Try.func15, Try.ntmps15
  go_wp2_with fail
  refine (byKey_any b off n c R K w hn hK hz hO).mono ?_
  rintro e' w' ⟨vP, PV, rfl, h⟩
  have H : Hid _ := h
  clear h
  go_wp2_with fail
  go_ret
  exact ⟨vP, PV, rfl, H.out⟩
theorem fromZ_any' (r : OpR) (w : World) : Calls Try.prog 14 #[.agg #[.int .i64 r.cl, .string r.kd, .string r.ky, .string r.vl, .string r.ou, .int .i64 r.ca, .int .i64 r.re, .bool r.an]] w fun e w' => e = .returned (.agg #[.int .i64 r.cl, .string r.kd, .string r.ky, .string r.vl, .string r.ou, .int .i64 r.ca, .int .i64 r.re, .bool r.an]) ∧ Below w.heap.size w w' := fromZ_any r w

theorem sCells_at {b off : Nat} : ∀ {l : List Nat} {j i : Nat}, l[j]? = some i → (sCells b off l)[j * 4]? = some (.pointer (some ⟨b, off + i * 8, none⟩)) ∧ (sCells b off l)[j * 4 + 1]? = some (.int .i64 0) ∧ (sCells b off l)[j * 4 + 2]? = some (.bool false) ∧ (sCells b off l)[j * 4 + 3]? = some (.pointer none) := by
  intro l
  induction l with
  | nil => intro j i h; simp at h
  | cons a l ih =>
    intro j i h
    cases j with
    | zero =>
      simp at h
      subst h
      simp [sCells]
    | succ j =>
      rw [List.getElem?_cons_succ] at h
      have := ih h
      have e : sCells b off (a :: l) = .pointer (some ⟨b, off + a * 8, none⟩) :: .int .i64 0 :: .bool false :: .pointer none :: sCells b off l := by simp [sCells]
      rw [e, show (j + 1) * 4 = j * 4 + 4 from by omega]
      simpa using this
/-- THE STEP AT ITS PLACE IN ITS PART. -/
theorem PS.step {w : World} {B b off g m len cap p j i : Nat} {vP : Value} {PV : Nat → Value} {L : Nat → List Nat} (h : PS w B b off vP m PV L) (hp : p < m) (hv : PV p = .slice (some ⟨g, 0, none⟩) len cap) (hj : (L p)[j]? = some i) :
    w.cell? ⟨g, j * 4, none⟩ = some (.pointer (some ⟨b, off + i * 8, none⟩)) ∧ w.cell? ⟨g, j * 4 + 1, none⟩ = some (.int .i64 0) ∧ w.cell? ⟨g, j * 4 + 2, none⟩ = some (.bool false) ∧ w.cell? ⟨g, j * 4 + 3, none⟩ = some (.pointer none) := by
  have hc := (h.part p hp).cells (g := g) (by rw [hv]; rfl)
  obtain ⟨s0, s1, s2, s3⟩ := sCells_at (b := b) (off := off) hj
  have a0 := hc _ _ s0
  have a1 := hc _ _ s1
  have a2 := hc _ _ s2
  have a3 := hc _ _ s3
  have hadd : ∀ x : Nat, (⟨g, 0, none⟩ : Addr).add x = ⟨g, x, none⟩ := fun x => by unfold Addr.add; split <;> simp_all
  rw [hadd] at a0 a1 a2 a3
  exact ⟨a0, a1, a2, a3⟩
theorem PS.form {w : World} {B b off m p : Nat} {vP : Value} {PV : Nat → Value} {L : Nat → List Nat} (h : PS w B b off vP m PV L) (hp : p < m) (hl : 0 < (L p).length) : ∃ g cap, PV p = .slice (some ⟨g, 0, none⟩) (L p).length cap :=
  own_form (h.part p hp) hl

theorem neq27 (w : World) (a : Addr) : (binOp .neq 27 (.pointer (some a)) (.pointer (some a))).run Try.prog w = .ok (.bool false) w := by
  obtain ⟨j, hj, _⟩ := info_parts Try.info41
  exact Lib.run_neq_ptr_same w a Try.underlying27 hj
theorem Try.info3 : (Try.prog.info? 3).map (fun i => (i.zero, i.size, i.bytes)) = some (some (.int .i64 0), 1, 8) := by kernel_rfl

set_option maxRecDepth 100000 in
set_option maxHeartbeats 8000000 in
theorem law4 (a0 : Option Addr) (n c0 : Nat) (R : Nat → OpR) (w : World) (Z0 : NilZ a0 n) (hz : Hid (∀ j, j < n → (R j).ky.size ≤ maxLen)) (hO : Hid (OpS w a0 n R)) :
    Calls Try.prog 4 #[.slice a0 n c0] w fun e w' => e = .returned (.bool true) ∧ Below w.heap.size w w' := by
  have q44 := eql44
  go_enter Try.func4, Try.ntmps4
  go_wp2_with fail
  refine (bytes11_any a0 n c0 R w hO).mono ?_
  rintro e' w' ⟨bb, rfl, rfl⟩
  cases bb with
  | false =>
    go_wp2_with fail
    go_ret
    exact ⟨rfl, Below.refl _ _⟩
  | true =>
  go_wp2_with fail
  refine (tooBig_any a0 n c0 R w hO).mono ?_
  rintro e' w1 ⟨bb, rfl, hb1, hfit⟩
  have HB1 : Hid (Below w.heap.size w w1) := hb1
  have HO1 : Hid (OpS w1 a0 n R) := hO.out.later hb1
  clear hb1
  cases bb with
  | true =>
    go_wp2_with fail
    go_ret
    exact ⟨rfl, HB1.out⟩
  | false =>
  have hn := hfit rfl
  clear hfit hO
  go_wp2_with fail
  refine (clone_any a0 n c0 R w1 hn Z0 HO1).mono ?_
  rintro e' w2 ⟨a', c', rfl, Z', hO2, hb2⟩
  have HO2 : Hid (OpS w2 a' n R) := hO2
  have HB2 : Hid (Below w.heap.size w w2) := HB1.out.trans (hb2.mono HB1.out.size)
  clear hO2 hb2 HO1 HB1
  have hmk := fun wx => run_make_gen (P := Try.prog) 39 41 _ 8 96 Try.underlying39 Try.info41 n (by omega) (by omega) wx
  go_wp2_with fail
  go_loopw [5] (fun y wr => ∃ (k : Nat) (f : Nat → Value), y = .int .i64 k ∧ k ≤ n ∧ Hid (wr.rowIs w2.heap.size 41 (n * 8) f) ∧ Hid (RowO f k R) ∧ Hid (Below w2.heap.size w2 wr)) (fun y _ => n - (intOf y).toNat)
  case atStart => exact ⟨0, _, rfl, Nat.zero_le _, made_row _ _ _ _, fun j hj => by omega, (Below.refl _ _).alloc (Nat.le_refl _) _⟩
  case round =>
    obtain ⟨k, f, rfl, hk, HR, HF, HB⟩ := hrel
    by_cases hlt : k < n
    · have hltI : (k : Int) < (n : Int) := by omega
      have HCr : Hid (OpS wr a' n R) := HO2.out.later HB.out
      obtain ⟨b0, o0, rfl, d⟩ := HCr.out k hlt
      have d0 := d.c0
      have d1 := d.c1
      have d2 := d.c2
      have d3 := d.c3
      have d4 := d.c4
      have d5 := d.c5
      have d6 := d.c6
      have d7 := d.c7
      clear hmk q44 d
      go_wp2_with fail
      refine (fromZ_any' (R k) wr).mono ?_
      rintro e' w3 ⟨rfl, hb3⟩
      have HR3 : Hid (w3.rowIs w2.heap.size 41 (n * 8) f) := HR.out.of_block (hb3.block _ HR.out.lt)
      have HB3 : Hid (Below w2.heap.size w2 w3) := HB.out.trans (hb3.mono HB.out.size)
      clear hb3 d0 d1 d2 d3 d4 d5 d6 d7
      have g0 := HR3.out.cell (i := k * 8) (by omega)
      have g1 := HR3.out.cell (i := k * 8 + 1) (by omega)
      have g2 := HR3.out.cell (i := k * 8 + 2) (by omega)
      have g3 := HR3.out.cell (i := k * 8 + 3) (by omega)
      have g4 := HR3.out.cell (i := k * 8 + 4) (by omega)
      have g5 := HR3.out.cell (i := k * 8 + 5) (by omega)
      have g6 := HR3.out.cell (i := k * 8 + 6) (by omega)
      have g7 := HR3.out.cell (i := k * 8 + 7) (by omega)
      have z0 := HR3.out.frozen (k * 8)
      have z1 := HR3.out.frozen (k * 8 + 1)
      have z2 := HR3.out.frozen (k * 8 + 2)
      have z3 := HR3.out.frozen (k * 8 + 3)
      have z4 := HR3.out.frozen (k * 8 + 4)
      have z5 := HR3.out.frozen (k * 8 + 5)
      have z6 := HR3.out.frozen (k * 8 + 6)
      have z7 := HR3.out.frozen (k * 8 + 7)
      go_wp2_with fail
      go_roundw
      case rel => exact ⟨k + 1, _, by go_num, by omega, row_set8 HR3.out (R k), HF.out.step, bel_set8 HB3.out (Nat.le_refl _) (R k)⟩
      case measure => simp [intOf]; omega
    · have hltI : ¬ (k : Int) < (n : Int) := by omega
      obtain rfl : n = k := by omega
      obtain ⟨wA, rfl⟩ : ∃ wA, wA = wr := ⟨_, rfl⟩
      have HOA : Hid (OpS wA (some ⟨w2.heap.size, 0, none⟩) n R) := HF.out.ops HR.out
      have HBA : Hid (Below w.heap.size w wA) := HB2.out.trans (HB.out.mono HB2.out.size)
      obtain ⟨K, hK⟩ : ∃ K : Nat → ByteArray, Hid (∀ j, (R j).ky = K j) := ⟨fun j => (R j).ky, fun _ => rfl⟩
      have hzK : Hid (∀ j, j < n → (K j).size ≤ maxLen) := fun j hj => by rw [← hK.out j]; exact hz.out j hj
      clear hmk HR HF HB HO2 HB2
      go_wp2_with fail
      refine (zbyKey_any w2.heap.size 0 n n R K wA hn hK hzK HOA).mono ?_
      rintro e' wB ⟨vP, PV, rfl, hPS, hnil, hbB⟩
      have HBB : Hid (Below w.heap.size w wB) := HBA.out.trans (hbB.mono HBA.out.size)
      have HOB : Hid (OpS wB (some ⟨w2.heap.size, 0, none⟩) n R) := HOA.out.later hbB
      have HKB : Hid (∀ j, j < n → wB.cell? ⟨w2.heap.size, j * 8 + 2, none⟩ = some (.string (K j))) := fun j hj => by
        obtain ⟨b', off', e0, d⟩ := HOB.out j hj
        simp only [Option.some.injEq, Addr.mk.injEq, and_true] at e0
        obtain ⟨rfl, rfl⟩ := e0
        have := d.c2
        rw [Nat.zero_add, hK.out j] at this
        exact this
      have HPS : Hid (PS wB (wA.heap.size + 1) w2.heap.size 0 vP (dk K n) PV (pl K n)) := hPS
      clear hPS hbB HOA HOB HBA
      by_cases hn0 : n = 0
      · subst hn0
        obtain rfl := hnil rfl
        go_wp2_with fail
        go_ret
        exact ⟨rfl, HBB.out⟩
      have hn0' : ((n : Int) == 0) = false := by rw [beq_eq_false_iff_ne]; omega
      have hdn : 0 < dk K n := by have := rk_lt (K := K) (i := 0) (q := n) (by omega); omega
      obtain ⟨gP, cP, rfl⟩ := own_form HPS.out.own hdn
      clear hnil hn0 q44
      have hmm := @run_makeMap Try.prog
      have HM1 : Hid (IMap ((wB.alloc (.map #[] 0)).alloc (.map #[] 0)) wB.heap.size 0 (mF (fun x => x) K 0)) :=
        ((IMap.made wB).below (Below.heap_alloc _ _ _ (by simp))).congr fun s => (mF_zero _ _ s).symm
      have HM2 : Hid (IMap ((wB.alloc (.map #[] 0)).alloc (.map #[] 0)) (wB.heap.size + 1) 0 (mC K 0)) := by
        have h := IMap.made (wB.alloc (.map #[] 0))
        rw [show (wB.alloc (.map #[] 0)).heap.size = wB.heap.size + 1 by simp] at h
        exact h.congr fun s => (mC_zero _ s).symm
      have HB0 : Hid (Below wB.heap.size wB ((wB.alloc (.map #[] 0)).alloc (.map #[] 0))) := ((Below.refl _ _).alloc (Nat.le_refl _) _).alloc (by simp) _
      go_wp2_with fail
      go_loopw [9] (fun y wr => ∃ (q : Nat), y = .int .i64 q ∧ q ≤ n ∧ Hid (IMap wr wB.heap.size q (mF (fun x => x) K q)) ∧ Hid (IMap wr (wB.heap.size + 1) q (mC K q)) ∧ Hid (Below wB.heap.size wB wr)) (fun y _ => n - (intOf y).toNat)
      case atStart => exact ⟨0, rfl, Nat.zero_le _, HM1, HM2, HB0⟩
      case round =>
        clear hmm HM1 HM2 HB0
        obtain ⟨q, rfl, hq, HM1, HM2, HB⟩ := hrel
        by_cases hltq : q < n
        · have hltI : (q : Int) < (n : Int) := by omega
          have d := cell_later HB.out (HKB.out q hltq)
          have hsz := hzK.out q hltq
          have hlook := HM1.out.look2 hsz
          have hl1 := HM1.out.lt
          have hl2 := HM2.out.lt
          have hcn := cn_le K q (K q)
          by_cases hold : fc K (K q) q < q
          · have e1 : mF (fun x => x) K q (K q) = some ((fc K (K q) q : Nat) : Int) := by unfold mF; rw [if_pos hold]
            rw [e1] at hlook
            simp only [Option.getD_some, Option.isSome_some] at hlook
            have hlookT := HM2.out.look hsz
            rw [mC_get] at hlookT
            obtain ⟨w5, hput, hM5, hg5⟩ := HM2.out.put (by omega) hsz (v := ((cn K q (K q) : Nat) : Int) + 1) (WalkArith.wf_i64 (by omega))
            have HM25 : Hid (IMap w5 (wB.heap.size + 1) (q + 1) (mC K (q + 1))) := hM5.congr (mC_step K q)
            have HM15 : Hid (IMap w5 wB.heap.size (q + 1) (mF (fun x => x) K (q + 1))) := ((HM1.out.mono (Nat.le_succ _)).congr (mF_old hold)).below (hg5.block _ hl1 (by simp))
            have HB5 : Hid (Below wB.heap.size wB w5) := HB.out.grown hg5 (Nat.le_of_lt hl1) (fun k h => by cases h; omega)
            clear hM5 hg5 e1 hold
            go_wp2_with fail
            go_roundw
            case rel => exact ⟨q + 1, by go_num, by omega, HM15, HM25, HB5⟩
            case measure => simp [intOf]; omega
          · have hnew : New K q := new_iff.2 hold
            have e1 : mF (fun x => x) K q (K q) = none := by unfold mF; rw [if_neg hold]
            rw [e1] at hlook
            simp only [Option.getD_none, Option.isSome_none] at hlook
            obtain ⟨w4, hput4, hM4, hg4⟩ := HM1.out.put (by omega) hsz (v := (q : Int)) (WalkArith.wf_i64 (by omega))
            have HM14 : Hid (IMap w4 wB.heap.size (q + 1) (mF (fun x => x) K (q + 1))) := hM4.congr (mF_new (g := fun x => x) hnew)
            have HM24 : Hid (IMap w4 (wB.heap.size + 1) q (mC K q)) := HM2.out.below (hg4.block _ hl2 (by simp))
            have HB4 : Hid (Below wB.heap.size wB w4) := HB.out.grown hg4 (Nat.le_of_lt hl1) (fun k h => by cases h; omega)
            have hl4 := HM14.out.lt
            have hlookT := HM24.out.look hsz
            rw [mC_get] at hlookT
            obtain ⟨w5, hput, hM5, hg5⟩ := HM24.out.put (by omega) hsz (v := ((cn K q (K q) : Nat) : Int) + 1) (WalkArith.wf_i64 (by omega))
            have HM25 : Hid (IMap w5 (wB.heap.size + 1) (q + 1) (mC K (q + 1))) := hM5.congr (mC_step K q)
            have HM15 : Hid (IMap w5 wB.heap.size (q + 1) (mF (fun x => x) K (q + 1))) := HM14.out.below (hg5.block _ hl4 (by simp))
            have HB5 : Hid (Below wB.heap.size wB w5) := HB4.out.grown hg5 (Nat.le_of_lt hl4) (fun k h => by cases h; omega)
            clear hM5 hg5 hM4 hg4 e1 hold hnew
            go_wp2_with fail
            go_roundw
            case rel => exact ⟨q + 1, by go_num, by omega, HM15, HM25, HB5⟩
            case measure => simp [intOf]; omega
        · have hltI : ¬ (q : Int) < (n : Int) := by omega
          obtain rfl : n = q := by omega
          obtain ⟨wD, rfl⟩ : ∃ wD, wD = wr := ⟨_, rfl⟩
          have hmkr := fun wx => run_make_row' (P := Try.prog) 46 3 (.int .i64 0) 8 Try.underlying46 Try.info3 rfl .i64 .i64 n (by omega) (by omega) wx
          have hFD : wB.heap.size < wD.heap.size := HM1.out.lt
          have hFD2 : wB.heap.size + 1 < wD.heap.size := HM2.out.lt
          go_wp2_with fail
          go_loopw [14, 15] (fun x y wr => ∃ (i : Nat) (f : Nat → Value), y = .int .i64 i ∧ x = .int .i64 ((dk K i : Nat) : Int) ∧ i ≤ n ∧ Hid (wr.rowIs wD.heap.size 3 n f) ∧ Hid (∀ j, j < i → New K j → f j = .int .i64 ((dk K j : Nat) : Int)) ∧ Hid (Below wD.heap.size wD wr)) (fun _ y _ => n - (intOf y).toNat)
          case atStart => exact ⟨0, _, rfl, rfl, Nat.zero_le _, World.rowIs_made _ _ _ _, fun j hj => by omega, (Below.refl _ _).alloc (Nat.le_refl _) _⟩
          case round =>
            clear hmkr
            obtain ⟨i, f, rfl, rfl, hi, HR, HF, HBd⟩ := hrel
            have HBw : Hid (Below wB.heap.size wB wr) := HB.out.trans (HBd.out.mono HB.out.size)
            have HMd : Hid (IMap wr wB.heap.size n (mF (fun x => x) K n)) := HM1.out.later HBd.out hFD
            by_cases hlti : i < n
            · have hltI2 : (i : Int) < (n : Int) := by omega
              have d := cell_later HBw.out (HKB.out i hlti)
              have hsz := hzK.out i hlti
              have hlook := HMd.out.look hsz
              rw [mF_at hlti] at hlook
              simp only [Option.getD_some] at hlook
              have hdki := dk_le K i
              by_cases hnew : New K i
              · rw [fi_self.2 hnew] at hlook
                have g0 := HR.out.cell hlti
                have z0 := HR.out.frozen i
                have HF' : Hid (∀ j, j < i + 1 → New K j → (fun j => if j = i then Value.int .i64 ((dk K i : Nat) : Int) else f j) j = .int .i64 ((dk K j : Nat) : Int)) := fun j hj hN => by
                  by_cases e : j = i
                  · subst e; simp
                  · simp only [e, if_false]; exact HF.out j (by omega) hN
                have HD1 : Hid (dk K (i + 1) = dk K i + 1) := dk_new hnew
                clear hnew
                go_wp2_with fail
                go_roundw
                case rel => exact ⟨i + 1, _, by go_num, by rw [HD1.out]; go_num, by omega, HR.out.set i _, HF', HBd.out.setCell (Nat.le_refl _) _⟩
                case measure => simp [intOf]; omega
              · have hne : ((fi K i : Int) == (i : Int)) = false := by
                  rw [beq_eq_false_iff_ne]
                  intro h
                  exact hnew (fi_self.1 (by omega))
                have HF' : Hid (∀ j, j < i + 1 → New K j → f j = .int .i64 ((dk K j : Nat) : Int)) := fun j hj hN => by
                  by_cases e : j = i
                  · subst e; exact absurd hN hnew
                  · exact HF.out j (by omega) hN
                have HD1 : Hid (dk K (i + 1) = dk K i) := dk_old (Decidable.byContradiction fun h => hnew (new_iff.2 h))
                clear hnew
                go_wp2_with fail
                go_roundw
                case rel => exact ⟨i + 1, _, by go_num, by rw [HD1.out], by omega, HR, HF', HBd⟩
                case measure => simp [intOf]; omega
            · have hltI2 : ¬ (i : Int) < (n : Int) := by omega
              obtain rfl : n = i := by omega
              obtain ⟨wE, rfl⟩ : ∃ wE, wE = wr := ⟨_, rfl⟩
              have hmm := @run_makeMap Try.prog
              have HU0 : Hid (IMap (wE.alloc (.map #[] 0)) wE.heap.size 0 (mC K 0)) := (IMap.made wE).congr fun s => (mC_zero _ s).symm
              have HBE : Hid (Below wE.heap.size wE (wE.alloc (.map #[] 0))) := (Below.refl _ _).alloc (Nat.le_refl _) _
              have hDE : wD.heap.size < wE.heap.size := HR.out.lt
              go_wp2_with fail
              go_loopw [17] (fun y wr => ∃ (i : Nat), y = .int .i64 i ∧ i ≤ n ∧ Hid (IMap wr wE.heap.size i (mC K i)) ∧ Hid (Below wE.heap.size wE wr)) (fun y _ => n - (intOf y).toNat)
              case atStart => exact ⟨0, rfl, Nat.zero_le _, HU0, HBE⟩
              case round =>
                clear hmm HU0 HBE
                obtain ⟨i, rfl, hi4, HU, HBe⟩ := hrel
                have HBx : Hid (Below wB.heap.size wB wr) := HBw.out.trans (HBe.out.mono HBw.out.size)
                by_cases hlti : i < n
                · have hltI3 : (i : Int) < (n : Int) := by omega
                  have d := cell_later HBx.out (HKB.out i hlti)
                  have hsz := hzK.out i hlti
                  have hfi := fi_le K i
                  have hfiI : (fi K i : Int) < (n : Int) := by omega
                  have HMe : Hid (IMap wr wB.heap.size n (mF (fun x => x) K n)) := HMd.out.later HBe.out (by omega)
                  have hlookF := HMe.out.look hsz
                  rw [mF_at hlti] at hlookF
                  simp only [Option.getD_some] at hlookF
                  have r0 := cell_later HBe.out (HR.out.cell (i := fi K i) (by omega))
                  rw [HF.out (fi K i) (by omega) (fi_new K i)] at r0
                  have hrkd : Hid (dk K (fi K i) = rk K i) := rfl
                  rw [hrkd.out] at r0
                  have hlookU := HU.out.look hsz
                  rw [mC_get] at hlookU
                  have hcn := cn_le K i (K i)
                  have hcn2 := cn_le K n (K i)
                  have hcl := cn_lt (K := K) hlti
                  have hrl := rk_lt (K := K) hlti
                  have hclI : ((cn K i (K i) : Nat) : Int) < ((cn K n (K i) : Nat) : Int) := by omega
                  have hrlI : ((rk K i : Nat) : Int) < ((dk K n : Nat) : Int) := by omega
                  obtain ⟨w5, hput, hM5, hg5⟩ := HU.out.put (by omega) hsz (v := ((cn K i (K i) : Nat) : Int) + 1) (WalkArith.wf_i64 (by omega))
                  have HU5 : Hid (IMap w5 wE.heap.size (i + 1) (mC K (i + 1))) := hM5.congr (mC_step K i)
                  have HB5 : Hid (Below wE.heap.size wE w5) := HBe.out.grown hg5 (Nat.le_of_lt HU.out.lt) (fun k h => by cases h; omega)
                  have HBx5 : Hid (Below wB.heap.size wB w5) := HBw.out.trans (HB5.out.mono HBw.out.size)
                  have HP5 : Hid (PS w5 (wA.heap.size + 1) w2.heap.size 0 (.slice (some ⟨gP, 0, none⟩) (dk K n) cP) (dk K n) PV (pl K n)) := HPS.out.later HBx5.out
                  have HT5 : Hid (IMap w5 (wB.heap.size + 1) n (mC K n)) := (HM2.out.later HBd.out hFD2).later HB5.out (by omega)
                  have hlookT : ∀ m, (Instr.lookup 31 (.map (some (wB.heap.size + 1))) (.string (K i)) false).run Try.prog (w5.drewN m) = .ok (.int .i64 ((cn K n (K i) : Nat) : Int)) (w5.drewN m) := fun m => by
                    have h := (HT5.out.below (w' := w5.drewN m) rfl).look hsz
                    rw [mC_get] at h
                    exact h
                  have hplr : Hid (pl K n (rk K i) = KL K n (K i)) := pl_rk K n i
                  have hlen : Hid ((pl K n (rk K i)).length = cn K n (K i)) := by show _ = _; rw [hplr.out]; rfl
                  obtain ⟨g, cg, hPV⟩ := HP5.out.form hrl (by rw [hlen.out]; omega)
                  rw [hlen.out] at hPV
                  have hcP := (HP5.out.cell hrl).1
                  rw [hPV] at hcP
                  obtain ⟨s0, s1, s2, s3⟩ := HP5.out.step hrl hPV (j := cn K i (K i)) (i := i) (by rw [hplr.out]; exact KL_at hlti)
                  rw [Nat.zero_add] at s0
                  have hglt : g < w5.heap.size := own_lt (HP5.out.part _ hrl) g (by rw [hPV]; rfl)
                  clear hM5 hg5 hPV
                  go_wp2_with fail
                  go_quiet (fail)
                  obtain ⟨w6, hw6⟩ : ∃ w6, w6 = w5.drewN nq := ⟨_, rfl⟩
                  rw [← hw6]
                  have hcP6 : w6.cell? ⟨gP, rk K i, none⟩ = some (.slice (some ⟨g, 0, none⟩) (cn K n (K i)) cg) := by rw [hw6]; exact hcP
                  have t0 : w6.cell? ⟨g, cn K i (K i) * 4, none⟩ = some (.pointer (some ⟨w2.heap.size, i * 8, none⟩)) := by rw [hw6]; exact s0
                  have t1 : w6.cell? ⟨g, cn K i (K i) * 4 + 1, none⟩ = some (.int .i64 0) := by rw [hw6]; exact s1
                  have t2 : w6.cell? ⟨g, cn K i (K i) * 4 + 2, none⟩ = some (.bool false) := by rw [hw6]; exact s2
                  have t3 : w6.cell? ⟨g, cn K i (K i) * 4 + 3, none⟩ = some (.pointer none) := by rw [hw6]; exact s3
                  have HU6 : Hid (IMap w6 wE.heap.size (i + 1) (mC K (i + 1))) := HU5.out.below (by rw [hw6]; rfl)
                  have HB6 : Hid (Below wE.heap.size wE w6) := by
                    rw [hw6]
                    exact ⟨HB5.out.os, HB5.out.tape, HB5.out.output, HB5.out.size, HB5.out.block⟩
                  have hl6 := HU6.out.lt
                  clear hw6 hcP s0 s1 s2 s3 HU5 HB5 HBx5 HP5 HT5 hlookT hglt hlookU hput hlookF r0 d
                  go_wp2_with fail
                  obtain ⟨w7, hw7⟩ : ∃ w7, w7 = w6.alloc (.cells #[.pointer (some ⟨w2.heap.size, i * 8, none⟩), .int .i64 0, .bool false, .pointer none] 30) := ⟨_, rfl⟩
                  rw [← hw7]
                  have HU7 : Hid (IMap w7 wE.heap.size (i + 1) (mC K (i + 1))) := HU6.out.below (by rw [hw7]; exact Below.heap_alloc _ _ _ hl6)
                  have HB7 : Hid (Below wE.heap.size wE w7) := by rw [hw7]; exact HB6.out.alloc (Nat.le_of_lt hl6) _
                  have v0 : w7.cell? ⟨w6.heap.size, 0, none⟩ = some (.pointer (some ⟨w2.heap.size, i * 8, none⟩)) := by rw [hw7]; simp
                  have v1 : w7.cell? ⟨w6.heap.size, 1, none⟩ = some (.int .i64 0) := by rw [hw7]; simp
                  have v2 : w7.cell? ⟨w6.heap.size, 2, none⟩ = some (.bool false) := by rw [hw7]; simp
                  have v3 : w7.cell? ⟨w6.heap.size, 3, none⟩ = some (.pointer none) := by rw [hw7]; simp
                  clear hw7 t0 t1 t2 t3 hcP6 HU6 HB6
                  have hneq := fun wx => neq27 wx ⟨w2.heap.size, i * 8, none⟩
                  go_quiet (fail)
                  go_wp2_with fail
                  obtain ⟨w8, hw8⟩ : ∃ w8, w8 = w7.drewN nq := ⟨_, rfl⟩
                  rw [← hw8]
                  have HU8 : Hid (IMap w8 wE.heap.size (i + 1) (mC K (i + 1))) := HU7.out.below (by rw [hw8]; rfl)
                  have HB8 : Hid (Below wE.heap.size wE w8) := by
                    rw [hw8]
                    exact ⟨HB7.out.os, HB7.out.tape, HB7.out.output, HB7.out.size, HB7.out.block⟩
                  have hl8 := HU8.out.lt
                  have x0 : w8.cell? ⟨w6.heap.size, 0, none⟩ = some (.pointer (some ⟨w2.heap.size, i * 8, none⟩)) := by rw [hw8]; exact v0
                  have x1 : w8.cell? ⟨w6.heap.size, 1, none⟩ = some (.int .i64 0) := by rw [hw8]; exact v1
                  have x2 : w8.cell? ⟨w6.heap.size, 2, none⟩ = some (.bool false) := by rw [hw8]; exact v2
                  have x3 : w8.cell? ⟨w6.heap.size, 3, none⟩ = some (.pointer none) := by rw [hw8]; exact v3
                  clear hw8 v0 v1 v2 v3 HU7 HB7 hneq
                  refine (by_any ⟨w2.heap.size, i * 8, none⟩ w8).mono ?_
                  rintro e' w9 ⟨rfl, hb9⟩
                  have HU9 : Hid (IMap w9 wE.heap.size (i + 1) (mC K (i + 1))) := HU8.out.later hb9 hl8
                  have HB9 : Hid (Below wE.heap.size wE w9) := HB8.out.trans (hb9.mono HB8.out.size)
                  have hl9 := HU9.out.lt
                  have y0 := cell_later hb9 x0
                  have y1 := cell_later hb9 x1
                  have y2 := cell_later hb9 x2
                  have y3 := cell_later hb9 x3
                  clear hb9 x0 x1 x2 x3 HU8 HB8
                  go_wp2_with fail
                  refine (unread_any ⟨w2.heap.size, i * 8, none⟩ w9).mono ?_
                  rintro e' w10 ⟨rfl, hb10⟩
                  have HU10 : Hid (IMap w10 wE.heap.size (i + 1) (mC K (i + 1))) := HU9.out.later hb10 hl9
                  have HB10 : Hid (Below wE.heap.size wE w10) := HB9.out.trans (hb10.mono HB9.out.size)
                  have hl10 := HU10.out.lt
                  have z0 := cell_later hb10 y0
                  have z1 := cell_later hb10 y1
                  have z2 := cell_later hb10 y2
                  have z3 := cell_later hb10 y3
                  clear hb10 y0 y1 y2 y3 HU9 HB9
                  go_wp2_with fail
                  refine (after_any ⟨w2.heap.size, i * 8, none⟩ w10).mono ?_
                  rintro e' w11 ⟨rfl, hb11⟩
                  have HU11 : Hid (IMap w11 wE.heap.size (i + 1) (mC K (i + 1))) := HU10.out.later hb11 hl10
                  have HB11 : Hid (Below wE.heap.size wE w11) := HB10.out.trans (hb11.mono HB10.out.size)
                  clear hb11 z0 z1 z2 z3 HU10 HB10
                  go_wp2_with fail
                  go_roundw
                  case rel => exact ⟨i + 1, by go_num, by omega, HU11, HB11⟩
                  case measure => simp [intOf]; omega
                · have hltI3 : ¬ (i : Int) < (n : Int) := by omega
                  have HFin : Hid (Below w.heap.size w wr) := HBB.out.trans (HBx.out.mono HBB.out.size)
                  go_wp2_with fail
                  go_ret
                  exact ⟨rfl, HFin.out⟩
end Go.Proofs.Qxb6602630a
