/-
  judge.
-/
import Derived.Test.Qxb6604244aJPlain
import Derived.Test.Qxb6604244aC2
namespace Go.Proofs.Qxb6604244a
open Go.RowKit

/-- A SLICE OF DECISIONS (three integers each) LIES IN MEMORY. -/
def DecS (w : World) (a : Option Addr) (m : Nat) (N V R : Nat → Int) : Prop :=
  ∀ j, j < m → ∃ b off, a = some ⟨b, off, none⟩ ∧ w.cell? ⟨b, off + j * 3, none⟩ = some (.int .i64 (N j)) ∧ w.cell? ⟨b, off + j * 3 + 1, none⟩ = some (.int .i64 (V j)) ∧ w.cell? ⟨b, off + j * 3 + 2, none⟩ = some (.int .i64 (R j))
theorem DecS.later {w w' : World} {a : Option Addr} {m : Nat} {N V R : Nat → Int} (h : DecS w a m N V R) (hb : Below w.heap.size w w') : DecS w' a m N V R := by
  intro j hj
  obtain ⟨b, off, e, c0, c1, c2⟩ := h j hj
  exact ⟨b, off, e, cell_later hb c0, cell_later hb c1, cell_later hb c2⟩
theorem Same.decs {w w' : World} (h : Same w w') {a m N V R} (r : DecS w a m N V R) : DecS w' a m N V R := r.later (h.below _)

/-- the kept decisions as cells -/
def kCells (l : List Nat) (N V R : Nat → Int) : List Value := l.flatMap fun q => [.int .i64 (N q), .int .i64 (V q), .int .i64 (R q)]
theorem kCells_snoc (l : List Nat) (q : Nat) (N V R : Nat → Int) : kCells (l ++ [q]) N V R = kCells l N V R ++ [.int .i64 (N q), .int .i64 (V q), .int .i64 (R q)] := by
  simp [kCells]
theorem kCells_length (l : List Nat) (N V R : Nat → Int) : (kCells l N V R).length = l.length * 3 := by
  induction l with
  | nil => rfl
  | cons a l ih => simp [kCells] at ih ⊢; omega
theorem kCells_at (N V R : Nat → Int) : ∀ (l : List Nat) (j : Nat), j < l.length → (kCells l N V R)[j * 3]? = some (.int .i64 (N (at_ l j))) ∧ (kCells l N V R)[j * 3 + 1]? = some (.int .i64 (V (at_ l j))) ∧ (kCells l N V R)[j * 3 + 2]? = some (.int .i64 (R (at_ l j))) := by
  intro l
  induction l with
  | nil => intro j hj; simp at hj
  | cons a l ih =>
    intro j hj
    have e : kCells (a :: l) N V R = .int .i64 (N a) :: .int .i64 (V a) :: .int .i64 (R a) :: kCells l N V R := by simp [kCells]
    rw [e]
    cases j with
    | zero => simp [at_]
    | succ j =>
      have := ih j (by simpa using hj)
      rw [show (j + 1) * 3 = j * 3 + 3 from by omega]
      simpa [at_] using this
theorem owns_decs {w : World} {B g c : Nat} {l : List Nat} {N V R : Nat → Int} (h : w.ownsRow B 43 3 (.slice (some ⟨g, 0, none⟩) l.length c) l.length (kCells l N V R)) :
    DecS w (some ⟨g, 0, none⟩) l.length (fun j => N (at_ l j)) (fun j => V (at_ l j)) (fun j => R (at_ l j)) := by
  intro j hj
  have := kCells_at N V R l j hj
  refine ⟨g, 0, rfl, ?_, ?_, ?_⟩
  · rw [Nat.zero_add, h.cellAt _ (by omega)]; exact this.1
  · rw [Nat.zero_add, h.cellAt _ (by omega)]; exact this.2.1
  · rw [Nat.zero_add, h.cellAt _ (by omega)]; exact this.2.2

theorem Try.info43 : (Try.prog.info? 43).map (fun i => (i.zero, i.size, i.bytes)) = some (some (.agg #[.int .i64 0, .int .i64 0, .int .i64 0]), 3, 24) := by kernel_rfl

/-- the cells of a verdict -/
def vCells (a v t r b : Int) : Array Value := #[.int .i64 a, .int .i64 v, .int .i64 t, .int .i64 r, .int .i64 b]
/-- the verdict on validity before any decision has been looked at -/
def v0 (vb : Bool) : Int := if vb = true then 1 else 3
/-- ..behind it -/
def vv (vb : Bool) (x : Bool) : Int := if vb = true then oc x else 3

/-- JUDGE's OWN BOXES: the terms, the report, the result, the verdict; nothing older has turned. -/
structure JW (w : World) (tb rb zb vc : Array Value) (wr : World) : Prop where
  t : wr.heap[w.heap.size]? = some (.cells tb 50 (0, 0))
  r : wr.heap[w.heap.size + 1]? = some (.cells rb 53 (0, 0))
  z : wr.heap[w.heap.size + 1 + 1]? = some (.cells zb 35 (0, 0))
  v : wr.heap[w.heap.size + 1 + 1 + 1]? = some (.cells vc 35 (0, 0))
  below : Below w.heap.size w wr
section
variable {w : World} {tb rb zb vc : Array Value} {wr : World}
theorem JW.set (h : JW w tb rb zb vc wr) (i : Nat) (x : Value) : JW w tb rb zb (vc.setIfInBounds i x) (wr.setCell ⟨w.heap.size + 1 + 1 + 1, i, none⟩ x) :=
  ⟨(Below.heap_setCell _ _ _ _ (by simp; omega)).trans h.t, (Below.heap_setCell _ _ _ _ (by simp)).trans h.r, (Below.heap_setCell _ _ _ _ (by simp)).trans h.z, block_set h.v i x, h.below.setCell (by simp; omega) _⟩
theorem JW.lt (h : JW w tb rb zb vc wr) : w.heap.size + 1 + 1 + 1 < wr.heap.size := (Array.getElem?_eq_some_iff.1 h.v).1
theorem JW.of_blocks (h : JW w tb rb zb vc wr) {w2 : World} (hb : Below (w.heap.size + 1 + 1 + 1 + 1) wr w2) : JW w tb rb zb vc w2 :=
  ⟨(hb.block _ (by omega)).trans h.t, (hb.block _ (by omega)).trans h.r, (hb.block _ (by omega)).trans h.z, (hb.block _ (by omega)).trans h.v, h.below.trans (hb.mono (by omega))⟩
theorem JW.alloc (h : JW w tb rb zb vc wr) (o : Obj) : JW w tb rb zb vc (wr.alloc o) := h.of_blocks ((Below.refl _ _).alloc h.lt o)
theorem JW.drewN (h : JW w tb rb zb vc wr) (n : Nat) : JW w tb rb zb vc (wr.drewN n) := h.of_blocks (below_drewN (Below.refl _ _) n)
theorem JW.grown (h : JW w tb rb zb vc wr) {w2 : World} {row : Option Nat} (hg : wr.grownBy w2 row) (hr : ∀ k, row = some k → w.heap.size + 1 + 1 + 1 + 1 ≤ k) : JW w tb rb zb vc w2 := h.of_blocks ((Below.refl _ _).grown hg h.lt hr)
end

theorem JW.start (w : World) (tb rb zb vc : Array Value) : JW w tb rb zb vc ((((w.alloc (.cells tb 50)).alloc (.cells rb 53)).alloc (.cells zb 35)).alloc (.cells vc 35)) := by
  refine ⟨?_, ?_, ?_, ?_, ?_⟩
  · rw [Below.heap_alloc _ _ _ (by simp only [Deep.nblk_alloc]; omega), Below.heap_alloc _ _ _ (by simp only [Deep.nblk_alloc]; omega), Below.heap_alloc _ _ _ (by simp)]; exact block_new _ _ _
  · rw [Below.heap_alloc _ _ _ (by simp only [Deep.nblk_alloc]; omega), Below.heap_alloc _ _ _ (by simp)]; have := block_new (w.alloc (.cells tb 50)) rb 53; simpa using this
  · rw [Below.heap_alloc _ _ _ (by simp)]; have := block_new ((w.alloc (.cells tb 50)).alloc (.cells rb 53)) zb 35; simpa using this
  · have := block_new (((w.alloc (.cells tb 50)).alloc (.cells rb 53)).alloc (.cells zb 35)) vc 35; simpa using this
  · exact ((((Below.refl _ _).alloc (Nat.le_refl _) _).alloc (by simp) _).alloc (by simp only [Deep.nblk_alloc]; omega) _).alloc (by simp only [Deep.nblk_alloc]; omega) _

theorem owns_lt' {w : World} {B g n c size : Nat} {e : TypeId} {xs : List Value} (h : w.ownsRow B e size (.slice (some ⟨g, 0, none⟩) n c) n xs) : g < w.heap.size := by
  rcases h.2 with ⟨h', _⟩ | ⟨g', cap', cur, h', _, hg, _⟩
  · simp at h'
  · simp only [Value.slice.injEq, Option.some.injEq, Addr.mk.injEq, and_true, true_and] at h'
    obtain ⟨rfl, rfl⟩ := h'
    exact (Array.getElem?_eq_some_iff.1 hg).1
theorem ownsRow_drewN {w : World} {base : Nat} {e : TypeId} {size : Nat} {v : Value} {n : Nat} {xs : List Value} (h : w.ownsRow base e size v n xs) (k : Nat) : (w.drewN k).ownsRow base e size v n xs := h
theorem ownsRow_base {w : World} {B B' : Nat} {e : TypeId} {size : Nat} {v : Value} {n : Nat} {xs : List Value} (h : w.ownsRow B e size v n xs) (hB : B' ≤ B) : w.ownsRow B' e size v n xs := by
  obtain ⟨h1, h2⟩ := h
  refine ⟨h1, ?_⟩
  rcases h2 with h2 | ⟨g, cap, cur, hv, hg, r⟩
  · exact Or.inl h2
  · exact Or.inr ⟨g, cap, cur, hv, Nat.le_trans hB hg, r⟩
theorem cell_three_new (w : World) (x y z : Value) (t : TypeId) : ∀ j u, [x, y, z][j]? = some u → (w.alloc (.cells #[x, y, z] t)).cell? ((⟨w.heap.size, 0, none⟩ : Addr).add j) = some u := by
  intro j u h
  have hb := block_new w #[x, y, z] t
  rw [Go.WideShapes.add_plain, Nat.zero_add, block_cell hb]
  rw [← h]; simp
theorem three_one (x y z : Int) : ∀ u ∈ ([.int .i64 x, .int .i64 y, .int .i64 z] : List Value), u.oneCell' = true := by
  intro u hu
  simp at hu
  rcases hu with rfl | rfl | rfl <;> rfl
/-- the terms, the report as cells -/
def jt (at' : Option Addr) (nt ct : Nat) (ad : Option Addr) (k cd : Nat) (vb : Bool) (want bound : Int) : Array Value := #[.slice at' nt ct, .slice ad k cd, .bool vb, .int .i64 want, .int .i64 bound]
def jr (ax : Option Addr) (m cx : Nat) (au : Option Addr) (u cu : Nat) : Array Value := #[.slice ax m cx, .slice au u cu]

/-- WHAT judge LEAVES. -/
def JudgePost (k : Nat) (vb : Bool) (want bound : Int) (m u : Nat) (D N V R U : Nat → Int) (w : World) (e : Ending) (w' : World) : Prop :=
  ∃ g c, e = .returned (.tuple #[.slice (some ⟨g, 0, none⟩) (KL m N k D).length c,
      .agg (vCells (oc (xB (fun j => V (at_ (KL m N k D) j)) (V (at_ (KL m N k D) 0)) (KL m N k D).length)) (vv vb (xB (fun j => V (at_ (KL m N k D) j)) want (KL m N k D).length)) (oc (tB m N k D && uB k D u U)) (mx (fun j => R (at_ (KL m N k D) j)) (KL m N k D).length) bound)]) ∧
    w'.ownsRow w.heap.size 43 3 (.slice (some ⟨g, 0, none⟩) (KL m N k D).length c) (KL m N k D).length (kCells (KL m N k D) N V R) ∧ Below w.heap.size w w'

set_option maxRecDepth 100000 in
set_option maxHeartbeats 2000000 in
theorem judge_any (at' ad : Option Addr) (nt ct k cd : Nat) (vb : Bool) (want bound : Int) (ax au : Option Addr) (m cx u cu : Nat) (D N V R U : Nat → Int) (w : World)
    (hk : k ≤ 65536) (hm : m ≤ 65536) (hu : u ≤ 65536) (hID : Hid (Inc k D)) (hIN : Hid (Inc m N)) (hD : Hid (IntS w ad k D)) (hE : Hid (DecS w ax m N V R)) (hU : Hid (IntS w au u U)) :
    Calls Try.prog 30 #[.agg #[.slice at' nt ct, .slice ad k cd, .bool vb, .int .i64 want, .int .i64 bound], .agg #[.slice ax m cx, .slice au u cu]] w (JudgePost k vb want bound m u D N V R U w) := by
  obtain ⟨i0, hi, hz0, hz1, hz2⟩ := info_parts Try.info43
  go_enter Try.func30, Try.ntmps30
  go_upto_if 23 with fail
  go_cut [] from 16 (fun wc => Hid (JW w (jt at' nt ct ad k cd vb want bound) (jr ax m cx au u cu) (vCells 0 0 0 0 0) (vCells 1 (v0 vb) 1 0 bound) wc))
  case first =>
    cases vb
    · go_wp2_with fail
      go_meet
      case rel => exact JW.start w _ _ _ _
    · go_wp2_with fail
      go_meet
      case rel => exact JW.start w _ _ _ _
  case rest =>
  obtain ⟨w1, rfl⟩ : ∃ w1, w1 = wc := ⟨_, rfl⟩
  have HJ := hcut
  clear hcut
  have cd1 : w1.cell? ⟨w.heap.size, 1, none⟩ = some (.slice ad k cd) := (block_cell HJ.out.t 1).trans rfl
  go_wp2_with (refine wpList_make_own _ rfl (.const (.int .i64 0)) (.tmp 27) 31 rfl (w.heap.size + 1 + 1 + 1 + 1) 43 i0 (.agg #[.int .i64 0, .int .i64 0, .int .i64 0]) 3 Try.underlying31 hi hz0 hz1 .i64 .i64 _ k rfl rfl rfl (by rw [hz2]; omega) (by unfold maxLen; omega) HJ.out.lt ?_)
  intro w2 hown2 hgrow2
  have HJ2 : Hid (JW w (jt at' nt ct ad k cd vb want bound) (jr ax m cx au u cu) (vCells 0 0 0 0 0) (vCells 1 (v0 vb) 1 0 bound) w2) := HJ.out.grown hgrow2 (fun k h => by cases h)
  have HG : Hid (w.heap.size + 1 + 1 + 1 + 1 ≤ w1.heap.size) := HJ.out.lt
  generalize hg : w1.heap.size = g at hown2 HG ⊢
  have HO2 : Hid (w2.ownsRow (w.heap.size + 1 + 1 + 1 + 1) 43 3 (.slice (some ⟨g, 0, none⟩) (KL m N 0 D).length k) (KL m N 0 D).length (kCells (KL m N 0 D) N V R)) := by rw [KL_zero]; exact hown2
  have hlen0 : (KL m N 0 D).length = 0 := by rw [KL_zero]; rfl
  have HL0 : Hid ((KL m N 0 D).length = 0) := hlen0
  replace cd1 : w2.cell? ⟨w.heap.size, 1, none⟩ = some (.slice ad k cd) := (block_cell HJ2.out.t 1).trans rfl
  clear hown2 hgrow2 HJ hg hlen0
  go_wp2_with fail
  go_loopw [8, 9, 32] (fun v y z wr => ∃ (j p : Nat), v = .slice (some ⟨g, 0, none⟩) (KL m N j D).length k ∧ y = .int .i64 p ∧ z = .int .i64 j ∧ j ≤ k ∧ p ≤ m ∧ (KL m N j D).length ≤ j ∧ Hid (∀ q, q < p → ∀ j', j ≤ j' → j' < k → N q < D j') ∧
      Hid (JW w (jt at' nt ct ad k cd vb want bound) (jr ax m cx au u cu) (vCells 0 0 0 0 0) (vCells 1 (v0 vb) (oc (tB m N j D)) 0 bound) wr) ∧
      Hid (wr.ownsRow (w.heap.size + 1 + 1 + 1 + 1) 43 3 (.slice (some ⟨g, 0, none⟩) (KL m N j D).length k) (KL m N j D).length (kCells (KL m N j D) N V R))) (fun _ _ z _ => k - (intOf z).toNat)
  case atStart => exact ⟨0, 0, by rw [HL0.out], rfl, rfl, Nat.zero_le _, Nat.zero_le _, by rw [HL0.out]; exact Nat.le_refl _, fun q hq => by omega, HJ2, HO2⟩
  case round =>
    obtain ⟨j, p, rfl, rfl, rfl, hj, hp, hll, HN, HJ, HO⟩ := hrel
    clear HJ2 HO2 cd1
    have HDr : Hid (IntS wr ad k D) := hD.out.later HJ.out.below
    have HEr : Hid (DecS wr ax m N V R) := hE.out.later HJ.out.below
    by_cases hlt : j < k
    · have hltI : (j : Int) < (k : Int) := by omega
      obtain ⟨bd, od, rfl, dj⟩ := HDr.out j hlt
      have HNj : Hid (∀ q, q < p → N q < D j) := fun q hq => HN.out q hq j (Nat.le_refl _) hlt
      go_wp2_with fail
      go_loop [9] (fun y => ∃ (q : Nat), y = .int .i64 q ∧ q ≤ m ∧ Hid (∀ i, i < q → N i < D j)) (fun y => m - (intOf y).toNat)
      case atStart => exact ⟨p, rfl, hp, HNj⟩
      case round =>
        obtain ⟨q, rfl, hq, HQ⟩ := hrel
        by_cases hqm : q < m
        · have hqI : (q : Int) < (m : Int) := by omega
          obtain ⟨bx, ox, rfl, e0, e1, e2⟩ := HEr.out q hqm
          by_cases hN : N q < D j
          · have hN' : decide (N q < D j) = true := by simpa using hN
            have fin : Hid (∀ i, i < q + 1 → N i < D j) := fun i hi => by
              by_cases e : i = q
              · subst e; exact hN
              · exact HQ.out i (by omega)
            clear hN
            go_wp2_with fail
            go_round
            case rel => exact ⟨q + 1, by go_num, by omega, fin⟩
            case measure => simp [intOf]; omega
          · have hN' : decide (N q < D j) = false := by simpa using hN
            have hqm' : ((q : Int) == (m : Int)) = false := beq_eq_false_iff_ne.2 (by omega)
            by_cases he : N q = D j
            · have he' : (N q != D j) = false := by rw [bne_eq_false_iff_eq]; exact he
              have E1 : Hid (KL m N (j + 1) D = KL m N j D ++ [q]) := KL_take hIN.out hID.out hlt hqm he
              have E2 : Hid (tB m N (j + 1) D = tB m N j D) := by show _ = _; rw [tB_succ, inB_iff.2 ⟨q, hqm, he⟩]; simp
              have E3 : Hid (∀ i, i < q → ∀ j', j + 1 ≤ j' → j' < k → N i < D j') := fun i hi j' h1 h2 => by
                have := HQ.out i hi; have := hID.out.lt (show j < j' by omega) h2; omega
              clear hN he
              go_wp2_with (at_builtin; refine wpList_append_fits _ rfl (.tmp 65) (.tmp 70) 31 rfl (w.heap.size + 1 + 1 + 1 + 1) 43 i0 3 Try.underlying31 hi hz1 g (KL m N j D).length k (kCells (KL m N j D) N V R) rfl (HO.out.alloc _) ⟨wr.heap.size, 0, none⟩ 1 1 [.int .i64 (N q), .int .i64 (V q), .int .i64 (R q)] rfl rfl (cell_three_new _ _ _ _ _) (three_one _ _ _) (by omega) ?_)
              intro w3 hown3 hgrow3
              have HO3 : Hid (w3.ownsRow (w.heap.size + 1 + 1 + 1 + 1) 43 3 (.slice (some ⟨g, 0, none⟩) (KL m N (j + 1) D).length k) (KL m N (j + 1) D).length (kCells (KL m N (j + 1) D) N V R)) := by
                show World.ownsRow _ _ _ _ _ _ _
                rw [E1.out, kCells_snoc, List.length_append]; exact hown3
              have HJ3 : Hid (JW w (jt at' nt ct (some ⟨bd, od, none⟩) k cd vb want bound) (jr (some ⟨bx, ox, none⟩) m cx au u cu) (vCells 0 0 0 0 0) (vCells 1 (v0 vb) (oc (tB m N (j + 1) D)) 0 bound) w3) := by
                show JW _ _ _ _ _ _
                rw [E2.out]
                exact (HJ.out.alloc _).grown hgrow3 (fun k h => by cases h; exact HG.out)
              have hlen : (KL m N (j + 1) D).length = (KL m N j D).length + 1 := by rw [E1.out]; simp
              have HLEN : Hid ((KL m N (j + 1) D).length = (KL m N j D).length + 1) := hlen
              clear hown3 hgrow3 hlen
              go_wp2_with fail
              go_roundw
              case rel => exact ⟨j + 1, q, by rw [HLEN.out], rfl, by go_num, by omega, by omega, by rw [HLEN.out]; omega, E3, HJ3, HO3⟩
              case measure => simp [intOf]; omega
            · have he' : (N q != D j) = true := by rw [bne_iff_ne]; exact he
              have E1 : Hid (KL m N (j + 1) D = KL m N j D) := KL_skip (p := q) hIN.out HQ.out (fun _ => by omega)
              have E2 : Hid (tB m N (j + 1) D = false) := by
                show _ = _
                rw [tB_succ, inB_false.2 ?_, Bool.and_false]
                intro i hi e
                rcases Nat.lt_or_ge i q with h | h
                · have := HQ.out i h; omega
                · have := hIN.out.le h hi; omega
              have E3 : Hid (∀ i, i < q → ∀ j', j + 1 ≤ j' → j' < k → N i < D j') := fun i hi j' h1 h2 => by
                have := HQ.out i hi; have := hID.out.lt (show j < j' by omega) h2; omega
              have c2 : wr.cell? ⟨w.heap.size + 1 + 1 + 1, 2, none⟩ = some (.int .i64 (oc (tB m N j D))) := (block_cell HJ.out.v 2).trans rfl
              have f2 := block_free HJ.out.v 2
              generalize oc (tB m N j D) = tj at c2
              clear hN he
              go_wp2_with fail
              go_roundw
              case rel =>
                refine ⟨j + 1, q, by rw [E1.out], rfl, by go_num, by omega, by omega, by rw [E1.out]; omega, E3, ?_, ?_⟩
                · show JW _ _ _ _ _ _
                  rw [E2.out]
                  exact HJ.out.set 2 (.int .i64 2)
                · show World.ownsRow _ _ _ _ _ _ _
                  rw [E1.out]
                  exact ownsRow_setCell_below HO.out (by simp) _
              case measure => simp [intOf]; omega
        · obtain rfl : q = m := by omega
          have E1 : Hid (KL q N (j + 1) D = KL q N j D) := KL_skip (p := q) hIN.out HQ.out (fun h => absurd h hqm)
          have E2 : Hid (tB q N (j + 1) D = false) := by
            show _ = _
            rw [tB_succ, inB_false.2 ?_, Bool.and_false]
            intro i hi e
            rcases Nat.lt_or_ge i q with h | h
            · have := HQ.out i h; omega
            · omega
          have E3 : Hid (∀ i, i < q → ∀ j', j + 1 ≤ j' → j' < k → N i < D j') := fun i hi j' h1 h2 => by
            have := HQ.out i hi; have := hID.out.lt (show j < j' by omega) h2; omega
          have c2 : wr.cell? ⟨w.heap.size + 1 + 1 + 1, 2, none⟩ = some (.int .i64 (oc (tB q N j D))) := (block_cell HJ.out.v 2).trans rfl
          have f2 := block_free HJ.out.v 2
          generalize oc (tB q N j D) = tj at c2
          clear hqm
          go_wp2_with fail
          go_roundw
          case rel =>
            refine ⟨j + 1, q, by rw [E1.out], rfl, by go_num, by omega, by omega, by rw [E1.out]; omega, E3, ?_, ?_⟩
            · show JW _ _ _ _ _ _
              rw [E2.out]
              exact HJ.out.set 2 (.int .i64 2)
            · show World.ownsRow _ _ _ _ _ _ _
              rw [E1.out]
              exact ownsRow_setCell_below HO.out (by simp) _
          case measure => simp [intOf]; omega
    · have hltI : ¬ (j : Int) < (k : Int) := by omega
      obtain rfl : j = k := by omega
      have HUr : Hid (IntS wr au u U) := hU.out.later HJ.out.below
      have r1 : wr.cell? ⟨w.heap.size + 1, 1, none⟩ = some (.slice au u cu) := (block_cell HJ.out.r 1).trans rfl
      obtain ⟨l, hl⟩ : ∃ l, KL m N j D = l := ⟨_, rfl⟩
      have HKL : Hid (KL m N j D = l) := hl
      have hlm : ∀ q ∈ l, q < m := fun q hq => KL_lt (by rw [hl]; exact hq)
      have HLM : Hid (∀ q ∈ l, q < m) := hlm
      rw [hl] at hll HO
      simp only [hl]
      obtain ⟨tk, htk⟩ : ∃ tk, tB m N j D = tk := ⟨_, rfl⟩
      have HTK : Hid (tB m N j D = tk) := htk
      rw [htk] at HJ
      clear hl hlm htk HN
      have HJ4 : Hid (JW w (jt at' nt ct ad j cd vb want bound) (jr ax m cx au u cu) (vCells 0 0 0 0 0) (vCells 1 (v0 vb) (oc (tk && uB j D 0 U)) 0 bound) wr) := by
        rw [show (tk && uB j D 0 U) = tk from by simp [uB]]; exact HJ
      clear HDr HEr HUr
      go_wp2_with fail
      go_loopw [76] (fun z wr => ∃ (q : Nat), z = .int .i64 q ∧ q ≤ u ∧ Hid (JW w (jt at' nt ct ad j cd vb want bound) (jr ax m cx au u cu) (vCells 0 0 0 0 0) (vCells 1 (v0 vb) (oc (tk && uB j D q U)) 0 bound) wr) ∧
          Hid (wr.ownsRow (w.heap.size + 1 + 1 + 1 + 1) 43 3 (.slice (some ⟨g, 0, none⟩) l.length j) l.length (kCells l N V R))) (fun z _ => u - (intOf z).toNat)
      case atStart => exact ⟨0, rfl, Nat.zero_le _, HJ4, HO⟩
      case round =>
        obtain ⟨q, rfl, hq, HJq, HOq⟩ := hrel
        clear HJ HO HJ4 r1
        by_cases hqu : q < u
        · have hquI : (q : Int) < (u : Int) := by omega
          have HUq : Hid (IntS wr au u U) := hU.out.later HJq.out.below
          have HDq : Hid (IntS wr ad j D) := hD.out.later HJq.out.below
          obtain ⟨bu, ou, rfl, uq⟩ := HUq.out q hqu
          have t1 : wr.cell? ⟨w.heap.size, 1, none⟩ = some (.slice ad j cd) := (block_cell HJq.out.t 1).trans rfl
          go_wp2_with fail
          refine (isAmong_any (U q) ad j cd D wr hk hID HDq).mono ?_
          rintro e w' ⟨rfl, rfl⟩
          cases hb : inB j D (U q)
          · have E1 : Hid (uB j D (q + 1) U = uB j D q U) := by show _ = _; rw [uB_succ, hb]; simp
            go_wp2_with fail
            go_roundw
            case rel => exact ⟨q + 1, by go_num, by omega, by show JW _ _ _ _ _ _; rw [E1.out]; exact HJq, HOq⟩
            case measure => simp [intOf]; omega
          · have E1 : Hid (uB j D (q + 1) U = false) := by show _ = _; rw [uB_succ, hb]; simp
            have c2 : wr.cell? ⟨w.heap.size + 1 + 1 + 1, 2, none⟩ = some (.int .i64 (oc (tk && uB j D q U))) := (block_cell HJq.out.v 2).trans rfl
            have f2 := block_free HJq.out.v 2
            generalize oc (tk && uB j D q U) = tj at c2
            go_wp2_with fail
            go_roundw
            case rel =>
              refine ⟨q + 1, by go_num, by omega, ?_, ownsRow_setCell_below HOq.out (by simp) _⟩
              show JW _ _ _ _ _ _
              rw [E1.out, Bool.and_false]
              exact HJq.out.set 2 (.int .i64 2)
            case measure => simp [intOf]; omega
        · have hquI : ¬ (q : Int) < (u : Int) := by omega
          obtain rfl : q = u := by omega
          obtain ⟨T, hT⟩ : ∃ T, (tk && uB j D q U) = T := ⟨_, rfl⟩
          have HT : Hid ((tk && uB j D q U) = T) := hT
          rw [hT] at HJq
          clear hT
          have HJ5 : Hid (JW w (jt at' nt ct ad j cd vb want bound) (jr ax m cx au q cu) (vCells 0 0 0 0 0) (vCells (oc (xB (fun i => V (at_ l i)) (V (at_ l 0)) 0)) (vv vb (xB (fun i => V (at_ l i)) want 0)) (oc T) (mx (fun i => R (at_ l i)) 0) bound) wr) := by
            cases vb <;> exact HJq
          clear HJq
          go_wp2_with fail
          go_loopw [88] (fun z wr => ∃ (i : Nat), z = .int .i64 i ∧ i ≤ l.length ∧ Hid (JW w (jt at' nt ct ad j cd vb want bound) (jr ax m cx au q cu) (vCells 0 0 0 0 0) (vCells (oc (xB (fun i => V (at_ l i)) (V (at_ l 0)) i)) (vv vb (xB (fun i => V (at_ l i)) want i)) (oc T) (mx (fun i => R (at_ l i)) i) bound) wr) ∧
              Hid (wr.ownsRow (w.heap.size + 1 + 1 + 1 + 1) 43 3 (.slice (some ⟨g, 0, none⟩) l.length j) l.length (kCells l N V R))) (fun z _ => l.length - (intOf z).toNat)
          case atStart => exact ⟨0, rfl, Nat.zero_le _, HJ5, HOq⟩
          case round =>
            obtain ⟨i, rfl, hi', HJi, HOi⟩ := hrel
            clear HJ5 HOq
            by_cases hil : i < l.length
            · have hilI : (i : Int) < (l.length : Int) := by omega
              have h0I : (0 : Int) < (l.length : Int) := by omega
              have k0 := kCells_at N V R l 0 (by omega)
              have ki := kCells_at N V R l i hil
              rw [← HOi.out.cellAt _ (by omega), ← HOi.out.cellAt _ (by omega), ← HOi.out.cellAt _ (by omega)] at k0 ki
              obtain ⟨ka0, ka1, ka2⟩ := k0
              obtain ⟨kb0, kb1, kb2⟩ := ki
              simp only [Nat.zero_mul, Nat.zero_add] at ka0 ka1 ka2
              go_wp2_with fail
              generalize hW : wr.alloc (.cells #[.int .i64 (N (at_ l i)), .int .i64 (V (at_ l i)), .int .i64 (R (at_ l i))] 43) = W1
              have hbW : Below wr.heap.size wr W1 := by rw [← hW]; exact (Below.refl _ _).alloc (Nat.le_refl _) _
              have hnew : W1.heap[wr.heap.size]? = some (.cells #[.int .i64 (N (at_ l i)), .int .i64 (V (at_ l i)), .int .i64 (R (at_ l i))] 43 (0, 0)) := by rw [← hW]; exact block_new _ _ _
              have HJ1 : Hid (JW w (jt at' nt ct ad j cd vb want bound) (jr ax m cx au q cu) (vCells 0 0 0 0 0) (vCells (oc (xB (fun i => V (at_ l i)) (V (at_ l 0)) i)) (vv vb (xB (fun i => V (at_ l i)) want i)) (oc T) (mx (fun i => R (at_ l i)) i) bound) W1) := HJi.out.of_blocks (hbW.mono HJi.out.lt)
              have HO1 : Hid (W1.ownsRow (w.heap.size + 1 + 1 + 1 + 1) 43 3 (.slice (some ⟨g, 0, none⟩) l.length j) l.length (kCells l N V R)) := by rw [← hW]; exact HOi.out.alloc _
              replace ka1 := cell_later hbW ka1
              have n1 : W1.cell? ⟨wr.heap.size, 1, none⟩ = some (.int .i64 (V (at_ l i))) := (block_cell hnew 1).trans rfl
              have n2 : W1.cell? ⟨wr.heap.size, 2, none⟩ = some (.int .i64 (R (at_ l i))) := (block_cell hnew 2).trans rfl
              have hnb : w.heap.size + 1 + 1 + 1 ≠ wr.heap.size := by have := HJi.out.lt; omega
              have t2 : W1.cell? ⟨w.heap.size, 2, none⟩ = some (.bool vb) := (block_cell HJ1.out.t 2).trans rfl
              have t3 : W1.cell? ⟨w.heap.size, 3, none⟩ = some (.int .i64 want) := (block_cell HJ1.out.t 3).trans rfl
              have c0 : W1.cell? ⟨w.heap.size + 1 + 1 + 1, 0, none⟩ = some (.int .i64 (oc (xB (fun i => V (at_ l i)) (V (at_ l 0)) i))) := (block_cell HJ1.out.v 0).trans rfl
              have c1 : W1.cell? ⟨w.heap.size + 1 + 1 + 1, 1, none⟩ = some (.int .i64 (vv vb (xB (fun i => V (at_ l i)) want i))) := (block_cell HJ1.out.v 1).trans rfl
              have c3 : W1.cell? ⟨w.heap.size + 1 + 1 + 1, 3, none⟩ = some (.int .i64 (mx (fun i => R (at_ l i)) i)) := (block_cell HJ1.out.v 3).trans rfl
              have f0 := block_free HJ1.out.v 0
              have f1 := block_free HJ1.out.v 1
              have f3 := block_free HJ1.out.v 3
              have X1 : Hid (xB (fun i => V (at_ l i)) (V (at_ l 0)) (i + 1) = (xB (fun i => V (at_ l i)) (V (at_ l 0)) i && (V (at_ l i) == V (at_ l 0)))) := xB_succ _ _ _
              have X2 : Hid (xB (fun i => V (at_ l i)) want (i + 1) = (xB (fun i => V (at_ l i)) want i && (V (at_ l i) == want))) := xB_succ _ _ _
              have X3 : Hid (mx (fun i => R (at_ l i)) (i + 1) = if mx (fun i => R (at_ l i)) i < R (at_ l i) then R (at_ l i) else mx (fun i => R (at_ l i)) i) := rfl
              generalize wr.heap.size = nb at n1 n2 hnb ⊢
              clear hW hbW hnew HJi HOi ka0 ka2 kb0 kb1 kb2
              cases e1 : (V (at_ l i) == V (at_ l 0))
              · have e1' : (V (at_ l i) != V (at_ l 0)) = true := by rw [bne, e1]; rfl
                rw [e1, Bool.and_false] at X1
                clear e1
                cases vb
                · go_quiet (fail)
                  go_wp2
                  go_roundw
                  case rel =>
                    refine ⟨i + 1, by go_num, by omega, ?_, ?_⟩
                    · show JW _ _ _ _ _ _
                      rw [X1.out, X3.out]
                      exact ((HJ1.out.drewN nq).set 0 (.int .i64 2)).set 3 _
                    · exact (ownsRow_setCell_below (ownsRow_setCell_below (ownsRow_drewN HO1.out nq) (by simp) _) (by simp) _)
                  case measure => simp [intOf]; omega
                · cases e2 : (V (at_ l i) == want)
                  · have e2' : (V (at_ l i) != want) = true := by rw [bne, e2]; rfl
                    rw [e2, Bool.and_false] at X2
                    clear e2
                    go_quiet (fail)
                    go_wp2
                    go_roundw
                    case rel =>
                      refine ⟨i + 1, by go_num, by omega, ?_, ?_⟩
                      · show JW _ _ _ _ _ _
                        rw [X1.out, X2.out, X3.out]
                        exact (((HJ1.out.drewN nq).set 0 (.int .i64 2)).set 1 (.int .i64 2)).set 3 _
                      · exact (ownsRow_setCell_below (ownsRow_setCell_below (ownsRow_setCell_below (ownsRow_drewN HO1.out nq) (by simp) _) (by simp) _) (by simp) _)
                    case measure => simp [intOf]; omega
                  · have e2' : (V (at_ l i) != want) = false := by rw [bne, e2]; rfl
                    rw [e2, Bool.and_true] at X2
                    clear e2
                    go_quiet (fail)
                    go_wp2
                    go_roundw
                    case rel =>
                      refine ⟨i + 1, by go_num, by omega, ?_, ?_⟩
                      · show JW _ _ _ _ _ _
                        rw [X1.out, X2.out, X3.out]
                        exact ((HJ1.out.drewN nq).set 0 (.int .i64 2)).set 3 _
                      · exact (ownsRow_setCell_below (ownsRow_setCell_below (ownsRow_drewN HO1.out nq) (by simp) _) (by simp) _)
                    case measure => simp [intOf]; omega
              · have e1' : (V (at_ l i) != V (at_ l 0)) = false := by rw [bne, e1]; rfl
                rw [e1, Bool.and_true] at X1
                clear e1
                cases vb
                · go_quiet (fail)
                  go_wp2
                  go_roundw
                  case rel =>
                    refine ⟨i + 1, by go_num, by omega, ?_, ?_⟩
                    · show JW _ _ _ _ _ _
                      rw [X1.out, X3.out]
                      exact (HJ1.out.drewN nq).set 3 _
                    · exact (ownsRow_setCell_below (ownsRow_drewN HO1.out nq) (by simp) _)
                  case measure => simp [intOf]; omega
                · cases e2 : (V (at_ l i) == want)
                  · have e2' : (V (at_ l i) != want) = true := by rw [bne, e2]; rfl
                    rw [e2, Bool.and_false] at X2
                    clear e2
                    go_quiet (fail)
                    go_wp2
                    go_roundw
                    case rel =>
                      refine ⟨i + 1, by go_num, by omega, ?_, ?_⟩
                      · show JW _ _ _ _ _ _
                        rw [X1.out, X2.out, X3.out]
                        exact ((HJ1.out.drewN nq).set 1 (.int .i64 2)).set 3 _
                      · exact (ownsRow_setCell_below (ownsRow_setCell_below (ownsRow_drewN HO1.out nq) (by simp) _) (by simp) _)
                    case measure => simp [intOf]; omega
                  · have e2' : (V (at_ l i) != want) = false := by rw [bne, e2]; rfl
                    rw [e2, Bool.and_true] at X2
                    clear e2
                    go_quiet (fail)
                    go_wp2
                    go_roundw
                    case rel =>
                      refine ⟨i + 1, by go_num, by omega, ?_, ?_⟩
                      · show JW _ _ _ _ _ _
                        rw [X1.out, X2.out, X3.out]
                        exact (HJ1.out.drewN nq).set 3 _
                      · exact (ownsRow_setCell_below (ownsRow_drewN HO1.out nq) (by simp) _)
                    case measure => simp [intOf]; omega
            · have hilI : ¬ (i : Int) < (l.length : Int) := by omega
              obtain rfl : i = l.length := by omega
              generalize hA : oc (xB (fun i => V (at_ l i)) (V (at_ l 0)) l.length) = A at HJi
              generalize hB : vv vb (xB (fun i => V (at_ l i)) want l.length) = Bv at HJi
              generalize hC : oc T = C at HJi
              generalize hM : mx (fun i => R (at_ l i)) l.length = M at HJi
              have HE1 : Hid (oc (xB (fun i => V (at_ l i)) (V (at_ l 0)) l.length) = A ∧ vv vb (xB (fun i => V (at_ l i)) want l.length) = Bv ∧ oc T = C ∧ mx (fun i => R (at_ l i)) l.length = M) := ⟨hA, hB, hC, hM⟩
              clear hA hB hC hM
              have c0 : wr.cell? ⟨w.heap.size + 1 + 1 + 1, 0, none⟩ = some (.int .i64 A) := (block_cell HJi.out.v 0).trans rfl
              have c1 : wr.cell? ⟨w.heap.size + 1 + 1 + 1, 1, none⟩ = some (.int .i64 Bv) := (block_cell HJi.out.v 1).trans rfl
              have c2 : wr.cell? ⟨w.heap.size + 1 + 1 + 1, 2, none⟩ = some (.int .i64 C) := (block_cell HJi.out.v 2).trans rfl
              have c3 : wr.cell? ⟨w.heap.size + 1 + 1 + 1, 3, none⟩ = some (.int .i64 M) := (block_cell HJi.out.v 3).trans rfl
              have c4 : wr.cell? ⟨w.heap.size + 1 + 1 + 1, 4, none⟩ = some (.int .i64 bound) := (block_cell HJi.out.v 4).trans rfl
              have z0 : wr.cell? ⟨w.heap.size + 1 + 1, 0, none⟩ = some (.int .i64 0) := (block_cell HJi.out.z 0).trans rfl
              have z1 : wr.cell? ⟨w.heap.size + 1 + 1, 1, none⟩ = some (.int .i64 0) := (block_cell HJi.out.z 1).trans rfl
              have z2 : wr.cell? ⟨w.heap.size + 1 + 1, 2, none⟩ = some (.int .i64 0) := (block_cell HJi.out.z 2).trans rfl
              have z3 : wr.cell? ⟨w.heap.size + 1 + 1, 3, none⟩ = some (.int .i64 0) := (block_cell HJi.out.z 3).trans rfl
              have z4 : wr.cell? ⟨w.heap.size + 1 + 1, 4, none⟩ = some (.int .i64 0) := (block_cell HJi.out.z 4).trans rfl
              have f0 := block_free HJi.out.z 0
              have f1 := block_free HJi.out.z 1
              have f2 := block_free HJi.out.z 2
              have f3 := block_free HJi.out.z 3
              have f4 := block_free HJi.out.z 4
              go_wp2_with fail
              go_region
              go_wp2
              refine bodyPost_ret (v := .tuple #[.slice (some ⟨g, 0, none⟩) l.length j, .agg (vCells A Bv C M bound)]) (by simp [results, Try.results30, go_sem, vCells, z0, z1, z2, z3, z4]) rfl ?_
              refine ⟨g, j, ?_, ?_, ?_⟩
              · rw [HKL.out, HTK.out, HT.out, HE1.out.1, HE1.out.2.1, HE1.out.2.2.1, HE1.out.2.2.2]
              · rw [HKL.out]
                refine ownsRow_base (B := w.heap.size + 1 + 1 + 1 + 1) ?_ (by omega)
                exact (ownsRow_setCell_below (ownsRow_setCell_below (ownsRow_setCell_below (ownsRow_setCell_below (ownsRow_setCell_below HOi.out (by simp only []; omega) _) (by simp only []; omega) _) (by simp only []; omega) _) (by simp only []; omega) _) (by simp only []; omega) _).drew
              · exact (((((HJi.out.below.setCell (by simp only []; omega) _).setCell (by simp only []; omega) _).setCell (by simp only []; omega) _).setCell (by simp only []; omega) _).setCell (by simp only []; omega) _).drew
end Go.Proofs.Qxb6604244a
