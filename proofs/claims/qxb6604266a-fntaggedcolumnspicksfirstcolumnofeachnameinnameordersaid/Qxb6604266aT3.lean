/-
  taggedColumns.
-/
import Derived.Test.Qxb6604266aT2
import Derived.Maps.Own
import Derived.Maps.OwnSet
import Derived.Maps.AppendAt
import Derived.StringKeys
namespace Go.Proofs.Qxb6604266a
open Go.RowKit Go.Maps

/-- A map[string]bool THAT THE CALL MAKES, AS A FUNCTION (a key that is not there: false). -/
def SMap (w : World) (B n : Nat) (f : ByteArray → Bool) : Prop :=
  ∃ D : DataW Unit, w.ownsMap Try.prog 9 (plainElem Try.prog 4) B n D ∧ ∀ s : ByteArray, s.size ≤ maxLen → D.atKey (.string s.data.toList) (.lit (.bool false)) = .lit (.bool (f s))
theorem law : Keyed Try.prog 9 := string_keyed Try.underlying9
theorem zero4 (w : World) : (zeroValue 4).run Try.prog w = .ok (.bool false) w := by kernel_rfl

theorem plainElem_bool_inv {v : Value} {z : DataW Unit × List MemPlace} (h : plainElem Try.prog 4 v = some z) : ∃ b, v = .bool b ∧ z = (.lit (.bool b), []) := by
  unfold plainElem at h
  rw [Try.underlying4] at h
  split at h
  · rename_i x _; exact ⟨x, rfl, by simpa using h.symm⟩
  · rename_i heq; simp at heq
  · rename_i heq; simp at heq
  · cases h

theorem SMap.made (w : World) : SMap (w.alloc (.map #[] 0)) w.heap.size 0 (fun _ => false) :=
  ⟨.map [], World.ownsMap_made w _ _ _, fun _ _ => rfl⟩
theorem SMap.congr {w : World} {B n : Nat} {f g : ByteArray → Bool} (h : SMap w B n f) (e : ∀ s, f s = g s) : SMap w B n g := by
  obtain ⟨D, h1, h2⟩ := h
  exact ⟨D, h1, fun s hs => by rw [h2 s hs, e s]⟩
theorem SMap.below {w w' : World} {B n : Nat} {f : ByteArray → Bool} (h : SMap w B n f) (hb : w'.heap[B]? = w.heap[B]?) : SMap w' B n f := by
  obtain ⟨D, ⟨es, clock, h0, h1⟩, h2⟩ := h
  exact ⟨D, ⟨es, clock, hb.trans h0, h1⟩, h2⟩
theorem SMap.lt {w : World} {B n : Nat} {f : ByteArray → Bool} (h : SMap w B n f) : B < w.heap.size := by
  obtain ⟨D, h1, _⟩ := h
  exact h1.lt
theorem SMap.look {w : World} {B n : Nat} {f : ByteArray → Bool} (h : SMap w B n f) {s : ByteArray} (hs : s.size ≤ maxLen) : (Instr.lookup 35 (.map (some B)) (.string s) false).run Try.prog w = .ok (.bool (f s)) w := by
  obtain ⟨D, h1, h2⟩ := h
  obtain ⟨v, ps, hrun, hv⟩ := h1.lookup law Try.underlying35 (zero4 w) (plainElem_bool Try.underlying4 false) (WideMaps.keyOf_string_mk Try.underlying9 hs)
  obtain ⟨b, rfl, hz⟩ := plainElem_bool_inv hv
  rw [h2 s hs] at hz
  simp only [Prod.mk.injEq, DataW.lit.injEq, Lit.bool.injEq] at hz
  rw [hrun, hz.1]
theorem SMap.put {w : World} {B n : Nat} {f : ByteArray → Bool} (h : SMap w B n f) (hn : n < 1000000) {s : ByteArray} (hs : s.size ≤ maxLen) :
    ∃ w', (Instr.mapUpdate 35 (.map (some B)) (.string s) (.bool true)).run Try.prog w = .ok () w' ∧ SMap w' B (n + 1) (fun t => f t || decide (s = t)) ∧ w.grownBy w' (some B) := by
  obtain ⟨D, h1, h2⟩ := h
  have hkey := WideMaps.keyOf_string_mk (P := Try.prog) Try.underlying9 hs
  obtain ⟨w', hrun, ho, hg⟩ := h1.update law Try.underlying35 (by unfold maxLen; omega) hkey (plainElem_bool Try.underlying4 true)
  refine ⟨w', hrun, ⟨_, ho, fun t ht => ?_⟩, hg⟩
  by_cases e : s = t
  · subst e
    rw [atKey_put_same h1.isMap (law.key hkey)]
    simp
  · have hne : (Lit.string t.data.toList) ≠ Lit.string s.data.toList := by
      intro he
      apply e
      have he2 : t.data.toList = s.data.toList := by simpa using he
      cases s; cases t
      congr 1
      exact (Array.ext' he2).symm
    rw [atKey_put_other hne, h2 t ht]
    simp [e]

/-- a list of numbers as cells -/
def nCells (l : List Nat) : List Value := l.map fun (i : Nat) => .int .i64 (i : Int)
/-- WHAT taggedColumns LEAVES. -/
def TagPost (l : List Nat) (w : World) (e : Ending) (w' : World) : Prop :=
  ∃ v, e = .returned v ∧ w'.ownsRow w.heap.size 3 1 v l.length (nCells l) ∧ (l = [] → v = .slice none 0 0) ∧ Below w.heap.size w w'

theorem SMap.mono {w : World} {B n n' : Nat} {f : ByteArray → Bool} (h : SMap w B n f) (hn : n ≤ n') : SMap w B n' f := by
  obtain ⟨D, h1, h2⟩ := h
  exact ⟨D, h1.mono hn, h2⟩
theorem own_ne {w : World} {base : Nat} {e : TypeId} {size : Nat} {v : Value} {n : Nat} {xs : List Value} (h : w.ownsRow base e size v n xs) {g : Nat} (hg : g < base) : some g ≠ v.ownBlock := by
  rcases h.2 with ⟨rfl, _⟩ | ⟨g', cap, cur, rfl, hb, _⟩
  · simp [Value.ownBlock]
  · simp only [Value.ownBlock, ne_eq, Option.some.injEq]; omega
theorem own_ge {w : World} {base : Nat} {e : TypeId} {size : Nat} {v : Value} {n : Nat} {xs : List Value} (h : w.ownsRow base e size v n xs) : ∀ k, v.ownBlock = some k → base ≤ k := by
  rcases h.2 with ⟨rfl, _⟩ | ⟨g', cap, cur, rfl, hb, _⟩
  · intro k hk; simp [Value.ownBlock] at hk
  · intro k hk; simp only [Value.ownBlock, Option.some.injEq] at hk; omega
theorem own_later {w w' : World} {base : Nat} {e : TypeId} {size : Nat} {v : Value} {n : Nat} {xs : List Value} (h : w.ownsRow base e size v n xs) (hb : Below w.heap.size w w') : w'.ownsRow base e size v n xs := by
  refine ⟨h.1, ?_⟩
  rcases h.2 with h2 | ⟨g, cap, cur, hv, hg, hh, r⟩
  · exact .inl h2
  · exact .inr ⟨g, cap, cur, hv, hg, (hb.block g (Array.getElem?_eq_some_iff.1 hh).1).trans hh, r⟩
theorem nCells_snoc (l : List Nat) (i : Nat) : nCells (l ++ [i]) = nCells l ++ [.int .i64 (i : Int)] := by simp [nCells]

set_option maxRecDepth 100000 in
set_option maxHeartbeats 2000000 in
theorem tagged_any (a0 a1 : Option Addr) (n c0 m c1 : Nat) (C T K : Nat → ByteArray) (e : Nat → ByteArray) (ne : Nat) (w : World) (hn : n ≤ 4096) (hne : ne ≤ 4096)
    (hnil : Hid (a1 = none → e = C ∧ ne = n)) (hsome : Hid (∀ x, a1 = some x → e = K ∧ ne = m)) (hez : Hid (∀ p, p < ne → (e p).size ≤ maxLen)) (hC : Hid (ColS w a0 n C T)) (hK : Hid (StrS w a1 m K)) :
    Calls Try.prog 11 #[.slice a0 n c0, .slice a1 m c1] w (TagPost (TG e ne C n) w) := by
  have q23 := eql23
  obtain ⟨i0, hi, hz0, hz1, hz2⟩ := info_parts Try.info3
  go_enter Try.func11, Try.ntmps11
  go_upto_if 14 with fail
  go_cut [1] from 13 (fun v wc => ∃ a c, v = .slice a ne c ∧ Hid (StrS wc a ne e) ∧ Hid (Below w.heap.size w wc))
  case first =>
    cases a1 with
    | some x =>
      obtain ⟨rfl, rfl⟩ := hsome.out x rfl
      go_wp2_with fail
      go_meet
      case rel => exact ⟨_, _, rfl, hK, Below.refl _ _⟩
    | none =>
      obtain ⟨rfl, rfl⟩ := hnil.out rfl
      have hmk := fun wx => run_make_row' (P := Try.prog) 23 9 (.string ⟨#[]⟩) 16 Try.underlying23 Try.info9 rfl .i64 .i64 ne (by omega) (by omega) wx
      go_wp2_with fail
      go_loopw [20] (fun y wr => ∃ (k : Nat) (f : Nat → Value), y = .int .i64 k ∧ k ≤ ne ∧ Hid (wr.rowIs w.heap.size 9 ne f) ∧ Hid (∀ j, j < k → f j = .string (e j)) ∧ Hid (Below w.heap.size w wr)) (fun y _ => ne - (intOf y).toNat)
      case atStart => exact ⟨0, _, rfl, Nat.zero_le _, World.rowIs_made _ _ _ _, fun j hj => by omega, (Below.refl _ _).alloc (Nat.le_refl _) _⟩
      case round =>
        obtain ⟨k, f, rfl, hk, HR, HF, HB⟩ := hrel
        clear hmk
        by_cases hlt : k < ne
        · have hltI : (k : Int) < (ne : Int) := by omega
          obtain ⟨b0, o0, rfl, d0, d1⟩ := hC.out k hlt
          replace d0 := cell_later HB.out d0
          replace d1 := cell_later HB.out d1
          have HR1 : Hid ((wr.alloc (.cells #[.string (e k), .string (T k)] 34)).rowIs w.heap.size 9 ne f) := HR.out.alloc _
          have g0 := HR1.out.cell hlt
          have z0 := HR1.out.frozen k
          have HB1 : Hid (Below w.heap.size w (wr.alloc (.cells #[.string (e k), .string (T k)] 34))) := HB.out.alloc HB.out.size _
          go_wp2_with fail
          go_roundw
          case rel =>
            refine ⟨k + 1, _, by go_num, by omega, HR1.out.set k (.string (e k)), ?_, HB1.out.setCell (Nat.le_refl _) _⟩
            intro j hj
            by_cases e' : j = k
            · subst e'; simp
            · simp only [e', if_false]; exact HF.out j (by omega)
          case measure => simp [intOf]; omega
        · have hltI : ¬ (k : Int) < (ne : Int) := by omega
          go_wp2_with fail
          go_meet
          case rel =>
            refine ⟨_, _, rfl, fun j hj => ⟨w.heap.size, 0, rfl, ?_⟩, HB⟩
            rw [Nat.zero_add, HR.out.cell hj, HF.out j (by omega)]
  case rest =>
  obtain ⟨w1, rfl⟩ : ∃ w1, w1 = wc := ⟨_, rfl⟩
  obtain ⟨a, c, rfl, HE, HB1⟩ := hcut
  have hmm := @run_makeMap Try.prog
  obtain ⟨w2, hput, hS2, hg2⟩ := (SMap.made w1).put (by omega) (s := ⟨#[110, 97, 109, 101]⟩) (by decide)
  have HS2 : Hid (SMap w2 w1.heap.size 1 (sB e 0)) := hS2.congr fun t => by
    rw [sB_zero]
    unfold nmB
    have := strEq t ⟨#[110, 97, 109, 101]⟩
    rw [show (ByteArray.mk #[110, 97, 109, 101]).toList = [110, 97, 109, 101] from by decide +kernel] at this
    rw [this, Bool.false_or]
    rw [Bool.eq_iff_iff, decide_eq_true_iff, decide_eq_true_iff]
    exact eq_comm
  have HB2 : Hid (Below w1.heap.size w1 w2) := ((Below.refl _ _).alloc (Nat.le_refl _) _).grown hg2 (by simp) (fun k h => by cases h; exact Nat.le_refl _)
  clear hS2 hg2
  have HOw : Hid (w2.ownsRow (w1.heap.size + 1) 3 1 (.slice none 0 0) (TG e 0 C n).length (nCells (TG e 0 C n))) := World.ownsRow_nil _ _ _ _
  go_wp2_with fail
  go_loopw [7, 35] (fun v z wr => ∃ (q : Nat), z = .int .i64 q ∧ q ≤ ne ∧ Hid (SMap wr w1.heap.size (q + 1) (sB e q)) ∧ Hid (wr.ownsRow (w1.heap.size + 1) 3 1 v (TG e q C n).length (nCells (TG e q C n))) ∧ Hid (TG e q C n = [] → v = .slice none 0 0) ∧ Hid (Below w1.heap.size w1 wr)) (fun _ z _ => ne - (intOf z).toNat)
  case atStart => exact ⟨0, rfl, Nat.zero_le _, HS2, HOw, fun _ => rfl, HB2⟩
  case round =>
    obtain ⟨q, rfl, hq, HS, HO, HN, HB⟩ := hrel
    obtain ⟨vT, rfl⟩ : ∃ vT, vT = u7 := ⟨_, rfl⟩
    clear HS2 HOw HB2 hput hmm
    have HB0 : Hid (Below w.heap.size w wr) := HB1.out.trans (HB.out.mono HB1.out.size)
    by_cases hlt : q < ne
    · have hltI : (q : Int) < (ne : Int) := by omega
      have HEr : Hid (StrS wr a ne e) := HE.out.later HB.out
      obtain ⟨b, off, rfl, d⟩ := HEr.out q hlt
      have hsz := hez.out q hlt
      have hlook := HS.out.look hsz
      have hlB := HS.out.lt
      cases hb : sB e q (e q)
      · rw [hb] at hlook
        obtain ⟨w3, hput, hS3, hg3⟩ := HS.out.put (by omega) hsz
        have HS3 : Hid (SMap w3 w1.heap.size (q + 1 + 1) (sB e (q + 1))) := hS3.congr fun t => by rw [sB_succ]
        have HO3 : Hid (w3.ownsRow (w1.heap.size + 1) 3 1 vT (TG e q C n).length (nCells (TG e q C n))) := HO.out.kept hg3 (.inr (fun h => own_ne HO.out (Nat.lt_succ_self _) h.symm))
        have HB3 : Hid (Below w1.heap.size w1 w3) := HB.out.grown hg3 (Nat.le_of_lt hlB) (fun k h => by cases h; exact Nat.le_refl _)
        have hl3 : w1.heap.size < w3.heap.size := HS3.out.lt
        have HBE : Hid (Below w.heap.size w w3) := HB1.out.trans (HB3.out.mono HB1.out.size)
        have hlen := TG_len e q C n
        have hbb : sB e q (e q) = false := hb
        have HBB : Hid (sB e q (e q) = false) := hbb
        clear hS3 hg3 hb hbb hlB
        go_wp2_with fail
        go_loopw [7, 46] (fun x z wx => ∃ (i : Nat), vT = x ∧ z = .int .i64 i ∧ i ≤ n ∧ Hid (∀ j, j < i → C j ≠ e q) ∧ Hid (Below w3.heap.size w3 wx)) (fun _ z _ => n - (intOf z).toNat)
        case atStart => exact ⟨0, rfl, rfl, Nat.zero_le _, fun j hj => by omega, Below.refl _ _⟩
        case round =>
          obtain ⟨i, rfl, rfl, hin, HCi, HBx⟩ := hrel
          clear hput hlook
          have HSx : Hid (SMap wr w1.heap.size (q + 1 + 1) (sB e (q + 1))) := HS3.out.below (HBx.out.block _ hl3)
          have HOx : Hid (wr.ownsRow (w1.heap.size + 1) 3 1 vT (TG e q C n).length (nCells (TG e q C n))) := own_later HO3.out HBx.out
          have HB1x : Hid (Below w1.heap.size w1 wr) := HB3.out.trans (HBx.out.mono HB3.out.size)
          have hlx : w1.heap.size < wr.heap.size := HSx.out.lt
          by_cases hic : i < n
          · have hicI : (i : Int) < (n : Int) := by omega
            have HCx : Hid (ColS wr a0 n C T) := hC.out.later (HBE.out.trans (HBx.out.mono HBE.out.size))
            obtain ⟨bc, oc, rfl, d0, d1⟩ := HCx.out i hic
            by_cases he : C i = e q
            · have he' : ((C i).toList == (e q).toList) = true := by rw [strEq, he]; simp
              have Efc : fc C (e q) n = i := fc_eq hic he HCi.out
              have E1 : Hid (TG e (q + 1) C n = TG e q C n ++ [i]) := by show _ = _; rw [TG_take HBB.out (by rw [Efc]; exact hic), Efc]
              have HW : Hid (SMap (wr.alloc (.cells #[.string (C i), .string (T i)] 34)) w1.heap.size (q + 1 + 1) (sB e (q + 1))) := HSx.out.below (Below.heap_alloc _ _ _ hlx)
              have HBW : Hid (Below w1.heap.size w1 (wr.alloc (.cells #[.string (C i), .string (T i)] 34))) := HB1x.out.alloc (Nat.le_of_lt hlx) _
              have HOW : Hid ((wr.alloc (.cells #[.string (C i), .string (T i)] 34)).ownsRow (w1.heap.size + 1) 3 1 vT (TG e q C n).length (nCells (TG e q C n))) := HOx.out.alloc _
              have hsW : (wr.alloc (.cells #[.string (C i), .string (T i)] 34)).heap.size = wr.heap.size + 1 := by simp
              clear he Efc
              go_wp2_with (at_builtin; refine wpList_append_own _ rfl (.tmp 55) (.tmp 57) 28 rfl (w1.heap.size + 1) 3 i0 (.int .i64 0) 1 8 Try.underlying28 hi hz0 hz1 hz2 rfl (by decide) vT (TG e q C n).length (nCells (TG e q C n)) rfl (HOW.out.alloc _) ⟨wr.heap.size + 1, 0, none⟩ 1 1 [.int .i64 (i : Int)] rfl rfl (by rw [← hsW]; exact cell_one_new _ _ _) (ints_oneCell _ [(i : Int)]) (by unfold maxLen; omega) (by omega) (by simp; omega) ?_)
              intro v' w5 hown5 hgrow5 hnil5
              have HO5 : Hid (w5.ownsRow (w1.heap.size + 1) 3 1 v' (TG e (q + 1) C n).length (nCells (TG e (q + 1) C n))) := by
                show World.ownsRow _ _ _ _ _ _ _
                rw [E1.out, nCells_snoc, List.length_append]; exact hown5
              have HS5 : Hid (SMap w5 w1.heap.size (q + 1 + 1) (sB e (q + 1))) := by
                refine HW.out.below ?_
                rw [hgrow5.block w1.heap.size (by simp; omega) (own_ne HOx.out (Nat.lt_succ_self _))]
                exact Below.heap_alloc _ _ _ (by simp; omega)
              have HB5 : Hid (Below w1.heap.size w1 w5) := (HBW.out.alloc (by simp; omega) _).grown hgrow5 (by simp; omega) (fun k h => by have := own_ge HOx.out k h; omega)
              have HN5 : Hid (TG e (q + 1) C n = [] → v' = .slice none 0 0) := fun h => by rw [E1.out] at h; simp at h
              clear hown5 hgrow5 hnil5
              go_wp2_with fail
              go_roundw
              case rel => exact ⟨q + 1, by go_num, by omega, HS5, HO5, HN5, HB5⟩
              case measure => simp [intOf]; omega
            · have he' : ((C i).toList == (e q).toList) = false := by rw [strEq]; simpa using he
              have fin : Hid (∀ j, j < i + 1 → C j ≠ e q) := fun j hj => by
                by_cases e' : j = i
                · subst e'; exact he
                · exact HCi.out j (by omega)
              have HBy : Hid (Below w3.heap.size w3 (wr.alloc (.cells #[.string (C i), .string (T i)] 34))) := HBx.out.alloc HBx.out.size _
              clear he
              go_wp2_with fail
              go_roundw
              case rel => exact ⟨i + 1, rfl, by go_num, by omega, fin, HBy⟩
              case measure => simp [intOf]; omega
          · have hicI : ¬ (i : Int) < (n : Int) := by omega
            have E1 : Hid (TG e (q + 1) C n = TG e q C n) := TG_none (by rw [fc_none (fun j hj => HCi.out j (by omega))]; exact Nat.le_refl _)
            go_wp2_with fail
            go_roundw
            case rel => exact ⟨q + 1, by go_num, by omega, HSx, by show World.ownsRow _ _ _ _ _ _ _; rw [E1.out]; exact HOx, by rw [E1.out]; exact HN, HB1x⟩
            case measure => simp [intOf]; omega
      · rw [hb] at hlook
        have E1 : Hid (TG e (q + 1) C n = TG e q C n) := TG_skip hb
        have HS1 : Hid (SMap wr w1.heap.size (q + 1 + 1) (sB e (q + 1))) := (HS.out.mono (Nat.le_succ _)).congr fun t => by
          rw [sB_succ]
          by_cases e' : e q = t
          · subst e'; simp [hb]
          · simp [e']
        clear hb
        go_wp2_with fail
        go_roundw
        case rel => exact ⟨q + 1, by go_num, by omega, HS1, by show World.ownsRow _ _ _ _ _ _ _; rw [E1.out]; exact HO, by rw [E1.out]; exact HN, HB⟩
        case measure => simp [intOf]; omega
    · have hltI : ¬ (q : Int) < (ne : Int) := by omega
      obtain rfl : q = ne := by omega
      go_wp2_with fail
      go_ret
      refine ⟨_, rfl, ?_, HN.out, HB0.out⟩
      refine ⟨HO.out.1, ?_⟩
      rcases HO.out.2 with h | ⟨g, cap, cur, h1, h2, h3⟩
      · exact .inl h
      · exact .inr ⟨g, cap, cur, h1, by have := HB1.out.size; omega, h3⟩
end Go.Proofs.Qxb6604266a
