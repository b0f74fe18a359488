/-
  THE LAW'S WALK.
-/
import Derived.Test.Qxb6604266aT4
namespace Go.Proofs.Qxb6604266a
open Go.RowKit Go.Maps

theorem insL_map (l : List Nat) (f : Nat → Nat) (p t : Nat) : (insL l p t).map f = insL (l.map f) (f p) t := by simp [insL]
theorem own_slice {w : World} {B n : Nat} {v : Value} {l : List Nat} (h : w.ownsRow B 3 1 v n (nCells l)) : ∃ a c, v = .slice a n c ∧ IntS w a n (fun j => (at_ l j : Int)) := by
  by_cases hn : 0 < n
  · obtain ⟨g, c, rfl, _⟩ := owns_shape h hn
    exact ⟨_, _, rfl, owns_ints h⟩
  · obtain rfl : n = 0 := by omega
    rcases h.2 with ⟨h', _⟩ | ⟨g', cap', cur, h', _⟩
    · exact ⟨_, _, h', fun j hj => by omega⟩
    · exact ⟨_, _, h', fun j hj => by omega⟩
theorem own_lt {w : World} {B n : Nat} {v : Value} {xs : List Value} (h : w.ownsRow B 3 1 v n xs) : ∀ k, v.ownBlock = some k → k < w.heap.size := by
  rcases h.2 with ⟨rfl, _⟩ | ⟨g', cap, cur, rfl, hb, hg, _⟩
  · intro k hk; simp [Value.ownBlock] at hk
  · intro k hk
    simp only [Value.ownBlock, Option.some.injEq] at hk
    subst hk
    exact (Array.getElem?_eq_some_iff.1 hg).1
theorem Dis.symm {v u : Value} (h : Dis v u) : Dis u v := fun g h1 h2 => h g h2 h1
theorem other_kept {wr W w1 : World} {B : Nat} {vI vK v1 : Value} {m : Nat} {ys : List Value} (hK : wr.ownsRow B 3 1 vK m ys) (hd : Dis vI vK) (b : Obj) (hW : wr.alloc b = W)
    (hg : W.grownBy w1 vI.ownBlock) (hat : v1.ownBlock = vI.ownBlock ∨ v1.ownBlock = some (wr.heap.size + 1)) : w1.ownsRow B 3 1 vK m ys ∧ Dis v1 vK := by
  subst hW
  refine ⟨(hK.alloc _).kept hg ?_, ?_⟩
  · cases hk : vK.ownBlock with
    | none => exact .inl rfl
    | some k => exact .inr (fun h => hd k h.symm hk)
  · intro g h1 h2
    rcases hat with h | h
    · exact hd g (h ▸ h1) h2
    · have := own_lt hK g h2
      rw [h] at h1
      simp at h1
      omega
/-- WHAT taggedColumns HANDS BACK, AS A SLICE. -/
theorem got_shape {l : List Nat} {w w' : World} {e : Ending} (h : TagPost l w e w') : ∃ a c, e = .returned (.slice a l.length c) ∧ IntS w' a l.length (fun j => (at_ l j : Int)) ∧ a.isNone = ((l.length : Int) == 0) ∧ Below w.heap.size w w' := by
  obtain ⟨v, rfl, h1, h2, h3⟩ := h
  cases l with
  | nil =>
    rw [h2 rfl]
    exact ⟨_, _, rfl, fun j hj => by simp at hj, rfl, h3⟩
  | cons x l =>
    obtain ⟨g, c, rfl, _⟩ := owns_shape h1 (by simp)
    refine ⟨_, _, rfl, owns_ints h1, ?_, h3⟩
    simp
    omega
/-- the two rows that the law builds -/
structure Two (wr : World) (B : Nat) (vI vK : Value) (l : List Nat) (f : Nat → Nat) : Prop where
  i : wr.ownsRow B 3 1 vI l.length (nCells (l.map f))
  k : wr.ownsRow B 3 1 vK l.length (nCells l)
  d : Dis vI vK
theorem Two.congr {wr : World} {B : Nat} {vI vK : Value} {l l' : List Nat} {f : Nat → Nat} (h : Two wr B vI vK l f) (e : l' = l) : Two wr B vI vK l' f := e ▸ h
theorem Two.nil (wr : World) (B : Nat) (f : Nat → Nat) : Two wr B (.slice none 0 0) (.slice none 0 0) [] f := ⟨World.ownsRow_nil _ _ _ _, World.ownsRow_nil _ _ _ _, fun g h => by simp [Value.ownBlock] at h⟩

/-- ONE SWAP MOVES p ONE PLACE DOWN. -/
theorem swap_row {l : List Nat} {p s N : Nat} (hN : l.length = N) (hs : s < N) {f : Nat → Value} (h : ∀ j, j < N + 1 → f j = .int .i64 (at_ (insL l p (s + 1)) j : Int)) :
    ∀ j, j < N + 1 → (fun j => if j = s + 1 then .int .i64 (at_ l s : Int) else (fun j => if j = s then .int .i64 (p : Int) else f j) j) j = Value.int .i64 (at_ (insL l p s) j : Int) := by
  subst hN
  intro j hj
  rw [insL_at (by omega)]
  by_cases e1 : j = s + 1
  · subst e1
    simp only [if_true, show ¬ (s + 1 < s) by omega, show ¬ (s + 1 = s) by omega, if_false, Nat.add_sub_cancel]
  · by_cases e2 : j = s
    · subst e2
      simp only [e1, if_false, if_true, Nat.lt_irrefl]
    · simp only [e1, e2, if_false]
      rw [h j hj, insL_at (by omega)]
      by_cases e3 : j < s
      · rw [if_pos (by omega), if_pos e3]
      · rw [if_neg (by omega), if_neg e1, if_neg e3]
theorem drop_gt {l : List Nat} {p s : Nat} (hs : s < l.length) (hp : p < at_ l s) (h : ∀ x, x ∈ l.drop (s + 1) → p < x) : ∀ x, x ∈ l.drop s → p < x := by
  intro x hx
  rw [List.drop_eq_getElem_cons hs] at hx
  rcases List.mem_cons.1 hx with rfl | hx
  · simpa [at_, hs] using hp
  · exact h x hx
theorem ins_fst {l : List Nat} {p s : Nat} (hs : s < l.length) : at_ (insL l p (s + 1)) s = at_ l s := by
  rw [insL_at (by omega), if_pos (by omega)]
theorem ins_snd {l : List Nat} {p s : Nat} (hs : s < l.length) : at_ (insL l p (s + 1)) (s + 1) = p := by
  rw [insL_at (by omega), if_neg (by omega), if_pos rfl]

/-- THE COLUMN IS PUT IN: the rows hold the next list. -/
theorem Two.close {wx w' : World} {B gi ci gk ck p d t : Nat} {gl l' : List Nat} {f : Nat → Nat} {fI fK : Nat → Value} (hS : Same wx w') (ri : wx.rowIs gi 3 ci fI) (rk : wx.rowIs gk 3 ck fK)
    (hI : ∀ j, j < gl.length + 1 → fI j = .int .i64 (at_ (insL (gl.map f) d t) j : Int)) (hK : ∀ j, j < gl.length + 1 → fK j = .int .i64 (at_ (insL gl p t) j : Int)) (hne : gk ≠ gi) (ht : t ≤ gl.length)
    (nI : gl.length + 1 ≤ ci) (mI : ci ≤ maxLen) (bI : B ≤ gi) (nK : gl.length + 1 ≤ ck) (mK : ck ≤ maxLen) (bK : B ≤ gk) (hf : f p = d)
    (s1 : gl.Pairwise (· < ·)) (s2 : l'.Pairwise (· < ·)) (hm : ∀ x, x ∈ l' ↔ x = p ∨ x ∈ gl) (hlo : 0 < t → at_ gl (t - 1) < p) (hhi : ∀ x, x ∈ gl.drop t → p < x) :
    Two w' B (.slice (some ⟨gi, 0, none⟩) (gl.length + 1) ci) (.slice (some ⟨gk, 0, none⟩) (gl.length + 1) ck) l' f := by
  have e : l' = insL gl p t := insert_at s1 s2 hm (take_lt s1 ht hlo) hhi
  have hl : l'.length = gl.length + 1 := by rw [e, insL_length _ _ _ ht]
  refine ⟨?_, ?_, ?_⟩
  · rw [hl]
    refine row_owns (hS.row ri) nI mI bI (by simp [hl]) fun j hj => ?_
    rw [hI j hj, e, insL_map, hf]
  · rw [hl]
    refine row_owns (hS.row rk) nK mK bK hl fun j hj => ?_
    rw [hK j hj, e]
  · intro g h1 h2
    simp only [Value.ownBlock, Option.some.injEq] at h1 h2
    exact hne (by rw [h1, h2])

set_option maxRecDepth 100000 in
set_option maxHeartbeats 4000000 in
theorem law3 (a0 a1 : Option Addr) (n c0 m c1 : Nat) (C T K : Nat → ByteArray) (w : World) (Z0 : NilZ a0 n) (Z1 : NilZ a1 m)
    (hCz : Hid (∀ p, p < n → (C p).size ≤ maxLen)) (hKz : Hid (∀ p, p < m → (K p).size ≤ maxLen)) (hC : Hid (ColS w a0 n C T)) (hK : Hid (StrS w a1 m K)) :
    Calls Try.prog 3 #[.slice a0 n c0, .slice a1 m c1] w fun e w' => e = .returned (.bool true) ∧ Below w.heap.size w w' := by
  obtain ⟨i0, hi, hz0, hz1, hz2⟩ := info_parts Try.info3
  have q28 := eql28
  go_enter Try.func3, Try.ntmps3
  go_wp2_with fail
  refine (bytes4_any a0 a1 n c0 m c1 C T K w hC hK).mono ?_
  rintro e' w1 ⟨b, rfl, hs1⟩
  have HS1 : Hid (Same w w1) := hs1
  clear hs1
  cases b with
  | false =>
    go_wp2_with fail
    go_ret
    exact ⟨rfl, HS1.out.below _⟩
  | true =>
  have HC1 : Hid (ColS w1 a0 n C T) := HS1.out.cols hC.out
  have HK1 : Hid (StrS w1 a1 m K) := HS1.out.strs hK.out
  go_wp2_with fail
  refine (fits_any a0 a1 n c0 m c1 C T K w1 HC1 HK1).mono ?_
  rintro e' w2 ⟨b, rfl, hs2, hfit⟩
  have HS2 : Hid (Same w w2) := HS1.out.trans hs2
  clear hs2 HC1 HK1
  cases b with
  | false =>
    go_wp2_with fail
    go_ret
    exact ⟨rfl, HS2.out.below _⟩
  | true =>
  obtain ⟨hn, hm⟩ := hfit rfl
  have HC2 : Hid (ColS w2 a0 n C T) := HS2.out.cols hC.out
  have HK2 : Hid (StrS w2 a1 m K) := HS2.out.strs hK.out
  clear HS1 hfit hC hK
  go_wp2_with fail
  refine (copyNames_any a1 m c1 K w2 hm Z1 HK2).mono ?_
  rintro e' w3 ⟨a1', c1', rfl, Z1', hiso, hK3, hb3⟩
  have HK3 : Hid (StrS w3 a1' m K) := hK3
  have HB3 : Hid (Below w2.heap.size w2 w3) := hb3
  have HC3 : Hid (ColS w3 a0 n C T) := HC2.out.later hb3
  clear hK3 hb3 HC2 HK2
  obtain ⟨e, ne, hne, hnil, hsome, hez⟩ : ∃ (e : Nat → ByteArray) (ne : Nat), ne ≤ 4096 ∧ Hid (a1' = none → e = C ∧ ne = n) ∧ Hid (∀ x, a1' = some x → e = K ∧ ne = m) ∧ Hid (∀ p, p < ne → (e p).size ≤ maxLen) := by
    cases a1' with
    | none => exact ⟨C, n, hn, fun _ => ⟨rfl, rfl⟩, fun x h => (by cases h), hCz⟩
    | some x => exact ⟨K, m, hm, fun h => (by cases h), fun x h => ⟨rfl, rfl⟩, hKz⟩
  clear hiso hCz hKz Z1
  go_wp2_with fail
  refine (columns_any a0 n c0 C T w3 hn Z0 HC3).mono ?_
  rintro e' w4 ⟨aC, cC, rfl, hC4, hb4⟩
  have HC4 : Hid (ColS w4 aC n C T) := hC4
  have HK4 : Hid (StrS w4 a1' m K) := HK3.out.later hb4
  have HC04 : Hid (ColS w4 a0 n C T) := HC3.out.later hb4
  have HB4 : Hid (Below w2.heap.size w2 w4) := HB3.out.trans (hb4.mono HB3.out.size)
  clear hC4 hb4 HC3 HK3 HB3
  go_wp2_with fail
  refine (ztagged_any aC a1' n cC m c1' C T K e ne w4 hn hne hnil hsome hez HC4 HK4).mono ?_
  intro e' wB hpost
  obtain ⟨aG, cG, rfl, hI, hiso, hbB⟩ := got_shape hpost
  have HI : Hid (IntS wB aG (TG e ne C n).length (fun j => (at_ (TG e ne C n) j : Int))) := hI
  have HKB : Hid (StrS wB a1' m K) := HK4.out.later hbB
  have HCB : Hid (ColS wB a0 n C T) := HC04.out.later hbB
  have HBB : Hid (Below w2.heap.size w2 wB) := HB4.out.trans (hbB.mono HB4.out.size)
  have HiG : Hid (aG.isNone = (((TG e ne C n).length : Int) == 0)) := hiso
  have hlT := TG_len e ne C n
  clear hpost hI hbB HC4 HK4 HC04 HB4 hiso hez
  have H0 : Hid (Two wB wB.heap.size (.slice none 0 0) (.slice none 0 0) (G e ne C n 0) (fun p => fc C (e p) n)) := (Two.nil _ _ _).congr (G_zero _ _ _ _)
  go_wp2_with fail
  go_loopw [7, 8, 9] (fun x y z wr => ∃ (c : Nat), z = .int .i64 c ∧ c ≤ n ∧ Hid (Two wr wB.heap.size x y (G e ne C n c) (fun p => fc C (e p) n)) ∧ Hid (Below wB.heap.size wB wr)) (fun _ _ z _ => n - (intOf z).toNat)
  case atStart => exact ⟨0, rfl, Nat.zero_le _, H0, Below.refl _ _⟩
  case round =>
    obtain ⟨c, rfl, hcn, HT, HB⟩ := hrel
    obtain ⟨vI, rfl⟩ : ∃ vI, vI = u7 := ⟨_, rfl⟩
    obtain ⟨vK, rfl⟩ : ∃ vK, vK = u8 := ⟨_, rfl⟩
    clear H0
    by_cases hlt : c < n
    · have hltI : (c : Int) < (n : Int) := by omega
      have HCr : Hid (ColS wr a0 n C T) := HCB.out.later HB.out
      have HKr : Hid (StrS wr a1' m K) := HKB.out.later HB.out
      obtain ⟨b, off, rfl, d0, _⟩ := HCr.out c hlt
      cases hnm : nmB (C c)
      · have hnm' : ((C c).toList == [110, 97, 109, 101]) = false := hnm
        have HNM : Hid (nmB (C c) = false) := hnm
        clear hnm
        go_wp2_with fail
        go_loop [11, 12] (fun x z => ∃ (d : Nat), x = .bool true ∧ z = .int .i64 d ∧ d ≤ c ∧ Hid (∀ j, j < d → C j ≠ C c)) (fun _ z => c - (intOf z).toNat)
        case atStart => exact ⟨0, rfl, rfl, Nat.zero_le _, fun j hj => by omega⟩
        case round =>
          obtain ⟨d, rfl, rfl, hdc, HD⟩ := hrel
          by_cases hd : d < c
          · have hdI : (d : Int) < (c : Int) := by omega
            have hdn : (d : Int) < (n : Int) := by omega
            obtain ⟨b', off', e1, d2, _⟩ := HCr.out d (by omega)
            simp only [Option.some.injEq, Addr.mk.injEq, and_true] at e1
            obtain ⟨rfl, rfl⟩ := e1
            by_cases he : C d = C c
            · have he' : ((C d).toList == (C c).toList) = true := by rw [strEq, he]; simp
              have E1 : Hid (Two wr wB.heap.size vI vK (G e ne C n (c + 1)) (fun p => fc C (e p) n)) := HT.out.congr (G_col_skip hlt (.inr (.inl ⟨d, hd, he⟩)))
              clear he
              go_wp2_with fail
              go_roundw
              case rel => exact ⟨c + 1, by go_num, by omega, E1, HB⟩
              case measure => simp [intOf]; omega
            · have he' : ((C d).toList == (C c).toList) = false := by rw [strEq]; simpa using he
              have fin : Hid (∀ j, j < d + 1 → C j ≠ C c) := fun j hj => by
                by_cases e' : j = d
                · subst e'; exact he
                · exact HD.out j (by omega)
              clear he
              go_wp2_with fail
              go_round
              case rel => exact ⟨d + 1, rfl, by go_num, by omega, fin⟩
              case measure => simp [intOf]; omega
          · have hdI : ¬ (d : Int) < (c : Int) := by omega
            obtain rfl : d = c := by omega
            go_wp2_with fail
            refine (fp_any (some ⟨b, off, none⟩) a1' n c0 m c1' C T K e ne (C d) wr hn hne hnil hsome HCr HKr).mono ?_
            rintro e' w5 ⟨rfl, rfl⟩
            by_cases hp : fc e (C d) ne < ne
            · obtain ⟨p, hpe⟩ : ∃ p, p = fc e (C d) ne := ⟨_, rfl⟩
              have efp : fpI e (C d) ne = (p : Int) := by rw [hpe]; unfold fpI; rw [if_pos hp]
              obtain ⟨_, s2, s3⟩ := fc_spec e (C d) ne
              have htake := G_col_take (e := e) (q := ne) hlt HNM.out HD.out (p := p) (hpe ▸ hp) (hpe ▸ s3 hp) (fun p' h => s2 p' (hpe ▸ h))
              have HTK : Hid _ := htake
              have hpn : p < ne := hpe ▸ hp
              have hp0 : ¬ (p : Int) < 0 := by omega
              rw [efp]
              clear htake s2 s3 hpe hp efp
              have hlen := G_len e ne C n d
              generalize hgl : G e ne C n d = gl at *
              generalize hff : (fun p => fc C (e p) n) = f at *
              have hfp : Hid (f p = d) := by show _ = _; rw [← hff]; exact HTK.out.1
              have HOI := HT.out.i
              have HOK : Hid (wr.ownsRow wB.heap.size 3 1 vK gl.length (nCells gl)) := HT.out.k
              have HDs : Hid (Dis vI vK) := HT.out.d
              have hszr : wB.heap.size ≤ wr.heap.size := HB.out.size
              go_wp2_with (at_builtin; refine wpList_append_own_at _ rfl (.tmp 65) (.tmp 67) 28 rfl wB.heap.size 3 i0 (.int .i64 0) 1 8 Try.underlying28 hi hz0 hz1 hz2 rfl (by decide) vI gl.length (nCells (gl.map f)) rfl (HOI.alloc _) ⟨wr.heap.size, 0, none⟩ 1 1 [.int .i64 (d : Int)] rfl rfl (cell_one_new _ _ _) (ints_oneCell _ [(d : Int)]) (by unfold maxLen; omega) (by omega) (by simp; omega) ?_)
              intro v1 w6 hown6 hgrow6 hnil6 hat6
              obtain ⟨hK6, hD6⟩ := other_kept HOK.out HDs.out _ rfl hgrow6 hat6
              have HO6 : Hid (w6.ownsRow wB.heap.size 3 1 v1 (gl.length + 1) (nCells (gl.map f ++ [d]))) := by show World.ownsRow _ _ _ _ _ _ _; rw [nCells_snoc]; exact hown6
              have HK6 : Hid (w6.ownsRow wB.heap.size 3 1 vK gl.length (nCells gl)) := hK6
              have HD6 : Hid (Dis vK v1) := hD6.symm
              have HB6 : Hid (Below wB.heap.size wB w6) := (HB.out.alloc hszr _).grown hgrow6 (by simp; omega) (fun k h => own_ge HOI k h)
              have hsz6 : wB.heap.size ≤ w6.heap.size := HB6.out.size
              clear hown6 hgrow6 hnil6 hat6 hK6 hD6 HOI HOK HDs
              go_wp2_with (at_builtin; refine wpList_append_own_at _ rfl (.tmp 69) (.tmp 71) 28 rfl wB.heap.size 3 i0 (.int .i64 0) 1 8 Try.underlying28 hi hz0 hz1 hz2 rfl (by decide) vK gl.length (nCells gl) rfl (HK6.out.alloc _) ⟨w6.heap.size, 0, none⟩ 1 1 [.int .i64 (p : Int)] rfl rfl (cell_one_new _ _ _) (ints_oneCell _ [(p : Int)]) (by unfold maxLen; omega) (by omega) (by simp; omega) ?_)
              intro v2 w7 hown7 hgrow7 hnil7 hat7
              obtain ⟨hI7, hD7⟩ := other_kept HO6.out HD6.out _ rfl hgrow7 hat7
              have hK7 : w7.ownsRow wB.heap.size 3 1 v2 (gl.length + 1) (nCells (gl ++ [p])) := by rw [nCells_snoc]; exact hown7
              have HB7 : Hid (Below wB.heap.size wB w7) := (HB6.out.alloc hsz6 _).grown hgrow7 (by simp; omega) (fun k h => own_ge HK6.out k h)
              obtain ⟨gi, ci, rfl, _⟩ := owns_shape hI7 (Nat.succ_pos _)
              obtain ⟨gk, ck, rfl, _⟩ := owns_shape hK7 (Nat.succ_pos _)
              have hgne : gk ≠ gi := fun h => hD7 gk rfl (by rw [h]; rfl)
              have hgne' : gi ≠ gk := fun h => hgne h.symm
              obtain ⟨fI0, rI, nI, mI, bI, vI0⟩ := owns_row hI7
              obtain ⟨fK0, rK, nK, mK, bK, vK0⟩ := owns_row hK7
              have HRI : Hid (w7.rowIs gi 3 ci fI0) := rI
              have HRK : Hid (w7.rowIs gk 3 ck fK0) := rK
              have HVI : Hid (∀ j, j < gl.length + 1 → fI0 j = .int .i64 (at_ (insL (gl.map f) d gl.length) j : Int)) := by
                intro j hj
                rw [vI0 j hj]
                have := insL_end (gl.map f) d
                rw [List.length_map] at this
                rw [this]
              have HVK : Hid (∀ j, j < gl.length + 1 → fK0 j = .int .i64 (at_ (insL gl p gl.length) j : Int)) := by
                intro j hj
                rw [vK0 j hj, insL_end]
              clear hown7 hgrow7 hnil7 hat7 hI7 hK7 hD7 rI rK vI0 vK0 HO6 HK6 HD6 HB6 HKr HCr HT HD HNM
              go_wp2_with fail
              go_loopw [14] (fun x wx => ∃ (t : Nat) (fI fK : Nat → Value), x = .int .i64 t ∧ t ≤ gl.length ∧ Hid (wx.rowIs gi 3 ci fI) ∧ Hid (wx.rowIs gk 3 ck fK) ∧ Hid (∀ j, j < gl.length + 1 → fI j = .int .i64 (at_ (insL (gl.map f) d t) j : Int)) ∧ Hid (∀ j, j < gl.length + 1 → fK j = .int .i64 (at_ (insL gl p t) j : Int)) ∧ Hid (∀ x, x ∈ gl.drop t → p < x) ∧ Hid (Below wB.heap.size wB wx)) (fun x _ => (intOf x).toNat)
              case atStart => exact ⟨gl.length, fI0, fK0, by go_num, Nat.le_refl _, HRI, HRK, HVI, HVK, fun x hx => by simp at hx, HB7⟩
              case round =>
                clear HRI HRK HVI HVK HB7
                obtain ⟨t, fI, fK, rfl, htl, HRI, HRK, HVI, HVK, HDr, HBx⟩ := hrel
                have hmem : Hid (∀ x, x ∈ G e ne C n (d + 1) ↔ x = p ∨ x ∈ gl) := HTK.out.2.1
                have hnin : Hid (p ∉ gl) := HTK.out.2.2
                have hsg : Hid (gl.Pairwise (· < ·)) := by show List.Pairwise _ _; rw [← hgl]; exact G_sorted _ _ _ _ _
                have close : Hid (∀ w', Same wr w' → (0 < t → at_ gl (t - 1) < p) → Two w' wB.heap.size (.slice (some ⟨gi, 0, none⟩) (gl.length + 1) ci) (.slice (some ⟨gk, 0, none⟩) (gl.length + 1) ck) (G e ne C n (d + 1)) f) := fun w' hS hlo =>
                  Two.close hS HRI.out HRK.out HVI.out HVK.out hgne htl nI mI bI nK mK bK hfp.out hsg.out (G_sorted _ _ _ _ _) hmem.out hlo HDr.out
                by_cases ht0 : t = 0
                · subst ht0
                  go_wp2_with fail
                  go_quiet (fail)
                  go_wp2_with fail
                  go_roundw
                  case rel => exact ⟨d + 1, by go_num, by omega, by rw [hff]; exact close.out _ ((Same.refl _).drewN _) (fun h => by omega), ((Same.refl _).drewN _ |>.below _ |> HBx.out.trans)⟩
                  case measure => simp [intOf]; omega
                · obtain ⟨s, rfl⟩ : ∃ s, t = s + 1 := ⟨t - 1, by omega⟩
                  have hsl : s < gl.length := by omega
                  have hgt : (0 : Int) < ((s + 1 : Nat) : Int) := by omega
                  have k0 := HRK.out.cell (i := s) (by omega)
                  have k1 := HRK.out.cell (i := s + 1) (by omega)
                  rw [HVK.out s (by omega), ins_fst hsl] at k0
                  rw [HVK.out (s + 1) (by omega), ins_snd hsl] at k1
                  clear ht0
                  by_cases hgtp : p < at_ gl s
                  · have hgtI : (p : Int) < (at_ gl s : Int) := by omega
                    have j0 := HRI.out.cell (i := s) (by omega)
                    have j1 := HRI.out.cell (i := s + 1) (by omega)
                    rw [HVI.out s (by omega), ins_fst (by simpa using hsl)] at j0
                    rw [HVI.out (s + 1) (by omega), ins_snd (by simpa using hsl)] at j1
                    have zk0 := HRK.out.frozen s
                    have zk1 := HRK.out.frozen (s + 1)
                    have zj0 := HRI.out.frozen s
                    have zj1 := HRI.out.frozen (s + 1)
                    have HDr' : Hid (∀ x, x ∈ gl.drop s → p < x) := drop_gt hsl hgtp HDr.out
                    clear hgtp close
                    go_wp2_with fail
                    go_quiet (fail)
                    go_wp2_with fail
                    go_roundw
                    case rel =>
                      refine ⟨s, _, _, by go_num, by omega,
                        ((((HRI.out.of_block (w' := wr.drewN _) rfl).setOther hgne' _).setOther hgne' _).set s (.int .i64 (d : Int))).set (s + 1) (.int .i64 (at_ (gl.map f) s : Int)),
                        ((((HRK.out.of_block (w' := wr.drewN _) rfl).set s (.int .i64 (p : Int))).set (s + 1) (.int .i64 (at_ gl s : Int))).setOther hgne _).setOther hgne _,
                        swap_row (by simp) hsl HVI.out, swap_row rfl hsl HVK.out, HDr', ?_⟩
                      exact (((((HBx.out.trans ((Same.refl _).drewN _ |>.below _)).setCell bK _).setCell bK _).setCell bI _).setCell bI _)
                    case measure => simp [intOf]
                  · have hgtI : decide ((p : Int) < (at_ gl s : Int)) = false := by simp; omega
                    have hlo : Hid (at_ gl s < p) := by
                      show _ < _
                      have : at_ gl s ≠ p := fun h => hnin.out (h ▸ at_mem hsl)
                      omega
                    have hgtN : ¬ ((p : Int) < (at_ gl s : Int)) := by omega
                    clear hgtp
                    go_wp2_with fail
                    go_quiet (fail)
                    go_wp2_with fail
                    go_roundw
                    case rel => exact ⟨d + 1, by go_num, by omega, by rw [hff]; exact close.out _ ((Same.refl _).drewN _) (fun h => hlo.out), ((Same.refl _).drewN _ |>.below _ |> HBx.out.trans)⟩
                    case measure => simp [intOf]; omega
            · have efp : fpI e (C d) ne = -1 := by unfold fpI; rw [if_neg hp]
              have E1 : Hid (Two wr wB.heap.size vI vK (G e ne C n (d + 1)) (fun p => fc C (e p) n)) := HT.out.congr (G_col_skip hlt (.inr (.inr fun p hpn => (fc_spec e (C d) ne).2.1 p (by omega))))
              rw [efp]
              clear efp hp
              go_wp2_with fail
              go_roundw
              case rel => exact ⟨d + 1, by go_num, by omega, E1, HB⟩
              case measure => simp [intOf]; omega
      · have hnm' : ((C c).toList == [110, 97, 109, 101]) = true := hnm
        have E1 : Hid (Two wr wB.heap.size vI vK (G e ne C n (c + 1)) (fun p => fc C (e p) n)) := HT.out.congr (G_col_skip hlt (.inl hnm))
        clear hnm
        go_wp2_with fail
        go_roundw
        case rel => exact ⟨c + 1, by go_num, by omega, E1, HB⟩
        case measure => simp [intOf]; omega
    · have hltI : ¬ (c : Int) < (n : Int) := by omega
      obtain rfl : c = n := by omega
      obtain ⟨aI, cI, rfl, hI2⟩ := own_slice HT.out.i
      have HI2 : Hid _ := hI2
      have HIr : Hid (IntS wr aG (TG e ne C c).length (fun j => (at_ (TG e ne C c) j : Int))) := HI.out.later HB.out
      have HF : Hid (Below w.heap.size w wr) := by
        have h2 := HS2.out.below w.heap.size
        have h3 : Below w.heap.size w2 wB := HS2.out.size ▸ HBB.out
        have h4 := h2.trans h3
        exact h4.trans (HB.out.mono h4.size)
      have HE : Hid ((TG e ne C c).length = (G e ne C c c).length) := by show _ = _; simp [TG]
      have HN := HiG.out
      clear hI2 HB HBB HCB HKB HI HT hnil hsome
      revert HIr HE
      generalize hM : (fun j => (at_ (TG e ne C c) j : Int)) = M
      revert HN
      generalize (TG e ne C c).length = tl at *
      intro HN HIr HE
      cases aG with
      | none =>
        obtain rfl : tl = 0 := by simpa using HN.symm
        clear HN
        go_wp2_with fail
        refine (sameInts_any none aI 0 cG _ cI _ _ wr (by omega) HIr HI2).mono ?_
        rintro e' w5 ⟨b, rfl, hb, hs⟩
        obtain rfl : b = true := hb.2 ⟨HE.out, fun j hj => by omega⟩
        have HF5 : Hid (Below w.heap.size w w5) := HF.out.trans (hs.below _)
        clear hb hs
        go_wp2_with fail
        go_ret
        exact ⟨rfl, HF5.out⟩
      | some x =>
        have HN' : ((tl : Int) == 0) = false := HN.symm
        clear HN
        go_wp2_with fail
        refine (sameInts_any (some x) aI tl cG _ cI _ _ wr (by omega) HIr HI2).mono ?_
        rintro e' w5 ⟨b, rfl, hb, hs⟩
        obtain rfl : b = true := hb.2 ⟨HE.out, fun j hj => by rw [← hM]; rfl⟩
        have HF5 : Hid (Below w.heap.size w w5) := HF.out.trans (hs.below _)
        clear hb hs
        go_wp2_with fail
        go_ret
        exact ⟨rfl, HF5.out⟩
end Go.Proofs.Qxb6604266a
