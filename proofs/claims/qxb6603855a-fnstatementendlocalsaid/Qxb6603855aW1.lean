import Derived.Test.Qxb6603855aProg
import Derived.Test.Qxb6603855aPlain
import Derived.WalkKit
import Derived.WalkSpells
import Derived.WalkLawsBesides
import Derived.Deep.DeepCutAuto
import Derived.Deep.LoopGhost
namespace Go.Proofs.Qxb6603855a
open Go.RowKit

/-- THE TOKENS LIE IN MEMORY: a row of structs of three cells. -/
def TokS (w : World) (a : Option Addr) (n : Nat) (K T : Nat → ByteArray) : Prop :=
  ∀ j, j < n → ∃ b off, a = some ⟨b, off, none⟩ ∧ w.cell? ⟨b, off + j * 3, none⟩ = some (.string (K j)) ∧ w.cell? ⟨b, off + j * 3 + 1, none⟩ = some (.string (T j))

theorem wd_yes {n : Nat} {K T : Nat → ByteArray} {i : Nat} (hi : i < n) (h : ((K i).toList == [119, 111, 114, 100]) = true) : wd n K T i = T i := by
  unfold wd; rw [if_pos ⟨hi, h⟩]
theorem wd_no {n : Nat} {K T : Nat → ByteArray} {i : Nat} (h : ((K i).toList == [119, 111, 114, 100]) = false) : wd n K T i = ⟨#[]⟩ := by
  unfold wd; rw [if_neg (by rw [h]; simp)]
theorem wd_out {n : Nat} {K T : Nat → ByteArray} {i : Nat} (hi : n ≤ i) : wd n K T i = ⟨#[]⟩ := by
  unfold wd; rw [if_neg (by omega)]

set_option maxHeartbeats 400000 in
theorem wordAt_any (a : Option Addr) (n c : Nat) (K T : Nat → ByteArray) (i : Int) (w : World) (_hn : n ≤ 65536) (h0 : 0 ≤ i) (h1 : i ≤ 2147483648) (hT : Hid (TokS w a n K T)) :
    Calls Try.prog 12 #[.slice a n c, .int .i64 i] w fun e w' => e = .returned (.string (wd n K T i.toNat)) ∧ w = w' := by
  obtain ⟨i, rfl⟩ := Int.eq_ofNat_of_zero_le h0
  rw [Int.toNat_natCast]
  by_cases hi : i < n
  · obtain ⟨b, off, rfl, c0, c1⟩ := hT.out i hi
    have hd : decide ((n : Int) ≤ (i : Int)) = false := by simp; omega
    cases hk : ((K i).toList == [119, 111, 114, 100])
    · rw [wd_no hk]
      go_enter Try.func12, Try.ntmps12
      go_wp2
      go_ret
      exact ⟨rfl, rfl⟩
    · rw [wd_yes hi hk]
      go_enter Try.func12, Try.ntmps12
      go_wp2
      go_ret
      exact ⟨rfl, rfl⟩
  · have hd : (n : Int) ≤ (i : Int) := by omega
    rw [wd_out (by omega)]
    go_enter Try.func12, Try.ntmps12
    go_wp2
    go_ret
    exact ⟨rfl, rfl⟩

theorem isB {s : ByteArray} {l : List UInt8} {b : Bool} (h : is s l = b) : (s.toList == l) = b := h
def orB (n : Nat) (K T : Nat → ByteArray) (i : Nat) : Bool := is (wd n K T (i + 1)) [111, 114] && is (wd n K T (i + 2)) [114, 101, 112, 108, 97, 99, 101]

set_option maxRecDepth 100000 in
set_option maxHeartbeats 1000000 in
theorem stEnd_step (a : Option Addr) (n c : Nat) (K T : Nat → ByteArray) (i : Nat) (w : World) (hn : n ≤ 65536) (hi : i ≤ 1073741824) (hT : Hid (TokS w a n K T))
    (ih : Hid (∀ j : Nat, i < j → j < n → Calls Try.prog 10 #[.slice a n c, .int .i64 j] w fun e w' => e = .returned (.int .i64 (se n K T j)) ∧ w = w')) :
    Calls Try.prog 10 #[.slice a n c, .int .i64 i] w fun e w' => e = .returned (.int .i64 (se n K T i)) ∧ w = w' := by
  have hC : Hid (∀ j : Int, 0 ≤ j → j ≤ 2147483648 → Calls Try.prog 12 #[.slice a n c, .int .i64 j] w fun e w' => e = .returned (.string (wd n K T j.toNat)) ∧ w = w') :=
    fun j h0 h1 => wordAt_any a n c K T j w hn h0 h1 hT
  have cat : ∀ (j : Nat) (z : Int), z = (j : Int) → j ≤ 2147483648 → Calls Try.prog 12 #[.slice a n c, .int .i64 z] w fun e w' => e = .returned (.string (wd n K T j)) ∧ w = w' := by
    intro j z hz hj; subst hz
    have := hC.out (j : Int) (by omega) (by omega)
    rwa [Int.toNat_natCast] at this
  have HC : Hid (∀ (j : Nat) (z : Int), z = (j : Int) → j ≤ 2147483648 → Calls Try.prog 12 #[.slice a n c, .int .i64 z] w fun e w' => e = .returned (.string (wd n K T j)) ∧ w = w') := cat
  clear cat hC
  go_enter Try.func10, Try.ntmps10
  go_upto_region 2 with fail
  go_cut [20] from 8 (fun t wc => t = .bool (orB n K T i) ∧ w = wc)
  case first =>
    cases h1 : is (wd n K T (i + 1)) [111, 114]
    · have h1' := isB h1
      have ho : Hid (orB n K T i = false) := by show _ = _; simp [orB, h1]
      clear h1
      go_wp2_with fail
      refine (HC.out (i + 1) _ (by omega) (by omega)).mono ?_
      rintro e w' ⟨rfl, rfl⟩
      go_wp2_with fail
      go_meet
      case rel => exact ⟨by rw [ho.out], rfl⟩
    · have h1' := isB h1
      cases h2 : is (wd n K T (i + 2)) [114, 101, 112, 108, 97, 99, 101]
      all_goals
        have h2' := isB h2
        have ho : Hid (orB n K T i = is (wd n K T (i + 2)) [114, 101, 112, 108, 97, 99, 101]) := by show _ = _; simp [orB, h1]
        rw [h2] at ho
        clear h1 h2
        go_wp2_with fail
        refine (HC.out (i + 1) _ (by omega) (by omega)).mono ?_
        rintro e w' ⟨rfl, rfl⟩
        go_wp2_with fail
        refine (HC.out (i + 2) _ (by omega) (by omega)).mono ?_
        rintro e w' ⟨rfl, rfl⟩
        go_wp2_with fail
        go_meet
        case rel => exact ⟨by rw [ho.out], rfl⟩
  case rest =>
    obtain ⟨rfl, rfl⟩ := hcut
    go_upto_if 20 with fail
    go_cut [5] from 8 (fun t wc => t = .int .i64 (objAt n K T i) ∧ w = wc)
    case first =>
      cases ho : orB n K T i
      all_goals
        have hO : Hid (objAt n K T i = if orB n K T i = true then i + 3 else i + 1) := by show _ = _; unfold objAt orB; simp
        rw [ho] at hO
        simp only [if_true, Bool.false_eq_true, if_false] at hO
        go_wp2_with fail
        go_meet
        case rel => exact ⟨by rw [hO.out]; go_num, rfl⟩
    case rest =>
    obtain ⟨rfl, rfl⟩ := hcut
    go_upto_region 4 with fail
    obtain ⟨ob, hob⟩ : ∃ ob, objAt n K T i = ob := ⟨_, rfl⟩
    have hobb : ob ≤ i + 3 := by rw [← hob]; unfold objAt; split <;> omega
    rw [hob]
    have HO : Hid (objAt n K T i = ob) := hob
    clear hob
    go_cut [6] from 8 (fun t wc => t = .bool (routine n K T i) ∧ w = wc)
    case first =>
      have hr : Hid (routine n K T i = (is (wd n K T i) [99, 114, 101, 97, 116, 101] && (is (wd n K T ob) [102, 117, 110, 99, 116, 105, 111, 110] || is (wd n K T ob) [112, 114, 111, 99, 101, 100, 117, 114, 101]))) := by
        show _ = _; unfold routine; rw [HO.out]
      cases h1 : is (wd n K T i) [99, 114, 101, 97, 116, 101]
      · have h1' := isB h1
        rw [h1] at hr
        clear h1
        go_wp2_with fail
        refine (HC.out i _ (by omega) (by omega)).mono ?_
        rintro e w' ⟨rfl, rfl⟩
        go_wp2_with fail
        go_meet
        case rel => exact ⟨by rw [hr.out]; rfl, rfl⟩
      · have h1' := isB h1
        rw [h1] at hr
        clear h1
        cases h2 : is (wd n K T ob) [102, 117, 110, 99, 116, 105, 111, 110]
        · have h2' := isB h2
          rw [h2] at hr
          clear h2
          cases h3 : is (wd n K T ob) [112, 114, 111, 99, 101, 100, 117, 114, 101]
          all_goals
            have h3' := isB h3
            rw [h3] at hr
            clear h3
            go_wp2_with fail
            refine (HC.out i _ (by omega) (by omega)).mono ?_
            rintro e w' ⟨rfl, rfl⟩
            go_wp2_with fail
            refine (HC.out ob _ (by omega) (by omega)).mono ?_
            rintro e w' ⟨rfl, rfl⟩
            go_wp2_with fail
            refine (HC.out ob _ (by omega) (by omega)).mono ?_
            rintro e w' ⟨rfl, rfl⟩
            go_wp2_with fail
            go_meet
            case rel => exact ⟨by rw [hr.out]; rfl, rfl⟩
        · have h2' := isB h2
          rw [h2] at hr
          clear h2
          go_wp2_with fail
          refine (HC.out i _ (by omega) (by omega)).mono ?_
          rintro e w' ⟨rfl, rfl⟩
          go_wp2_with fail
          refine (HC.out ob _ (by omega) (by omega)).mono ?_
          rintro e w' ⟨rfl, rfl⟩
          go_wp2_with fail
          go_meet
          case rel => exact ⟨by rw [hr.out]; rfl, rfl⟩
    case rest =>
    obtain ⟨rfl, rfl⟩ := hcut
    obtain ⟨rt, hrt⟩ : ∃ rt, routine n K T i = rt := ⟨_, rfl⟩
    have HS : Hid (se n K T i = G n K T (some (rt, 0)) i) := by show _ = _; rw [← hrt]; rfl
    rw [hrt]
    clear hrt
    go_wp2_with fail
    go_loop [1, 7] (fun x y => ∃ (k : Nat) (p : Int), x = .int .i64 k ∧ y = .int .i64 p ∧ i ≤ k ∧ (k ≤ i ∨ k ≤ n + 2) ∧ -(k : Int) ≤ p ∧ p ≤ k ∧ Hid (se n K T i = G n K T (some (rt, p)) k)) (fun x _ => n - (intOf x).toNat)
    case atStart => exact ⟨i, 0, rfl, rfl, by omega, by omega, by omega, by omega, HS⟩
    case round =>
      obtain ⟨k, p, rfl, rfl, hik, hkn, hp1, hp2, HG⟩ := hrel
      by_cases hk : k < n
      · obtain ⟨b, off, rfl, hc0, hc1⟩ := hT.out k hk
        clear hc0
        have hkI : (k : Int) < (n : Int) := by omega
        cases h1 : is (T k) [40]
        · have h1' := isB h1
          cases h2 : is (T k) [41]
          · have h2' := isB h2
            cases h3 : is (T k) [59]
            · have h3' := isB h3
              by_cases h4 : is (T k) [98, 101, 103, 105, 110] = true ∧ rt = true ∧ p = 0 ∧ is (wd n K T (k + 1)) [97, 116, 111, 109, 105, 99] = true
              · obtain ⟨h4, rfl, rfl, h5⟩ := h4
                have h4' := isB h4
                have h5' := isB h5
                have HG1 : Hid (se n K T i = G n K T (some (true, 0)) (G n K T none (k + 2) + 1)) := by show _ = _; rw [HG.out]; exact G_begin hk h4 h5
                clear h1 h2 h3 h4 h5 HG
                go_wp2_with fail
                refine (HC.out (k + 1) _ (by omega) (by omega)).mono ?_
                rintro e w' ⟨rfl, rfl⟩
                go_wp2_with fail
                go_loop [1] (fun x => ∃ (j : Nat), x = .int .i64 j ∧ k + 2 ≤ j ∧ j ≤ n + 1 ∧ Hid (G n K T none (k + 2) = G n K T none j)) (fun x => n - (intOf x).toNat)
                case atStart => exact ⟨k + 2, by go_num, by omega, by omega, rfl⟩
                case round =>
                  obtain ⟨j, rfl, hj1, hj2, HJ⟩ := hrel
                  by_cases hj : j < n
                  · have hjI : (j : Int) < (n : Int) := by omega
                    cases h6 : is (wd n K T j) [101, 110, 100]
                    · have h6' := isB h6
                      have HJ1 : Hid (G n K T none (k + 2) = G n K T none (se n K T j + 1)) := by show _ = _; rw [HJ.out]; exact G_body hj h6
                      have hsl := se_le n K T j
                      have hsj : j ≤ se n K T j := by
                        rcases Nat.lt_or_ge (se n K T j) n with h | h
                        · exact (se_lands n K T j h).1
                        · omega
                      clear h6 HJ
                      go_wp2_with fail
                      refine (HC.out j _ (by omega) (by omega)).mono ?_
                      rintro e w' ⟨rfl, rfl⟩
                      go_wp2_with fail
                      refine (ih.out j (by omega) hj).mono ?_
                      rintro e w' ⟨rfl, rfl⟩
                      generalize se n K T j = sj at *
                      go_wp2_with fail
                      go_round
                      case rel => exact ⟨sj + 1, by go_num, by omega, by omega, HJ1⟩
                      case measure => simp [intOf]; omega
                    · have h6' := isB h6
                      have HG2 : Hid (se n K T i = G n K T (some (true, 0)) (j + 1)) := by show _ = _; rw [HG1.out, HJ.out, G_body_end h6]
                      clear h6 HJ HG1
                      go_wp2_with fail
                      refine (HC.out j _ (by omega) (by omega)).mono ?_
                      rintro e w' ⟨rfl, rfl⟩
                      go_wp2_with fail
                      go_round
                      case rel => exact ⟨j + 1, 0, by go_num, rfl, by omega, by omega, by omega, by omega, HG2⟩
                      case measure => simp [intOf]; omega
                  · have hjI : decide ((j : Int) < (n : Int)) = false := by simp; omega
                    have HG2 : Hid (se n K T i = G n K T (some (true, 0)) (j + 1)) := by show _ = _; rw [HG1.out, HJ.out, G_body_out (by omega)]
                    clear HJ HG1
                    go_wp2_with fail
                    go_round
                    case rel => exact ⟨j + 1, 0, by go_num, rfl, by omega, by omega, by omega, by omega, HG2⟩
                    case measure => simp [intOf]; omega
              · have HG1 : Hid (se n K T i = G n K T (some (rt, p)) (k + 1)) := by
                  show _ = _
                  rw [HG.out]
                  refine G_other hk h1 h2 h3 ?_
                  rcases Bool.eq_false_or_eq_true (is (T k) [98, 101, 103, 105, 110]) with a1 | a1
                  · rcases Bool.eq_false_or_eq_true rt with a2 | a2
                    · by_cases a3 : p = 0
                      · rcases Bool.eq_false_or_eq_true (is (wd n K T (k + 1)) [97, 116, 111, 109, 105, 99]) with a4 | a4
                        · exact absurd ⟨a1, a2, a3, a4⟩ h4
                        · exact .inr (.inr (.inr a4))
                      · exact .inr (.inr (.inl a3))
                    · exact .inr (.inl a2)
                  · exact .inl a1
                cases h5 : is (T k) [98, 101, 103, 105, 110]
                · have h5' := isB h5
                  clear h1 h2 h3 h4 h5 HG
                  go_wp2_with fail
                  go_round
                  case rel => exact ⟨k + 1, p, by go_num, rfl, by omega, by omega, by omega, by omega, HG1⟩
                  case measure => simp [intOf]; omega
                · have h5' := isB h5
                  cases rt
                  · clear h1 h2 h3 h4 h5 HG
                    go_wp2_with fail
                    go_round
                    case rel => exact ⟨k + 1, p, by go_num, rfl, by omega, by omega, by omega, by omega, HG1⟩
                    case measure => simp [intOf]; omega
                  · by_cases hp : p = 0
                    · subst hp
                      have h6 : is (wd n K T (k + 1)) [97, 116, 111, 109, 105, 99] = false := by
                        rcases Bool.eq_false_or_eq_true (is (wd n K T (k + 1)) [97, 116, 111, 109, 105, 99]) with a4 | a4
                        · exact absurd ⟨h5, rfl, rfl, a4⟩ h4
                        · exact a4
                      have h6' := isB h6
                      clear h1 h2 h3 h4 h5 h6 HG
                      go_wp2_with fail
                      refine (HC.out (k + 1) _ (by omega) (by omega)).mono ?_
                      rintro e w' ⟨rfl, rfl⟩
                      go_wp2_with fail
                      go_round
                      case rel => exact ⟨k + 1, 0, by go_num, rfl, by omega, by omega, by omega, by omega, HG1⟩
                      case measure => simp [intOf]; omega
                    · have hp' : (p == 0) = false := beq_eq_false_iff_ne.2 hp
                      clear h1 h2 h3 h4 h5 HG hp
                      go_wp2_with fail
                      go_round
                      case rel => exact ⟨k + 1, p, by go_num, rfl, by omega, by omega, by omega, by omega, HG1⟩
                      case measure => simp [intOf]; omega
            · have h3' := isB h3
              have HG1 : Hid (se n K T i = k) := by show _ = _; rw [HG.out]; exact G_semi hk h3
              clear h1 h2 h3 HG
              go_wp2_with fail
              go_ret
              exact ⟨by rw [HG1.out]; rfl, rfl⟩
          · have h2' := isB h2
            have HG1 : Hid (se n K T i = G n K T (some (rt, p - 1)) (k + 1)) := by show _ = _; rw [HG.out]; exact G_shut hk h2
            clear h1 h2 HG
            go_wp2_with fail
            go_round
            case rel => exact ⟨k + 1, p - 1, by go_num, by go_num, by omega, by omega, by omega, by omega, HG1⟩
            case measure => simp [intOf]; omega
        · have h1' := isB h1
          have HG1 : Hid (se n K T i = G n K T (some (rt, p + 1)) (k + 1)) := by show _ = _; rw [HG.out]; exact G_open hk h1
          clear h1 HG
          go_wp2_with fail
          go_round
          case rel => exact ⟨k + 1, p + 1, by go_num, by go_num, by omega, by omega, by omega, by omega, HG1⟩
          case measure => simp [intOf]; omega
      · have hk' : ¬ (k : Int) < (n : Int) := by omega
        have HG' : Hid (se n K T i = n) := by show _ = _; rw [HG.out]; exact G_out (by omega)
        go_wp2_with fail
        go_ret
        exact ⟨by rw [HG'.out]; rfl, rfl⟩
end Go.Proofs.Qxb6603855a
