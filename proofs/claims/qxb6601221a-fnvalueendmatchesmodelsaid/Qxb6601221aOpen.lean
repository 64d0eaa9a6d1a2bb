/-
  valueEnd at an opening bracket or brace, walked.
-/
import Derived.Test.Qxb6601221aValue
namespace Go.Proofs.Qxb6601221a
open Go.RowKit
set_option linter.unusedVariables false

set_option maxHeartbeats 4000000 in
theorem v_open (B n c i : Nat) (zs : List Int) (w : World) (hn : Hid (zs.length = n)) (hn2 : n ≤ 65536) (hnc : n ≤ c) (hc5 : c ≤ 9223372036854775807) (ht : Text w B zs) (hi : i < n) (hq : zs.getD i 0 = 123 ∨ zs.getD i 0 = 91) :
    Calls Try.prog 16 #[.slice (some ⟨B, 0, none⟩) n c, .int .i64 i] w fun e w' => e = .returned (.tuple #[.int .i64 (optI (nestE zs (i + 1) 1)), .bool (optB (nestE zs (i + 1) 1))]) ∧ w' = w := by
  obtain ⟨A, hA⟩ : ∃ A, A = nestE zs (i + 1) 1 := ⟨_, rfl⟩
  rw [← hA]
  have HA : Hid (nestE zs (i + 1) 1 = A) := hA.symm
  have HQ : Hid (zs.getD i 0 = 123 ∨ zs.getD i 0 = 91) := hq
  clear hA hq
  go_enter Try.func16, Try.ntmps16
  go_wp2_with fail
  go_loop [1, 7] (fun sq sd => ∃ q d : Nat, i ≤ q ∧ q ≤ n ∧ d ≤ q ∧ sq = .int .i64 q ∧ sd = .int .i64 d ∧ ((q ≤ i ∧ d ≤ 0) ∨ (1 ≤ d ∧ Hid (nestE zs q d = A)))) (fun sq _ => n + 1 - (intOf sq).toNat)
  case atStart => exact ⟨i, 0, Nat.le_refl _, by omega, by omega, rfl, rfl, .inl ⟨Nat.le_refl _, Nat.le_refl _⟩⟩
  case round =>
    obtain ⟨q, d, hiq, hqn, hdq, rfl, rfl, hor⟩ := hrel
    rcases hor with ⟨hqi, hd0⟩ | ⟨hd1, hq⟩
    · have eqi : q = i := by omega
      have ed : d = 0 := by omega
      subst eqi ed
      have hcell := ht.cell q (by rw [hn.out]; exact hi)
      rcases HQ.out with hq | hq
      all_goals
        rw [hq] at hcell
        clear hq
        go_wp2_with fail
        go_round
        case rel => exact ⟨q + 1, 1, by omega, by omega, by omega, by go_num, rfl, .inr ⟨Nat.le_refl _, HA⟩⟩
        case measure => simp [intOf]; omega
    · have hdz : ((d : Int) == 0) = false := by rw [beq_eq_false_iff_ne]; omega
      by_cases hlt : q < n
      · have HL : Hid (q < zs.length) := by rw [hn.out]; exact hlt
        obtain ⟨b, hb⟩ : ∃ b, b = zs.getD q 0 := ⟨_, rfl⟩
        have hcell : w.cell? ⟨B, q, none⟩ = some (.int .u8 b) := by rw [hb]; exact ht.cell q HL
        have HD : Hid (zs.getD q 0 = b) := hb.symm
        clear hb
        by_cases h34 : b = 34
        · have h34' : (b == 34) = true := by simpa using h34
          have hq34 : Hid (zs.getD q 0 = 34) := HD.out.trans h34
          clear h34
          cases hs : sE zs q with
          | none =>
            have hcall := strE_none (c := c) hn hn2 hnc hc5 ht hlt hq34 hs
            have HE : Hid (A = none) := by rw [← hq.out]; exact nestE_str_none HL hq34 hs
            clear hs
            go_wp2_with (go_at_call 15; refine hcall.mono ?_; rintro e w' ⟨rfl, hw'⟩; subst hw')
            go_ret2
            exact ⟨by rw [HE.out]; rfl, rfl⟩
          | some j =>
            have hcall := strE_some (c := c) hn hn2 hnc hc5 ht hlt hq34 hs
            have HE : Hid (nestE zs (j + 1) d = A) := by rw [← hq.out]; exact (nestE_str HL hq34 hs).symm
            have hj := sE_bd hs
            have hj1 := hj.1
            have hj2 : j < n := by rw [← hn.out]; exact hj.2
            clear hs hj
            go_wp2_with (go_at_call 15; refine hcall.mono ?_; rintro e w' ⟨rfl, hw'⟩; subst hw')
            go_round
            case rel => exact ⟨j + 1, d, by omega, by omega, by omega, by go_num, rfl, .inr ⟨hd1, HE⟩⟩
            case measure => simp [intOf]; omega
        · have h34' : (b == 34) = false := by simpa using h34
          by_cases h123 : b = 123
          · have h123' : (b == 123) = true := by simpa using h123
            have hop : Hid (zs.getD q 0 = 123 ∨ zs.getD q 0 = 91) := .inl (HD.out.trans h123)
            clear h123 h34
            have HE : Hid (nestE zs (q + 1) (d + 1) = A) := by rw [← hq.out]; exact (nestE_open HL hop).symm
            go_wp2_with fail
            go_round
            case rel => exact ⟨q + 1, d + 1, by omega, by omega, by omega, by go_num, by go_num, .inr ⟨by omega, HE⟩⟩
            case measure => simp [intOf]; omega
          · have h123' : (b == 123) = false := by simpa using h123
            by_cases h91 : b = 91
            · have h91' : (b == 91) = true := by simpa using h91
              have hop : Hid (zs.getD q 0 = 123 ∨ zs.getD q 0 = 91) := .inr (HD.out.trans h91)
              clear h123 h34 h91
              have HE : Hid (nestE zs (q + 1) (d + 1) = A) := by rw [← hq.out]; exact (nestE_open HL hop).symm
              go_wp2_with fail
              go_round
              case rel => exact ⟨q + 1, d + 1, by omega, by omega, by omega, by go_num, by go_num, .inr ⟨by omega, HE⟩⟩
              case measure => simp [intOf]; omega
            · have h91' : (b == 91) = false := by simpa using h91
              by_cases h125 : b = 125
              · have h125' : (b == 125) = true := by simpa using h125
                have hcl : Hid (zs.getD q 0 = 125 ∨ zs.getD q 0 = 93) := .inl (HD.out.trans h125)
                clear h123 h34 h91 h125
                by_cases h1 : d = 1
                · have HE : Hid (A = some (q + 1)) := by rw [← hq.out]; exact nestE_close1 HL hcl (by omega)
                  subst h1
                  go_wp2_with fail
                  go_ret2
                  exact ⟨by rw [HE.out]; simp [optI, optB], rfl⟩
                · have HE : Hid (nestE zs (q + 1) (d - 1) = A) := by rw [← hq.out]; exact (nestE_close HL hcl (by omega)).symm
                  have hd2 : 2 ≤ d := by omega
                  have hdz2 : ((d : Int) - 1 == 0) = false := by rw [beq_eq_false_iff_ne]; omega
                  go_wp2_with fail
                  go_round
                  case rel => exact ⟨q + 1, d - 1, by omega, by omega, by omega, by go_num, by go_num, .inr ⟨by omega, HE⟩⟩
                  case measure => simp [intOf]; omega
              · have h125' : (b == 125) = false := by simpa using h125
                by_cases h93 : b = 93
                · have h93' : (b == 93) = true := by simpa using h93
                  have hcl : Hid (zs.getD q 0 = 125 ∨ zs.getD q 0 = 93) := .inr (HD.out.trans h93)
                  clear h123 h34 h91 h125 h93
                  by_cases h1 : d = 1
                  · have HE : Hid (A = some (q + 1)) := by rw [← hq.out]; exact nestE_close1 HL hcl (by omega)
                    subst h1
                    go_wp2_with fail
                    go_ret2
                    exact ⟨by rw [HE.out]; simp [optI, optB], rfl⟩
                  · have HE : Hid (nestE zs (q + 1) (d - 1) = A) := by rw [← hq.out]; exact (nestE_close HL hcl (by omega)).symm
                    have hd2 : 2 ≤ d := by omega
                    have hdz2 : ((d : Int) - 1 == 0) = false := by rw [beq_eq_false_iff_ne]; omega
                    go_wp2_with fail
                    go_round
                    case rel => exact ⟨q + 1, d - 1, by omega, by omega, by omega, by go_num, by go_num, .inr ⟨by omega, HE⟩⟩
                    case measure => simp [intOf]; omega
                · have h93' : (b == 93) = false := by simpa using h93
                  have HE : Hid (nestE zs (q + 1) d = A) := by
                    rw [← hq.out]
                    exact (nestE_other HL (by rw [HD.out]; exact h34) (by rw [HD.out]; exact h123) (by rw [HD.out]; exact h91) (by rw [HD.out]; exact h125) (by rw [HD.out]; exact h93)).symm
                  clear h123 h34 h91 h125 h93
                  go_wp2_with fail
                  go_round
                  case rel => exact ⟨q + 1, d, by omega, by omega, by omega, by go_num, rfl, .inr ⟨hd1, HE⟩⟩
                  case measure => simp [intOf]; omega
      · have HE : Hid (A = none) := by rw [← hq.out]; exact nestE_out (by rw [hn.out]; omega)
        go_wp2_with fail
        go_ret2
        exact ⟨by rw [HE.out]; rfl, rfl⟩
end Go.Proofs.Qxb6601221a
