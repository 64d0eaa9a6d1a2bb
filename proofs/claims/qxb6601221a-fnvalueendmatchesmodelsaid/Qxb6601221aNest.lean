/-
  zzNestEnd, walked, by induction.
-/
import Derived.Test.Qxb6601221aStrE
namespace Go.Proofs.Qxb6601221a
open Go.RowKit
set_option linter.unusedVariables false

theorem strM_none {B n c i : Nat} {zs : List Int} {w : World} (hn : Hid (zs.length = n)) (hn2 : n ≤ 65536) (ht : Text w B zs) (hi : i < n) (hq : zs.getD i 0 = 34) (hs : sE zs i = none) :
    Calls Try.prog 9 #[.slice (some ⟨B, 0, none⟩) n c, .int .i64 i] w fun e w' => e = .returned (.tuple #[.int .i64 0, .bool false]) ∧ w' = w := by
  have := strM B n c i zs w hn hn2 ht hi hq
  rw [hs] at this; exact this
theorem strM_some {B n c i j : Nat} {zs : List Int} {w : World} (hn : Hid (zs.length = n)) (hn2 : n ≤ 65536) (ht : Text w B zs) (hi : i < n) (hq : zs.getD i 0 = 34) (hs : sE zs i = some j) :
    Calls Try.prog 9 #[.slice (some ⟨B, 0, none⟩) n c, .int .i64 i] w fun e w' => e = .returned (.tuple #[.int .i64 j, .bool true]) ∧ w' = w := by
  have := strM B n c i zs w hn hn2 ht hi hq
  rw [hs] at this; exact this
theorem strE_none {B n c i : Nat} {zs : List Int} {w : World} (hn : Hid (zs.length = n)) (hn2 : n ≤ 65536) (hnc : n ≤ c) (hc5 : c ≤ 9223372036854775807) (ht : Text w B zs) (hi : i < n) (hq : zs.getD i 0 = 34) (hs : sE zs i = none) :
    Calls Try.prog 15 #[.slice (some ⟨B, 0, none⟩) n c, .int .i64 i] w fun e w' => e = .returned (.tuple #[.int .i64 0, .bool false]) ∧ w' = w := by
  have := strE B n c i zs w hn hn2 hnc hc5 ht hi hq
  rw [hs] at this; exact this
theorem strE_some {B n c i j : Nat} {zs : List Int} {w : World} (hn : Hid (zs.length = n)) (hn2 : n ≤ 65536) (hnc : n ≤ c) (hc5 : c ≤ 9223372036854775807) (ht : Text w B zs) (hi : i < n) (hq : zs.getD i 0 = 34) (hs : sE zs i = some j) :
    Calls Try.prog 15 #[.slice (some ⟨B, 0, none⟩) n c, .int .i64 i] w fun e w' => e = .returned (.tuple #[.int .i64 j, .bool true]) ∧ w' = w := by
  have := strE B n c i zs w hn hn2 hnc hc5 ht hi hq
  rw [hs] at this; exact this

set_option maxHeartbeats 2000000 in
theorem nestM (B n c : Nat) (zs : List Int) (hn : Hid (zs.length = n)) (hn2 : n ≤ 65536) : ∀ (f p : Nat) (w : World), n - p ≤ f → p < n → Text w B zs →
    Calls Try.prog 17 #[.slice (some ⟨B, 0, none⟩) n c, .int .i64 p] w fun e w' => e = .returned (.tuple #[.int .i64 (optI (nestE zs (p + 1) 1)), .bool (optB (nestE zs (p + 1) 1))]) ∧ w' = w := by
  intro f
  induction f with
  | zero => intro p w h hp; omega
  | succ f ih =>
    intro p w hf hp ht
    obtain ⟨A, hA⟩ : ∃ A, A = nestE zs (p + 1) 1 := ⟨_, rfl⟩
    rw [← hA]
    have HA : Hid (nestE zs (p + 1) 1 = A) := hA.symm
    clear hA
    go_enter Try.func17, Try.ntmps17
    go_wp2_with fail
    go_loop [6] (fun sq => ∃ q : Nat, p < q ∧ q ≤ n ∧ sq = .int .i64 q ∧ Hid (nestE zs q 1 = A)) (fun sq => n + 1 - (intOf sq).toNat)
    case atStart => exact ⟨p + 1, by omega, by omega, by go_num, HA⟩
    case round =>
      obtain ⟨q, hpq, hqn, rfl, hq⟩ := hrel
      by_cases hlt : q < n
      · have hl : q < zs.length := by rw [hn.out]; exact hlt
        have HL : Hid (q < zs.length) := hl
        clear hl
        obtain ⟨d, hd⟩ : ∃ d, d = zs.getD q 0 := ⟨_, rfl⟩
        have hcell : w.cell? ⟨B, q, none⟩ = some (.int .u8 d) := by rw [hd]; exact ht.cell q HL
        have HD : Hid (zs.getD q 0 = d) := hd.symm
        clear hd
        by_cases h34 : d = 34
        · have h34' : (d == 34) = true := by simpa using h34
          have hq34 : Hid (zs.getD q 0 = 34) := HD.out.trans h34
          clear h34
          cases hs : sE zs q with
          | none =>
            have hcall := strM_none (c := c) hn hn2 ht hlt hq34 hs
            have HE : Hid (A = none) := by rw [← hq.out]; exact nestE_str_none HL hq34 hs
            clear hs
            go_wp2_with (go_at_call 9; refine hcall.mono ?_; rintro e w' ⟨rfl, hw'⟩; subst hw')
            go_ret2
            exact ⟨by rw [HE.out]; rfl, rfl⟩
          | some j =>
            have hcall := strM_some (c := c) hn hn2 ht hlt hq34 hs
            have HE : Hid (nestE zs (j + 1) 1 = A) := by rw [← hq.out]; exact (nestE_str HL hq34 hs).symm
            have hj := sE_bd hs
            have hj1 := hj.1
            have hj2 : j < n := by rw [← hn.out]; exact hj.2
            clear hs hj
            go_wp2_with (go_at_call 9; refine hcall.mono ?_; rintro e w' ⟨rfl, hw'⟩; subst hw')
            go_round
            case rel => exact ⟨j + 1, by omega, by omega, by go_num, HE⟩
            case measure => simp [intOf]; omega
        · have h34' : (d == 34) = false := by simpa using h34
          by_cases h123 : d = 123
          · have h123' : (d == 123) = true := by simpa using h123
            have hop : Hid (zs.getD q 0 = 123 ∨ zs.getD q 0 = 91) := .inl (HD.out.trans h123)
            clear h123 h34
            have ih' := ih q w (by omega) hlt ht
            cases hs : nestE zs (q + 1) 1 with
            | none =>
              rw [hs] at ih'
              have hcall : Calls Try.prog 17 #[.slice (some ⟨B, 0, none⟩) n c, .int .i64 q] w fun e w' => e = .returned (.tuple #[.int .i64 0, .bool false]) ∧ w' = w := ih'
              have HE : Hid (A = none) := by
                have := nestE_inner HL hop
                rw [hs] at this
                rw [← hq.out]; exact this
              clear hs ih' ih
              go_wp2_with (go_at_call 17; refine hcall.mono ?_; rintro e w' ⟨rfl, hw'⟩; subst hw')
              go_ret2
              exact ⟨by rw [HE.out]; rfl, rfl⟩
            | some j =>
              rw [hs] at ih'
              have hcall : Calls Try.prog 17 #[.slice (some ⟨B, 0, none⟩) n c, .int .i64 q] w fun e w' => e = .returned (.tuple #[.int .i64 j, .bool true]) ∧ w' = w := ih'
              have HE : Hid (nestE zs j 1 = A) := by
                have := nestE_inner HL hop
                rw [hs] at this
                rw [← hq.out]; exact this.symm
              have hj := nestE_bd zs _ _ _ _ (Nat.le_refl _) hs
              have hj1 := hj.1
              have hj2 : j ≤ n := by rw [← hn.out]; exact hj.2
              clear hs hj ih' ih
              go_wp2_with (go_at_call 17; refine hcall.mono ?_; rintro e w' ⟨rfl, hw'⟩; subst hw')
              go_round
              case rel => exact ⟨j, by omega, hj2, rfl, HE⟩
              case measure => simp [intOf]; omega
          · have h123' : (d == 123) = false := by simpa using h123
            by_cases h91 : d = 91
            · have h91' : (d == 91) = true := by simpa using h91
              have hop : Hid (zs.getD q 0 = 123 ∨ zs.getD q 0 = 91) := .inr (HD.out.trans h91)
              clear h123 h34 h91
              have ih' := ih q w (by omega) hlt ht
              cases hs : nestE zs (q + 1) 1 with
              | none =>
                rw [hs] at ih'
                have hcall : Calls Try.prog 17 #[.slice (some ⟨B, 0, none⟩) n c, .int .i64 q] w fun e w' => e = .returned (.tuple #[.int .i64 0, .bool false]) ∧ w' = w := ih'
                have HE : Hid (A = none) := by
                  have := nestE_inner HL hop
                  rw [hs] at this
                  rw [← hq.out]; exact this
                clear hs ih' ih
                go_wp2_with (go_at_call 17; refine hcall.mono ?_; rintro e w' ⟨rfl, hw'⟩; subst hw')
                go_ret2
                exact ⟨by rw [HE.out]; rfl, rfl⟩
              | some j =>
                rw [hs] at ih'
                have hcall : Calls Try.prog 17 #[.slice (some ⟨B, 0, none⟩) n c, .int .i64 q] w fun e w' => e = .returned (.tuple #[.int .i64 j, .bool true]) ∧ w' = w := ih'
                have HE : Hid (nestE zs j 1 = A) := by
                  have := nestE_inner HL hop
                  rw [hs] at this
                  rw [← hq.out]; exact this.symm
                have hj := nestE_bd zs _ _ _ _ (Nat.le_refl _) hs
                have hj1 := hj.1
                have hj2 : j ≤ n := by rw [← hn.out]; exact hj.2
                clear hs hj ih' ih
                go_wp2_with (go_at_call 17; refine hcall.mono ?_; rintro e w' ⟨rfl, hw'⟩; subst hw')
                go_round
                case rel => exact ⟨j, by omega, hj2, rfl, HE⟩
                case measure => simp [intOf]; omega
            · have h91' : (d == 91) = false := by simpa using h91
              by_cases h125 : d = 125
              · have h125' : (d == 125) = true := by simpa using h125
                have hcl : Hid (zs.getD q 0 = 125 ∨ zs.getD q 0 = 93) := .inl (HD.out.trans h125)
                clear h123 h34 h91 h125
                have HE : Hid (A = some (q + 1)) := by rw [← hq.out]; exact nestE_close1 HL hcl (Nat.le_refl _)
                clear ih
                go_wp2_with fail
                go_ret2
                exact ⟨by rw [HE.out]; simp [optI, optB], rfl⟩
              · have h125' : (d == 125) = false := by simpa using h125
                by_cases h93 : d = 93
                · have h93' : (d == 93) = true := by simpa using h93
                  have hcl : Hid (zs.getD q 0 = 125 ∨ zs.getD q 0 = 93) := .inr (HD.out.trans h93)
                  clear h123 h34 h91 h125 h93
                  have HE : Hid (A = some (q + 1)) := by rw [← hq.out]; exact nestE_close1 HL hcl (Nat.le_refl _)
                  clear ih
                  go_wp2_with fail
                  go_ret2
                  exact ⟨by rw [HE.out]; simp [optI, optB], rfl⟩
                · have h93' : (d == 93) = false := by simpa using h93
                  have HE : Hid (nestE zs (q + 1) 1 = A) := by
                    rw [← hq.out]
                    exact (nestE_other HL (by rw [HD.out]; exact h34) (by rw [HD.out]; exact h123) (by rw [HD.out]; exact h91) (by rw [HD.out]; exact h125) (by rw [HD.out]; exact h93)).symm
                  clear h123 h34 h91 h125 h93 ih
                  go_wp2_with fail
                  go_round
                  case rel => exact ⟨q + 1, by omega, by omega, by go_num, HE⟩
                  case measure => simp [intOf]; omega
      · have HE : Hid (A = none) := by rw [← hq.out]; exact nestE_out (by rw [hn.out]; omega)
        go_wp2_with fail
        go_ret2
        exact ⟨by rw [HE.out]; rfl, rfl⟩
end Go.Proofs.Qxb6601221a
