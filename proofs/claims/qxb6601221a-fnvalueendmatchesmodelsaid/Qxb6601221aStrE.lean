/-
  stringEnd, walked.
-/
import Derived.Test.Qxb6601221aStr
namespace Go.Proofs.Qxb6601221a
open Go.RowKit
set_option linter.unusedVariables false

set_option maxHeartbeats 1000000 in
theorem strE (B n c i : Nat) (zs : List Int) (w : World) (hn : Hid (zs.length = n)) (hn2 : n ≤ 65536) (hnc : n ≤ c) (hc5 : c ≤ 9223372036854775807) (ht : Text w B zs) (hi : i < n) (hq : zs.getD i 0 = 34) :
    Calls Try.prog 15 #[.slice (some ⟨B, 0, none⟩) n c, .int .i64 i] w fun e w' => e = .returned (.tuple #[.int .i64 (optI (sE zs i)), .bool (optB (sE zs i))]) ∧ w' = w := by
  have hl : zs.length = n := hn
  have hb0 : Hid (Bwd zs i i) := bwd_start hq (by omega)
  clear hq hl
  go_enter Try.func15, Try.ntmps15
  go_wp2
  go_loop [1] (fun sk => ∃ k : Nat, k < n ∧ sk = .int .i64 k ∧ Hid (Bwd zs i k)) (fun sk => n - (intOf sk).toNat)
  case atStart => exact ⟨i, hi, rfl, hb0⟩
  case round =>
    obtain ⟨k, hk, rfl, hbk⟩ := hrel
    rcases index_from B n (c - (k + 1)) (k + 1) zs w hn ht (by omega) with ⟨hix, hno⟩ | ⟨q, hix, hqn, hq34, hno⟩
    · by_cases hcc : k + 1 < c
      · go_wp2_with (go_at_call 19; refine hix.mono ?_; rintro e w' ⟨rfl, hw'⟩; subst hw')
        go_ret2
        exact ⟨by rw [bwd_miss hbk (fun m hm hm' => hno m (by omega) (by rw [← show zs.length = n from hn]; exact hm'))]; rfl, rfl⟩
      · have hix0 : Calls Try.prog 19 #[.slice (some ⟨B, 0, none⟩) (n - (k + 1)) 0, .int .u8 34] w (fun e w' => e = .returned (.int .i64 (-1)) ∧ w' = w) :=
          index_any B 0 (n - (k + 1)) 0 [] 34 w (by simp; omega) (fun i hi => by omega)
        go_wp2_with (go_at_call 19; refine hix0.mono ?_; rintro e w' ⟨rfl, hw'⟩; subst hw')
        go_ret2
        exact ⟨by rw [bwd_miss hbk (fun m hm hm' => hno m (by omega) (by rw [← show zs.length = n from hn]; exact hm'))]; rfl, rfl⟩
    · have hr : runOf zs (k + (1 + q)) + k + 1 ≤ k + (1 + q) := run_le (by rw [show zs.getD k 0 = 34 from hbk.2.2.1]; decide) (k + (1 + q)) (by omega)
      have hjl : k + (1 + q) < zs.length := by rw [hn.out]; omega
      obtain ⟨R, hR⟩ : ∃ R, R = runOf zs (k + (1 + q)) := ⟨_, rfl⟩
      have hin : Hid (∀ m, m < R → zs.getD (k + (1 + q) - 1 - m) 0 = 92) := fun m hm => run_in _ m (by omega)
      have hout : Hid (zs.getD (k + (1 + q) - 1 - R) 0 ≠ 92) := by rw [hR]; exact run_out _ (by omega)
      have hRq : R ≤ q := by omega
      have HR : Hid (R = runOf zs (k + (1 + q))) := hR
      have hq34' : Hid (zs.getD (k + (1 + q)) 0 = 34) := by rw [show k + (1 + q) = k + 1 + q by omega]; exact hq34
      have hno' : Hid (∀ m, k < m → m < k + (1 + q) → zs.getD m 0 ≠ 34) := fun m h1 h2 => hno m (by omega) (by omega)
      clear hR hr hq34 hno
      go_wp2_with (go_at_call 19; refine hix.mono ?_; rintro e w' ⟨rfl, hw'⟩; subst hw')
      go_loop [7] (fun sm => ∃ m : Nat, m ≤ R ∧ sm = .int .i64 m) (fun sm => R - (intOf sm).toNat)
      case atStart => exact ⟨0, Nat.zero_le _, rfl⟩
      case round =>
        obtain ⟨m, hm, rfl⟩ := hrel
        obtain ⟨d, hd⟩ : ∃ d, d = zs.getD (k + (1 + q) - 1 - m) 0 := ⟨_, rfl⟩
        have hcell : w'.cell? ⟨B, k + (1 + q) - 1 - m, none⟩ = some (.int .u8 d) := by rw [hd]; exact ht.cell _ (by omega)
        by_cases hmR : m < R
        · have hd' : (d == 92) = true := by rw [hd, hin m hmR]; rfl
          clear hd
          go_wp2_with fail
          go_round
          case rel => exact ⟨m + 1, by omega, by go_num⟩
          case measure => simp [intOf]; omega
        · have hmR' : m = R := by omega
          have hd' : (d == 92) = false := by rw [hd, hmR']; simpa using hout.out
          have HM : Hid (m = R) := hmR'
          clear hd hmR'
          by_cases heven : m % 2 = 0
          · have hev : ((m : Int) % 2 == 0) = true := by rw [beq_iff_eq]; omega
            have HE : Hid (runOf zs (k + (1 + q)) % 2 = 0) := by rw [← HR.out, ← HM.out]; exact heven
            clear heven
            go_wp2_with fail
            go_ret2
            exact ⟨by rw [bwd_hit hbk (by omega) hjl hq34' hno' HE]; simp [optI, optB], rfl⟩
          · have hev : ((m : Int) % 2 == 0) = false := by rw [beq_eq_false_iff_ne]; omega
            have HE : Hid (runOf zs (k + (1 + q)) % 2 ≠ 0) := by rw [← HR.out, ← HM.out]; exact heven
            clear heven
            go_wp2_with fail
            go_round
            case rel => exact ⟨k + (1 + q), by omega, by go_num, bwd_next hbk (by omega) hjl hq34' hno' HE⟩
            case measure => simp [intOf]; omega
end Go.Proofs.Qxb6601221a
