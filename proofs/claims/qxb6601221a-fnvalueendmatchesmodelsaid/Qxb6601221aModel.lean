/-
  zzValueEndModel, walked, a theorem for each kind of first byte.
-/
import Derived.Test.Qxb6601221aNest
namespace Go.Proofs.Qxb6601221a
open Go.RowKit
set_option linter.unusedVariables false

theorem m_out (a : Option Addr) (n c : Nat) (i : Int) (w : World) (hn : n ≤ 65536) (h : (n : Int) ≤ i) (hi : i ≤ 9223372036854775807) :
    Calls Try.prog 13 #[.slice a n c, .int .i64 i] w fun e w' => e = .returned (.tuple #[.int .i64 0, .bool false]) ∧ w' = w := by
  go_enter Try.func13, Try.ntmps13
  go_wp2_with fail
  go_ret2
  exact ⟨rfl, rfl⟩

theorem m_str (B n c i : Nat) (zs : List Int) (w : World) (hn : Hid (zs.length = n)) (hn2 : n ≤ 65536) (ht : Text w B zs) (hi : i < n) (hq : zs.getD i 0 = 34) :
    Calls Try.prog 13 #[.slice (some ⟨B, 0, none⟩) n c, .int .i64 i] w fun e w' => e = .returned (.tuple #[.int .i64 (optI ((sE zs i).map (· + 1))), .bool (optB ((sE zs i).map (· + 1)))]) ∧ w' = w := by
  have hcell : w.cell? ⟨B, i, none⟩ = some (.int .u8 34) := by rw [ht.cell i (by rw [hn.out]; exact hi), hq]
  cases hs : sE zs i with
  | none =>
    have hcall := strM_none (c := c) hn hn2 ht hi hq hs
    clear hs hq
    go_enter Try.func13, Try.ntmps13
    go_wp2_with (go_at_call 9; refine hcall.mono ?_; rintro e w' ⟨rfl, hw'⟩; subst hw')
    go_ret2
    exact ⟨rfl, rfl⟩
  | some j =>
    have hcall := strM_some (c := c) hn hn2 ht hi hq hs
    have hj := sE_bd hs
    have hj1 := hj.1
    have hj2 : j < n := by rw [← hn.out]; exact hj.2
    clear hs hq hj
    go_enter Try.func13, Try.ntmps13
    go_wp2_with (go_at_call 9; refine hcall.mono ?_; rintro e w' ⟨rfl, hw'⟩; subst hw')
    go_ret2
    exact ⟨rfl, rfl⟩

theorem m_open (B n c i : Nat) (zs : List Int) (w : World) (hn : Hid (zs.length = n)) (hn2 : n ≤ 65536) (ht : Text w B zs) (hi : i < n) (hq : zs.getD i 0 = 123 ∨ zs.getD i 0 = 91) :
    Calls Try.prog 13 #[.slice (some ⟨B, 0, none⟩) n c, .int .i64 i] w fun e w' => e = .returned (.tuple #[.int .i64 (optI (nestE zs (i + 1) 1)), .bool (optB (nestE zs (i + 1) 1))]) ∧ w' = w := by
  have hcall := nestM B n c zs hn hn2 (n - i) i w (Nat.le_refl _) hi ht
  obtain ⟨A, hA⟩ : ∃ A, A = nestE zs (i + 1) 1 := ⟨_, rfl⟩
  rw [← hA] at hcall ⊢
  clear hA
  have hcell := ht.cell i (by rw [hn.out]; exact hi)
  rcases hq with hq | hq
  all_goals
    rw [hq] at hcell
    clear hq
    go_enter Try.func13, Try.ntmps13
    go_wp2_with (go_at_call 17; refine hcall.mono ?_; rintro e w' ⟨rfl, hw'⟩; subst hw')
    go_ret2
    exact ⟨rfl, rfl⟩

theorem m_close (B n c i : Nat) (zs : List Int) (w : World) (hn : Hid (zs.length = n)) (hn2 : n ≤ 65536) (ht : Text w B zs) (hi : i < n) (hq : zs.getD i 0 = 125 ∨ zs.getD i 0 = 93) :
    Calls Try.prog 13 #[.slice (some ⟨B, 0, none⟩) n c, .int .i64 i] w fun e w' => e = .returned (.tuple #[.int .i64 0, .bool false]) ∧ w' = w := by
  have hcell := ht.cell i (by rw [hn.out]; exact hi)
  rcases hq with hq | hq
  all_goals
    rw [hq] at hcell
    clear hq
    go_enter Try.func13, Try.ntmps13
    go_wp2_with fail
    go_ret2
    exact ⟨rfl, rfl⟩

/-- The first byte is none of the five. -/
def Plain (d : Int) : Prop := d ≠ 34 ∧ d ≠ 123 ∧ d ≠ 91 ∧ d ≠ 125 ∧ d ≠ 93

set_option maxHeartbeats 1000000 in
theorem m_scal (B n c i : Nat) (zs : List Int) (w : World) (hn : Hid (zs.length = n)) (hn2 : n ≤ 65536) (ht : Text w B zs) (hi : i < n) (hq : Plain (zs.getD i 0)) :
    Calls Try.prog 13 #[.slice (some ⟨B, 0, none⟩) n c, .int .i64 i] w fun e w' => e = .returned (.tuple #[.int .i64 (scalE zs i), .bool (decide (i < scalE zs i))]) ∧ w' = w := by
  have hcell0 := ht.cell i (by rw [hn.out]; exact hi)
  obtain ⟨d0, hd0⟩ : ∃ d0, d0 = zs.getD i 0 := ⟨_, rfl⟩
  rw [← hd0] at hcell0 hq
  obtain ⟨q1, q2, q3, q4, q5⟩ := hq
  have q1' : (d0 == 34) = false := by simpa using q1
  have q2' : (d0 == 123) = false := by simpa using q2
  have q3' : (d0 == 91) = false := by simpa using q3
  have q4' : (d0 == 125) = false := by simpa using q4
  have q5' : (d0 == 93) = false := by simpa using q5
  obtain ⟨E, hE⟩ : ∃ E, E = scalE zs i := ⟨_, rfl⟩
  rw [← hE]
  have HE : Hid (scalE zs i = E) := hE.symm
  have hge : decide (n ≤ i) = false := decide_eq_false (by omega)
  clear hE hd0 q1 q2 q3 q4 q5
  go_enter Try.func13, Try.ntmps13
  go_wp2_with fail
  clear hcell0
  go_loop [9] (fun sk => ∃ k : Nat, i ≤ k ∧ k ≤ n ∧ sk = .int .i64 k ∧ Hid (scalE zs k = E)) (fun sk => n - (intOf sk).toNat)
  case atStart => exact ⟨i, Nat.le_refl _, by omega, rfl, HE⟩
  case round =>
    obtain ⟨k, hik, hkn, rfl, hk⟩ := hrel
    by_cases hlt : k < n
    · have hl : Hid (k < zs.length) := by rw [hn.out]; exact hlt
      obtain ⟨d, hd⟩ : ∃ d, d = zs.getD k 0 := ⟨_, rfl⟩
      have hcell : w.cell? ⟨B, k, none⟩ = some (.int .u8 d) := by rw [hd]; exact ht.cell k hl
      have e0 : 0 ≤ d := by rw [hd]; exact ht.lo k
      have e1 : d ≤ 255 := by rw [hd]; exact ht.hi k
      have HD : Hid (zs.getD k 0 = d) := hd.symm
      clear hd
      have hcall := sc18 d w e0 e1
      cases hsc : scal d with
      | true =>
        rw [hsc] at hcall
        have HN : Hid (scalE zs (k + 1) = E) := by rw [← hk.out]; exact scalE_step hl (by rw [HD.out]; exact hsc)
        clear hsc
        go_wp2_with (go_at_call 18; refine hcall.mono ?_; rintro e w' ⟨rfl, hw'⟩; subst hw')
        go_round
        case rel => exact ⟨k + 1, by omega, by omega, by go_num, HN⟩
        case measure => simp [intOf]; omega
      | false =>
        rw [hsc] at hcall
        have HN : Hid (E = k) := by rw [← hk.out]; exact scalE_stop hl (by rw [HD.out]; exact hsc)
        clear hsc
        go_wp2_with (go_at_call 18; refine hcall.mono ?_; rintro e w' ⟨rfl, hw'⟩; subst hw')
        go_ret2
        exact ⟨by rw [HN.out]; simp, rfl⟩
    · have HN : Hid (E = k) := by rw [← hk.out]; exact scalE_out (by rw [hn.out]; omega)
      go_wp2_with fail
      go_ret2
      exact ⟨by rw [HN.out]; simp, rfl⟩
end Go.Proofs.Qxb6601221a
