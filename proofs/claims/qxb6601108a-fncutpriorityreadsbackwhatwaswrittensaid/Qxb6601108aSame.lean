/-
  zzSameBytes, zzDigits, zzWrite.
-/
import Derived.Test.Qxb6601108aSmall
import Derived.WalkSmall
namespace Go.Proofs.Qxb6601108a
open Go.RowKit
set_option linter.unusedVariables false

theorem same_zero (a b : Option Addr) (ca cb : Nat) (w : World) :
    Calls Try.prog 14 #[.slice a 0 ca, .slice b 0 cb] w fun e w' => e = .returned (.bool true) ∧ Below w.heap.size w w' := by
  go_enter Try.func14, Try.ntmps14
  go_wp2
  refine wp_loop_rounds 1 ?_
  rw [rounds_succ]
  go_wp2
  go_ret
  exact ⟨rfl, Below.refl _ _⟩

set_option maxHeartbeats 400000 in
theorem same_some (b1 o1 c1 b2 o2 c2 n : Nat) (zs : List Int) (w : World) (hz : n ≤ zs.length) (hm : n ≤ 9223372036854775806)
    (h1 : ∀ i, i < n → w.cell? ⟨b1, o1 + i, none⟩ = some (.int .u8 (zs.getD i 0)))
    (h2 : ∀ i, i < n → w.cell? ⟨b2, o2 + i, none⟩ = some (.int .u8 (zs.getD i 0))) :
    Calls Try.prog 14 #[.slice (some ⟨b1, o1, none⟩) n c1, .slice (some ⟨b2, o2, none⟩) n c2] w fun e w' => e = .returned (.bool true) ∧ Below w.heap.size w w' := by
  go_enter Try.func14, Try.ntmps14
  go_wp2
  go_loopw [5] (fun si wr => ∃ k m : Nat, k ≤ n ∧ si = .int .i64 k ∧ wr = w.drewN m) (fun si _ => n - (intOf si).toNat)
  case atStart => exact ⟨0, 0, Nat.zero_le _, rfl, rfl⟩
  case round =>
    obtain ⟨k, m, hk, rfl, rfl⟩ := hrel
    by_cases hlt : k < n
    · obtain ⟨d, hdd⟩ : ∃ d, d = zs.getD k 0 := ⟨_, rfl⟩
      have g1 : w.cell? ⟨b1, o1 + k, none⟩ = some (.int .u8 d) := by rw [hdd]; exact h1 k hlt
      have g2 : w.cell? ⟨b2, o2 + k, none⟩ = some (.int .u8 d) := by rw [hdd]; exact h2 k hlt
      clear hdd h1 h2
      go_wp2
      go_quiet (fail)
      go_wp2
      go_roundw
      case rel => exact ⟨k + 1, m + nq, by omega, by go_num, rfl⟩
      case measure => simp [intOf]; omega
    · have : k = n := by omega
      subst this
      go_wp2
      go_ret
      exact ⟨rfl, below_drewN (Below.refl _ _) _⟩

theorem digits0 (w : World) :
    Calls Try.prog 17 #[.int .i64 0] w fun e w' => e = .returned (.slice (some ⟨w.heap.size, 0, none⟩) 1 1) ∧ Below w.heap.size w w' ∧ w.heap.size < w'.heap.size ∧
      w'.cell? ⟨w.heap.size, 0, none⟩ = some (.int .u8 48) := by
  go_enter Try.func17, Try.ntmps17
  go_wp2
  go_ret
  refine ⟨rfl, ?_, by simp, by simp [go_sem]⟩
  exact (Below.refl _ w).alloc (Nat.le_refl _) _

set_option maxHeartbeats 1000000 in
theorem digits1 (n : Int) (w : World) (h1 : 1 ≤ n) (h2 : n ≤ 9) :
    Calls Try.prog 17 #[.int .i64 n] w fun e w' => e = .returned (.slice (some ⟨w.heap.size + 1, 0, none⟩) 1 1) ∧ Below w.heap.size w w' ∧ w.heap.size + 1 < w'.heap.size ∧
      w'.cell? ⟨w.heap.size + 1, 0, none⟩ = some (.int .u8 (48 + n % 10)) := by
  have hmk : ∀ w, (Instr.makeSlice 22 (.int .i64 0) (.int .i64 1)).run Try.prog w = .ok (.slice (some ⟨w.heap.size, 0, none⟩) 0 1) (w.alloc (.cells #[.int .u8 0] 5)) := fun _ => by kernel_rfl
  go_enter Try.func17, Try.ntmps17
  go_wp2
  refine wp_loop_rounds 2 ?_
  rw [rounds_succ]; go_wp2
  rw [rounds_succ]; go_wp2
  refine wp_loop_rounds 2 ?_
  rw [rounds_succ]; go_wp2
  rw [rounds_succ]; go_wp2
  go_ret
  refine ⟨rfl, ?_, by simp, by simp [go_sem]⟩
  exact (((Below.refl _ w).alloc (Nat.le_refl _) _).alloc (by simp) _).alloc (by simp; omega) _

set_option maxHeartbeats 1000000 in
theorem digits2 (n : Int) (w : World) (h1 : 10 ≤ n) (h2 : n ≤ 99) :
    Calls Try.prog 17 #[.int .i64 n] w fun e w' => e = .returned (.slice (some ⟨w.heap.size + 1, 0, none⟩) 2 2) ∧ Below w.heap.size w w' ∧ w.heap.size + 1 < w'.heap.size ∧
      w'.cell? ⟨w.heap.size + 1, 0, none⟩ = some (.int .u8 (48 + n / 10 % 10)) ∧ w'.cell? ⟨w.heap.size + 1, 1, none⟩ = some (.int .u8 (48 + n % 10)) := by
  have hmk : ∀ w, (Instr.makeSlice 22 (.int .i64 0) (.int .i64 2)).run Try.prog w = .ok (.slice (some ⟨w.heap.size, 0, none⟩) 0 2) (w.alloc (.cells #[.int .u8 0, .int .u8 0] 5)) := fun _ => by kernel_rfl
  go_enter Try.func17, Try.ntmps17
  go_wp2
  refine wp_loop_rounds 3 ?_
  rw [rounds_succ]; go_wp2
  rw [rounds_succ]; go_wp2
  rw [rounds_succ]; go_wp2
  refine wp_loop_rounds 3 ?_
  rw [rounds_succ]; go_wp2
  rw [rounds_succ]; go_wp2
  rw [rounds_succ]; go_wp2
  go_ret
  refine ⟨rfl, ?_, by simp, by simp [go_sem], by simp [go_sem]⟩
  exact ((((Below.refl _ w).alloc (Nat.le_refl _) _).alloc (by simp) _).alloc (by simp; omega) _).alloc (by simp; omega) _

set_option maxHeartbeats 1000000 in
theorem digits3 (n : Int) (w : World) (h1 : 100 ≤ n) (h2 : n ≤ 999) :
    Calls Try.prog 17 #[.int .i64 n] w fun e w' => e = .returned (.slice (some ⟨w.heap.size + 1, 0, none⟩) 3 3) ∧ Below w.heap.size w w' ∧ w.heap.size + 1 < w'.heap.size ∧
      w'.cell? ⟨w.heap.size + 1, 0, none⟩ = some (.int .u8 (48 + n / 10 / 10 % 10)) ∧ w'.cell? ⟨w.heap.size + 1, 1, none⟩ = some (.int .u8 (48 + n / 10 % 10)) ∧ w'.cell? ⟨w.heap.size + 1, 2, none⟩ = some (.int .u8 (48 + n % 10)) := by
  have hmk : ∀ w, (Instr.makeSlice 22 (.int .i64 0) (.int .i64 3)).run Try.prog w = .ok (.slice (some ⟨w.heap.size, 0, none⟩) 0 3) (w.alloc (.cells #[.int .u8 0, .int .u8 0, .int .u8 0] 5)) := fun _ => by kernel_rfl
  go_enter Try.func17, Try.ntmps17
  go_wp2
  refine wp_loop_rounds 4 ?_
  rw [rounds_succ]; go_wp2
  rw [rounds_succ]; go_wp2
  rw [rounds_succ]; go_wp2
  rw [rounds_succ]; go_wp2
  refine wp_loop_rounds 4 ?_
  rw [rounds_succ]; go_wp2
  rw [rounds_succ]; go_wp2
  rw [rounds_succ]; go_wp2
  rw [rounds_succ]; go_wp2
  go_ret
  refine ⟨rfl, ?_, by simp, by simp [go_sem], by simp [go_sem], by simp [go_sem]⟩
  exact (((((Below.refl _ w).alloc (Nat.le_refl _) _).alloc (by simp) _).alloc (by simp; omega) _).alloc (by simp; omega) _).alloc (by simp; omega) _

/-- The decimal digits of n, 0 ≤ n ≤ 999, as zzDigits writes them. -/
def digs (n : Int) : List Int := if n < 10 then [48 + n % 10] else if n < 100 then [48 + n / 10 % 10, 48 + n % 10] else [48 + n / 10 / 10 % 10, 48 + n / 10 % 10, 48 + n % 10]

theorem digits_any (n : Int) (w : World) (h1 : 0 ≤ n) (h2 : n ≤ 999) :
    Calls Try.prog 17 #[.int .i64 n] w fun e w' => ∃ D, e = .returned (.slice (some ⟨D, 0, none⟩) (digs n).length (digs n).length) ∧ w.heap.size ≤ D ∧ D < w'.heap.size ∧
      (∀ i, i < (digs n).length → w'.cell? ⟨D, i, none⟩ = some (.int .u8 ((digs n).getD i 0))) ∧ Below w.heap.size w w' := by
  rcases (show n = 0 ∨ (1 ≤ n ∧ n ≤ 9) ∨ (10 ≤ n ∧ n ≤ 99) ∨ 100 ≤ n by omega) with rfl | ⟨a, b⟩ | ⟨a, b⟩ | a
  · refine (digits0 w).mono ?_
    rintro e w' ⟨rfl, hb, hs, c0⟩
    refine ⟨w.heap.size, rfl, Nat.le_refl _, hs, ?_, hb⟩
    intro i hi
    have : i = 0 := by simp [digs] at hi; omega
    subst this; exact c0
  · refine (digits1 n w a b).mono ?_
    rintro e w' ⟨rfl, hb, hs, c0⟩
    have e : digs n = [48 + n % 10] := by unfold digs; rw [if_pos (by omega)]
    rw [e]
    refine ⟨w.heap.size + 1, rfl, by omega, hs, ?_, hb⟩
    intro i hi
    have : i = 0 := by simp at hi; omega
    subst this; exact c0
  · refine (digits2 n w a b).mono ?_
    rintro e w' ⟨rfl, hb, hs, c0, c1⟩
    have e : digs n = [48 + n / 10 % 10, 48 + n % 10] := by unfold digs; rw [if_neg (by omega), if_pos (by omega)]
    rw [e]
    refine ⟨w.heap.size + 1, rfl, by omega, hs, ?_, hb⟩
    intro i hi
    have : i = 0 ∨ i = 1 := by simp at hi; omega
    rcases this with rfl | rfl
    · exact c0
    · exact c1
  · refine (digits3 n w a h2).mono ?_
    rintro e w' ⟨rfl, hb, hs, c0, c1, c2⟩
    have e : digs n = [48 + n / 10 / 10 % 10, 48 + n / 10 % 10, 48 + n % 10] := by unfold digs; rw [if_neg (by omega), if_neg (by omega)]
    rw [e]
    refine ⟨w.heap.size + 1, rfl, by omega, hs, ?_, hb⟩
    intro i hi
    have : i = 0 ∨ i = 1 ∨ i = 2 := by simp at hi; omega
    rcases this with rfl | rfl | rfl
    · exact c0
    · exact c1
    · exact c2
end Go.Proofs.Qxb6601108a
