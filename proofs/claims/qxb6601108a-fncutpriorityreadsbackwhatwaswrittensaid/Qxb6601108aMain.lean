/-
  The walk of FnCutPriorityReadsBackWhatWasWritten.
-/
import Derived.Test.Qxb6601108aRowAt
import Derived.OpenShut
namespace Go.Proofs.Qxb6601108a.fnCutPriorityReadsBackWhatWasWritten
open Go.RowKit
set_option linter.unusedVariables false

set_option maxHeartbeats 1000000 in
theorem walk (a0 : Int) (a1 : Option Addr) (len1 cap1 : Nat) (z1 : List Int) (w : World) (w0 : (Lit.int .i64 a0).wf = true) (w1 : IsRow .u8 w a1 len1 cap1 z1) :
    Calls Try.prog 5 #[.int .i64 a0, .slice a1 len1 cap1] w fun e w' => e = .returned (.bool true) ∧ Below w.heap.size w w' := by
  have hlen : len1 ≤ 9223372036854775807 := by
    rcases w1 with ⟨_, rfl, _⟩ | ⟨x, _, h1, h2, _⟩
    · omega
    · unfold maxLen at h2; omega
  have hp := bounds_i64 w0
  by_cases hl : len1 ≤ 1048576
  case neg =>
    have hf : decide (len1 ≤ 1048576) = false := decide_eq_false hl
    go_enter Try.func5, Try.ntmps5
    go_wp2_with (go_at_call 16; refine (bound_any _ _ _ _ _ hlen).mono ?_; rw [hf]; rintro e w' ⟨rfl, rfl⟩)
    go_ret
    exact ⟨rfl, Below.refl _ _⟩
  have hf : decide (len1 ≤ 1048576) = true := decide_eq_true hl
  by_cases h0 : a0 < 0
  · go_enter Try.func5, Try.ntmps5
    go_wp2_with (go_at_call 16; refine (bound_any _ _ _ _ _ hlen).mono ?_; rw [hf]; rintro e w' ⟨rfl, rfl⟩)
    go_ret
    exact ⟨rfl, Below.refl _ _⟩
  by_cases h1 : 191 < a0
  · go_enter Try.func5, Try.ntmps5
    go_wp2_with (go_at_call 16; refine (bound_any _ _ _ _ _ hlen).mono ?_; rw [hf]; rintro e w' ⟨rfl, rfl⟩)
    go_ret
    exact ⟨rfl, Below.refl _ _⟩
  have hw : IsRow .u8 w a1 len1 cap1 z1 := w1
  have hts : Hid ((z1.take len1).length = len1) := by
    show (z1.take len1).length = len1
    rcases w1 with ⟨_, rfl, _, rfl⟩ | ⟨x, _, h1, _, h3, _⟩
    · rfl
    · rw [List.length_take]; omega
  clear w1 w0
  have d1 := digs_digits a0 (by omega) (by omega)
  have d2 := digs_digits (a0 + 192) (by omega) (by omega)
  have e1 : Hid (dec (digs a0) = a0) := digs_dec a0 (by omega) (by omega)
  have e2 : 191 < dec (digs (a0 + 192)) := by rw [digs_dec _ (by omega) (by omega)]; omega
  have l1 := digs_lead a0 (by omega) (by omega)
  have L1 : Hid _ := l1
  clear l1
  go_enter Try.func5, Try.ntmps5
  go_wp2_with (first
    | (go_at_call 16; refine (bound_any _ _ _ _ _ hlen).mono ?_; rw [hf]; rintro e w' ⟨rfl, hw'⟩; subst hw')
    | (go_at_call 11; refine (clone_row _ _ _ _ _ hw hl).mono ?_; rintro e w1 ⟨ao, rfl, hT1, hb1⟩))
  refine (digits_row a0 w1 (by omega) (by omega)).mono ?_
  rintro e w2 ⟨D1, n1, rfl, hn1, hn1a, hn1b, hD2, hb2⟩
  have hT2 := hT1.below hb2
  go_wp2_with fail
  refine (write0 D1 (digs a0) _ ao w2 n1 len1 hn1 hts hn1b hl hD2 hT2).mono ?_
  rintro e w3 ⟨E1, N1, rfl, hN1, hE3, hb3⟩
  have hT3 := hT2.below hb3
  have hD3 := hD2.below hb3
  go_wp2_with fail
  refine (read0 a0 E1 N1 n1 len1 (digs a0) _ w3 hN1 hn1 hts hn1a hn1b hl d1 hE3 e1 (by omega) (by rw [← show (digs a0).length = n1 from hn1]; exact L1)).mono ?_
  rintro e w4 ⟨ao2, c2, rfl, hao2, hb4⟩
  have hT4 := hT3.below hb4
  have hD4 := hD3.below hb4
  have hE4 := hE3.below hb4
  go_wp2_with fail
  refine (same_tail E1 n1 len1 c2 (digs a0) _ ao2 ao w4 hn1 hts hl hao2 hE4 hT4).mono ?_
  rintro e w5 ⟨rfl, hb5⟩
  have hT5 := hT4.below hb5
  have hD5 := hD4.below hb5
  go_wp2_with fail
  refine (write1 D1 (digs a0) _ ao w5 n1 len1 hn1 hts hn1b hl hD5 hT5).mono ?_
  rintro e w6 ⟨E2, N2, rfl, hN2, hE6, hb6⟩
  have hT6 := hT5.below hb6
  go_wp2_with fail
  refine (read1 E2 N2 n1 len1 (digs a0) _ w6 hN2 hn1 hts hn1a hn1b hl d1 hE6).mono ?_
  rintro e w7 ⟨rfl, rfl⟩
  go_wp2_with fail
  refine (digits_row (a0 + 192) w7 (by omega) (by omega)).mono ?_
  rintro e w8 ⟨D2, n2, rfl, hn2, hn2a, hn2b, hD8, hb8⟩
  have hT8 := hT6.below hb8
  go_wp2_with fail
  refine (write0 D2 (digs (a0 + 192)) _ ao w8 n2 len1 hn2 hts hn2b hl hD8 hT8).mono ?_
  rintro e w9 ⟨E3, N3, rfl, hN3, hE9, hb9⟩
  go_wp2_with fail
  refine (read2 E3 N3 n2 len1 (digs (a0 + 192)) _ w9 hN3 hn2 hts hn2a hn2b hl d2 hE9 e2).mono ?_
  rintro e w10 ⟨rfl, rfl⟩
  go_wp2_with fail
  go_ret
  refine ⟨rfl, ?_⟩
  have s1 := hb1.size; have s2 := hb2.size; have s3 := hb3.size; have s4 := hb4.size; have s5 := hb5.size; have s6 := hb6.size; have s8 := hb8.size
  exact (((((((hb1.trans (hb2.mono (by omega))).trans (hb3.mono (by omega))).trans (hb4.mono (by omega))).trans (hb5.mono (by omega))).trans (hb6.mono (by omega))).trans (hb8.mono (by omega))).trans (hb9.mono (by omega)))
end Go.Proofs.Qxb6601108a.fnCutPriorityReadsBackWhatWasWritten
