/-
  strings.IndexAny(s, two arrow heads), where an ASCII part without either stands before the first.
-/
import Derived.Test.Qxb6601374aDoorRange
import Derived.Lib.IndexAny
import Derived.Lib.IndexBytes
import Derived.Laws.RangeString
import Derived.Laws.Strings3
import Derived.Deep.LoopGhost
namespace Go.Proofs.Qxb6601374aDoor
open Go.RowKit Go.Lib
set_option linter.unusedVariables false

theorem info77 : (Tryd.prog.info? 77).map (fun i => (i.zero, i.size)) = some (some (.agg (Array.replicate 256 (.bool false))), 256) := by kernel_rfl

def heads : List UInt8 := [60, 62]

theorem noAny_pre {pre : List UInt8} {l : List UInt8} (h : ∀ d ∈ pre, d ≠ 60 ∧ d ≠ 62) : NoAny (pre ++ l) heads pre.length := by
  intro j b hj hb
  rw [List.getElem?_append_left hj] at hb
  have := h b (List.mem_of_getElem? hb)
  simp [heads, this.1, this.2]

theorem head_mem {c : UInt8} (hc : c = 60 ∨ c = 62) : heads.contains c = true := by
  rcases hc with rfl | rfl <;> decide

set_option maxHeartbeats 8000000 in
set_option maxRecDepth 1000000 in
theorem any_short (s : ByteArray) (pre rest : List UInt8) (c : UInt8) (w : World) (hs : s.data.toList = pre ++ c :: rest) (hp : ∀ d ∈ pre, d ≠ 60 ∧ d ≠ 62) (ha : ∀ d ∈ pre, d.toNat < 128) (hc : c = 60 ∨ c = 62) (h8 : s.size ≤ 8) :
    Calls Tryd.prog 22 #[.string s, .string ⟨#[60, 62]⟩] w fun e w' => e = .returned (.int .i64 pre.length) ∧ Below w.heap.size w w' := by
  obtain ⟨k, hk⟩ : ∃ k, k = pre.length := ⟨_, rfl⟩
  rw [← hk]
  have hks : k < s.size := by rw [Lib.size_eq, hs, hk]; simp
  have HA : Aside (∀ (j : Nat) b, j ≤ k → s.data.toList[j]? = some b → b.toNat < 128) := by
    intro j b hj hb
    rw [hs] at hb
    by_cases hjk : j < pre.length
    · rw [List.getElem?_append_left hjk] at hb
      exact ha b (List.mem_of_getElem? hb)
    · have : j = pre.length := by omega
      subst this
      simp at hb; subst hb
      rcases hc with rfl | rfl <;> decide
  have HI : Aside (∀ (j : Nat) b, j < k → s.data.toList[j]? = some b → heads.contains b = false) := by
    have := noAny_pre (l := c :: rest) hp
    rw [← hs, ← hk] at this; exact this
  have HH : Aside (∀ b, s.data.toList[k]? = some b → heads.contains b = true) := by
    intro b hb
    rw [hs, hk] at hb
    simp at hb; subst hb; exact head_mem hc
  clear hs hp ha hc hk
  have h8z : decide ((8 : Int) < (s.size : Int)) = false := decide_eq_false (by omega)
  go_enter Tryd.func22, Tryd.ntmps22
  go_wp2_with (go_at_call 34; refine (Tryd.strings_shouldUseASCIISet _ _).mono ?_; rintro e w' ⟨rfl, hw⟩; rw [hw, h8z])
  go_loopg [9, 10] k (fun g _ _ wx => ∃ i : Nat, i + g = k ∧ wx = w.iter s i)
  case atStart => exact ⟨0, by omega, rfl⟩
  case round =>
    obtain ⟨i, hig, rfl⟩ := hrel
    have hi : i < s.size := by omega
    obtain ⟨x, hx⟩ : ∃ x : UInt8, s[i]'hi = x := ⟨_, rfl⟩
    have hxl : s.data.toList[i]? = some x := by rw [← hx]; exact Lib.data_getElem? s i hi
    have hx128 : x.toNat < 128 := HA.out i x (by omega) hxl
    have hnx := fun ty => run_next_ascii (P := Tryd.prog) w s i ty hi (by rw [hx]; exact hx128)
    rw [hx] at hnx
    have hcon := Lib.contains_iff_indexByte heads x
    have hback : ((x.toNat : Int)).toNat.toUInt8 = x := by simp
    cases gk with
    | zero =>
      obtain rfl : i = k := by omega
      rw [HH.out x hxl] at hcon
      have hge : (0 : Int) ≤ Lib.indexByte heads x := of_decide_eq_true hcon.symm
      clear hcon hx hxl
      have hr := fun w => Tryd.strings_IndexRune_ascii ⟨#[60, 62]⟩ x.toNat w (by omega) (by omega)
      rw [hback] at hr
      obtain ⟨v, hv⟩ : ∃ v, v = Lib.indexByte heads x := ⟨_, rfl⟩
      have hr' : ∀ w, Calls Tryd.prog 33 #[.string ⟨#[60, 62]⟩, .int .i32 x.toNat] w fun e w' => e = .returned (.int .i64 v) ∧ w' = w := by rw [hv]; exact hr
      rw [← hv] at hge
      clear hr hv
      go_wp2_with (go_at_call 33; refine (hr' _).mono ?_; rintro e w' ⟨rfl, hw⟩; rw [hw])
      go_ret
      exact ⟨rfl, (Below.refl _ _).alloc (Nat.le_refl _) _⟩
    | succ g =>
      rw [HI.out i x (by omega) hxl] at hcon
      have hlt : ¬ ((0 : Int) ≤ Lib.indexByte heads x) := of_decide_eq_false hcon.symm
      clear hcon hx hxl
      have hr := fun w => Tryd.strings_IndexRune_ascii ⟨#[60, 62]⟩ x.toNat w (by omega) (by omega)
      rw [hback] at hr
      obtain ⟨v, hv⟩ : ∃ v, v = Lib.indexByte heads x := ⟨_, rfl⟩
      have hr' : ∀ w, Calls Tryd.prog 33 #[.string ⟨#[60, 62]⟩, .int .i32 x.toNat] w fun e w' => e = .returned (.int .i64 v) ∧ w' = w := by rw [hv]; exact hr
      rw [← hv] at hlt
      clear hr hv
      go_wp2_with (go_at_call 33; refine (hr' _).mono ?_; rintro e w' ⟨rfl, hw⟩; rw [hw])
      go_roundg g
      case measure => omega
      case rel => exact ⟨i + 1, by omega, rfl⟩

theorem any_at (s : ByteArray) (pre rest : List UInt8) (c : UInt8) (w : World) (hs : s.data.toList = pre ++ c :: rest) (hp : ∀ d ∈ pre, d ≠ 60 ∧ d ≠ 62) (ha : ∀ d ∈ pre, d.toNat < 128) (hc : c = 60 ∨ c = 62) (hsz : s.size ≤ 4000000) :
    Calls Tryd.prog 22 #[.string s, .string ⟨#[60, 62]⟩] w fun e w' => e = .returned (.int .i64 pre.length) ∧ Below w.heap.size w w' := by
  by_cases h8 : s.size ≤ 8
  · exact any_short s pre rest c w hs hp ha hc h8
  · refine (Tryd.strings_IndexAny_long (zero_of_info info77).1 s ⟨#[60, 62]⟩ w (by decide) (by omega) (by omega) (by decide) ?_).mono ?_
    · intro j b hb
      match j, hb with
      | 0, hb => simp at hb; subst hb; decide
      | 1, hb => simp at hb; subst hb; decide
      | j + 2, hb => simp at hb
    · rintro e w' ⟨rfl, rfl⟩
      refine ⟨?_, ((Below.refl _ _).alloc (Nat.le_refl _) _).alloc (by simp) _⟩
      have h1 : NoAny s.data.toList heads pre.length := by rw [hs]; exact noAny_pre hp
      have h2 := indexAny_hit h1 (x := c) (by rw [hs]; simp) (head_mem hc)
      show Ending.returned (.int .i64 (Lib.indexAny s.data.toList heads)) = _
      rw [h2]
end Go.Proofs.Qxb6601374aDoor
