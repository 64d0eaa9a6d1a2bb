/-
  strings.Cut at the sign '-', parseSlot, parseRange.
-/
import Derived.Test.Qxb6601374aDoorItoa
import Derived.BigQuiet
import Derived.Deep.QuietTactic
import Derived.WalkSmall
import Derived.Lib.SmallJoins
namespace Go.Proofs.Qxb6601374aDoor
open Go.RowKit
set_option linter.unusedVariables false

theorem index45_hit : ∀ (a b : List UInt8), (∀ d ∈ a, d ≠ 45) → Lib.indexByte (a ++ 45 :: b) 45 = a.length
  | [], b, _ => by simp [Lib.indexByte]
  | d :: a, b, h => by
    have ih := index45_hit a b (fun x hx => h x (List.mem_cons_of_mem _ hx))
    have hd : (d == 45) = false := beq_eq_false_iff_ne.2 (h d (List.mem_cons_self ..))
    rw [List.cons_append, Lib.indexByte, hd, ih]
    simp
theorem index45_miss : ∀ (a : List UInt8), (∀ d ∈ a, d ≠ 45) → Lib.indexByte a 45 = -1
  | [], _ => rfl
  | d :: a, h => by
    have ih := index45_miss a (fun x hx => h x (List.mem_cons_of_mem _ hx))
    have hd : (d == 45) = false := beq_eq_false_iff_ne.2 (h d (List.mem_cons_self ..))
    rw [Lib.indexByte, hd, ih]
    simp

set_option maxHeartbeats 1000000 in
theorem cut43_hit (s : ByteArray) (a b : List UInt8) (w : World) (hs : s.data.toList = a ++ 45 :: b) (ha : ∀ d ∈ a, d ≠ 45) (hsz : s.size ≤ 1000) :
    Calls Tryd.prog 43 #[.string s, .string ⟨#[45]⟩] w fun e w' => ∃ x y : ByteArray, e = .returned (.tuple #[.string x, .string y, .bool true]) ∧ x.data.toList = a ∧ y.data.toList = b ∧ ∃ n, w' = w.drewN n := by
  have hcall := Tryd.stringslite_Index_one s 45 w
  rw [hs, index45_hit a b ha] at hcall
  obtain ⟨k, hk⟩ : ∃ k, k = a.length := ⟨_, rfl⟩
  rw [← hk] at hcall
  have hlen : k + 1 ≤ s.size := by rw [Lib.size_eq, hs]; simp; omega
  have hx : Hid ((s.extract 0 k).data.toList = a) := by
    show (s.extract 0 k).data.toList = a
    rw [Lib.extract_data, hs, hk]; simp
  have hy : Hid ((s.extract (k + 1) s.size).data.toList = b) := by
    show (s.extract (k + 1) s.size).data.toList = b
    rw [Lib.extract_data, hs, Lib.size_eq, hs, hk]; simp
    exact List.take_of_length_le (by omega)
  clear hs hk
  go_enter Tryd.func43, Tryd.ntmps43
  go_wp2_with (go_at_call 54; refine hcall.mono ?_; rintro e w' ⟨rfl, hw'⟩; replace hw' := hw'.symm; subst hw')
  go_quiet (fail)
  go_wp2
  go_ret3
  exact ⟨_, _, rfl, hx, hy, _, rfl⟩

theorem cut43_miss (s : ByteArray) (w : World) (ha : ∀ d ∈ s.data.toList, d ≠ 45) :
    Calls Tryd.prog 43 #[.string s, .string ⟨#[45]⟩] w fun e w' => e = .returned (.tuple #[.string s, .string ⟨#[]⟩, .bool false]) ∧ w' = w := by
  have hcall := Tryd.stringslite_Index_one s 45 w
  rw [index45_miss _ ha] at hcall
  clear ha
  go_enter Tryd.func43, Tryd.ntmps43
  go_wp2_with (go_at_call 54; refine hcall.mono ?_; rintro e w' ⟨rfl, hw'⟩; replace hw' := hw'.symm; subst hw')
  go_ret3
  exact ⟨rfl, rfl⟩

theorem cut_hit (s : ByteArray) (a b : List UInt8) (w : World) (hs : s.data.toList = a ++ 45 :: b) (ha : ∀ d ∈ a, d ≠ 45) (hsz : s.size ≤ 1000) :
    Calls Tryd.prog 28 #[.string s, .string ⟨#[45]⟩] w fun e w' => ∃ x y : ByteArray, e = .returned (.tuple #[.string x, .string y, .bool true]) ∧ x.data.toList = a ∧ y.data.toList = b ∧ ∃ n, w' = w.drewN n := by
  have hcall := cut43_hit s a b w hs ha hsz
  clear hs ha
  go_enter Tryd.func28, Tryd.ntmps28
  go_wp2_with (go_at_call 43; refine hcall.mono ?_; rintro e w' ⟨x, y, rfl, hx, hy, n, hw'⟩; subst hw'; have HX : Hid (x.data.toList = a) := hx; have HY : Hid (y.data.toList = b) := hy; clear hx hy)
  go_ret3
  exact ⟨_, _, rfl, HX, HY, _, rfl⟩

theorem cut_miss (s : ByteArray) (w : World) (ha : ∀ d ∈ s.data.toList, d ≠ 45) :
    Calls Tryd.prog 28 #[.string s, .string ⟨#[45]⟩] w fun e w' => e = .returned (.tuple #[.string s, .string ⟨#[]⟩, .bool false]) ∧ w' = w := by
  have hcall := cut43_miss s w ha
  clear ha
  go_enter Tryd.func28, Tryd.ntmps28
  go_wp2_with (go_at_call 43; refine hcall.mono ?_; rintro e w' ⟨rfl, hw'⟩; replace hw' := hw'.symm; subst hw')
  go_ret3
  exact ⟨rfl, rfl⟩

theorem slot_any (s : ByteArray) (n : Int) (w : World) (h1 : 0 ≤ n) (h2 : n ≤ 16383) (hs : s.data.toList = digB n) :
    Calls Tryd.prog 37 #[.string s] w fun e w' => e = .returned (.tuple #[.int .i64 n, .bool true]) ∧ Below w.heap.size w w' := by
  have hcall := Tryd.strconv_Atoi s n (by rw [Lib.size_eq, hs]; have := (digB_len n).2; omega) (by rw [hs]; exact digB_atoi n h1 (by omega)) w
  have hdec : decide (n < 16384) = true := decide_eq_true (by omega)
  clear hs
  go_enter Tryd.func37, Tryd.ntmps37
  go_wp2_with (go_at_call 30; refine hcall.mono ?_; rintro e w1 ⟨rfl, t, hw1⟩; have HB : Hid (Below w.heap.size w w1) := (by rw [hw1]; exact Go.Joins.below_bytesWorld _ w _ t (Nat.le_refl _)); clear hw1)
  go_ret2
  exact ⟨rfl, HB⟩

/-- What stands before the arrow: one slot, or two with the sign '-' between. -/
def slots (single : Bool) (a b : Int) : List UInt8 := if single then digB a else digB a ++ 45 :: digB b

theorem digB_not45 (n : Int) (h1 : 0 ≤ n) (h2 : n ≤ 16383) : ∀ d ∈ digB n, d ≠ 45 := by
  intro d hd e
  have := digB_mem n h1 (by omega) d hd
  rw [e] at this; simp at this

set_option maxHeartbeats 1000000 in
theorem range_two (s : ByteArray) (a b : Int) (w : World) (ha : 0 ≤ a) (hab : a ≤ b) (hb : b ≤ 16383) (hs : s.data.toList = digB a ++ 45 :: digB b) :
    Calls Tryd.prog 23 #[.string s] w fun e w' => e = .returned (.tuple #[.agg #[.int .i64 a, .int .i64 b], .bool true]) ∧ Below w.heap.size w w' := by
  have hcall := fun w => cut_hit s (digB a) (digB b) w hs (digB_not45 a ha (by omega)) (by rw [Lib.size_eq, hs]; have := (digB_len a).2; have := (digB_len b).2; simp; omega)
  have hdec : decide (a ≤ b) = true := decide_eq_true hab
  clear hs
  go_enter Tryd.func23, Tryd.ntmps23
  go_wp2_with fail
  refine (hcall _).mono ?_
  rintro e w1 ⟨x, y, rfl, hx, hy, n, hw1⟩
  have hsl1 := fun w => slot_any x a w ha (by omega) hx
  have hsl2 := fun w => slot_any y b w (by omega) hb hy
  obtain ⟨w0, hw0⟩ : ∃ w0, w0 = w.alloc (Obj.cells #[Value.int .i64 0, Value.int .i64 0] 42) := ⟨_, rfl⟩
  have HB1 : Hid (Below w0.heap.size w0 w1) := by
    rw [hw1, hw0]; exact below_drewN (Below.refl _ _) _
  have HW0 : Hid (w0 = w.alloc (Obj.cells #[Value.int .i64 0, Value.int .i64 0] 42)) := hw0
  clear hx hy hw1 hcall hw0
  go_wp2_with fail
  refine (hsl1 w1).mono ?_
  rintro e w2 ⟨rfl, hb2⟩
  have HB2 : Hid (Below w0.heap.size w0 w2) := HB1.out.trans (hb2.mono HB1.out.size)
  clear hb2
  go_wp2_with fail
  refine (hsl2 w2).mono ?_
  rintro e w3 ⟨rfl, hb3⟩
  have HB3 : Below w0.heap.size w0 w3 := HB2.out.trans (hb3.mono HB2.out.size)
  have hsz0 : w0.heap.size = w.heap.size + 1 := by rw [HW0.out]; simp
  have c0 : w3.cell? ⟨w.heap.size, 0, none⟩ = some (.int .i64 0) := by rw [HB3.cell (p := ⟨w.heap.size, 0, none⟩) (by rw [hsz0]; exact Nat.lt_succ_self _), HW0.out]; simp [go_sem]
  have c1 : w3.cell? ⟨w.heap.size, 1, none⟩ = some (.int .i64 0) := by rw [HB3.cell (p := ⟨w.heap.size, 1, none⟩) (by rw [hsz0]; exact Nat.lt_succ_self _), HW0.out]; simp [go_sem]
  have f0 : w3.frozen? ⟨w.heap.size, 0, none⟩ = false := by rw [HB3.frozen (p := ⟨w.heap.size, 0, none⟩) (by rw [hsz0]; exact Nat.lt_succ_self _), HW0.out]; simp [go_sem]
  have f1 : w3.frozen? ⟨w.heap.size, 1, none⟩ = false := by rw [HB3.frozen (p := ⟨w.heap.size, 1, none⟩) (by rw [hsz0]; exact Nat.lt_succ_self _), HW0.out]; simp [go_sem]
  have HBf : Hid (Below w.heap.size w w3) := by
    have h0 : Below w.heap.size w w0 := by rw [HW0.out]; exact (Below.refl _ _).alloc (Nat.le_refl _) _
    exact h0.trans (HB3.mono h0.size)
  clear hb3 HB3 hsz0
  go_wp2_with fail
  refine bodyPost_ret (v := .tuple #[.agg #[.int .i64 a, .int .i64 b], .bool true]) (by simp [results, Tryd.results23, go_sem, c0, c1]) rfl ⟨rfl, ?_⟩
  exact (HBf.out.setCell (Nat.le_refl _) _).setCell (Nat.le_refl _) _

set_option maxHeartbeats 1000000 in
theorem range_one (s : ByteArray) (a : Int) (w : World) (ha : 0 ≤ a) (hb : a ≤ 16383) (hs : s.data.toList = digB a) :
    Calls Tryd.prog 23 #[.string s] w fun e w' => e = .returned (.tuple #[.agg #[.int .i64 a, .int .i64 a], .bool true]) ∧ Below w.heap.size w w' := by
  have hcall := fun w => cut_miss s w (by rw [hs]; exact digB_not45 a ha hb)
  have hsl1 := fun w => slot_any s a w ha hb hs
  clear hs
  go_enter Tryd.func23, Tryd.ntmps23
  go_wp2_with fail
  refine (hcall _).mono ?_
  rintro e w1 ⟨rfl, hw1⟩
  obtain ⟨w0, hw0⟩ : ∃ w0, w0 = w.alloc (Obj.cells #[Value.int .i64 0, Value.int .i64 0] 42) := ⟨_, rfl⟩
  have HB1 : Hid (Below w0.heap.size w0 w1) := by
    rw [hw1, hw0]; exact Below.refl _ _
  have HW0 : Hid (w0 = w.alloc (Obj.cells #[Value.int .i64 0, Value.int .i64 0] 42)) := hw0
  clear hw1 hcall hw0
  go_wp2_with fail
  refine (hsl1 w1).mono ?_
  rintro e w2 ⟨rfl, hb2⟩
  have HB2 : Hid (Below w0.heap.size w0 w2) := HB1.out.trans (hb2.mono HB1.out.size)
  clear hb2
  go_wp2_with fail
  refine (hsl1 w2).mono ?_
  rintro e w3 ⟨rfl, hb3⟩
  have HB3 : Below w0.heap.size w0 w3 := HB2.out.trans (hb3.mono HB2.out.size)
  have hsz0 : w0.heap.size = w.heap.size + 1 := by rw [HW0.out]; simp
  have c0 : w3.cell? ⟨w.heap.size, 0, none⟩ = some (.int .i64 0) := by rw [HB3.cell (p := ⟨w.heap.size, 0, none⟩) (by rw [hsz0]; exact Nat.lt_succ_self _), HW0.out]; simp [go_sem]
  have c1 : w3.cell? ⟨w.heap.size, 1, none⟩ = some (.int .i64 0) := by rw [HB3.cell (p := ⟨w.heap.size, 1, none⟩) (by rw [hsz0]; exact Nat.lt_succ_self _), HW0.out]; simp [go_sem]
  have f0 : w3.frozen? ⟨w.heap.size, 0, none⟩ = false := by rw [HB3.frozen (p := ⟨w.heap.size, 0, none⟩) (by rw [hsz0]; exact Nat.lt_succ_self _), HW0.out]; simp [go_sem]
  have f1 : w3.frozen? ⟨w.heap.size, 1, none⟩ = false := by rw [HB3.frozen (p := ⟨w.heap.size, 1, none⟩) (by rw [hsz0]; exact Nat.lt_succ_self _), HW0.out]; simp [go_sem]
  have HBf : Hid (Below w.heap.size w w3) := by
    have h0 : Below w.heap.size w w0 := by rw [HW0.out]; exact (Below.refl _ _).alloc (Nat.le_refl _) _
    exact h0.trans (HB3.mono h0.size)
  clear hb3 HB3 hsz0
  go_wp2_with fail
  refine bodyPost_ret (v := .tuple #[.agg #[.int .i64 a, .int .i64 a], .bool true]) (by simp [results, Tryd.results23, go_sem, c0, c1]) rfl ⟨rfl, ?_⟩
  exact (HBf.out.setCell (Nat.le_refl _) _).setCell (Nat.le_refl _) _

theorem range_any (s : ByteArray) (single : Bool) (a b : Int) (w : World) (ha : 0 ≤ a) (hab : a ≤ b) (hb : b ≤ 16383) (hsi : single = true → a = b) (hs : s.data.toList = slots single a b) :
    Calls Tryd.prog 23 #[.string s] w fun e w' => e = .returned (.tuple #[.agg #[.int .i64 a, .int .i64 b], .bool true]) ∧ Below w.heap.size w w' := by
  cases single with
  | true =>
    have e := hsi rfl
    subst e
    exact range_one s a w ha hb hs
  | false => exact range_two s a b w ha hab hb hs
end Go.Proofs.Qxb6601374aDoor
