/-
  zzMarkOf, ZZParseMark.
-/
import Derived.Test.Qxb6601374aDoorMark
namespace Go.Proofs.Qxb6601374aDoor
open Go.RowKit
set_option linter.unusedVariables false

set_option maxHeartbeats 1000000 in
theorem of_any (a b : Int) (t : ByteArray) (r : Bool) (w : World) :
    Calls Tryd.prog 19 #[.agg #[.int .i64 a, .int .i64 b, .string t, .bool r]] w fun e w' => e = .returned (.agg #[.int .i64 a, .int .i64 b, .string t, .bool r]) ∧ Below w.heap.size w w' := by
  go_enter Tryd.func19, Tryd.ntmps19
  go_wp2
  refine bodyPost_ret (v := .agg #[.int .i64 a, .int .i64 b, .string t, .bool r]) (by simp [results, Tryd.results19, go_sem]) rfl ⟨rfl, ?_⟩
  exact ((Below.refl _ w).alloc (Nat.le_refl _) _).alloc (by simp) _

set_option maxHeartbeats 2000000 in
theorem zz_any (s t : ByteArray) (a b : Int) (r : Bool) (w : World)
    (hm : ∀ w, Calls Tryd.prog 18 #[.string s] w fun e w' => e = .returned (.tuple #[.agg #[.int .i64 a, .int .i64 b, .string t, .bool r], .bool true]) ∧ Below w.heap.size w w') :
    Calls Tryd.prog 10 #[.string s] w fun e w' => e = .returned (.tuple #[.agg #[.int .i64 a, .int .i64 b, .string t, .bool r], .bool true]) ∧ Below w.heap.size w w' := by
  go_enter Tryd.func10, Tryd.ntmps10
  go_wp2_with fail
  refine (hm _).mono ?_
  rintro e w1 ⟨rfl, hb1⟩
  obtain ⟨w0, hw0⟩ : ∃ w0, w0 = w.alloc (Obj.cells #[Value.int .i64 0, Value.int .i64 0, Value.string ⟨#[]⟩, Value.bool false] 25) := ⟨_, rfl⟩
  rw [← hw0] at hb1
  have HB1 : Hid (Below w0.heap.size w0 w1) := hb1
  have HW0 : Hid (w0 = w.alloc (Obj.cells #[Value.int .i64 0, Value.int .i64 0, Value.string ⟨#[]⟩, Value.bool false] 25)) := hw0
  clear hb1 hw0 hm
  go_wp2_with fail
  refine (of_any a b t r _).mono ?_
  rintro e w2 ⟨rfl, hb2⟩
  have HB2 : Below w0.heap.size w0 w2 := (HB1.out.alloc HB1.out.size _).trans (hb2.mono (by simp; have := HB1.out.size; omega))
  have hsz0 : w.heap.size < w0.heap.size := by rw [HW0.out]; simp
  have hsz2 : w.heap.size < w2.heap.size := Nat.lt_of_lt_of_le hsz0 HB2.size
  have cc : ∀ j, w2.cell? ⟨w.heap.size, j, none⟩ = w0.cell? ⟨w.heap.size, j, none⟩ := fun j => HB2.cell (p := ⟨w.heap.size, j, none⟩) hsz0
  have ff : ∀ j, w2.frozen? ⟨w.heap.size, j, none⟩ = w0.frozen? ⟨w.heap.size, j, none⟩ := fun j => HB2.frozen (p := ⟨w.heap.size, j, none⟩) hsz0
  have c0 : w2.cell? ⟨w.heap.size, 0, none⟩ = some (.int .i64 0) := by rw [cc, HW0.out]; simp [go_sem]
  have c1 : w2.cell? ⟨w.heap.size, 1, none⟩ = some (.int .i64 0) := by rw [cc, HW0.out]; simp [go_sem]
  have c2 : w2.cell? ⟨w.heap.size, 2, none⟩ = some (.string ⟨#[]⟩) := by rw [cc, HW0.out]; simp [go_sem]
  have c3 : w2.cell? ⟨w.heap.size, 3, none⟩ = some (.bool false) := by rw [cc, HW0.out]; simp [go_sem]
  have f0 : w2.frozen? ⟨w.heap.size, 0, none⟩ = false := by rw [ff, HW0.out]; simp [go_sem]
  have f1 : w2.frozen? ⟨w.heap.size, 1, none⟩ = false := by rw [ff, HW0.out]; simp [go_sem]
  have f2 : w2.frozen? ⟨w.heap.size, 2, none⟩ = false := by rw [ff, HW0.out]; simp [go_sem]
  have f3 : w2.frozen? ⟨w.heap.size, 3, none⟩ = false := by rw [ff, HW0.out]; simp [go_sem]
  have HBf : Hid (Below w.heap.size w w2) := by
    have h0 : Below w.heap.size w w0 := by rw [HW0.out]; exact (Below.refl _ _).alloc (Nat.le_refl _) _
    exact h0.trans (HB2.mono h0.size)
  clear hb2 HB2 hsz0 cc ff
  go_wp2_with fail
  refine bodyPost_ret (v := .tuple #[.agg #[.int .i64 a, .int .i64 b, .string t, .bool r], .bool true]) (by simp [results, Tryd.results10, go_sem, c0, c1, c2, c3]) rfl ⟨rfl, ?_⟩
  exact (((HBf.out.setCell (Nat.le_refl _) _).setCell (Nat.le_refl _) _).setCell (Nat.le_refl _) _).setCell (Nat.le_refl _) _
end Go.Proofs.Qxb6601374aDoor
