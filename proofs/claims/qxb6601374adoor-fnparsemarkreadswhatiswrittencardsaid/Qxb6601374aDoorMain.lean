/-
  The walk of FnParseMarkReadsWhatIsWritten.
-/
import Derived.Test.Qxb6601374aDoorZZ
import Derived.OpenShut
import Derived.Laws.StructEq
namespace Go.Proofs.Qxb6601374aDoor
open Go.RowKit
set_option linter.unusedVariables false

theorem data_app (a b : ByteArray) : (a ++ b).data.toList = a.data.toList ++ b.data.toList := by simp [ByteArray.data_append]
theorem size_app (a b : ByteArray) : (a ++ b).size = a.size + b.size := by simp [ByteArray.size_append]
theorem size_one (c : UInt8) : (⟨#[c]⟩ : ByteArray).size = 1 := rfl

set_option maxHeartbeats 4000000 in
set_option maxRecDepth 100000 in
theorem good_single (a k : Int) (node : ByteArray) (w : World) (hsz : node.size ≤ 1048576) (ha : 0 ≤ a) (hb : a ≤ 16383) (h0 : 0 ≤ k) (h3 : k ≤ 3) :
    Calls Tryd.prog 3 #[.int .i64 a, .int .i64 a, .bool true, .int .i64 k, .string node] w fun e w' => e = .returned (.bool true) ∧ Below w.heap.size w w' := by
  have hbd := fun w => bound_any a a k true node w (by omega)
  rw [decide_eq_true hsz] at hbd
  have hit := fun w => itoa_any a w ha (by omega)
  have hsx : (strOfNums (digI a)).size ≤ 5 := by rw [strOfNums_size]; exact (digI_len a).2
  have hdx : (strOfNums (digI a)).data.toList = digB a := rfl
  obtain ⟨x, hx⟩ : ∃ x, x = strOfNums (digI a) := ⟨_, rfl⟩
  rw [← hx] at hit hsx hdx
  clear hx
  have har := fun w => arrow_any k w h0 h3
  have hsr : (⟨(arrowOf k).toArray⟩ : ByteArray).size ≤ 4 := by
    show (arrowOf k).toArray.size ≤ 4
    unfold arrowOf; split <;> (try split) <;> (try split) <;> simp
  have hdr : (⟨(arrowOf k).toArray⟩ : ByteArray).data.toList = arrowOf k := by show (arrowOf k).toArray.toList = arrowOf k; simp
  obtain ⟨r, hr⟩ : ∃ r : ByteArray, r = ⟨(arrowOf k).toArray⟩ := ⟨_, rfl⟩
  rw [← hr] at har hsr hdr
  clear hr
  have htext : (x ++ r ++ node ++ ⟨#[93]⟩ : ByteArray).data.toList = slots true a a ++ (arrowOf k ++ (node.data.toList ++ [93])) := by
    simp only [data_app]
    rw [hdx, hdr]
    simp [slots]
  have htsz : (x ++ r ++ node ++ ⟨#[93]⟩ : ByteArray).size ≤ 4000000 := by
    simp only [size_app, size_one]; omega
  have hmark := fun w => mark_any _ node true a a k w ha (Int.le_refl _) hb (fun _ => rfl) h0 h3 htsz htext
  clear htext htsz hdx hdr
  rcases (show k = 0 ∨ k = 1 ∨ k = 2 ∨ k = 3 by omega) with rfl | rfl | rfl | rfl
  · have hzz : ∀ w, Calls Tryd.prog 10 #[.string (x ++ r ++ node ++ ⟨#[93]⟩)] w fun e w' => e = .returned (.tuple #[.agg #[.int .i64 a, .int .i64 a, .string node, .bool false], .bool true]) ∧ Below w.heap.size w w' := fun w => zz_any _ _ _ _ _ w hmark
    clear hmark
    go_enter Tryd.func3, Tryd.ntmps3
    go_wp2_with (go_at_call 7; refine (hbd _).mono ?_; rintro e w' ⟨rfl, hw'⟩; replace hw' := hw'.symm; subst hw')
    refine (hit _).mono ?_
    rintro e w1 ⟨rfl, hb1⟩
    have HB1 : Hid (Below w.heap.size w w1) := hb1
    clear hb1
    go_wp2_with (go_at_call 9; refine (har _).mono ?_; rintro e w' ⟨rfl, hw'⟩; replace hw' := hw'.symm; subst hw')
    refine (hzz _).mono ?_
    rintro e w3 ⟨rfl, hb3⟩
    have HB3 : Hid (Below w.heap.size w w3) := HB1.out.trans (hb3.mono HB1.out.size)
    clear hb3
    go_wp2_with fail
    go_ret
    exact ⟨rfl, (HB3.out.alloc HB3.out.size _).alloc (by simp; have := HB3.out.size; omega) _⟩
  · have hzz : ∀ w, Calls Tryd.prog 10 #[.string (x ++ r ++ node ++ ⟨#[93]⟩)] w fun e w' => e = .returned (.tuple #[.agg #[.int .i64 a, .int .i64 a, .string ⟨#[]⟩, .bool false], .bool true]) ∧ Below w.heap.size w w' := fun w => zz_any _ _ _ _ _ w hmark
    clear hmark
    go_enter Tryd.func3, Tryd.ntmps3
    go_wp2_with (go_at_call 7; refine (hbd _).mono ?_; rintro e w' ⟨rfl, hw'⟩; replace hw' := hw'.symm; subst hw')
    refine (hit _).mono ?_
    rintro e w1 ⟨rfl, hb1⟩
    have HB1 : Hid (Below w.heap.size w w1) := hb1
    clear hb1
    go_wp2_with (go_at_call 9; refine (har _).mono ?_; rintro e w' ⟨rfl, hw'⟩; replace hw' := hw'.symm; subst hw')
    refine (hzz _).mono ?_
    rintro e w3 ⟨rfl, hb3⟩
    have HB3 : Hid (Below w.heap.size w w3) := HB1.out.trans (hb3.mono HB1.out.size)
    clear hb3
    go_wp2_with fail
    go_ret
    exact ⟨rfl, (HB3.out.alloc HB3.out.size _).alloc (by simp; have := HB3.out.size; omega) _⟩
  · have hzz : ∀ w, Calls Tryd.prog 10 #[.string (x ++ r ++ node ++ ⟨#[93]⟩)] w fun e w' => e = .returned (.tuple #[.agg #[.int .i64 a, .int .i64 a, .string ⟨#[]⟩, .bool false], .bool true]) ∧ Below w.heap.size w w' := fun w => zz_any _ _ _ _ _ w hmark
    clear hmark
    go_enter Tryd.func3, Tryd.ntmps3
    go_wp2_with (go_at_call 7; refine (hbd _).mono ?_; rintro e w' ⟨rfl, hw'⟩; replace hw' := hw'.symm; subst hw')
    refine (hit _).mono ?_
    rintro e w1 ⟨rfl, hb1⟩
    have HB1 : Hid (Below w.heap.size w w1) := hb1
    clear hb1
    go_wp2_with (go_at_call 9; refine (har _).mono ?_; rintro e w' ⟨rfl, hw'⟩; replace hw' := hw'.symm; subst hw')
    refine (hzz _).mono ?_
    rintro e w3 ⟨rfl, hb3⟩
    have HB3 : Hid (Below w.heap.size w w3) := HB1.out.trans (hb3.mono HB1.out.size)
    clear hb3
    go_wp2_with fail
    go_ret
    exact ⟨rfl, (HB3.out.alloc HB3.out.size _).alloc (by simp; have := HB3.out.size; omega) _⟩
  · have hzz : ∀ w, Calls Tryd.prog 10 #[.string (x ++ r ++ node ++ ⟨#[93]⟩)] w fun e w' => e = .returned (.tuple #[.agg #[.int .i64 a, .int .i64 a, .string ⟨#[]⟩, .bool true], .bool true]) ∧ Below w.heap.size w w' := fun w => zz_any _ _ _ _ _ w hmark
    clear hmark
    go_enter Tryd.func3, Tryd.ntmps3
    go_wp2_with (go_at_call 7; refine (hbd _).mono ?_; rintro e w' ⟨rfl, hw'⟩; replace hw' := hw'.symm; subst hw')
    refine (hit _).mono ?_
    rintro e w1 ⟨rfl, hb1⟩
    have HB1 : Hid (Below w.heap.size w w1) := hb1
    clear hb1
    go_wp2_with (go_at_call 9; refine (har _).mono ?_; rintro e w' ⟨rfl, hw'⟩; replace hw' := hw'.symm; subst hw')
    refine (hzz _).mono ?_
    rintro e w3 ⟨rfl, hb3⟩
    have HB3 : Hid (Below w.heap.size w w3) := HB1.out.trans (hb3.mono HB1.out.size)
    clear hb3
    go_wp2_with fail
    go_ret
    exact ⟨rfl, (HB3.out.alloc HB3.out.size _).alloc (by simp; have := HB3.out.size; omega) _⟩
end Go.Proofs.Qxb6601374aDoor
