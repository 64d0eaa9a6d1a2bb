/-
  The walk of FnParseMarkReadsWhatIsWritten, two slots; and whole.
-/
import Derived.Test.Qxb6601374aDoorMain
namespace Go.Proofs.Qxb6601374aDoor
open Go.RowKit
set_option linter.unusedVariables false

set_option maxHeartbeats 4000000 in
set_option maxRecDepth 100000 in
theorem good_two (a b k : Int) (node : ByteArray) (w : World) (hsz : node.size ≤ 1048576) (ha : 0 ≤ a) (hab : a ≤ b) (hb : b ≤ 16383) (h0 : 0 ≤ k) (h3 : k ≤ 3) :
    Calls Tryd.prog 3 #[.int .i64 a, .int .i64 b, .bool false, .int .i64 k, .string node] w fun e w' => e = .returned (.bool true) ∧ Below w.heap.size w w' := by
  have hbd := fun w => bound_any a b k false node w (by omega)
  rw [decide_eq_true hsz] at hbd
  have hit := fun w => itoa_any a w ha (by omega)
  have hsx : (strOfNums (digI a)).size ≤ 5 := by rw [strOfNums_size]; exact (digI_len a).2
  have hdx : (strOfNums (digI a)).data.toList = digB a := rfl
  obtain ⟨x, hx⟩ : ∃ x, x = strOfNums (digI a) := ⟨_, rfl⟩
  rw [← hx] at hit hsx hdx
  clear hx
  have hit2 := fun w => itoa_any b w (by omega) (by omega)
  have hsy : (strOfNums (digI b)).size ≤ 5 := by rw [strOfNums_size]; exact (digI_len b).2
  have hdy : (strOfNums (digI b)).data.toList = digB b := rfl
  obtain ⟨y, hy⟩ : ∃ y, y = strOfNums (digI b) := ⟨_, rfl⟩
  rw [← hy] at hit2 hsy hdy
  clear hy
  have har := fun w => arrow_any k w h0 h3
  have hsr : (⟨(arrowOf k).toArray⟩ : ByteArray).size ≤ 4 := by
    show (arrowOf k).toArray.size ≤ 4
    unfold arrowOf; split <;> (try split) <;> (try split) <;> simp
  have hdr : (⟨(arrowOf k).toArray⟩ : ByteArray).data.toList = arrowOf k := by show (arrowOf k).toArray.toList = arrowOf k; simp
  obtain ⟨r, hr⟩ : ∃ r : ByteArray, r = ⟨(arrowOf k).toArray⟩ := ⟨_, rfl⟩
  rw [← hr] at har hsr hdr
  clear hr
  have htext : (x ++ ⟨#[45]⟩ ++ y ++ r ++ node ++ ⟨#[93]⟩ : ByteArray).data.toList = slots false a b ++ (arrowOf k ++ (node.data.toList ++ [93])) := by
    simp only [data_app]
    rw [hdx, hdr, hdy]
    simp [slots]
  have htsz : (x ++ ⟨#[45]⟩ ++ y ++ r ++ node ++ ⟨#[93]⟩ : ByteArray).size ≤ 4000000 := by
    simp only [size_app, size_one]; omega
  have hmark := fun w => mark_any _ node false a b k w ha hab hb (fun h => Bool.noConfusion h) h0 h3 htsz htext
  clear htext htsz hdx hdr hdy
  rcases (show k = 0 ∨ k = 1 ∨ k = 2 ∨ k = 3 by omega) with rfl | rfl | rfl | rfl
  · have hzz : ∀ w, Calls Tryd.prog 10 #[.string (x ++ ⟨#[45]⟩ ++ y ++ r ++ node ++ ⟨#[93]⟩)] w fun e w' => e = .returned (.tuple #[.agg #[.int .i64 a, .int .i64 b, .string node, .bool false], .bool true]) ∧ Below w.heap.size w w' := fun w => zz_any _ _ _ _ _ w hmark
    clear hmark
    go_enter Tryd.func3, Tryd.ntmps3
    go_wp2_with (go_at_call 7; refine (hbd _).mono ?_; rintro e w' ⟨rfl, hw'⟩; replace hw' := hw'.symm; subst hw')
    refine (hit _).mono ?_
    rintro e w1 ⟨rfl, hb1⟩
    have HB1 : Hid (Below w.heap.size w w1) := hb1
    clear hb1
    go_wp2_with fail
    refine (hit2 _).mono ?_
    rintro e w2 ⟨rfl, hb2⟩
    have HB2 : Hid (Below w.heap.size w w2) := HB1.out.trans (hb2.mono HB1.out.size)
    clear hb2
    go_wp2_with (go_at_call 9; refine (har _).mono ?_; rintro e w' ⟨rfl, hw'⟩; replace hw' := hw'.symm; subst hw')
    refine (hzz _).mono ?_
    rintro e w3 ⟨rfl, hb3⟩
    have HB3 : Hid (Below w.heap.size w w3) := HB2.out.trans (hb3.mono HB2.out.size)
    clear hb3
    go_wp2_with fail
    go_ret
    exact ⟨rfl, (HB3.out.alloc HB3.out.size _).alloc (by simp; have := HB3.out.size; omega) _⟩
  · have hzz : ∀ w, Calls Tryd.prog 10 #[.string (x ++ ⟨#[45]⟩ ++ y ++ r ++ node ++ ⟨#[93]⟩)] w fun e w' => e = .returned (.tuple #[.agg #[.int .i64 a, .int .i64 b, .string ⟨#[]⟩, .bool false], .bool true]) ∧ Below w.heap.size w w' := fun w => zz_any _ _ _ _ _ w hmark
    clear hmark
    go_enter Tryd.func3, Tryd.ntmps3
    go_wp2_with (go_at_call 7; refine (hbd _).mono ?_; rintro e w' ⟨rfl, hw'⟩; replace hw' := hw'.symm; subst hw')
    refine (hit _).mono ?_
    rintro e w1 ⟨rfl, hb1⟩
    have HB1 : Hid (Below w.heap.size w w1) := hb1
    clear hb1
    go_wp2_with fail
    refine (hit2 _).mono ?_
    rintro e w2 ⟨rfl, hb2⟩
    have HB2 : Hid (Below w.heap.size w w2) := HB1.out.trans (hb2.mono HB1.out.size)
    clear hb2
    go_wp2_with (go_at_call 9; refine (har _).mono ?_; rintro e w' ⟨rfl, hw'⟩; replace hw' := hw'.symm; subst hw')
    refine (hzz _).mono ?_
    rintro e w3 ⟨rfl, hb3⟩
    have HB3 : Hid (Below w.heap.size w w3) := HB2.out.trans (hb3.mono HB2.out.size)
    clear hb3
    go_wp2_with fail
    go_ret
    exact ⟨rfl, (HB3.out.alloc HB3.out.size _).alloc (by simp; have := HB3.out.size; omega) _⟩
  · have hzz : ∀ w, Calls Tryd.prog 10 #[.string (x ++ ⟨#[45]⟩ ++ y ++ r ++ node ++ ⟨#[93]⟩)] w fun e w' => e = .returned (.tuple #[.agg #[.int .i64 a, .int .i64 b, .string ⟨#[]⟩, .bool false], .bool true]) ∧ Below w.heap.size w w' := fun w => zz_any _ _ _ _ _ w hmark
    clear hmark
    go_enter Tryd.func3, Tryd.ntmps3
    go_wp2_with (go_at_call 7; refine (hbd _).mono ?_; rintro e w' ⟨rfl, hw'⟩; replace hw' := hw'.symm; subst hw')
    refine (hit _).mono ?_
    rintro e w1 ⟨rfl, hb1⟩
    have HB1 : Hid (Below w.heap.size w w1) := hb1
    clear hb1
    go_wp2_with fail
    refine (hit2 _).mono ?_
    rintro e w2 ⟨rfl, hb2⟩
    have HB2 : Hid (Below w.heap.size w w2) := HB1.out.trans (hb2.mono HB1.out.size)
    clear hb2
    go_wp2_with (go_at_call 9; refine (har _).mono ?_; rintro e w' ⟨rfl, hw'⟩; replace hw' := hw'.symm; subst hw')
    refine (hzz _).mono ?_
    rintro e w3 ⟨rfl, hb3⟩
    have HB3 : Hid (Below w.heap.size w w3) := HB2.out.trans (hb3.mono HB2.out.size)
    clear hb3
    go_wp2_with fail
    go_ret
    exact ⟨rfl, (HB3.out.alloc HB3.out.size _).alloc (by simp; have := HB3.out.size; omega) _⟩
  · have hzz : ∀ w, Calls Tryd.prog 10 #[.string (x ++ ⟨#[45]⟩ ++ y ++ r ++ node ++ ⟨#[93]⟩)] w fun e w' => e = .returned (.tuple #[.agg #[.int .i64 a, .int .i64 b, .string ⟨#[]⟩, .bool true], .bool true]) ∧ Below w.heap.size w w' := fun w => zz_any _ _ _ _ _ w hmark
    clear hmark
    go_enter Tryd.func3, Tryd.ntmps3
    go_wp2_with (go_at_call 7; refine (hbd _).mono ?_; rintro e w' ⟨rfl, hw'⟩; replace hw' := hw'.symm; subst hw')
    refine (hit _).mono ?_
    rintro e w1 ⟨rfl, hb1⟩
    have HB1 : Hid (Below w.heap.size w w1) := hb1
    clear hb1
    go_wp2_with fail
    refine (hit2 _).mono ?_
    rintro e w2 ⟨rfl, hb2⟩
    have HB2 : Hid (Below w.heap.size w w2) := HB1.out.trans (hb2.mono HB1.out.size)
    clear hb2
    go_wp2_with (go_at_call 9; refine (har _).mono ?_; rintro e w' ⟨rfl, hw'⟩; replace hw' := hw'.symm; subst hw')
    refine (hzz _).mono ?_
    rintro e w3 ⟨rfl, hb3⟩
    have HB3 : Hid (Below w.heap.size w w3) := HB2.out.trans (hb3.mono HB2.out.size)
    clear hb3
    go_wp2_with fail
    go_ret
    exact ⟨rfl, (HB3.out.alloc HB3.out.size _).alloc (by simp; have := HB3.out.size; omega) _⟩

set_option maxHeartbeats 1000000 in
theorem walk (a0 a1 : Int) (b2 : Bool) (a3 : Int) (s4 : ByteArray) (w : World) (w0 : (Lit.int .i64 a0).wf = true) (w1 : (Lit.int .i64 a1).wf = true) (w3 : (Lit.int .i64 a3).wf = true) (hs : s4.size ≤ 9223372036854775807) :
    Calls Tryd.prog 3 #[.int .i64 a0, .int .i64 a1, .bool b2, .int .i64 a3, .string s4] w fun e w' => e = .returned (.bool true) ∧ Below w.heap.size w w' := by
  have hp0 := bounds_i64 w0
  have hp1 := bounds_i64 w1
  have hp3 := bounds_i64 w3
  clear w0 w1 w3
  have hbd := fun w => bound_any a0 a1 a3 b2 s4 w hs
  by_cases hl : s4.size ≤ 1048576
  case neg =>
    rw [decide_eq_false hl] at hbd
    go_enter Tryd.func3, Tryd.ntmps3
    go_wp2_with (go_at_call 7; refine (hbd _).mono ?_; rintro e w' ⟨rfl, rfl⟩)
    go_ret
    exact ⟨rfl, Below.refl _ _⟩
  rw [decide_eq_true hl] at hbd
  by_cases h1 : a0 < 0
  · go_enter Tryd.func3, Tryd.ntmps3
    go_wp2_with (go_at_call 7; refine (hbd _).mono ?_; rintro e w' ⟨rfl, rfl⟩)
    go_ret
    exact ⟨rfl, Below.refl _ _⟩
  by_cases h2 : a1 < a0
  · go_enter Tryd.func3, Tryd.ntmps3
    go_wp2_with (go_at_call 7; refine (hbd _).mono ?_; rintro e w' ⟨rfl, rfl⟩)
    go_ret
    exact ⟨rfl, Below.refl _ _⟩
  by_cases h3 : 16384 ≤ a1
  · go_enter Tryd.func3, Tryd.ntmps3
    go_wp2_with (go_at_call 7; refine (hbd _).mono ?_; rintro e w' ⟨rfl, rfl⟩)
    go_ret
    exact ⟨rfl, Below.refl _ _⟩
  by_cases h4 : a3 < 0
  · go_enter Tryd.func3, Tryd.ntmps3
    go_wp2_with (go_at_call 7; refine (hbd _).mono ?_; rintro e w' ⟨rfl, rfl⟩)
    go_ret
    exact ⟨rfl, Below.refl _ _⟩
  by_cases h5 : 3 < a3
  · go_enter Tryd.func3, Tryd.ntmps3
    go_wp2_with (go_at_call 7; refine (hbd _).mono ?_; rintro e w' ⟨rfl, rfl⟩)
    go_ret
    exact ⟨rfl, Below.refl _ _⟩
  cases b2 with
  | false => exact good_two a0 a1 a3 s4 w hl (by omega) (by omega) (by omega) (by omega) (by omega)
  | true =>
    by_cases h6 : a0 = a1
    · subst h6
      exact good_single a0 a3 s4 w hl (by omega) (by omega) (by omega) (by omega)
    · have h6' : (a0 != a1) = true := by simpa using h6
      go_enter Tryd.func3, Tryd.ntmps3
      go_wp2_with (go_at_call 7; refine (hbd _).mono ?_; rintro e w' ⟨rfl, rfl⟩)
      go_ret
      exact ⟨rfl, Below.refl _ _⟩
end Go.Proofs.Qxb6601374aDoor
