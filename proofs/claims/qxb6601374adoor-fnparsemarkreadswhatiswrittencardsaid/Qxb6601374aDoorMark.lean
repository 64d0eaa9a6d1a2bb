/-
  parseMark, zzMarkOf, ZZParseMark.
-/
import Derived.Test.Qxb6601374aDoorIndex
import Derived.Lib.Strings
namespace Go.Proofs.Qxb6601374aDoor
open Go.RowKit
set_option linter.unusedVariables false

theorem trim_any (x : ByteArray) (A : List UInt8) (w : World) (hx : x.data.toList = A ++ [93]) (hsz : x.size ≤ 4000000) :
    Calls Tryd.prog 24 #[.string x, .string ⟨#[93]⟩] w fun e w' => ∃ y : ByteArray, e = .returned (.string y) ∧ y.data.toList = A ∧ w' = w := by
  refine (Tryd.strings_TrimSuffix x ⟨#[93]⟩ w (by omega)).mono ?_
  rintro e w' ⟨rfl, hw⟩
  refine ⟨_, rfl, ?_, hw⟩
  show Lib.trimSuffix x.data.toList [93] = A
  rw [hx]
  have h : Lib.hasSuffix (A ++ [93]) [93] = true := by simp [Lib.hasSuffix]
  rw [Lib.trimSuffix, if_pos h]
  simp

theorem cutp_yes (y node : ByteArray) (w : World) (hy : y.data.toList = [45, 62, 45] ++ node.data.toList) :
    Calls Tryd.prog 25 #[.string y, .string ⟨#[45, 62, 45]⟩] w fun e w' => e = .returned (.tuple #[.string node, .bool true]) ∧ w' = w := by
  refine (Tryd.strings_CutPrefix y ⟨#[45, 62, 45]⟩ w).mono ?_
  rintro e w' ⟨rfl, hw⟩
  refine ⟨?_, hw⟩
  show Ending.returned (.tuple #[.string ⟨(Lib.trimPrefix y.data.toList [45, 62, 45]).toArray⟩, .bool (Lib.hasPrefix y.data.toList [45, 62, 45])]) = _
  have h : Lib.hasPrefix ([45, 62, 45] ++ node.data.toList) [45, 62, 45] = true := by simp [Lib.hasPrefix]
  rw [hy, Lib.trimPrefix, h, if_pos rfl]
  have e : List.drop ([45, 62, 45] : List UInt8).length (([45, 62, 45] : List UInt8) ++ node.data.toList) = node.data.toList := by simp
  rw [e, Lib.mk_data]

theorem cutp_no (y : ByteArray) (w : World) (hy : Lib.hasPrefix y.data.toList [45, 62, 45] = false) :
    Calls Tryd.prog 25 #[.string y, .string ⟨#[45, 62, 45]⟩] w fun e w' => e = .returned (.tuple #[.string y, .bool false]) ∧ w' = w := by
  refine (Tryd.strings_CutPrefix y ⟨#[45, 62, 45]⟩ w).mono ?_
  rintro e w' ⟨rfl, hw⟩
  refine ⟨?_, hw⟩
  show Ending.returned (.tuple #[.string ⟨(Lib.trimPrefix y.data.toList [45, 62, 45]).toArray⟩, .bool (Lib.hasPrefix y.data.toList [45, 62, 45])]) = _
  rw [Lib.trimPrefix, hy, if_neg (by simp), Lib.mk_data]

theorem hasp_any (y : ByteArray) (b : Bool) (w : World) (hy : Lib.hasPrefix y.data.toList [45, 60, 60, 45] = b) :
    Calls Tryd.prog 26 #[.string y, .string ⟨#[45, 60, 60, 45]⟩] w fun e w' => e = .returned (.bool b) ∧ w' = w := by
  refine (Tryd.strings_HasPrefix y ⟨#[45, 60, 60, 45]⟩ w).mono ?_
  rintro e w' ⟨rfl, hw⟩
  refine ⟨?_, hw⟩
  show Ending.returned (.bool (Lib.hasPrefix y.data.toList [45, 60, 60, 45])) = _
  rw [hy]

theorem slots_not (single : Bool) (a b : Int) (ha : 0 ≤ a) (hab : a ≤ b) (hb : b ≤ 16383) : ∀ d ∈ slots single a b, (d ≠ 60 ∧ d ≠ 62) ∧ d.toNat < 128 := by
  have key : ∀ n, 0 ≤ n → n ≤ 16383 → ∀ d ∈ digB n, (d ≠ 60 ∧ d ≠ 62) ∧ d.toNat < 128 := by
    intro n h1 h2 d hd
    have := digB_mem n h1 (by omega) d hd
    refine ⟨⟨fun e => ?_, fun e => ?_⟩, by omega⟩ <;> (rw [e] at this; simp at this)
  intro d hd
  cases single with
  | true => exact key a ha (by omega) d hd
  | false =>
    rcases List.mem_append.1 (show d ∈ digB a ++ 45 :: digB b from hd) with h | h
    · exact key a ha (by omega) d h
    · rcases List.mem_cons.1 h with rfl | h
      · decide
      · exact key b (by omega) hb d h

theorem slots_len (single : Bool) (a b : Int) : 1 ≤ (slots single a b).length ∧ (slots single a b).length ≤ 11 := by
  have h1 := digB_len a; have h2 := digB_len b
  cases single with
  | true => show 1 ≤ (digB a).length ∧ (digB a).length ≤ 11; omega
  | false => show 1 ≤ (digB a ++ 45 :: digB b).length ∧ (digB a ++ 45 :: digB b).length ≤ 11; simp; omega

/-- The arrow's second byte, and what follows. -/
def arrowHead (k : Int) : UInt8 := if k = 0 ∨ k = 2 then 62 else 60
def arrowTail (k : Int) : List UInt8 := if k = 0 then [45] else if k = 1 then [45] else if k = 2 then [62, 45] else [60, 45]
theorem arrow_split (k : Int) (h0 : 0 ≤ k) (h3 : k ≤ 3) : arrowOf k = 45 :: arrowHead k :: arrowTail k := by
  rcases (show k = 0 ∨ k = 1 ∨ k = 2 ∨ k = 3 by omega) with rfl | rfl | rfl | rfl <;> decide
theorem head_is (k : Int) (h0 : 0 ≤ k) (h3 : k ≤ 3) : arrowHead k = 60 ∨ arrowHead k = 62 := by
  rcases (show k = 0 ∨ k = 1 ∨ k = 2 ∨ k = 3 by omega) with rfl | rfl | rfl | rfl <;> decide

set_option maxHeartbeats 2000000 in
set_option maxRecDepth 100000 in
theorem mark_any (s node : ByteArray) (single : Bool) (a b k : Int) (w : World) (ha : 0 ≤ a) (hab : a ≤ b) (hb : b ≤ 16383) (hsi : single = true → a = b) (h0 : 0 ≤ k) (h3 : k ≤ 3) (hsz : s.size ≤ 4000000)
    (hs : s.data.toList = slots single a b ++ (arrowOf k ++ (node.data.toList ++ [93]))) :
    Calls Tryd.prog 18 #[.string s] w fun e w' => e = .returned (.tuple #[.agg #[.int .i64 a, .int .i64 b, .string (if k = 0 then node else ⟨#[]⟩), .bool (decide (k = 3))], .bool true]) ∧ Below w.heap.size w w' := by
  obtain ⟨L, hL⟩ : ∃ L, L = (slots single a b).length := ⟨_, rfl⟩
  have hLb := slots_len single a b
  rw [← hL] at hLb
  have hL1 := hLb.1
  have hL2 := hLb.2
  have hsl : s.size = L + ((arrowOf k).length + node.data.toList.length + 1) := by rw [Lib.size_eq, hs, hL]; simp; omega
  have hLs : L + 1 ≤ s.size := by omega
  have hany := fun w => any_at s (slots single a b ++ [45]) (arrowTail k ++ (node.data.toList ++ [93])) (arrowHead k) w (by rw [hs, arrow_split k h0 h3]; simp)
    (by
      intro d hd
      rcases List.mem_append.1 hd with h | h
      · exact (slots_not single a b ha hab hb d h).1
      · have e : d = 45 := by simpa using h
        rw [e]; decide)
    (by
      intro d hd
      rcases List.mem_append.1 hd with h | h
      · exact (slots_not single a b ha hab hb d h).2
      · have e : d = 45 := by simpa using h
        rw [e]; decide) (head_is k h0 h3) hsz
  have eL : (((slots single a b ++ [45]).length : Nat) : Int) = (L : Int) + 1 := by rw [List.length_append, ← hL]; rfl
  rw [eL] at hany
  have hlt : L < s.size := by omega
  have hq : s.data.toList[L]? = some 45 := by
    rw [hs, hL, List.getElem?_append_right (Nat.le_refl _), arrow_split k h0 h3]; simp
  have hat : s[L]'hlt = 45 := Option.some.inj ((Lib.data_getElem? s L hlt).symm.trans hq)
  have hx : Hid ((s.extract 0 L).data.toList = slots single a b) := by
    show (s.extract 0 L).data.toList = slots single a b
    rw [Lib.extract_data, hs, hL]; simp
  have hy : Hid ((s.extract L s.size).data.toList = (arrowOf k ++ node.data.toList) ++ [93]) := by
    show (s.extract L s.size).data.toList = (arrowOf k ++ node.data.toList) ++ [93]
    rw [Lib.extract_data, hs, Lib.size_eq, hs, hL]
    simp only [List.drop_left]
    rw [List.take_of_length_le (by simp), List.append_assoc]
  have hrange := fun w => range_any (s.extract 0 L) single a b w ha hab hb hsi hx
  have htrim := fun w => trim_any (s.extract L s.size) _ w hy (by rw [Lib.size_eq, hy.out]; simp at hsl ⊢; omega)
  have HK : Hid (0 ≤ k ∧ k ≤ 3) := ⟨h0, h3⟩
  clear eL hs hL hLb hx hy hsi hsl hq
  go_enter Tryd.func18, Tryd.ntmps18
  go_wp2_with fail
  refine (hany _).mono ?_
  rintro e w1 ⟨rfl, hb1⟩
  obtain ⟨w0, hw0⟩ : ∃ w0, w0 = w.alloc (Obj.cells #[Value.int .i64 0, Value.int .i64 0, Value.string ⟨#[]⟩, Value.bool false] 44) := ⟨_, rfl⟩
  rw [← hw0] at hb1
  have HB1 : Hid (Below w0.heap.size w0 w1) := hb1
  have HW0 : Hid (w0 = w.alloc (Obj.cells #[Value.int .i64 0, Value.int .i64 0, Value.string ⟨#[]⟩, Value.bool false] 44)) := hw0
  clear hb1 hw0 hany
  go_wp2_with fail
  refine (hrange w1).mono ?_
  rintro e w2 ⟨rfl, hb2⟩
  have HB2 : Below w0.heap.size w0 w2 := HB1.out.trans (hb2.mono HB1.out.size)
  have hsz0 : w.heap.size < w0.heap.size := by rw [HW0.out]; simp
  have hsz2 : w.heap.size < w2.heap.size := Nat.lt_of_lt_of_le hsz0 HB2.size
  have hsz3 : w.heap.size < w2.heap.size + 1 := Nat.lt_succ_of_lt hsz2
  have cc : ∀ j, w2.cell? ⟨w.heap.size, j, none⟩ = w0.cell? ⟨w.heap.size, j, none⟩ := fun j => HB2.cell (p := ⟨w.heap.size, j, none⟩) hsz0
  have ff : ∀ j, w2.frozen? ⟨w.heap.size, j, none⟩ = w0.frozen? ⟨w.heap.size, j, none⟩ := fun j => HB2.frozen (p := ⟨w.heap.size, j, none⟩) hsz0
  have c0 : w2.cell? ⟨w.heap.size, 0, none⟩ = some (.int .i64 0) := by rw [cc, HW0.out]; simp [go_sem]
  have c1 : w2.cell? ⟨w.heap.size, 1, none⟩ = some (.int .i64 0) := by rw [cc, HW0.out]; simp [go_sem]
  have c2 : w2.cell? ⟨w.heap.size, 2, none⟩ = some (.string ⟨#[]⟩) := by rw [cc, HW0.out]; simp [go_sem]
  have c3 : w2.cell? ⟨w.heap.size, 3, none⟩ = some (.bool false) := by rw [cc, HW0.out]; simp [go_sem]
  have f0 : w2.frozen? ⟨w.heap.size, 0, none⟩ = false := by rw [ff, HW0.out]; simp [go_sem]
  have f1 : w2.frozen? ⟨w.heap.size, 1, none⟩ = false := by rw [ff, HW0.out]; simp [go_sem]
  have f2 : w2.frozen? ⟨w.heap.size, 2, none⟩ = false := by rw [ff, HW0.out]; simp [go_sem]
  have f3 : w2.frozen? ⟨w.heap.size, 3, none⟩ = false := by rw [ff, HW0.out]; simp [go_sem]
  have HBf : Hid (Below w.heap.size w w2) := by
    have h0 : Below w.heap.size w w0 := by rw [HW0.out]; exact (Below.refl _ _).alloc (Nat.le_refl _) _
    exact h0.trans (HB2.mono h0.size)
  clear hb2 HB2 hsz0 cc ff hrange
  go_wp2_with fail
  refine (htrim _).mono ?_
  rintro e w3 ⟨y, rfl, hy, hw3⟩
  subst hw3
  have HY : Hid (y.data.toList = arrowOf k ++ node.data.toList) := hy
  clear hy htrim
  rcases (show k = 0 ∨ k = 1 ∨ k = 2 ∨ k = 3 by have := HK.out; omega) with rfl | rfl | rfl | rfl
  · have hc := fun w => cutp_yes y node w HY.out
    have hp := fun w => hasp_any y false w (by rw [HY.out]; rfl)
    clear HY HK
    go_wp2_with (first
      | (go_at_call 25; refine (hc _).mono ?_; rintro e w' ⟨rfl, hw'⟩; replace hw' := hw'.symm; subst hw')
      | (go_at_call 26; refine (hp _).mono ?_; rintro e w' ⟨rfl, hw'⟩; replace hw' := hw'.symm; subst hw'))
    refine bodyPost_ret (v := .tuple #[.agg #[.int .i64 a, .int .i64 b, .string node, .bool false], .bool true]) (by simp [results, Tryd.results18, go_sem, c0, c1, c2, c3, hsz2, hsz3]) rfl ⟨by first | rfl | simp, ?_⟩
    exact ((((((HBf.out.setCell (Nat.le_refl _) _).setCell (Nat.le_refl _) _).setCell (Nat.le_refl _) _).setCell (Nat.le_refl _) _).alloc (by simp; omega) _).alloc (by simp; omega) _)
  · have hc := fun w => cutp_no y w (by rw [HY.out]; rfl)
    have hp := fun w => hasp_any y false w (by rw [HY.out]; rfl)
    clear HY HK
    go_wp2_with (first
      | (go_at_call 25; refine (hc _).mono ?_; rintro e w' ⟨rfl, hw'⟩; replace hw' := hw'.symm; subst hw')
      | (go_at_call 26; refine (hp _).mono ?_; rintro e w' ⟨rfl, hw'⟩; replace hw' := hw'.symm; subst hw'))
    refine bodyPost_ret (v := .tuple #[.agg #[.int .i64 a, .int .i64 b, .string ⟨#[]⟩, .bool false], .bool true]) (by simp [results, Tryd.results18, go_sem, c0, c1, c2, c3, hsz2, hsz3]) rfl ⟨by first | rfl | simp, ?_⟩
    exact ((((((HBf.out.setCell (Nat.le_refl _) _).setCell (Nat.le_refl _) _).setCell (Nat.le_refl _) _).setCell (Nat.le_refl _) _).alloc (by simp; omega) _).alloc (by simp; omega) _)
  · have hc := fun w => cutp_no y w (by rw [HY.out]; rfl)
    have hp := fun w => hasp_any y false w (by rw [HY.out]; rfl)
    clear HY HK
    go_wp2_with (first
      | (go_at_call 25; refine (hc _).mono ?_; rintro e w' ⟨rfl, hw'⟩; replace hw' := hw'.symm; subst hw')
      | (go_at_call 26; refine (hp _).mono ?_; rintro e w' ⟨rfl, hw'⟩; replace hw' := hw'.symm; subst hw'))
    refine bodyPost_ret (v := .tuple #[.agg #[.int .i64 a, .int .i64 b, .string ⟨#[]⟩, .bool false], .bool true]) (by simp [results, Tryd.results18, go_sem, c0, c1, c2, c3, hsz2, hsz3]) rfl ⟨by first | rfl | simp, ?_⟩
    exact ((((((HBf.out.setCell (Nat.le_refl _) _).setCell (Nat.le_refl _) _).setCell (Nat.le_refl _) _).setCell (Nat.le_refl _) _).alloc (by simp; omega) _).alloc (by simp; omega) _)
  · have hc := fun w => cutp_no y w (by rw [HY.out]; rfl)
    have hp := fun w => hasp_any y true w (by rw [HY.out]; rfl)
    clear HY HK
    go_wp2_with (first
      | (go_at_call 25; refine (hc _).mono ?_; rintro e w' ⟨rfl, hw'⟩; replace hw' := hw'.symm; subst hw')
      | (go_at_call 26; refine (hp _).mono ?_; rintro e w' ⟨rfl, hw'⟩; replace hw' := hw'.symm; subst hw'))
    refine bodyPost_ret (v := .tuple #[.agg #[.int .i64 a, .int .i64 b, .string ⟨#[]⟩, .bool true], .bool true]) (by simp [results, Tryd.results18, go_sem, c0, c1, c2, c3, hsz2, hsz3]) rfl ⟨by first | rfl | simp, ?_⟩
    exact ((((((HBf.out.setCell (Nat.le_refl _) _).setCell (Nat.le_refl _) _).setCell (Nat.le_refl _) _).setCell (Nat.le_refl _) _).alloc (by simp; omega) _).alloc (by simp; omega) _)
end Go.Proofs.Qxb6601374aDoor
