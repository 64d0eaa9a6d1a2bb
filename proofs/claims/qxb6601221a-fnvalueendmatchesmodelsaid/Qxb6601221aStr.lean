/-
  The string scanners and the scalar tests, walked.
-/
import Derived.Test.Qxb6601221aRows
import Derived.Test.Qxb6601221aPlain
import Derived.WalkKit
import Derived.Below
import Derived.WalkSpells
namespace Go.Proofs.Qxb6601221a
open Go.RowKit
set_option linter.unusedVariables false

def optI (o : Option Nat) : Int := match o with | some j => j | none => 0
def optB (o : Option Nat) : Bool := o.isSome

theorem bound_any (p : Int) (a : Option Addr) (len cap : Nat) (w : World) (hl : len ≤ 9223372036854775807) :
    Calls Try.prog 11 #[.slice a len cap, .int .i64 p] w fun e w' => e = .returned (.bool (decide (len ≤ 1048576))) ∧ w' = w := by
  by_cases h : len ≤ 1048576
  · go_enter Try.func11, Try.ntmps11
    go_wp2
    go_ret
    exact ⟨by simp [h], rfl⟩
  · go_enter Try.func11, Try.ntmps11
    go_wp2
    go_ret
    exact ⟨by simp [h], rfl⟩

set_option maxRecDepth 100000 in
theorem index_any (b o n c : Nat) (xs : List Int) (cv : Int) (w : World) (hx : xs.length = n)
    (hc : ∀ i, i < n → w.cell? ⟨b, o + i, none⟩ = some (.int .u8 (xs.getD i 0))) :
    Calls Try.prog 19 #[.slice (some ⟨b, o, none⟩) n c, .int .u8 cv] w fun e w' => e = .returned (.int .i64 (Lib.indexByte (Lib.bytesOf xs) cv.toNat.toUInt8)) ∧ w' = w := by
  go_enter Try.func19, Try.ntmps19
  go_wp2
  rw [run_callFunc_extern Try.func21 (by kernel_rfl) (by kernel_rfl) (by kernel_rfl) (e := Extern.BytealgIndexByte.indexByte) (by kernel_rfl), Lib.run_indexByteSlice w b o n c xs hx hc cv]
  simp only [Result.andThen]
  rw [Oper.upon_value]
  go_wp2
  go_ret
  exact ⟨rfl, rfl⟩

theorem sc18 (c : Int) (w : World) (h0 : 0 ≤ c) (h1 : c ≤ 255) : Calls Try.prog 18 #[.int .u8 c] w fun e w' => e = .returned (.bool (scal c)) ∧ w' = w := by
  rcases (show c ≤ 42 ∨ (43 ≤ c ∧ c ≤ 43) ∨ (44 ≤ c ∧ c ≤ 44) ∨ (45 ≤ c ∧ c ≤ 45) ∨ (46 ≤ c ∧ c ≤ 46) ∨ (47 ≤ c ∧ c ≤ 47) ∨ (48 ≤ c ∧ c ≤ 57) ∨ (58 ≤ c ∧ c ≤ 96) ∨ (97 ≤ c ∧ c ≤ 122) ∨ 123 ≤ c by omega) with h | ⟨h, h'⟩ | ⟨h, h'⟩ | ⟨h, h'⟩ | ⟨h, h'⟩ | ⟨h, h'⟩ | ⟨h, h'⟩ | ⟨h, h'⟩ | ⟨h, h'⟩ | h
  all_goals
    go_enter Try.func18, Try.ntmps18
    go_wp2
    go_ret
    first
      | exact ⟨by rw [show scal c = true from decide_eq_true (by omega)]; rfl, rfl⟩
      | exact ⟨by rw [show scal c = false from decide_eq_false (by omega)]; rfl, rfl⟩
      | exact ⟨by rw [show scal c = true from decide_eq_true (by omega)]; simp; omega, rfl⟩
      | exact ⟨by rw [show scal c = false from decide_eq_false (by omega)]; simp; omega, rfl⟩
      | exact ⟨rfl, rfl⟩
theorem sc20 (c : Int) (w : World) (h0 : 0 ≤ c) (h1 : c ≤ 255) : Calls Try.prog 20 #[.int .u8 c] w fun e w' => e = .returned (.bool (scal c)) ∧ w' = w := by
  rcases (show c ≤ 42 ∨ (43 ≤ c ∧ c ≤ 43) ∨ (44 ≤ c ∧ c ≤ 44) ∨ (45 ≤ c ∧ c ≤ 45) ∨ (46 ≤ c ∧ c ≤ 46) ∨ (47 ≤ c ∧ c ≤ 47) ∨ (48 ≤ c ∧ c ≤ 57) ∨ (58 ≤ c ∧ c ≤ 96) ∨ (97 ≤ c ∧ c ≤ 122) ∨ 123 ≤ c by omega) with h | ⟨h, h'⟩ | ⟨h, h'⟩ | ⟨h, h'⟩ | ⟨h, h'⟩ | ⟨h, h'⟩ | ⟨h, h'⟩ | ⟨h, h'⟩ | ⟨h, h'⟩ | h
  all_goals
    go_enter Try.func20, Try.ntmps20
    go_wp2
    go_ret
    first
      | exact ⟨by rw [show scal c = true from decide_eq_true (by omega)]; rfl, rfl⟩
      | exact ⟨by rw [show scal c = false from decide_eq_false (by omega)]; rfl, rfl⟩
      | exact ⟨by rw [show scal c = true from decide_eq_true (by omega)]; simp; omega, rfl⟩
      | exact ⟨by rw [show scal c = false from decide_eq_false (by omega)]; simp; omega, rfl⟩
      | exact ⟨rfl, rfl⟩

/-- What is read: the bytes zs, from the head of block B on. -/
structure Text (w : World) (B : Nat) (zs : List Int) : Prop where
  cell : ∀ k, k < zs.length → w.cell? ⟨B, k, none⟩ = some (.int .u8 (zs.getD k 0))
  lo : ∀ k, 0 ≤ zs.getD k 0
  hi : ∀ k, zs.getD k 0 ≤ 255
  len : zs.length ≤ 65536

set_option maxHeartbeats 400000 in
theorem strM (B n c i : Nat) (zs : List Int) (w : World) (hn : Hid (zs.length = n)) (hn2 : n ≤ 65536) (ht : Text w B zs) (hi : i < n) (hq : zs.getD i 0 = 34) :
    Calls Try.prog 9 #[.slice (some ⟨B, 0, none⟩) n c, .int .i64 i] w fun e w' => e = .returned (.tuple #[.int .i64 (optI (sE zs i)), .bool (optB (sE zs i))]) ∧ w' = w := by
  have hf : Hid (Fwd zs i (i + 1)) := fwd_start hq
  clear hq
  go_enter Try.func9, Try.ntmps9
  go_wp2
  go_loop [6] (fun sk => ∃ k : Nat, k ≤ n + 1 ∧ sk = .int .i64 k ∧ Hid (Fwd zs i k)) (fun sk => n + 2 - (intOf sk).toNat)
  case atStart => exact ⟨i + 1, by omega, by go_num, hf⟩
  case round =>
    obtain ⟨k, hk, rfl, hfk⟩ := hrel
    by_cases hlt : k < n
    · obtain ⟨d, hd⟩ : ∃ d, d = zs.getD k 0 := ⟨_, rfl⟩
      have hcell : w.cell? ⟨B, k, none⟩ = some (.int .u8 d) := by rw [hd]; exact ht.cell k (by rw [hn.out]; exact hlt)
      have d0 : 0 ≤ d := by rw [hd]; exact ht.lo k
      have d1 : d ≤ 255 := by rw [hd]; exact ht.hi k
      have HD : Hid (d = zs.getD k 0) := hd
      clear hd
      by_cases h92 : d = 92
      · have h92' : (d == 92) = true := by simpa using h92
        have H : Hid (d = 92) := h92
        clear h92
        go_wp2
        go_round
        case rel => exact ⟨k + 2, by omega, by go_num, fwd_esc hfk (by rw [← HD.out]; exact H.out)⟩
        case measure => simp [intOf]; omega
      · have h92' : (d == 92) = false := by simpa using h92
        by_cases h34 : d = 34
        · have h34' : (d == 34) = true := by simpa using h34
          have H : Hid (d = 34) := h34
          clear h34
          go_wp2
          go_ret2
          exact ⟨by rw [fwd_hit hfk (by rw [hn.out]; exact hlt) (by rw [← HD.out]; exact H.out)]; rfl, rfl⟩
        · have h34' : (d == 34) = false := by simpa using h34
          go_wp2
          go_round
          case rel => exact ⟨k + 1, by omega, by go_num, fwd_plain hfk (by rw [← HD.out]; exact h92) (by rw [← HD.out]; exact h34)⟩
          case measure => simp [intOf]; omega
    · go_wp2
      go_ret2
      exact ⟨by rw [fwd_end hfk (by rw [hn.out]; omega)]; rfl, rfl⟩

/-! ### stringEnd -/
theorem drop_getD (zs : List Int) (a k : Nat) : (zs.drop a).getD k 0 = zs.getD (a + k) 0 := by simp [List.getD]
theorem mem_bd {zs : List Int} (lo : ∀ k, 0 ≤ zs.getD k 0) (hi : ∀ k, zs.getD k 0 ≤ 255) (a : Nat) : ∀ d ∈ zs.drop a, 0 ≤ d ∧ d ≤ 255 := by
  intro d hd
  obtain ⟨k, hk, rfl⟩ := List.getElem_of_mem hd
  have h1 := lo (a + k); have h2 := hi (a + k)
  rw [← drop_getD] at h1 h2
  simp only [List.getD, List.getElem?_eq_getElem hk, Option.getD_some] at h1 h2
  exact ⟨h1, h2⟩

/-- IndexByte from place a on: none, or the first quotation mark. -/
theorem index_from (B n c a : Nat) (zs : List Int) (w : World) (hn : Hid (zs.length = n)) (ht : Text w B zs) (ha : a ≤ n) :
    (Calls Try.prog 19 #[.slice (some ⟨B, a, none⟩) (n - a) c, .int .u8 34] w (fun e w' => e = .returned (.int .i64 (-1)) ∧ w' = w) ∧ Hid (∀ m, a ≤ m → m < n → zs.getD m 0 ≠ 34)) ∨
    ∃ q : Nat, Calls Try.prog 19 #[.slice (some ⟨B, a, none⟩) (n - a) c, .int .u8 34] w (fun e w' => e = .returned (.int .i64 q) ∧ w' = w) ∧ a + q < n ∧ Hid (zs.getD (a + q) 0 = 34) ∧ Hid (∀ m, a ≤ m → m < a + q → zs.getD m 0 ≠ 34) := by
  have hl : zs.length = n := hn
  have h := index_any B a (n - a) c (zs.drop a) 34 w (by simp; omega) (fun i hi => by rw [ht.cell (a + i) (by omega), drop_getD])
  rcases idx34 (zs.drop a) (mem_bd ht.lo ht.hi a) with ⟨h1, h2⟩ | ⟨q, h1, h2, h3, h4⟩
  · rw [h1] at h
    refine .inl ⟨h, fun m hm hm' => ?_⟩
    have := h2 (m - a) (by simp; omega)
    rw [drop_getD] at this
    rwa [show a + (m - a) = m by omega] at this
  · rw [h1] at h
    refine .inr ⟨q, h, by simp at h2; omega, by rw [drop_getD] at h3; exact h3, fun m hm hm' => ?_⟩
    have := h4 (m - a) (by omega)
    rw [drop_getD] at this
    rwa [show a + (m - a) = m by omega] at this

end Go.Proofs.Qxb6601221a
