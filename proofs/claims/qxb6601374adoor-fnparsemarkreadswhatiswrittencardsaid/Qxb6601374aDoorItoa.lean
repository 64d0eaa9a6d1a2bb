/-
  The small callees: the bound, zzArrow, zzItoa.
-/
import Derived.Test.Qxb6601374aDoorRows
import Derived.Test.Qxb6601374aDoorShelf
import Derived.WalkKit
import Derived.Below
import Derived.WalkSpells
namespace Go.Proofs.Qxb6601374aDoor
open Go.RowKit
set_option linter.unusedVariables false

theorem bound_any (f l k : Int) (b : Bool) (s : ByteArray) (w : World) (hl : s.size ≤ 9223372036854775807) :
    Calls Tryd.prog 7 #[.int .i64 f, .int .i64 l, .bool b, .int .i64 k, .string s] w fun e w' => e = .returned (.bool (decide (s.size ≤ 1048576))) ∧ w' = w := by
  by_cases h : s.size ≤ 1048576
  · go_enter Tryd.func7, Tryd.ntmps7
    go_wp2
    go_ret
    exact ⟨by simp [h], rfl⟩
  · go_enter Tryd.func7, Tryd.ntmps7
    go_wp2
    go_ret
    exact ⟨by simp [h], rfl⟩

def arrowOf (k : Int) : List UInt8 := if k = 0 then [45, 62, 45] else if k = 1 then [45, 60, 45] else if k = 2 then [45, 62, 62, 45] else [45, 60, 60, 45]
theorem arrow_any (k : Int) (w : World) (h0 : 0 ≤ k) (h3 : k ≤ 3) : Calls Tryd.prog 9 #[.int .i64 k] w fun e w' => e = .returned (.string ⟨(arrowOf k).toArray⟩) ∧ w' = w := by
  rcases (show k = 0 ∨ k = 1 ∨ k = 2 ∨ k = 3 by omega) with rfl | rfl | rfl | rfl
  all_goals
    go_enter Tryd.func9, Tryd.ntmps9
    go_wp2
    go_ret
    exact ⟨rfl, rfl⟩


set_option maxHeartbeats 1000000 in
set_option maxRecDepth 100000 in
theorem itoa1 (n : Int) (w : World) (h1 : 1 ≤ n) (h2 : n ≤ 9) :
    Calls Tryd.prog 8 #[.int .i64 n] w fun e w' => e = .returned (.string (strOfNums [48 + n % 10])) ∧ Below w.heap.size w w' := by
  have hn0 : (n == 0) = false := by rw [beq_eq_false_iff_ne]; omega
  have hcv := run_convert_bytes_arg (P := Tryd.prog) (w.alloc (.cells #[.int .u8 0, .int .u8 0, .int .u8 0, .int .u8 0, .int .u8 0, .int .u8 0, .int .u8 0, .int .u8 0, .int .u8 0, .int .u8 0, .int .u8 0, .int .u8 0, .int .u8 0, .int .u8 0, .int .u8 0, .int .u8 0, .int .u8 0, .int .u8 0, .int .u8 0, .int .u8 (48 + n % 10)] 39)) 40 5 Tryd.underlying40 Tryd.underlying5 w.heap.size 19 1 1 [48 + n % 10] rfl (by
    intro i hi
    match i, hi with
    | 0, _ => simp [go_sem]) 9 Tryd.underlying9
  go_enter Tryd.func8, Tryd.ntmps8
  go_wp2
  refine wp_loop_rounds 2 ?_
  rw [rounds_succ]; go_wp2
  rw [rounds_succ]; go_wp2
  go_ret
  exact ⟨rfl, (Below.refl _ w).alloc (Nat.le_refl _) _⟩

set_option maxHeartbeats 1000000 in
set_option maxRecDepth 100000 in
theorem itoa2 (n : Int) (w : World) (h1 : 10 ≤ n) (h2 : n ≤ 99) :
    Calls Tryd.prog 8 #[.int .i64 n] w fun e w' => e = .returned (.string (strOfNums [48 + n / 10 % 10, 48 + n % 10])) ∧ Below w.heap.size w w' := by
  have hn0 : (n == 0) = false := by rw [beq_eq_false_iff_ne]; omega
  have hcv := run_convert_bytes_arg (P := Tryd.prog) (w.alloc (.cells #[.int .u8 0, .int .u8 0, .int .u8 0, .int .u8 0, .int .u8 0, .int .u8 0, .int .u8 0, .int .u8 0, .int .u8 0, .int .u8 0, .int .u8 0, .int .u8 0, .int .u8 0, .int .u8 0, .int .u8 0, .int .u8 0, .int .u8 0, .int .u8 0, .int .u8 (48 + n / 10 % 10), .int .u8 (48 + n % 10)] 39)) 40 5 Tryd.underlying40 Tryd.underlying5 w.heap.size 18 2 2 [48 + n / 10 % 10, 48 + n % 10] rfl (by
    intro i hi
    match i, hi with
    | 0, _ => simp [go_sem]
    | 1, _ => simp [go_sem]) 9 Tryd.underlying9
  go_enter Tryd.func8, Tryd.ntmps8
  go_wp2
  refine wp_loop_rounds 3 ?_
  rw [rounds_succ]; go_wp2
  rw [rounds_succ]; go_wp2
  rw [rounds_succ]; go_wp2
  go_ret
  exact ⟨rfl, (Below.refl _ w).alloc (Nat.le_refl _) _⟩

set_option maxHeartbeats 1000000 in
set_option maxRecDepth 100000 in
theorem itoa3 (n : Int) (w : World) (h1 : 100 ≤ n) (h2 : n ≤ 999) :
    Calls Tryd.prog 8 #[.int .i64 n] w fun e w' => e = .returned (.string (strOfNums [48 + n / 10 / 10 % 10, 48 + n / 10 % 10, 48 + n % 10])) ∧ Below w.heap.size w w' := by
  have hn0 : (n == 0) = false := by rw [beq_eq_false_iff_ne]; omega
  have hcv := run_convert_bytes_arg (P := Tryd.prog) (w.alloc (.cells #[.int .u8 0, .int .u8 0, .int .u8 0, .int .u8 0, .int .u8 0, .int .u8 0, .int .u8 0, .int .u8 0, .int .u8 0, .int .u8 0, .int .u8 0, .int .u8 0, .int .u8 0, .int .u8 0, .int .u8 0, .int .u8 0, .int .u8 0, .int .u8 (48 + n / 10 / 10 % 10), .int .u8 (48 + n / 10 % 10), .int .u8 (48 + n % 10)] 39)) 40 5 Tryd.underlying40 Tryd.underlying5 w.heap.size 17 3 3 [48 + n / 10 / 10 % 10, 48 + n / 10 % 10, 48 + n % 10] rfl (by
    intro i hi
    match i, hi with
    | 0, _ => simp [go_sem]
    | 1, _ => simp [go_sem]
    | 2, _ => simp [go_sem]) 9 Tryd.underlying9
  go_enter Tryd.func8, Tryd.ntmps8
  go_wp2
  refine wp_loop_rounds 4 ?_
  rw [rounds_succ]; go_wp2
  rw [rounds_succ]; go_wp2
  rw [rounds_succ]; go_wp2
  rw [rounds_succ]; go_wp2
  go_ret
  exact ⟨rfl, (Below.refl _ w).alloc (Nat.le_refl _) _⟩

set_option maxHeartbeats 1000000 in
set_option maxRecDepth 100000 in
theorem itoa4 (n : Int) (w : World) (h1 : 1000 ≤ n) (h2 : n ≤ 9999) :
    Calls Tryd.prog 8 #[.int .i64 n] w fun e w' => e = .returned (.string (strOfNums [48 + n / 10 / 10 / 10 % 10, 48 + n / 10 / 10 % 10, 48 + n / 10 % 10, 48 + n % 10])) ∧ Below w.heap.size w w' := by
  have hn0 : (n == 0) = false := by rw [beq_eq_false_iff_ne]; omega
  have hcv := run_convert_bytes_arg (P := Tryd.prog) (w.alloc (.cells #[.int .u8 0, .int .u8 0, .int .u8 0, .int .u8 0, .int .u8 0, .int .u8 0, .int .u8 0, .int .u8 0, .int .u8 0, .int .u8 0, .int .u8 0, .int .u8 0, .int .u8 0, .int .u8 0, .int .u8 0, .int .u8 0, .int .u8 (48 + n / 10 / 10 / 10 % 10), .int .u8 (48 + n / 10 / 10 % 10), .int .u8 (48 + n / 10 % 10), .int .u8 (48 + n % 10)] 39)) 40 5 Tryd.underlying40 Tryd.underlying5 w.heap.size 16 4 4 [48 + n / 10 / 10 / 10 % 10, 48 + n / 10 / 10 % 10, 48 + n / 10 % 10, 48 + n % 10] rfl (by
    intro i hi
    match i, hi with
    | 0, _ => simp [go_sem]
    | 1, _ => simp [go_sem]
    | 2, _ => simp [go_sem]
    | 3, _ => simp [go_sem]) 9 Tryd.underlying9
  go_enter Tryd.func8, Tryd.ntmps8
  go_wp2
  refine wp_loop_rounds 5 ?_
  rw [rounds_succ]; go_wp2
  rw [rounds_succ]; go_wp2
  rw [rounds_succ]; go_wp2
  rw [rounds_succ]; go_wp2
  rw [rounds_succ]; go_wp2
  go_ret
  exact ⟨rfl, (Below.refl _ w).alloc (Nat.le_refl _) _⟩

set_option maxHeartbeats 1000000 in
set_option maxRecDepth 100000 in
theorem itoa5 (n : Int) (w : World) (h1 : 10000 ≤ n) (h2 : n ≤ 99999) :
    Calls Tryd.prog 8 #[.int .i64 n] w fun e w' => e = .returned (.string (strOfNums [48 + n / 10 / 10 / 10 / 10 % 10, 48 + n / 10 / 10 / 10 % 10, 48 + n / 10 / 10 % 10, 48 + n / 10 % 10, 48 + n % 10])) ∧ Below w.heap.size w w' := by
  have hn0 : (n == 0) = false := by rw [beq_eq_false_iff_ne]; omega
  have hcv := run_convert_bytes_arg (P := Tryd.prog) (w.alloc (.cells #[.int .u8 0, .int .u8 0, .int .u8 0, .int .u8 0, .int .u8 0, .int .u8 0, .int .u8 0, .int .u8 0, .int .u8 0, .int .u8 0, .int .u8 0, .int .u8 0, .int .u8 0, .int .u8 0, .int .u8 0, .int .u8 (48 + n / 10 / 10 / 10 / 10 % 10), .int .u8 (48 + n / 10 / 10 / 10 % 10), .int .u8 (48 + n / 10 / 10 % 10), .int .u8 (48 + n / 10 % 10), .int .u8 (48 + n % 10)] 39)) 40 5 Tryd.underlying40 Tryd.underlying5 w.heap.size 15 5 5 [48 + n / 10 / 10 / 10 / 10 % 10, 48 + n / 10 / 10 / 10 % 10, 48 + n / 10 / 10 % 10, 48 + n / 10 % 10, 48 + n % 10] rfl (by
    intro i hi
    match i, hi with
    | 0, _ => simp [go_sem]
    | 1, _ => simp [go_sem]
    | 2, _ => simp [go_sem]
    | 3, _ => simp [go_sem]
    | 4, _ => simp [go_sem]) 9 Tryd.underlying9
  go_enter Tryd.func8, Tryd.ntmps8
  go_wp2
  refine wp_loop_rounds 6 ?_
  rw [rounds_succ]; go_wp2
  rw [rounds_succ]; go_wp2
  rw [rounds_succ]; go_wp2
  rw [rounds_succ]; go_wp2
  rw [rounds_succ]; go_wp2
  rw [rounds_succ]; go_wp2
  go_ret
  exact ⟨rfl, (Below.refl _ w).alloc (Nat.le_refl _) _⟩

/-- The decimal digits of n, 0 ≤ n ≤ 99999, as zzItoa writes them. -/
def digI (n : Int) : List Int :=
  if n < 10 then [48 + n % 10] else if n < 100 then [48 + n / 10 % 10, 48 + n % 10] else if n < 1000 then [48 + n / 10 / 10 % 10, 48 + n / 10 % 10, 48 + n % 10] else if n < 10000 then [48 + n / 10 / 10 / 10 % 10, 48 + n / 10 / 10 % 10, 48 + n / 10 % 10, 48 + n % 10] else [48 + n / 10 / 10 / 10 / 10 % 10, 48 + n / 10 / 10 / 10 % 10, 48 + n / 10 / 10 % 10, 48 + n / 10 % 10, 48 + n % 10]
theorem digI_1 (n : Int) (h : n < 10) : digI n = [48 + n % 10] := by unfold digI; rw [if_pos h]
theorem digI_2 (n : Int) (h1 : 10 ≤ n) (h2 : n < 100) : digI n = [48 + n / 10 % 10, 48 + n % 10] := by unfold digI; rw [if_neg (by omega), if_pos h2]
theorem digI_3 (n : Int) (h1 : 100 ≤ n) (h2 : n < 1000) : digI n = [48 + n / 10 / 10 % 10, 48 + n / 10 % 10, 48 + n % 10] := by unfold digI; rw [if_neg (by omega), if_neg (by omega), if_pos h2]
theorem digI_4 (n : Int) (h1 : 1000 ≤ n) (h2 : n < 10000) : digI n = [48 + n / 10 / 10 / 10 % 10, 48 + n / 10 / 10 % 10, 48 + n / 10 % 10, 48 + n % 10] := by unfold digI; rw [if_neg (by omega), if_neg (by omega), if_neg (by omega), if_pos h2]
theorem digI_5 (n : Int) (h1 : 10000 ≤ n) : digI n = [48 + n / 10 / 10 / 10 / 10 % 10, 48 + n / 10 / 10 / 10 % 10, 48 + n / 10 / 10 % 10, 48 + n / 10 % 10, 48 + n % 10] := by unfold digI; rw [if_neg (by omega), if_neg (by omega), if_neg (by omega), if_neg (by omega)]

theorem itoa_any (n : Int) (w : World) (h1 : 0 ≤ n) (h2 : n ≤ 99999) :
    Calls Tryd.prog 8 #[.int .i64 n] w fun e w' => e = .returned (.string (strOfNums (digI n))) ∧ Below w.heap.size w w' := by
  rcases (show n = 0 ∨ (1 ≤ n ∧ n ≤ 9) ∨ (10 ≤ n ∧ n ≤ 99) ∨ (100 ≤ n ∧ n ≤ 999) ∨ (1000 ≤ n ∧ n ≤ 9999) ∨ (10000 ≤ n ∧ n ≤ 99999) by omega) with rfl | ⟨a, b⟩ | ⟨a, b⟩ | ⟨a, b⟩ | ⟨a, b⟩ | ⟨a, b⟩
  · go_enter Tryd.func8, Tryd.ntmps8
    go_wp2
    go_ret
    exact ⟨rfl, Below.refl _ _⟩
  · rw [digI_1 n (by omega)]; exact itoa1 n w a b
  · rw [digI_2 n a (by omega)]; exact itoa2 n w a b
  · rw [digI_3 n a (by omega)]; exact itoa3 n w a b
  · rw [digI_4 n a (by omega)]; exact itoa4 n w a b
  · rw [digI_5 n a]; exact itoa5 n w a b

/-- Its bytes. -/
def digB (n : Int) : List UInt8 := (digI n).map fun m => UInt8.ofNat m.toNat
theorem digI_mem (n : Int) (h1 : 0 ≤ n) (h2 : n ≤ 99999) : ∀ d ∈ digI n, 48 ≤ d ∧ d ≤ 57 := by
  rcases (show n < 10 ∨ (10 ≤ n ∧ n < 100) ∨ (100 ≤ n ∧ n < 1000) ∨ (1000 ≤ n ∧ n < 10000) ∨ 10000 ≤ n by omega) with a | ⟨a, b⟩ | ⟨a, b⟩ | ⟨a, b⟩ | a
  · rw [digI_1 n a]; simp; omega
  · rw [digI_2 n a b]; simp; omega
  · rw [digI_3 n a b]; simp; omega
  · rw [digI_4 n a b]; simp; omega
  · rw [digI_5 n a]; simp; omega
theorem digI_len (n : Int) : 1 ≤ (digI n).length ∧ (digI n).length ≤ 5 := by
  unfold digI
  split <;> (try split) <;> (try split) <;> (try split) <;> simp
theorem digB_len (n : Int) : 1 ≤ (digB n).length ∧ (digB n).length ≤ 5 := by
  unfold digB; rw [List.length_map]; exact digI_len n
theorem digB_mem (n : Int) (h1 : 0 ≤ n) (h2 : n ≤ 99999) : ∀ d ∈ digB n, 48 ≤ d.toNat ∧ d.toNat ≤ 57 := by
  intro d hd
  obtain ⟨m, hm, rfl⟩ := List.mem_map.1 hd
  have := digI_mem n h1 h2 m hm
  simp; omega

theorem digitVal_of (x : Int) (h0 : 0 ≤ x) (h1 : x ≤ 9) : Lib.digitVal (UInt8.ofNat (48 + x).toNat) = some x.toNat := by
  have e : (UInt8.ofNat (48 + x).toNat).toNat = 48 + x.toNat := by simp; omega
  unfold Lib.digitVal
  rw [e, if_pos (by omega)]
  congr 1; omega
theorem decFrom_cons (acc : Nat) (x : Int) (r : List UInt8) (h0 : 0 ≤ x) (h1 : x ≤ 9) : Lib.decFrom acc (UInt8.ofNat (48 + x).toNat :: r) = Lib.decFrom (acc * 10 + x.toNat) r := by
  rw [Lib.decFrom, digitVal_of x h0 h1]
theorem atoi_of (l : List UInt8) (m : Nat) (hl : l ≠ []) (hd : ∀ d ∈ l, 48 ≤ d.toNat ∧ d.toNat ≤ 57) (h : Lib.decFrom 0 l = some m) : Lib.atoi l = some (m : Int) := by
  cases l with
  | nil => exact absurd rfl hl
  | cons b r =>
    have hb := hd b (List.mem_cons_self ..)
    have n1 : (b == 45) = false := by rw [beq_eq_false_iff_ne]; intro e; rw [e] at hb; simp at hb
    have n2 : (b == 43) = false := by rw [beq_eq_false_iff_ne]; intro e; rw [e] at hb; simp at hb
    rw [Lib.atoi, n1, n2]
    simp [Lib.decNat, h]
theorem digB_dec (n : Int) (h1 : 0 ≤ n) (h2 : n ≤ 99999) : Lib.decFrom 0 (digB n) = some n.toNat := by
  unfold digB
  rcases (show n < 10 ∨ (10 ≤ n ∧ n < 100) ∨ (100 ≤ n ∧ n < 1000) ∨ (1000 ≤ n ∧ n < 10000) ∨ 10000 ≤ n by omega) with a | ⟨a, b⟩ | ⟨a, b⟩ | ⟨a, b⟩ | a
  · rw [digI_1 n a]
    simp only [List.map_cons, List.map_nil]
    rw [decFrom_cons _ _ _ (by omega) (by omega), Lib.decFrom]
    congr 1; omega
  · rw [digI_2 n a b]
    simp only [List.map_cons, List.map_nil]
    rw [decFrom_cons _ _ _ (by omega) (by omega), decFrom_cons _ _ _ (by omega) (by omega), Lib.decFrom]
    congr 1; omega
  · rw [digI_3 n a b]
    simp only [List.map_cons, List.map_nil]
    rw [decFrom_cons _ _ _ (by omega) (by omega), decFrom_cons _ _ _ (by omega) (by omega), decFrom_cons _ _ _ (by omega) (by omega), Lib.decFrom]
    congr 1; omega
  · rw [digI_4 n a b]
    simp only [List.map_cons, List.map_nil]
    rw [decFrom_cons _ _ _ (by omega) (by omega), decFrom_cons _ _ _ (by omega) (by omega), decFrom_cons _ _ _ (by omega) (by omega), decFrom_cons _ _ _ (by omega) (by omega), Lib.decFrom]
    congr 1; omega
  · rw [digI_5 n a]
    simp only [List.map_cons, List.map_nil]
    rw [decFrom_cons _ _ _ (by omega) (by omega), decFrom_cons _ _ _ (by omega) (by omega), decFrom_cons _ _ _ (by omega) (by omega), decFrom_cons _ _ _ (by omega) (by omega), decFrom_cons _ _ _ (by omega) (by omega), Lib.decFrom]
    congr 1; omega
theorem digB_atoi (n : Int) (h1 : 0 ≤ n) (h2 : n ≤ 99999) : Lib.atoi (digB n) = some n := by
  have hne : digB n ≠ [] := fun e => by have := (digB_len n).1; rw [e] at this; simp at this
  rw [atoi_of _ _ hne (digB_mem n h1 h2) (digB_dec n h1 h2)]
  congr 1; omega
end Go.Proofs.Qxb6601374aDoor
