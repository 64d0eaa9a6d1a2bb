/-
  cutPriority.
-/
import Derived.Test.Qxb6601108aWrite
namespace Go.Proofs.Qxb6601108a
open Go.RowKit
set_option linter.unusedVariables false

theorem byte_ne {d : Int} (h0 : 0 ≤ d) (h1 : d ≤ 61) : (UInt8.ofNat d.toNat == (62 : Int).toNat.toUInt8) = false := by
  rw [beq_eq_false_iff_ne]
  intro e
  have := congrArg UInt8.toNat e
  simp at this
  omega

theorem idx_hit : ∀ (pre rest : List Int), (∀ d ∈ pre, 0 ≤ d ∧ d ≤ 61) → Lib.indexByte (Lib.bytesOf (pre ++ 62 :: rest)) (62 : Int).toNat.toUInt8 = pre.length
  | [], rest, _ => by simp [Lib.bytesOf, Lib.indexByte]
  | d :: pre, rest, h => by
    have ih := idx_hit pre rest (fun x hx => h x (List.mem_cons_of_mem _ hx))
    have hd := h d (List.mem_cons_self ..)
    have e : Lib.bytesOf (d :: pre ++ 62 :: rest) = UInt8.ofNat d.toNat :: Lib.bytesOf (pre ++ 62 :: rest) := rfl
    rw [e, Lib.indexByte, byte_ne hd.1 hd.2, ih]
    simp

theorem idx_miss : ∀ (pre : List Int), (∀ d ∈ pre, 0 ≤ d ∧ d ≤ 61) → Lib.indexByte (Lib.bytesOf pre) (62 : Int).toNat.toUInt8 = -1
  | [], _ => rfl
  | d :: pre, h => by
    have ih := idx_miss pre (fun x hx => h x (List.mem_cons_of_mem _ hx))
    have hd := h d (List.mem_cons_self ..)
    have e : Lib.bytesOf (d :: pre) = UInt8.ofNat d.toNat :: Lib.bytesOf pre := rfl
    rw [e, Lib.indexByte, byte_ne hd.1 hd.2, ih]
    simp

def Digits (ds : List Int) : Prop := ∀ i, i < ds.length → 48 ≤ ds[i]?.getD 0 ∧ ds[i]?.getD 0 ≤ 57

theorem Digits.mem {ds : List Int} (h : Digits ds) : ∀ d ∈ ds, 48 ≤ d ∧ d ≤ 57 := by
  intro d hd
  obtain ⟨i, hi, rfl⟩ := List.getElem_of_mem hd
  have := h i hi
  simpa [hi] using this

theorem written_len (ds ts : List Int) : (written 0 ds ts).length = ds.length + ts.length + 2 := by simp [written]; omega
theorem written_get_digit (ds ts : List Int) (i : Nat) (h : i < ds.length) : (written 0 ds ts).getD (1 + i) 0 = ds.getD i 0 := by
  have e : written 0 ds ts = 60 :: (ds ++ 62 :: ts) := by simp [written]
  rw [e, Nat.add_comm]
  simp [List.getD, List.getElem?_append, h]
theorem written_get_tail (ds ts : List Int) (i : Nat) : (written 0 ds ts).getD (ds.length + 2 + i) 0 = ts.getD i 0 := by
  have e : written 0 ds ts = 60 :: (ds ++ 62 :: ts) := by simp [written]
  have e2 : ds.length + 2 + i = (ds.length + (i + 1)) + 1 := by omega
  rw [e, e2]
  simp only [List.getD, List.getElem?_cons_succ]
  rw [List.getElem?_append_right (by omega)]
  have e3 : ds.length + (i + 1) - ds.length = i + 1 := by omega
  rw [e3, List.getElem?_cons_succ]
theorem written_one (ds ts : List Int) : written 1 ds ts = written 0 (48 :: ds) ts := by simp [written]

theorem index_at (b n m c N : Nat) (ds ts : List Int) (w : World) (hN : N = ds.length + ts.length + 2) (hm : ds.length + 2 ≤ m) (hmN : m ≤ N) (hd : Digits ds)
    (hc : ∀ i, i < N → w.cell? ⟨b, i, none⟩ = some (.int .u8 ((written 0 ds ts).getD i 0))) :
    Calls Try.prog 32 #[.slice (some ⟨b, 0, none⟩) m c, .int .u8 62] w fun e w' => e = .returned (.int .i64 ((ds.length : Int) + 1)) ∧ w' = w := by
  have hl := written_len ds ts
  refine (index_any b 0 m c ((written 0 ds ts).take m) 62 w (by simp; omega) ?_).mono ?_
  · intro i hi
    rw [Nat.zero_add, hc i (by omega)]
    simp [List.getD, hi]
  · rintro e w' ⟨rfl, rfl⟩
    refine ⟨?_, rfl⟩
    have e : (written 0 ds ts).take m = (60 :: ds) ++ 62 :: ts.take (m - (ds.length + 2)) := by
      have e1 : written 0 ds ts = (60 :: ds) ++ 62 :: ts := by simp [written]
      have e2 : m = (60 :: ds).length + ((m - (ds.length + 2)) + 1) := by simp; omega
      rw [e1]
      conv => lhs; rw [e2]
      rw [List.take_length_add_append]
      simp
    rw [e, idx_hit _ _ (by
      intro d hd'
      rcases List.mem_cons.1 hd' with rfl | hd'
      · omega
      · have := hd.mem d hd'; omega)]
    simp

theorem index_miss (b m c : Nat) (xs : List Int) (w : World) (hm : xs.length = m) (hd : ∀ d ∈ xs, 0 ≤ d ∧ d ≤ 61)
    (hc : ∀ i, i < m → w.cell? ⟨b, i, none⟩ = some (.int .u8 (xs.getD i 0))) :
    Calls Try.prog 32 #[.slice (some ⟨b, 0, none⟩) m c, .int .u8 62] w fun e w' => e = .returned (.int .i64 (-1)) ∧ w' = w := by
  refine (index_any b 0 m c xs 62 w hm (fun i hi => by rw [Nat.zero_add]; exact hc i hi)).mono ?_
  rintro e w' ⟨rfl, rfl⟩
  exact ⟨by rw [idx_miss xs hd], rfl⟩

set_option maxHeartbeats 1000000 in
theorem cut_ok (b n tl N c : Nat) (ds ts : List Int) (w : World) (hN : n + tl + 2 = N) (hNc : N ≤ c) (htl : tl ≤ 1048576) (hc5 : c ≤ 9223372036854775807) (hds : ds.length = n) (hn1 : 1 ≤ n) (hn : n ≤ 3) (hts : ts.length = tl)
    (hd : Digits ds)
    (hc : ∀ i, i < N → w.cell? ⟨b, i, none⟩ = some (.int .u8 ((written 0 ds ts).getD i 0)))
    (hp : dec ds ≤ 191) (hlead : 48 < ds.getD 0 0 ∨ n < 2) :
    Calls Try.prog 29 #[.slice (some ⟨b, 0, none⟩) N c] w fun e w' => ∃ ao, e = .returned (.tuple #[.int .i64 (dec ds), .slice ao (N - (n + 2)) (c - (n + 2)), .bool true]) ∧ (1 ≤ tl → ao = some ⟨b, n + 2, none⟩) ∧ Below w.heap.size w w' := by
  have hix : ∀ m c, n + 2 ≤ m → m ≤ N → Calls Try.prog 32 #[.slice (some ⟨b, 0, none⟩) m c, .int .u8 62] w fun e w' => e = .returned (.int .i64 ((n : Int) + 1)) ∧ w' = w := by
    intro m c h1 h2
    have := index_at b n m c N ds ts w (by omega) (by omega) h2 hd hc
    rwa [hds] at this
  have hdc : ∀ c, Calls Try.prog 33 #[.slice (some ⟨b, 1, none⟩) n c] w fun e w' => e = .returned (.tuple #[.int .i64 (dec ds), .bool true]) ∧ w' = w := by
    intro c
    refine decimal_any b 1 n c ds w hds hn1 (by omega) hd ?_
    intro i hi
    rw [hc (1 + i) (by omega), written_get_digit ds ts i (by omega)]
  obtain ⟨d0, hd0⟩ : ∃ d0, d0 = ds.getD 0 0 := ⟨_, rfl⟩
  have c1 : w.cell? ⟨b, 1, none⟩ = some (.int .u8 d0) := by rw [hc 1 (by omega), hd0, ← written_get_digit ds ts 0 (by omega)]
  have c0 : w.cell? ⟨b, 0, none⟩ = some (.int .u8 60) := by rw [hc 0 (by omega)]; simp [written]
  rw [← hd0] at hlead
  have hd48 : 48 ≤ d0 := by rw [hd0]; exact (hd 0 (by omega)).1
  have hb0 := dec_bd ds hd n (by omega)
  rw [List.take_of_length_le (by omega)] at hb0
  have hb0' := hb0.1
  obtain ⟨p, hpp⟩ : ∃ p, p = dec ds := ⟨_, rfl⟩
  rw [← hpp] at hdc hp hb0' ⊢
  clear hc hd hd0 hpp hb0 hds hts
  have hlead' : 48 < d0 ∨ (d0 ≤ 48 ∧ n < 2) := by omega
  clear hlead
  by_cases h5 : 5 < N <;> by_cases hcn : n + 2 < c <;> rcases hlead' with hlead | ⟨hlead, hn2⟩
  all_goals try (exfalso; omega)
  all_goals
    go_enter Try.func29, Try.ntmps29
    go_wp2_with (first
      | (go_at_call 32; refine (hix _ _ (by omega) (by omega)).mono ?_; rintro e w' ⟨rfl, rfl⟩)
      | (go_at_call 33; refine (hdc _).mono ?_; rintro e w' ⟨rfl, rfl⟩))
    go_quiet (fail)
    go_wp2
    go_ret3
    refine ⟨_, rfl, ?_, below_drewN (Below.refl _ _) _⟩
    first | exact fun _ => rfl | (intro h; exfalso; omega)
set_option maxHeartbeats 1000000 in
theorem cut_no (b n tl N c : Nat) (ds ts : List Int) (w : World) (hN : n + tl + 2 = N) (hNc : N ≤ c) (htl : tl ≤ 1048576) (hc5 : c ≤ 9223372036854775807) (hds : ds.length = n) (hn1 : 1 ≤ n) (hn : n ≤ 3) (hts : ts.length = tl)
    (hd : Digits ds)
    (hc : ∀ i, i < N → w.cell? ⟨b, i, none⟩ = some (.int .u8 ((written 0 ds ts).getD i 0)))
    (hno : 191 < dec ds ∨ (ds.getD 0 0 ≤ 48 ∧ 2 ≤ n)) :
    Calls Try.prog 29 #[.slice (some ⟨b, 0, none⟩) N c] w fun e w' => e = .returned (.tuple #[.int .i64 0, .slice none 0 0, .bool false]) ∧ w' = w := by
  have hix : ∀ m c, n + 2 ≤ m → m ≤ N → Calls Try.prog 32 #[.slice (some ⟨b, 0, none⟩) m c, .int .u8 62] w fun e w' => e = .returned (.int .i64 ((n : Int) + 1)) ∧ w' = w := by
    intro m c h1 h2
    have := index_at b n m c N ds ts w (by omega) (by omega) h2 hd hc
    rwa [hds] at this
  have hdc : ∀ c, Calls Try.prog 33 #[.slice (some ⟨b, 1, none⟩) n c] w fun e w' => e = .returned (.tuple #[.int .i64 (dec ds), .bool true]) ∧ w' = w := by
    intro c
    refine decimal_any b 1 n c ds w hds hn1 (by omega) hd ?_
    intro i hi
    rw [hc (1 + i) (by omega), written_get_digit ds ts i (by omega)]
  obtain ⟨d0, hd0⟩ : ∃ d0, d0 = ds.getD 0 0 := ⟨_, rfl⟩
  have c1 : w.cell? ⟨b, 1, none⟩ = some (.int .u8 d0) := by rw [hc 1 (by omega), hd0, ← written_get_digit ds ts 0 (by omega)]
  have c0 : w.cell? ⟨b, 0, none⟩ = some (.int .u8 60) := by rw [hc 0 (by omega)]; simp [written]
  rw [← hd0] at hno
  have hd48 : 48 ≤ d0 := by rw [hd0]; exact (hd 0 (by omega)).1
  have hb0 := dec_bd ds hd n (by omega)
  rw [List.take_of_length_le (by omega)] at hb0
  have hb0' := hb0.1
  obtain ⟨p, hpp⟩ : ∃ p, p = dec ds := ⟨_, rfl⟩
  rw [← hpp] at hdc hno hb0'
  clear hc hd hd0 hpp hb0 hds hts
  have hno' : 191 < p ∨ (p ≤ 191 ∧ d0 ≤ 48 ∧ 2 ≤ n) := by omega
  clear hno
  by_cases h5 : 5 < N <;> rcases hno' with hno | ⟨hp, hlead, hn2⟩
  all_goals
    go_enter Try.func29, Try.ntmps29
    go_wp2_with (first
      | (go_at_call 32; refine (hix _ _ (by omega) (by omega)).mono ?_; rintro e w' ⟨rfl, rfl⟩)
      | (go_at_call 33; refine (hdc _).mono ?_; rintro e w' ⟨rfl, rfl⟩))
    go_ret3
    exact ⟨rfl, rfl⟩

set_option maxHeartbeats 1000000 in
theorem cut_long (b N c : Nat) (xs : List Int) (w : World) (hN : 5 ≤ N) (hNc : N ≤ c) (hc5 : c ≤ 9223372036854775807) (hN2 : N ≤ 9223372036854775807) (hx : xs.length = 5) (hd : ∀ d ∈ xs, 0 ≤ d ∧ d ≤ 61)
    (hc : ∀ i, i < 5 → w.cell? ⟨b, i, none⟩ = some (.int .u8 (xs.getD i 0))) :
    Calls Try.prog 29 #[.slice (some ⟨b, 0, none⟩) N c] w fun e w' => e = .returned (.tuple #[.int .i64 0, .slice none 0 0, .bool false]) ∧ w' = w := by
  have hix : ∀ c, Calls Try.prog 32 #[.slice (some ⟨b, 0, none⟩) 5 c, .int .u8 62] w fun e w' => e = .returned (.int .i64 (-1)) ∧ w' = w := by
    intro c
    exact index_miss b 5 c xs w hx hd hc
  clear hc hd
  by_cases h5 : 5 < N
  · go_enter Try.func29, Try.ntmps29
    go_wp2_with (go_at_call 32; refine (hix _).mono ?_; rintro e w' ⟨rfl, rfl⟩)
    go_ret3
    exact ⟨rfl, rfl⟩
  · have e5 : N = 5 := by omega
    subst e5
    go_enter Try.func29, Try.ntmps29
    go_wp2_with (go_at_call 32; refine (hix _).mono ?_; rintro e w' ⟨rfl, rfl⟩)
    go_ret3
    exact ⟨rfl, rfl⟩

/-! ### ZZCutPriority: the same answers -/
theorem zz_ok (b n tl N c : Nat) (ds ts : List Int) (w : World) (hN : n + tl + 2 = N) (hNc : N ≤ c) (htl : tl ≤ 1048576) (hc5 : c ≤ 9223372036854775807) (hds : ds.length = n) (hn1 : 1 ≤ n) (hn : n ≤ 3) (hts : ts.length = tl)
    (hd : Digits ds)
    (hc : ∀ i, i < N → w.cell? ⟨b, i, none⟩ = some (.int .u8 ((written 0 ds ts).getD i 0)))
    (hp : dec ds ≤ 191) (hlead : 48 < ds.getD 0 0 ∨ n < 2) :
    Calls Try.prog 12 #[.slice (some ⟨b, 0, none⟩) N c] w fun e w' => ∃ ao, e = .returned (.tuple #[.int .i64 (dec ds), .slice ao tl (c - (n + 2)), .bool true]) ∧ (1 ≤ tl → ao = some ⟨b, n + 2, none⟩) ∧ Below w.heap.size w w' := by
  have h := cut_ok b n tl N c ds ts w hN hNc htl hc5 hds hn1 hn hts hd hc hp hlead
  have e : N - (n + 2) = tl := by omega
  rw [e] at h
  clear e hc hd
  go_enter Try.func12, Try.ntmps12
  go_wp2_with (go_at_call 29; refine h.mono ?_; rintro e w' ⟨ao, rfl, hao, hb⟩)
  go_ret3
  exact ⟨_, rfl, hao, hb⟩

theorem zz_no (b N c : Nat) (w : World) (h : Calls Try.prog 29 #[.slice (some ⟨b, 0, none⟩) N c] w fun e w' => e = .returned (.tuple #[.int .i64 0, .slice none 0 0, .bool false]) ∧ w' = w) :
    Calls Try.prog 12 #[.slice (some ⟨b, 0, none⟩) N c] w fun e w' => e = .returned (.tuple #[.int .i64 0, .slice none 0 0, .bool false]) ∧ w' = w := by
  go_enter Try.func12, Try.ntmps12
  go_wp2_with (go_at_call 29; refine h.mono ?_; rintro e w' ⟨rfl, rfl⟩)
  go_ret3
  exact ⟨rfl, rfl⟩
end Go.Proofs.Qxb6601108a
