/-
  The walk of FnValueEndMatchesModel.
-/
import Derived.Test.Qxb6601221aOpen
import Derived.OpenShut
import Derived.Laws.CopyOwn
namespace Go.Proofs.Qxb6601221a
open Go.RowKit
set_option linter.unusedVariables false

theorem Try.info5 : (Try.prog.info? 5).map (fun i => (i.zero, i.size, i.bytes)) = some (some (.int .u8 0), 1, 1) := by kernel_rfl
theorem Try.size5 : (Try.prog.info? 5).map (·.size) = some 1 := by kernel_rfl

/-- Where valueEnd and its model agree: one pair for both. -/
theorem both (a : Option Addr) (B n c : Nat) (zs : List Int) (i : Int) (w : World) (ha : 1 ≤ n → a = some ⟨B, 0, none⟩) (hn : zs.length = n) (hn2 : n ≤ 65536) (hnc : n ≤ c) (hc5 : c ≤ 9223372036854775807) (ht : Text w B zs) (hi0 : 0 ≤ i) (hi1 : i ≤ 9223372036854775807) :
    ∃ r b, Calls Try.prog 16 #[.slice a n c, .int .i64 i] w (fun e w' => e = .returned (.tuple #[.int .i64 r, .bool b]) ∧ w' = w) ∧
      Calls Try.prog 13 #[.slice a n c, .int .i64 i] w (fun e w' => e = .returned (.tuple #[.int .i64 r, .bool b]) ∧ w' = w) := by
  by_cases hout : (n : Int) ≤ i
  · exact ⟨_, _, v_out a n c i w hn2 hout hi1, m_out a n c i w hn2 hout hi1⟩
  · obtain ⟨k, rfl⟩ : ∃ k : Nat, i = k := ⟨i.toNat, by omega⟩
    have hk : k < n := by omega
    obtain rfl := ha (by omega)
    by_cases h34 : zs.getD k 0 = 34
    · exact ⟨_, _, v_str B n c k zs w hn hn2 hnc hc5 ht hk h34, m_str B n c k zs w hn hn2 ht hk h34⟩
    · by_cases ho : zs.getD k 0 = 123 ∨ zs.getD k 0 = 91
      · exact ⟨_, _, v_open B n c k zs w hn hn2 hnc hc5 ht hk ho, m_open B n c k zs w hn hn2 ht hk ho⟩
      · by_cases hc : zs.getD k 0 = 125 ∨ zs.getD k 0 = 93
        · exact ⟨_, _, v_close B n c k zs w hn hn2 ht hk hc, m_close B n c k zs w hn hn2 ht hk hc⟩
        · have hp : Plain (zs.getD k 0) := ⟨h34, by omega, by omega, by omega, by omega⟩
          exact ⟨_, _, v_scal B n c k zs w hn hn2 ht hk hp, m_scal B n c k zs w hn hn2 ht hk hp⟩

/-- ZZValueEnd hands the answer on. -/
theorem zz12 (a : Option Addr) (n c : Nat) (i r : Int) (b : Bool) (w : World) (h : Calls Try.prog 16 #[.slice a n c, .int .i64 i] w (fun e w' => e = .returned (.tuple #[.int .i64 r, .bool b]) ∧ w' = w)) :
    Calls Try.prog 12 #[.slice a n c, .int .i64 i] w (fun e w' => e = .returned (.tuple #[.int .i64 r, .bool b]) ∧ w' = w) := by
  go_enter Try.func12, Try.ntmps12
  go_wp2_with (go_at_call 16; refine h.mono ?_; rintro e w' ⟨rfl, rfl⟩)
  go_ret2
  exact ⟨rfl, rfl⟩

/-- What the built-in copy leaves. -/
theorem copied (w w0 : World) (x : Addr) (B n cap : Nat) (zs : List Int) (xs : List Value) (hz : n ≤ zs.length) (hB : w.heap.size ≤ B) (hb : Below w.heap.size w w0)
    (hown : w0.ownsRow w.heap.size 5 1 (.slice (some ⟨B, 0, none⟩) n n) n xs) (hx : ∀ i, i < n → w.cell? (x.add i) = some (.int .u8 (zs.getD i 0))) :
    ∃ w1, (∀ ty, (Builtin.copy_ #[22, 22] ty #[.slice (some ⟨B, 0, none⟩) n n, .slice (some x) n cap]).run Try.prog w0 = .ok (goInt n) w1) ∧
      (∀ k, k < n → w1.cell? ⟨B, k, none⟩ = some (.int .u8 (zs.getD k 0))) ∧ Below w.heap.size w w1 := by
  rcases hown.2 with ⟨h', _⟩ | ⟨g, c', cur, h', _, hg, _, _, hcs, _⟩
  · simp at h'
  · simp only [Value.slice.injEq, Option.some.injEq, Addr.mk.injEq, and_true, true_and] at h'
    obtain ⟨rfl, rfl⟩ := h'
    have hl : ((zs.take n).map (Value.int .u8)).length = n := by simp; omega
    have hsrc : ∀ j v, ((zs.take n).map (Value.int .u8))[j]? = some v → w0.cell? (x.add j) = some v := by
      intro j v hj
      have hjn : j < n := by
        have := (List.getElem?_eq_some_iff.1 hj).1
        omega
      have hcj := hx j hjn
      have e : v = .int .u8 (zs.getD j 0) := by
        have : ((zs.take n).map (Value.int .u8))[j]? = some (.int .u8 (zs.getD j 0)) := by
          simp [List.getD, hjn, show j < zs.length by omega]
        rw [this] at hj; exact (Option.some.inj hj).symm
      rw [e, hb.cell (p := x.add j) (block_lt_of_cell hcj)]; exact hcj
    refine ⟨w0.setRow B (cur.toList.take 0 ++ (zs.take n).map (Value.int .u8) ++ cur.toList.drop (0 + ((zs.take n).map (Value.int .u8)).length)).toArray, fun ty => ?_, fun k hk => ?_, below_setRow hb hB _⟩
    · have := run_copy_row (P := Try.prog) w0 22 22 ty 5 B 0 n n x n cap cur 5 ((zs.take n).map (Value.int .u8)) Try.underlying22 Try.size5 hg (by rw [hl]; exact (Nat.min_self n).symm) hsrc (by rw [hl]; omega) (ints_oneCell _ _)
      rw [this, hl]
    · rw [cell_of_row _ B k _ 5 (0, 0) (setRow_heap w0 B _ _ 5 _ hg), hl, List.drop_eq_nil_of_le (by simp; omega)]
      simp [List.getD, hk, show k < zs.length by omega]

/-- What the walk is told of a slice of bytes that came in (the shell's own words). -/
def IsRow (k : IntKind) (w : World) (a : Option Addr) (len cap : Nat) (zs : List Int) : Prop :=
  (a = none ∧ len = 0 ∧ cap = 0 ∧ zs = []) ∨
  ∃ x, a = some x ∧ len ≤ cap ∧ cap ≤ maxLen ∧ zs.length = cap ∧ (∀ i, i < zs.length → w.cell? (x.add i) = some (.int k (zs.getD i 0))) ∧ ∀ n ∈ zs, (Lit.int k n).wf = true

theorem wf_bd {zs : List Int} (h : ∀ n ∈ zs, (Lit.int .u8 n).wf = true) : (∀ k, 0 ≤ zs.getD k 0) ∧ ∀ k, zs.getD k 0 ≤ 255 := by
  have := range_u8 h
  exact ⟨fun k => (this k).1, fun k => (this k).2⟩

theorem neqnil (w : World) (a : Option Addr) (n c n' c' : Nat) : (binOp .neq 22 (.slice a n c) (.slice none n' c')).run Try.prog w = .ok (.bool (!a.isNone)) w := run_neq_slice_nil_any w _ _ a n c n' c' Try.underlying22

set_option maxHeartbeats 1000000 in
theorem walk (a0 : Option Addr) (len0 cap0 : Nat) (z0 : List Int) (a1 : Int) (w : World) (w0 : IsRow .u8 w a0 len0 cap0 z0) (w1 : (Lit.int .i64 a1).wf = true) :
    Calls Try.prog 5 #[.slice a0 len0 cap0, .int .i64 a1] w fun e w' => e = .returned (.bool true) ∧ Below w.heap.size w w' := by
  have hlen : len0 ≤ 9223372036854775807 := by
    rcases w0 with ⟨_, rfl, _⟩ | ⟨x, _, h1, h2, _⟩
    · omega
    · unfold maxLen at h2; omega
  have hp := bounds_i64 w1
  have q22 := neqnil
  clear w1
  by_cases hl : len0 ≤ 1048576
  case neg =>
    have hf : decide (len0 ≤ 1048576) = false := decide_eq_false hl
    go_enter Try.func5, Try.ntmps5
    go_wp2_with (go_at_call 11; refine (bound_any _ _ _ _ _ hlen).mono ?_; rw [hf]; rintro e w' ⟨rfl, rfl⟩)
    go_ret
    exact ⟨rfl, Below.refl _ _⟩
  have hf : decide (len0 ≤ 1048576) = true := decide_eq_true hl
  by_cases hl2 : len0 ≤ 65536
  case neg =>
    go_enter Try.func5, Try.ntmps5
    go_wp2_with (go_at_call 11; refine (bound_any _ _ _ _ _ hlen).mono ?_; rw [hf]; rintro e w' ⟨rfl, rfl⟩)
    go_ret
    exact ⟨rfl, Below.refl _ _⟩
  by_cases h0 : a1 < 0
  · go_enter Try.func5, Try.ntmps5
    go_wp2_with (go_at_call 11; refine (bound_any _ _ _ _ _ hlen).mono ?_; rw [hf]; rintro e w' ⟨rfl, rfl⟩)
    go_ret
    exact ⟨rfl, Below.refl _ _⟩
  have h0' : 0 ≤ a1 := by omega
  have h1' : a1 ≤ 9223372036854775807 := hp.2
  clear hp h0
  rcases w0 with ⟨rfl, rfl, rfl, rfl⟩ | ⟨x, rfl, hlc, hcm, hzl, hc, hwf⟩
  · obtain ⟨r, b, hv, hm⟩ := both none 0 0 0 [] a1 w (by omega) rfl (by omega) (by omega) (by omega) ⟨fun k hk => by simp at hk, fun k => by simp, fun k => by simp, by simp⟩ h0' h1'
    have hz := zz12 _ _ _ _ _ _ _ hv
    clear hv
    go_enter Try.func5, Try.ntmps5
    go_wp2_with (first
      | (go_at_call 11; refine (bound_any _ _ _ _ _ hlen).mono ?_; rw [hf]; rintro e w' ⟨rfl, hw'⟩; replace hw' := hw'.symm; subst hw')
      | (go_at_call 12; refine hz.mono ?_; rintro e w' ⟨rfl, hw'⟩; replace hw' := hw'.symm; subst hw')
      | (go_at_call 13; refine hm.mono ?_; rintro e w' ⟨rfl, hw'⟩; replace hw' := hw'.symm; subst hw'))
    go_ret
    exact ⟨rfl, Below.refl _ _⟩
  · have hbd := wf_bd hwf
    obtain ⟨i0, hi, hz0, hz1, hz2⟩ := info_parts Try.info5
    go_enter Try.func5, Try.ntmps5
    go_wp2_with (first
      | (go_at_call 11; refine (bound_any _ _ _ _ _ hlen).mono ?_; rw [hf]; rintro e w' ⟨rfl, hw'⟩; replace hw' := hw'.symm; subst hw')
      | (at_make; refine wpList_make_full _ rfl _ _ 22 rfl w.heap.size 5 i0 (.int .u8 0) 1 Try.underlying22 hi hz0 hz1 _ _ _ _ len0 rfl rfl rfl rfl (by rw [hz2]; omega) (by unfold maxLen; omega) (Nat.le_refl _) ?_))
    intro w0 hown0 hgrow0
    obtain ⟨w1, hcopy, hcells, hb1⟩ := copied w w0 x w.heap.size len0 cap0 z0 _ (by omega) (Nat.le_refl _) ((Below.refl _ _).grown hgrow0 (Nat.le_refl _) (fun k h => by cases h)) hown0 (fun i hi => hc i (by omega))
    clear hown0 hgrow0
    have hz' : (z0.take len0).length = len0 := by rw [List.length_take]; omega
    have ht : Text w1 w.heap.size (z0.take len0) := by
      have e : ∀ k, (z0.take len0).getD k 0 = if k < len0 then z0.getD k 0 else 0 := by
        intro k
        by_cases hk : k < len0
        · simp [List.getD, hk]
        · simp [List.getD, List.getElem?_take, hk]
      refine ⟨fun k hk => ?_, fun k => ?_, fun k => ?_, by omega⟩
      · rw [hcells k (by omega), e k, if_pos (by omega)]
      · rw [e k]; split
        · exact hbd.1 k
        · omega
      · rw [e k]; split
        · exact hbd.2 k
        · omega
    obtain ⟨r, b, hv, hm⟩ := both (some ⟨w.heap.size, 0, none⟩) w.heap.size len0 len0 (z0.take len0) a1 w1 (fun _ => rfl) hz' hl2 (Nat.le_refl _) hlen ht h0' h1'
    have hz := zz12 _ _ _ _ _ _ _ hv
    clear hv ht hcells hc hwf hz'
    go_wp2_with (first
      | (go_at_call 12; refine hz.mono ?_; rintro e w' ⟨rfl, hw'⟩; replace hw' := hw'.symm; subst hw')
      | (go_at_call 13; refine hm.mono ?_; rintro e w' ⟨rfl, hw'⟩; replace hw' := hw'.symm; subst hw'))
    go_ret
    exact ⟨rfl, hb1⟩
end Go.Proofs.Qxb6601221a
