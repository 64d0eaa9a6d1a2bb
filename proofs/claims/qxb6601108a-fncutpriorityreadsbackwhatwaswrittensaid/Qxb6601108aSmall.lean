/-
  The small callees on the road of FnCutPriorityReadsBackWhatWasWritten: the bound, IndexByte, clone, sameBytes, decimal.
-/
import Derived.Test.Qxb6601108aRows
import Derived.WalkKit
import Derived.Below
import Derived.BigQuiet
import Derived.Deep.QuietTactic
import Derived.Lib.BytesEntry
import Derived.WalkSpells
import Derived.Lib.SliceRun
namespace Go.Proofs.Qxb6601108a
open Go.RowKit
set_option linter.unusedVariables false

theorem Try.info5 : (Try.prog.info? 5).map (fun i => (i.zero, i.size, i.bytes)) = some (some (.int .u8 0), 1, 1) := by kernel_rfl

theorem bound_any (p : Int) (a : Option Addr) (len cap : Nat) (w : World) (hl : len ≤ 9223372036854775807) :
    Calls Try.prog 16 #[.int .i64 p, .slice a len cap] w fun e w' => e = .returned (.bool (decide (len ≤ 1048576))) ∧ w' = w := by
  by_cases h : len ≤ 1048576
  · go_enter Try.func16, Try.ntmps16
    go_wp2
    go_ret
    exact ⟨by simp [h], rfl⟩
  · go_enter Try.func16, Try.ntmps16
    go_wp2
    go_ret
    exact ⟨by simp [h], rfl⟩

set_option maxRecDepth 100000 in
theorem index_any (b o n c : Nat) (xs : List Int) (cv : Int) (w : World) (hx : xs.length = n)
    (hc : ∀ i, i < n → w.cell? ⟨b, o + i, none⟩ = some (.int .u8 (xs.getD i 0))) :
    Calls Try.prog 32 #[.slice (some ⟨b, o, none⟩) n c, .int .u8 cv] w fun e w' => e = .returned (.int .i64 (Lib.indexByte (Lib.bytesOf xs) cv.toNat.toUInt8)) ∧ w' = w := by
  go_enter Try.func32, Try.ntmps32
  go_wp2
  rw [run_callFunc_extern Try.func34 (by kernel_rfl) (by kernel_rfl) (by kernel_rfl) (e := Extern.BytealgIndexByte.indexByte) (by kernel_rfl), Lib.run_indexByteSlice w b o n c xs hx hc cv]
  simp only [Result.andThen]
  rw [Oper.upon_value]
  go_wp2
  go_ret
  exact ⟨rfl, rfl⟩

def dec (ds : List Int) : Int := ds.foldl (fun n d => 10 * n + (d - 48)) 0
theorem dec_snoc (ds : List Int) (d : Int) : dec (ds ++ [d]) = 10 * dec ds + (d - 48) := by simp [dec]
theorem take_snoc (zs : List Int) (k : Nat) (h : k < zs.length) : zs.take (k + 1) = zs.take k ++ [zs[k]?.getD 0] := by
  rw [List.take_succ_eq_append_getElem h]; simp [h]
theorem dec_bd (ds : List Int) (hd : ∀ i, i < ds.length → 48 ≤ ds[i]?.getD 0 ∧ ds[i]?.getD 0 ≤ 57) : ∀ k, k ≤ ds.length → 0 ≤ dec (ds.take k) ∧ dec (ds.take k) + 1 ≤ 10 ^ k
  | 0, _ => by simp [dec]
  | k + 1, h => by
    have ih := dec_bd ds hd k (by omega)
    have := hd k (by omega)
    rw [take_snoc ds k (by omega), dec_snoc]
    have e : (10 : Int) ^ (k + 1) = 10 * 10 ^ k := by rw [Int.pow_succ]; omega
    rw [e]; omega

set_option maxHeartbeats 400000 in
theorem decimal_any (b o n c : Nat) (ds : List Int) (w : World) (hx : ds.length = n) (hn1 : 1 ≤ n) (hn : n ≤ 4)
    (hd : ∀ i, i < ds.length → 48 ≤ ds[i]?.getD 0 ∧ ds[i]?.getD 0 ≤ 57)
    (hc : ∀ i, i < n → w.cell? ⟨b, o + i, none⟩ = some (.int .u8 (ds.getD i 0))) :
    Calls Try.prog 33 #[.slice (some ⟨b, o, none⟩) n c] w fun e w' => e = .returned (.tuple #[.int .i64 (dec ds), .bool true]) ∧ w' = w := by
  go_enter Try.func33, Try.ntmps33
  go_wp2
  go_loop [4, 9] (fun t i => ∃ k : Nat, k ≤ n ∧ i = .int .i64 k ∧ t = .int .i64 (dec (ds.take k))) (fun _ i => n - (intOf i).toNat)
  case atStart => exact ⟨0, Nat.zero_le _, rfl, rfl⟩
  case round =>
    obtain ⟨k, hk, rfl, rfl⟩ := hrel
    by_cases hlt : k < n
    · obtain ⟨d, hdd⟩ : ∃ d, d = ds.getD k 0 := ⟨_, rfl⟩
      have hcell : w.cell? ⟨b, o + k, none⟩ = some (.int .u8 d) := by rw [hdd]; exact hc k hlt
      have hb := dec_bd ds hd k (by omega)
      have h10 : (10 : Int) ^ k ≤ 10000 := by
        rcases (show k = 0 ∨ k = 1 ∨ k = 2 ∨ k = 3 by omega) with rfl | rfl | rfl | rfl <;> decide
      have hb2 : dec (ds.take k) ≤ 10000 := by omega
      have hb1 := hb.1
      have hd1 : 48 ≤ d := by rw [hdd]; exact (hd k (by omega)).1
      have hd2 : d ≤ 57 := by rw [hdd]; exact (hd k (by omega)).2
      have HS : Hid (dec (ds.take (k + 1)) = 10 * dec (ds.take k) + (d - 48)) := by rw [take_snoc ds k (by omega), dec_snoc, hdd]; exact rfl
      clear hb h10 hd hc hdd
      go_wp2
      go_round
      case rel => exact ⟨k + 1, by omega, by go_num, by rw [HS.out]⟩
      case measure => simp [intOf]; omega
    · have : k = n := by omega
      subst this
      go_wp2
      go_ret2
      have ht : ds.take k = ds := List.take_of_length_le (by omega)
      exact ⟨by simp [ht]; omega, rfl⟩

/-! ### zzClone -/
theorem set_step (zs : List Int) (k n : Nat) (hk : k < n) (hz : n ≤ zs.length) :
    ((zs.take k ++ List.replicate (n - k) 0).map (Value.int .u8)).set k (.int .u8 (zs.getD k 0)) = (zs.take (k + 1) ++ List.replicate (n - (k + 1)) 0).map (Value.int .u8) := by
  have e : n - k = (n - (k + 1)) + 1 := by omega
  rw [e, take_snoc zs k (by omega), List.replicate_succ, List.map_append, List.map_cons, List.set_append]
  have hl : (List.map (Value.int IntKind.u8) (zs.take k)).length = k := by simp; omega
  rw [if_neg (by omega), hl, Nat.sub_self]
  simp

theorem get_step (zs : List Int) (k n : Nat) (hk : k < n) (hz : n ≤ zs.length) :
    ((zs.take k ++ List.replicate (n - k) 0).map (Value.int .u8))[k]? = some (.int .u8 0) := by
  have h1 : (zs.take k).length = k := List.length_take_of_le (by omega)
  rw [List.getElem?_map, List.getElem?_append_right (by omega), h1, Nat.sub_self, List.getElem?_replicate, if_pos (by omega)]
  rfl

theorem eqnil (w : World) (a : Option Addr) (n c n' c' : Nat) : (binOp .eql 22 (.slice a n c) (.slice none n' c')).run Try.prog w = .ok (.bool a.isNone) w := Lib.run_eql_slice_nil w _ _ a n c n' c' Try.underlying22

theorem clone_nil (w : World) : Calls Try.prog 11 #[.slice none 0 0] w fun e w' => e = .returned (.slice none 0 0) ∧ w' = w := by
  have q22 := eqnil
  go_enter Try.func11, Try.ntmps11
  go_wp2
  go_ret
  exact ⟨rfl, rfl⟩

theorem made_replicate (len : Nat) (zs : List Int) : (madeCells #[Value.int .u8 0] len).toList = ((zs.take 0 ++ List.replicate (len - 0) 0).map (Value.int .u8)) := by
  rw [toList_madeCells_one]; simp

theorem clone_zero (x : Addr) (cap : Nat) (w : World) :
    Calls Try.prog 11 #[.slice (some x) 0 cap] w fun e w' => e = .returned (.slice (some ⟨w.heap.size, 0, none⟩) 0 0) ∧
      w'.ownsRow w.heap.size 5 1 (.slice (some ⟨w.heap.size, 0, none⟩) 0 0) 0 [] ∧ Below w.heap.size w w' := by
  obtain ⟨i0, hi, hz0, hz1, hz2⟩ := info_parts Try.info5
  have q22 := eqnil
  go_enter Try.func11, Try.ntmps11
  go_wp2_with (at_make; refine wpList_make_full _ rfl _ _ 22 rfl w.heap.size 5 i0 (.int .u8 0) 1 Try.underlying22 hi hz0 hz1 _ _ _ _ 0 rfl rfl rfl rfl ?b2 ?b3 (Nat.le_refl _) ?_)
  case b2 => omega
  case b3 => unfold maxLen; omega
  intro w0 hown0 hgrow0
  go_wp2
  refine wp_loop_rounds 1 ?_
  rw [rounds_succ]
  go_wp2
  go_ret
  rw [made_replicate 0 []] at hown0
  exact ⟨rfl, hown0, (Below.refl _ _).grown hgrow0 (Nat.le_refl _) (fun k h => by cases h)⟩

set_option maxHeartbeats 400000 in
theorem clone_some (b off len cap : Nat) (zs : List Int) (w : World) (hl : len ≤ zs.length) (hm : len ≤ 1048576) (hxb : b < w.heap.size)
    (hc : ∀ i, i < len → w.cell? ⟨b, off + i, none⟩ = some (.int .u8 (zs.getD i 0))) :
    Calls Try.prog 11 #[.slice (some ⟨b, off, none⟩) len cap] w fun e w' => e = .returned (.slice (some ⟨w.heap.size, 0, none⟩) len len) ∧
      w'.ownsRow w.heap.size 5 1 (.slice (some ⟨w.heap.size, 0, none⟩) len len) len ((zs.take len).map (Value.int .u8)) ∧ Below w.heap.size w w' := by
  obtain ⟨i0, hi, hz0, hz1, hz2⟩ := info_parts Try.info5
  have q22 := eqnil
  go_enter Try.func11, Try.ntmps11
  go_wp2_with (at_make; refine wpList_make_full _ rfl _ _ 22 rfl w.heap.size 5 i0 (.int .u8 0) 1 Try.underlying22 hi hz0 hz1 _ _ _ _ len rfl rfl rfl rfl ?b2 ?b3 (Nat.le_refl _) ?_)
  case b2 => rw [hz2]; omega
  case b3 => unfold maxLen; omega
  intro w0 hown0 hgrow0
  rw [made_replicate len zs] at hown0
  go_wp2
  go_loopw [4] (fun si wr => ∃ k : Nat, k ≤ len ∧ si = .int .i64 k ∧
      wr.ownsRow w.heap.size 5 1 (.slice (some ⟨w.heap.size, 0, none⟩) len len) len ((zs.take k ++ List.replicate (len - k) 0).map (Value.int .u8)) ∧ Below w.heap.size w wr) (fun si _ => len - (intOf si).toNat)
  case atStart => exact ⟨0, Nat.zero_le _, rfl, hown0, (Below.refl _ _).grown hgrow0 (Nat.le_refl _) (fun k h => by cases h)⟩
  case round =>
    obtain ⟨k, hk, rfl, hown, hb⟩ := hrel
    by_cases hlt : k < len
    · obtain ⟨d, hdd⟩ : ∃ d, d = zs.getD k 0 := ⟨_, rfl⟩
      have hcell : wr.cell? ⟨b, off + k, none⟩ = some (.int .u8 d) := by rw [hdd]; exact (hb.cell (p := ⟨b, off + k, none⟩) hxb).trans (hc k hlt)
      have hfz := hown.frozenAt k
      have hst := hown.stored k (.int .u8 d)
      have hcl : wr.cell? ⟨w.heap.size, k, none⟩ = some (.int .u8 0) := by
        rw [hown.cellAt k (by omega)]; exact get_step zs k len hlt hl
      have hown' : (wr.setCell ⟨w.heap.size, k, none⟩ (.int .u8 d)).ownsRow w.heap.size 5 1 (.slice (some ⟨w.heap.size, 0, none⟩) len len) len ((zs.take (k + 1) ++ List.replicate (len - (k + 1)) 0).map (Value.int .u8)) := by
        rw [← set_step zs k len hlt hl, ← hdd]; exact hst.1
      have hb' := hb.grown hst.2 hb.size (fun k h => by cases h; exact Nat.le_refl _)
      have HO : Hid _ := hown'
      have HB : Hid _ := hb'
      clear hst hown' hb' hown hdd hc
      go_wp2
      go_roundw
      case rel => exact ⟨k + 1, by omega, by go_num, HO.out, HB.out⟩
      case measure => simp [intOf]; omega
    · have : k = len := by omega
      subst this
      go_wp2
      go_ret
      exact ⟨rfl, by simpa using hown, hb⟩
end Go.Proofs.Qxb6601108a
