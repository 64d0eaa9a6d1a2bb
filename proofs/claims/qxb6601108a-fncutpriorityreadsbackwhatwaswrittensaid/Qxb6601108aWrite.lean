/-
  zzWrite.
-/
import Derived.Test.Qxb6601108aSame
namespace Go.Proofs.Qxb6601108a
open Go.RowKit
set_option linter.unusedVariables false

/-- What zzWrite writes. -/
def written (z : Nat) (ds ts : List Int) : List Int := 60 :: (List.replicate z 48 ++ (ds ++ 62 :: ts))

theorem add_block (ad : Addr) (t : Nat) : (ad.add t).block = ad.block := by unfold Addr.add; split <;> rfl

theorem one_new {w : World} {v : Value} {t : TypeId} : ∀ j u, [v][j]? = some u → (w.alloc (.cells #[v] t)).cell? ((⟨w.heap.size, 0, none⟩ : Addr).add j) = some u := by
  intro j u hj
  match j, hj with
  | 0, hj => simp at hj; subst hj; simp [Addr.add]

set_option maxHeartbeats 1000000 in
theorem write_any (z D dl dc tl tc : Nat) (ds ts : List Int) (ao : Option Addr) (w : World) (hz : z ≤ 1) (hds : ds.length = dl) (hdl : dl ≤ 3) (hts : ts.length = tl) (htl : tl ≤ 1048576)
    (hD : D < w.heap.size) (hcd : ∀ i, i < dl → w.cell? ⟨D, i, none⟩ = some (.int .u8 (ds.getD i 0)))
    (hnone : ao = none → tl = 0 ∧ tc = 0) (hct : ∀ ad, ao = some ad → ad.block < w.heap.size ∧ ∀ j u, (ts.map (Value.int .u8))[j]? = some u → w.cell? (ad.add j) = some u) :
    Calls Try.prog 18 #[.int .i64 z, .slice (some ⟨D, 0, none⟩) dl dc, .slice ao tl tc] w fun e w' =>
      e = .returned (.slice (some ⟨w.heap.size, 0, none⟩) (z + dl + tl + 2) (z + dl + tl + 2)) ∧
      w'.ownsRow w.heap.size 5 1 (.slice (some ⟨w.heap.size, 0, none⟩) (z + dl + tl + 2) (z + dl + tl + 2)) (z + dl + tl + 2) ((written z ds ts).map (Value.int .u8)) ∧ Below w.heap.size w w' := by
  obtain ⟨i0, hi, hz0, hz1, hz2⟩ := info_parts Try.info5
  go_enter Try.func18, Try.ntmps18
  go_wp2_with (first
    | (at_make; refine wpList_make_own _ rfl _ _ 22 rfl w.heap.size 5 i0 (.int .u8 0) 1 Try.underlying22 hi hz0 hz1 _ _ _ (z + dl + tl + 2) rfl rfl (by omega) (by rw [hz2]; omega) (by unfold maxLen; omega) (Nat.le_refl _) ?_; intro w0 hown0 hgrow0)
    | (at_builtin; refine wpList_append_fits _ rfl (.tmp 18) (.tmp 19) 22 rfl w.heap.size 5 i0 1 Try.underlying22 hi hz1 w.heap.size 0 (z + dl + tl + 2) _ rfl (hown0.alloc _) ⟨w0.heap.size, 0, none⟩ 1 1 [.int .u8 60] rfl rfl one_new (by intro u hu; simp at hu; subst hu; rfl) (by omega) ?_; intro w1 hown1 hgrow1))
  go_loopw [7, 8] (fun out si wr => ∃ j : Nat, j ≤ z ∧ si = .int .i64 j ∧ out = .slice (some ⟨w.heap.size, 0, none⟩) (j + 1) (z + dl + tl + 2) ∧
      wr.ownsRow w.heap.size 5 1 (.slice (some ⟨w.heap.size, 0, none⟩) (j + 1) (z + dl + tl + 2)) (j + 1) ((60 :: List.replicate j 48).map (Value.int .u8)) ∧ Below w.heap.size w wr) (fun _ si _ => z - (intOf si).toNat)
  case atStart =>
    have b0 := (Below.refl w.heap.size w).grown hgrow0 (Nat.le_refl _) (fun k h => by cases h)
    exact ⟨0, Nat.zero_le _, rfl, rfl, by simpa using hown1, (b0.alloc b0.size _).grown hgrow1 (by simp; have := b0.size; omega) (fun k h => by cases h; exact Nat.le_refl _)⟩
  case round =>
    obtain ⟨j, hj, rfl, rfl, hown, hb⟩ := hrel
    by_cases hlt : j < z
    · go_wp2_with (at_builtin; refine wpList_append_fits _ rfl (.tmp 26) (.tmp 27) 22 rfl w.heap.size 5 i0 1 Try.underlying22 hi hz1 w.heap.size (j + 1) (z + dl + tl + 2) _ rfl (hown.alloc _) ⟨wr.heap.size, 0, none⟩ 1 1 [.int .u8 48] rfl rfl one_new (by intro u hu; simp at hu; subst hu; rfl) (by omega) ?_; intro w2 hown2 hgrow2)
      go_roundw
      case rel =>
        refine ⟨j + 1, by omega, by go_num, rfl, ?_, (hb.alloc hb.size _).grown hgrow2 (by simp; have := hb.size; omega) (fun k h => by cases h; exact Nat.le_refl _)⟩
        have e : (60 :: List.replicate (j + 1) 48).map (Value.int .u8) = (60 :: List.replicate j 48).map (Value.int .u8) ++ [.int .u8 48] := by
          rw [List.replicate_succ']; simp
        rw [e]; exact hown2
      case measure => simp [intOf]; omega
    · have hjz : j = z := by omega
      subst hjz
      have cd : ∀ t u, (ds.map (Value.int .u8))[t]? = some u → wr.cell? ((⟨D, 0, none⟩ : Addr).add t) = some u := by
        intro t u hu
        have ht : t < dl := by
          have := (List.getElem?_eq_some_iff.1 hu).1
          simpa [hds] using this
        rw [Addr.add_lit, hb.cell (p := ⟨D, 0 + t, none⟩) hD, Nat.zero_add, hcd t ht, ← hu]
        simp [List.getD, hds, ht]
      go_wp2_with (first
        | (at_builtin; refine wpList_append_fits _ rfl (.tmp 29) (.tmp 30) 22 rfl w.heap.size 5 i0 1 Try.underlying22 hi hz1 w.heap.size (j + 1) (j + dl + tl + 2) _ rfl hown ⟨D, 0, none⟩ dl _ (ds.map (Value.int .u8)) rfl (by simp [hds]) cd (ints_oneCell _ _) (by omega) ?_; intro w3 hown3 hgrow3; have hb3 := hb.grown hgrow3 hb.size (fun k h => by cases h; exact Nat.le_refl _))
        | (at_builtin; refine wpList_append_fits _ rfl (.tmp 32) (.tmp 33) 22 rfl w.heap.size 5 i0 1 Try.underlying22 hi hz1 w.heap.size (j + 1 + dl) (j + dl + tl + 2) _ rfl (hown3.alloc _) ⟨w3.heap.size, 0, none⟩ 1 1 [.int .u8 62] rfl rfl one_new (by intro u hu; simp at hu; subst hu; rfl) (by omega) ?_; intro w4 hown4 hgrow4; have hb4 := (hb3.alloc hb3.size _).grown hgrow4 (by simp; have := hb3.size; omega) (fun k h => by cases h; exact Nat.le_refl _))
        | (at_builtin; refine wpList_append_fits_any _ rfl (.tmp 35) (.tmp 36) 22 rfl w.heap.size 5 i0 1 Try.underlying22 hi hz1 w.heap.size (j + 1 + dl + 1) (j + dl + tl + 2) _ rfl hown4 ao tl _ (ts.map (Value.int .u8)) rfl (by simp [hts]) hnone (fun ad had t u hu => by rw [hb4.cell (p := ad.add t) (by rw [add_block]; exact (hct ad had).1)]; exact (hct ad had).2 t u hu) (ints_oneCell _ _) (by omega) ?_; intro w5 hown5 hgrow5))
      go_ret
      have hb5 := hb4.grown hgrow5 hb4.size (fun k h => by cases h; exact Nat.le_refl _)
      have e1 : j + 1 + dl + 1 + tl = j + dl + tl + 2 := by omega
      have e2 : List.map (Value.int .u8) (60 :: List.replicate j 48) ++ ds.map (Value.int .u8) ++ [Value.int .u8 62] ++ ts.map (Value.int .u8) = (written j ds ts).map (Value.int .u8) := by
        simp [written]
      rw [e1, e2] at hown5
      refine ⟨?_, hown5, hb5⟩
      show Ending.returned (Value.slice _ (j + 1 + dl + 1 + tl) _) = _
      rw [e1]
end Go.Proofs.Qxb6601108a
