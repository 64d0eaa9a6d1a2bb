/-
  The contracts, said of rows of bytes in memory ('RowAt', 'TailAt').
-/
import Derived.Test.Qxb6601108aCut
import Derived.OpenShut
namespace Go.Proofs.Qxb6601108a
open Go.RowKit
set_option linter.unusedVariables false

/-- Block b, from its head on, holds the bytes xs. -/
def RowAt (w : World) (b : Nat) (xs : List Int) : Prop := b < w.heap.size ∧ ∀ i, i < xs.length → w.cell? ⟨b, i, none⟩ = some (.int .u8 (xs.getD i 0))
/-- The address of a slice that holds ts: nil and empty, or the head of a row. -/
def TailAt (w : World) (ao : Option Addr) (ts : List Int) : Prop := (ao = none ∧ ts = []) ∨ ∃ T, ao = some ⟨T, 0, none⟩ ∧ RowAt w T ts

theorem RowAt.below {w w' : World} {b : Nat} {xs : List Int} (h : RowAt w b xs) (hb : Below w.heap.size w w') : RowAt w' b xs :=
  ⟨Nat.lt_of_lt_of_le h.1 hb.size, fun i hi => (hb.cell (p := ⟨b, i, none⟩) h.1).trans (h.2 i hi)⟩
theorem TailAt.below {w w' : World} {ao : Option Addr} {ts : List Int} (h : TailAt w ao ts) (hb : Below w.heap.size w w') : TailAt w' ao ts := by
  rcases h with h | ⟨T, h1, h2⟩
  · exact .inl h
  · exact .inr ⟨T, h1, h2.below hb⟩

theorem cell_lt {w : World} {a : Addr} {v : Value} (h : w.cell? a = some v) : a.block < w.heap.size := by
  by_cases hlt : a.block < w.heap.size
  · exact hlt
  · exfalso
    have : w.heap[a.block]? = none := by simp; omega
    simp [World.cell?, this] at h

theorem row_of_owns {w : World} {base b n : Nat} {xs : List Int} (h : w.ownsRow base 5 1 (.slice (some ⟨b, 0, none⟩) n n) n (xs.map (Value.int .u8))) : RowAt w b xs := by
  have hl : xs.length = n := by simpa using h.1
  refine ⟨(h.lt b rfl).2, fun i hi => ?_⟩
  rw [h.cellAt i (by omega)]
  simp [List.getD, hi]

/-- What the walk is told of a slice of bytes that came in (the shell's own words). -/
def IsRow (k : IntKind) (w : World) (a : Option Addr) (len cap : Nat) (zs : List Int) : Prop :=
  (a = none ∧ len = 0 ∧ cap = 0 ∧ zs = []) ∨
  ∃ x, a = some x ∧ len ≤ cap ∧ cap ≤ maxLen ∧ zs.length = cap ∧ (∀ i, i < zs.length → w.cell? (x.add i) = some (.int k (zs.getD i 0))) ∧ ∀ n ∈ zs, (Lit.int k n).wf = true

theorem clone_row (a : Option Addr) (len cap : Nat) (zs : List Int) (w : World) (h : IsRow .u8 w a len cap zs) (hm : len ≤ 1048576) :
    Calls Try.prog 11 #[.slice a len cap] w fun e w' => ∃ ao, e = .returned (.slice ao len len) ∧ TailAt w' ao (zs.take len) ∧ Below w.heap.size w w' := by
  rcases h with ⟨rfl, rfl, rfl, rfl⟩ | ⟨x, rfl, hlc, hcm, hzl, hc, hwf⟩
  · refine (clone_nil w).mono ?_
    rintro e w' ⟨rfl, rfl⟩
    exact ⟨_, rfl, .inl ⟨rfl, rfl⟩, Below.refl _ _⟩
  · by_cases h0 : len = 0
    · subst h0
      refine (clone_zero x cap w).mono ?_
      rintro e w' ⟨rfl, hown, hb⟩
      exact ⟨_, rfl, .inr ⟨_, rfl, row_of_owns (n := 0) (xs := []) hown⟩, hb⟩
    · obtain ⟨b, off, rfl, hcc⟩ := ints_at hc (by omega)
      have hx := cell_lt (hcc 0 (by omega))
      refine (clone_some b off len cap zs w (by omega) hm hx (fun i hi => hcc i (by omega))).mono ?_
      rintro e w' ⟨rfl, hown, hb⟩
      exact ⟨_, rfl, .inr ⟨_, rfl, row_of_owns hown⟩, hb⟩

theorem write_row (z : Nat) (D : Nat) (ds ts : List Int) (ao : Option Addr) (w : World) (n tl : Nat) (hds : ds.length = n) (hts : ts.length = tl) (hz : z ≤ 1) (hdl : n ≤ 3) (htl : tl ≤ 1048576) (hD : RowAt w D ds) (hT : TailAt w ao ts) :
    Calls Try.prog 18 #[.int .i64 z, .slice (some ⟨D, 0, none⟩) n n, .slice ao tl tl] w fun e w' =>
      ∃ E, e = .returned (.slice (some ⟨E, 0, none⟩) (z + n + tl + 2) (z + n + tl + 2)) ∧ RowAt w' E (written z ds ts) ∧ Below w.heap.size w w' := by
  subst hds hts
  refine (write_any z D _ _ _ _ ds ts ao w hz rfl hdl rfl htl hD.1 hD.2 ?_ ?_).mono ?_
  · rintro rfl
    rcases hT with ⟨_, rfl⟩ | ⟨T, h, _⟩
    · exact ⟨rfl, rfl⟩
    · cases h
  · rintro ad rfl
    rcases hT with ⟨h, _⟩ | ⟨T, h, hr⟩
    · cases h
    · cases h
      refine ⟨hr.1, fun j u hu => ?_⟩
      have hj : j < ts.length := by
        have := (List.getElem?_eq_some_iff.1 hu).1
        simpa using this
      rw [Addr.add_lit, Nat.zero_add, hr.2 j hj, ← hu]
      simp [List.getD, hj]
  · rintro e w' ⟨rfl, hown, hb⟩
    exact ⟨_, rfl, row_of_owns hown, hb⟩

theorem same_tail (E n tl c2 : Nat) (ds ts : List Int) (ao2 ao : Option Addr) (w : World) (hds : ds.length = n) (hts : ts.length = tl) (htl : tl ≤ 1048576) (hao : 1 ≤ tl → ao2 = some ⟨E, n + 2, none⟩)
    (hE : RowAt w E (written 0 ds ts)) (hT : TailAt w ao ts) :
    Calls Try.prog 14 #[.slice ao2 tl c2, .slice ao tl tl] w fun e w' => e = .returned (.bool true) ∧ Below w.heap.size w w' := by
  by_cases h0 : tl = 0
  · subst h0; exact same_zero _ _ _ _ w
  · rw [hao (by omega)]
    rcases hT with ⟨_, rfl⟩ | ⟨T, rfl, hr⟩
    · simp at hts; omega
    · refine same_some E (n + 2) c2 T 0 tl tl ts w (by omega) (by omega) ?_ ?_
      · intro i hi
        subst hds
        rw [hE.2 (ds.length + 2 + i) (by rw [written_len]; omega), written_get_tail]
      · intro i hi
        rw [Nat.zero_add]; exact hr.2 i (by omega)

/-! ### The digits of p -/
theorem digs_len (p : Int) : 1 ≤ (digs p).length ∧ (digs p).length ≤ 3 := by unfold digs; split <;> (try split) <;> simp
theorem digs_digits (p : Int) (h0 : 0 ≤ p) (h1 : p ≤ 999) : Digits (digs p) := by
  have h : ∀ d ∈ digs p, 48 ≤ d ∧ d ≤ 57 := by
    unfold digs
    split <;> (try split) <;> simp <;> omega
  intro i hi
  have := h _ (List.getElem_mem hi)
  simpa [hi] using this
theorem digs_dec (p : Int) (h0 : 0 ≤ p) (h1 : p ≤ 999) : dec (digs p) = p := by
  unfold digs dec
  split <;> (try split) <;> simp <;> omega
theorem digs_lead (p : Int) (h0 : 0 ≤ p) (h1 : p ≤ 999) : 48 < (digs p).getD 0 0 ∨ (digs p).length < 2 := by
  unfold digs
  split
  · right; simp
  · left; split <;> simp <;> omega

/-- A padded header is refused. -/
theorem padded_no (E n tl : Nat) (ds ts : List Int) (w : World) (hds : ds.length = n) (hts : ts.length = tl) (hn1 : 1 ≤ n) (hn : n ≤ 3) (htl : tl ≤ 1048576) (hd : Digits ds) (hE : RowAt w E (written 1 ds ts)) :
    Calls Try.prog 12 #[.slice (some ⟨E, 0, none⟩) (1 + n + tl + 2) (1 + n + tl + 2)] w fun e w' => e = .returned (.tuple #[.int .i64 0, .slice none 0 0, .bool false]) ∧ w' = w := by
  have hd' : Digits (48 :: ds) := by
    intro i hi
    match i, hi with
    | 0, _ => simp
    | i + 1, hi => simpa using hd i (by simpa using hi)
  refine zz_no _ _ _ _ ?_
  by_cases h3 : n = 3
  · refine cut_long E _ _ ((written 1 ds ts).take 5) w (by omega) (Nat.le_refl _) (by omega) (by omega) ?_ ?_ ?_
    · rw [written_one, List.length_take, written_len]; simp; omega
    · have e : (written 1 ds ts).take 5 = 60 :: 48 :: ds := by
        have e2 : (5 : Nat) = (60 :: 48 :: ds).length + 0 := by simp; omega
        have e1 : written 1 ds ts = (60 :: 48 :: ds) ++ 62 :: ts := by simp [written]
        rw [e1]
        conv => lhs; rw [e2]
        rw [List.take_length_add_append]; simp
      rw [e]
      intro d hm
      rcases List.mem_cons.1 hm with rfl | hm
      · omega
      · have := hd'.mem d hm; omega
    · intro i hi
      rw [hE.2 i (by rw [written_one, written_len]; simp; omega)]
      simp [List.getD, hi]
  · rw [written_one] at hE
    refine cut_no E (n + 1) tl _ _ (48 :: ds) ts w (by omega) (Nat.le_refl _) htl (by omega) (by simp; omega) (by omega) (by omega) hts hd' ?_ (.inr ⟨by simp, by omega⟩)
    intro i hi
    exact hE.2 i (by rw [written_len]; simp; omega)

/-- A header of a number above 191 is refused. -/
theorem big_no (E n tl : Nat) (ds ts : List Int) (w : World) (hds : ds.length = n) (hts : ts.length = tl) (hn1 : 1 ≤ n) (hn : n ≤ 3) (htl : tl ≤ 1048576) (hd : Digits ds) (hE : RowAt w E (written 0 ds ts)) (hbig : 191 < dec ds) :
    Calls Try.prog 12 #[.slice (some ⟨E, 0, none⟩) (0 + n + tl + 2) (0 + n + tl + 2)] w fun e w' => e = .returned (.tuple #[.int .i64 0, .slice none 0 0, .bool false]) ∧ w' = w := by
  refine zz_no _ _ _ _ ?_
  refine cut_no E n tl _ _ ds ts w (by omega) (Nat.le_refl _) htl (by omega) hds hn1 hn hts hd ?_ (.inl hbig)
  intro i hi
  exact hE.2 i (by rw [written_len]; omega)

/-- A header of p is read. -/
theorem good_ok (E n tl : Nat) (ds ts : List Int) (w : World) (hds : ds.length = n) (hts : ts.length = tl) (hn1 : 1 ≤ n) (hn : n ≤ 3) (htl : tl ≤ 1048576) (hd : Digits ds) (hE : RowAt w E (written 0 ds ts)) (hp : dec ds ≤ 191) (hlead : 48 < ds.getD 0 0 ∨ n < 2) :
    Calls Try.prog 12 #[.slice (some ⟨E, 0, none⟩) (0 + n + tl + 2) (0 + n + tl + 2)] w fun e w' => ∃ ao, e = .returned (.tuple #[.int .i64 (dec ds), .slice ao tl (0 + n + tl + 2 - (n + 2)), .bool true]) ∧ (1 ≤ tl → ao = some ⟨E, n + 2, none⟩) ∧ Below w.heap.size w w' := by
  refine zz_ok E n tl _ _ ds ts w (by omega) (Nat.le_refl _) htl (by omega) hds hn1 hn hts hd ?_ hp hlead
  intro i hi
  exact hE.2 i (by rw [written_len]; omega)

/-! ### The same, the lengths behind names (what the main walk takes) -/
theorem write0 (D : Nat) (ds ts : List Int) (ao : Option Addr) (w : World) (n tl : Nat) (hds : Hid (ds.length = n)) (hts : Hid (ts.length = tl)) (hdl : n ≤ 3) (htl : tl ≤ 1048576) (hD : RowAt w D ds) (hT : TailAt w ao ts) :
    Calls Try.prog 18 #[.int .i64 0, .slice (some ⟨D, 0, none⟩) n n, .slice ao tl tl] w fun e w' =>
      ∃ E N, e = .returned (.slice (some ⟨E, 0, none⟩) N N) ∧ Hid (N = 0 + n + tl + 2) ∧ RowAt w' E (written 0 ds ts) ∧ Below w.heap.size w w' :=
  (write_row 0 D ds ts ao w n tl hds hts (by omega) hdl htl hD hT).mono fun e w' ⟨E, h1, h2, h3⟩ => ⟨E, _, h1, rfl, h2, h3⟩
theorem write1 (D : Nat) (ds ts : List Int) (ao : Option Addr) (w : World) (n tl : Nat) (hds : Hid (ds.length = n)) (hts : Hid (ts.length = tl)) (hdl : n ≤ 3) (htl : tl ≤ 1048576) (hD : RowAt w D ds) (hT : TailAt w ao ts) :
    Calls Try.prog 18 #[.int .i64 1, .slice (some ⟨D, 0, none⟩) n n, .slice ao tl tl] w fun e w' =>
      ∃ E N, e = .returned (.slice (some ⟨E, 0, none⟩) N N) ∧ Hid (N = 1 + n + tl + 2) ∧ RowAt w' E (written 1 ds ts) ∧ Below w.heap.size w w' :=
  (write_row 1 D ds ts ao w n tl hds hts (by omega) hdl htl hD hT).mono fun e w' ⟨E, h1, h2, h3⟩ => ⟨E, _, h1, rfl, h2, h3⟩
theorem read0 (p : Int) (E N n tl : Nat) (ds ts : List Int) (w : World) (hN : Hid (N = 0 + n + tl + 2)) (hds : Hid (ds.length = n)) (hts : Hid (ts.length = tl)) (hn1 : 1 ≤ n) (hn : n ≤ 3) (htl : tl ≤ 1048576) (hd : Digits ds) (hE : RowAt w E (written 0 ds ts)) (hdec : Hid (dec ds = p)) (hp : p ≤ 191) (hlead : 48 < ds.getD 0 0 ∨ n < 2) :
    Calls Try.prog 12 #[.slice (some ⟨E, 0, none⟩) N N] w fun e w' => ∃ ao c2, e = .returned (.tuple #[.int .i64 p, .slice ao tl c2, .bool true]) ∧ (1 ≤ tl → ao = some ⟨E, n + 2, none⟩) ∧ Below w.heap.size w w' := by
  cases hN; cases hdec
  exact (good_ok E n tl ds ts w hds hts hn1 hn htl hd hE hp hlead).mono fun e w' ⟨ao, h1, h2, h3⟩ => ⟨ao, _, h1, h2, h3⟩
theorem read1 (E N n tl : Nat) (ds ts : List Int) (w : World) (hN : Hid (N = 1 + n + tl + 2)) (hds : Hid (ds.length = n)) (hts : Hid (ts.length = tl)) (hn1 : 1 ≤ n) (hn : n ≤ 3) (htl : tl ≤ 1048576) (hd : Digits ds) (hE : RowAt w E (written 1 ds ts)) :
    Calls Try.prog 12 #[.slice (some ⟨E, 0, none⟩) N N] w fun e w' => e = .returned (.tuple #[.int .i64 0, .slice none 0 0, .bool false]) ∧ w' = w := by
  cases hN
  exact padded_no E n tl ds ts w hds hts hn1 hn htl hd hE
theorem read2 (E N n tl : Nat) (ds ts : List Int) (w : World) (hN : Hid (N = 0 + n + tl + 2)) (hds : Hid (ds.length = n)) (hts : Hid (ts.length = tl)) (hn1 : 1 ≤ n) (hn : n ≤ 3) (htl : tl ≤ 1048576) (hd : Digits ds) (hE : RowAt w E (written 0 ds ts)) (hbig : 191 < dec ds) :
    Calls Try.prog 12 #[.slice (some ⟨E, 0, none⟩) N N] w fun e w' => e = .returned (.tuple #[.int .i64 0, .slice none 0 0, .bool false]) ∧ w' = w := by
  cases hN
  exact big_no E n tl ds ts w hds hts hn1 hn htl hd hE hbig
theorem digits_row (p : Int) (w : World) (h1 : 0 ≤ p) (h2 : p ≤ 999) :
    Calls Try.prog 17 #[.int .i64 p] w fun e w' => ∃ D n, e = .returned (.slice (some ⟨D, 0, none⟩) n n) ∧ Hid ((digs p).length = n) ∧ 1 ≤ n ∧ n ≤ 3 ∧ RowAt w' D (digs p) ∧ Below w.heap.size w w' :=
  (digits_any p w h1 h2).mono fun e w' ⟨D, h1, _, h3, h4, h5⟩ => ⟨D, _, h1, rfl, (digs_len p).1, (digs_len p).2, ⟨h3, h4⟩, h5⟩
end Go.Proofs.Qxb6601108a
