/-
  The plain mathematics: the first close of a string, the end of a nest, the end of a run of scalar bytes. Nothing of the dump.
-/
import Derived.Lib.BytesEntry
namespace Go.Proofs.Qxb6601221a
set_option linter.unusedVariables false

/-- How many backslashes stand right before place j. -/
def runOf (zs : List Int) : Nat → Nat
  | 0 => 0
  | j + 1 => if zs.getD j 0 = 92 then runOf zs j + 1 else 0

/-- Place j closes the string that opens at i: a quotation mark behind i, an even number of backslashes before it. -/
def isClose (zs : List Int) (i j : Nat) : Bool := decide (i < j) && (decide (zs.getD j 0 = 34) && decide (runOf zs j % 2 = 0))
/-- The first close. -/
def sE (zs : List Int) (i : Nat) : Option Nat := (List.range zs.length).find? (isClose zs i)

theorem sE_some {zs : List Int} {i j : Nat} (hj : j < zs.length) (hc : isClose zs i j = true) (hno : ∀ k, k < j → isClose zs i k = false) : sE zs i = some j := by
  unfold sE
  rw [List.find?_range_eq_some]
  exact ⟨hc, List.mem_range.2 hj, fun k hk => by simp [hno k hk]⟩
theorem sE_none {zs : List Int} {i : Nat} (hno : ∀ k, k < zs.length → isClose zs i k = false) : sE zs i = none := by
  unfold sE
  rw [List.find?_range_eq_none]
  exact fun k hk => by simp [hno k hk]
theorem sE_bd {zs : List Int} {i j : Nat} (h : sE zs i = some j) : i < j ∧ j < zs.length := by
  unfold sE at h
  rw [List.find?_range_eq_some] at h
  obtain ⟨h1, h2, _⟩ := h
  simp [isClose] at h1
  exact ⟨h1.1, List.mem_range.1 h2⟩

/-! ### The forward scan -/
def Fwd (zs : List Int) (i k : Nat) : Prop := i < k ∧ runOf zs k % 2 = 0 ∧ ∀ m, m < k → isClose zs i m = false
theorem close_le {zs : List Int} {i m : Nat} (h : m ≤ i) : isClose zs i m = false := by simp [isClose]; omega
theorem close_not34 {zs : List Int} {i m : Nat} (h : zs.getD m 0 ≠ 34) : isClose zs i m = false := by
  unfold isClose; rw [decide_eq_false h]; simp
theorem close_odd {zs : List Int} {i m : Nat} (h : runOf zs m % 2 ≠ 0) : isClose zs i m = false := by
  unfold isClose; rw [decide_eq_false h]; simp
theorem close_yes {zs : List Int} {i m : Nat} (h0 : i < m) (h1 : zs.getD m 0 = 34) (h2 : runOf zs m % 2 = 0) : isClose zs i m = true := by
  unfold isClose; rw [decide_eq_true h0, decide_eq_true h1, decide_eq_true h2]; rfl
theorem run_esc {zs : List Int} {k : Nat} (h : zs.getD k 0 = 92) : runOf zs (k + 1) = runOf zs k + 1 := by rw [runOf, if_pos h]
theorem run_plain {zs : List Int} {k : Nat} (h : zs.getD k 0 ≠ 92) : runOf zs (k + 1) = 0 := by rw [runOf, if_neg h]

theorem fwd_start {zs : List Int} {i : Nat} (h : zs.getD i 0 = 34) : Fwd zs i (i + 1) :=
  ⟨by omega, by rw [run_plain (by rw [h]; decide)], fun m hm => close_le (by omega)⟩
theorem fwd_esc {zs : List Int} {i k : Nat} (h : Fwd zs i k) (hk : zs.getD k 0 = 92) : Fwd zs i (k + 2) := by
  obtain ⟨h1, h2, h3⟩ := h
  have e1 := run_esc hk
  refine ⟨by omega, ?_, fun m hm => ?_⟩
  · by_cases h92 : zs.getD (k + 1) 0 = 92
    · rw [show k + 2 = (k + 1) + 1 from rfl, run_esc h92, e1]; omega
    · rw [show k + 2 = (k + 1) + 1 from rfl, run_plain h92]
  · by_cases hmk : m < k
    · exact h3 m hmk
    · by_cases e : m = k
      · subst e; exact close_not34 (by rw [hk]; decide)
      · have e : m = k + 1 := by omega
        subst e; exact close_odd (by rw [e1]; omega)
theorem fwd_plain {zs : List Int} {i k : Nat} (h : Fwd zs i k) (hk : zs.getD k 0 ≠ 92) (hq : zs.getD k 0 ≠ 34) : Fwd zs i (k + 1) := by
  obtain ⟨h1, h2, h3⟩ := h
  refine ⟨by omega, by rw [run_plain hk], fun m hm => ?_⟩
  by_cases hmk : m < k
  · exact h3 m hmk
  · have e : m = k := by omega
    subst e; exact close_not34 hq
theorem fwd_hit {zs : List Int} {i k : Nat} (h : Fwd zs i k) (hn : k < zs.length) (hq : zs.getD k 0 = 34) : sE zs i = some k :=
  sE_some hn (close_yes h.1 hq h.2.1) h.2.2
theorem fwd_end {zs : List Int} {i k : Nat} (h : Fwd zs i k) (hn : zs.length ≤ k) : sE zs i = none :=
  sE_none fun m hm => h.2.2 m (by omega)

/-! ### The backward count -/
def Bwd (zs : List Int) (i0 i : Nat) : Prop := i0 ≤ i ∧ i < zs.length ∧ zs.getD i 0 = 34 ∧ ∀ m, m ≤ i → isClose zs i0 m = false
theorem run_le {zs : List Int} {i : Nat} (h : zs.getD i 0 ≠ 92) : ∀ j, i < j → runOf zs j + i + 1 ≤ j
  | 0, hj => by omega
  | j + 1, hj => by
    by_cases e : j = i
    · subst e; rw [run_plain h]; omega
    · have ih := run_le h j (by omega)
      by_cases h92 : zs.getD j 0 = 92
      · rw [run_esc h92]; omega
      · rw [run_plain h92]; omega
theorem run_in {zs : List Int} : ∀ j m, m < runOf zs j → zs.getD (j - 1 - m) 0 = 92
  | 0, m, h => by simp [runOf] at h
  | j + 1, m, h => by
    by_cases h92 : zs.getD j 0 = 92
    · rw [run_esc h92] at h
      cases m with
      | zero => simpa using h92
      | succ m =>
        have := run_in (zs := zs) j m (by omega)
        rwa [show j + 1 - 1 - (m + 1) = j - 1 - m by omega]
    · rw [run_plain h92] at h; omega
theorem run_out {zs : List Int} : ∀ j, runOf zs j < j → zs.getD (j - 1 - runOf zs j) 0 ≠ 92
  | 0, h => by omega
  | j + 1, h => by
    by_cases h92 : zs.getD j 0 = 92
    · rw [run_esc h92] at h ⊢
      have := run_out (zs := zs) j (by omega)
      rwa [show j + 1 - 1 - (runOf zs j + 1) = j - 1 - runOf zs j by omega]
    · rw [run_plain h92]; simpa using h92
theorem bwd_start {zs : List Int} {i : Nat} (h : zs.getD i 0 = 34) (hi : i < zs.length) : Bwd zs i i := ⟨Nat.le_refl _, hi, h, fun m hm => close_le hm⟩
theorem bwd_miss {zs : List Int} {i0 i : Nat} (h : Bwd zs i0 i) (hno : ∀ m, i < m → m < zs.length → zs.getD m 0 ≠ 34) : sE zs i0 = none :=
  sE_none fun m hm => by
    by_cases hmi : m ≤ i
    · exact h.2.2.2 m hmi
    · exact close_not34 (hno m (by omega) hm)
theorem bwd_hit {zs : List Int} {i0 i j : Nat} (h : Bwd zs i0 i) (hij : i < j) (hj : j < zs.length) (hq : zs.getD j 0 = 34) (hno : ∀ m, i < m → m < j → zs.getD m 0 ≠ 34) (he : runOf zs j % 2 = 0) : sE zs i0 = some j := by
  have h1 := h.1
  exact sE_some hj (close_yes (by omega) hq he) fun m hm => by
    by_cases hmi : m ≤ i
    · exact h.2.2.2 m hmi
    · exact close_not34 (hno m (by omega) hm)
theorem bwd_next {zs : List Int} {i0 i j : Nat} (h : Bwd zs i0 i) (hij : i < j) (hj : j < zs.length) (hq : zs.getD j 0 = 34) (hno : ∀ m, i < m → m < j → zs.getD m 0 ≠ 34) (he : runOf zs j % 2 ≠ 0) : Bwd zs i0 j := by
  have h1 := h.1
  refine ⟨by omega, hj, hq, fun m hm => ?_⟩
  by_cases hmi : m ≤ i
  · exact h.2.2.2 m hmi
  · by_cases e : m = j
    · subst e; exact close_odd he
    · exact close_not34 (hno m (by omega) (by omega))

/-! ### The first quotation mark from a place on -/
theorem byte_beq {d : Int} (h0 : 0 ≤ d) (h1 : d ≤ 255) : (UInt8.ofNat d.toNat == (34 : Int).toNat.toUInt8) = decide (d = 34) := by
  rw [Bool.eq_iff_iff, beq_iff_eq, decide_eq_true_iff]
  constructor
  · intro e
    have := congrArg UInt8.toNat e
    simp at this
    omega
  · intro e; subst e; rfl
theorem idx34 : ∀ (l : List Int), (∀ d ∈ l, 0 ≤ d ∧ d ≤ 255) →
    (Lib.indexByte (Lib.bytesOf l) (34 : Int).toNat.toUInt8 = -1 ∧ ∀ m, m < l.length → l.getD m 0 ≠ 34) ∨
    ∃ q : Nat, Lib.indexByte (Lib.bytesOf l) (34 : Int).toNat.toUInt8 = q ∧ q < l.length ∧ l.getD q 0 = 34 ∧ ∀ m, m < q → l.getD m 0 ≠ 34
  | [], _ => .inl ⟨rfl, fun m hm => by simp at hm⟩
  | d :: l, h => by
    have hd := h d (List.mem_cons_self ..)
    have e : Lib.bytesOf (d :: l) = UInt8.ofNat d.toNat :: Lib.bytesOf l := rfl
    by_cases h34 : d = 34
    · refine .inr ⟨0, ?_, by simp, by simpa using h34, fun m hm => by omega⟩
      rw [e, Lib.indexByte, byte_beq hd.1 hd.2, decide_eq_true h34]; rfl
    · rcases idx34 l (fun x hx => h x (List.mem_cons_of_mem _ hx)) with ⟨h1, h2⟩ | ⟨q, h1, h2, h3, h4⟩
      · refine .inl ⟨?_, fun m hm => ?_⟩
        · rw [e, Lib.indexByte, byte_beq hd.1 hd.2, decide_eq_false h34, h1]; rfl
        · match m, hm with
          | 0, _ => simpa using h34
          | m + 1, hm => simpa using h2 m (by simpa using hm)
      · refine .inr ⟨q + 1, ?_, by simp; omega, by simpa using h3, fun m hm => ?_⟩
        · rw [e, Lib.indexByte, byte_beq hd.1 hd.2, decide_eq_false h34, h1]
          have : ((q : Int) == -1) = false := by rw [beq_eq_false_iff_ne]; omega
          rw [this]; simp
        · match m, hm with
          | 0, _ => simpa using h34
          | m + 1, hm => simpa using h4 m (by omega)

/-! ### The end of a nest -/
def nestV (zs : List Int) : Nat → Nat → Nat → Option Nat
  | 0, _, _ => none
  | f + 1, i, d =>
    if i < zs.length then
      if zs.getD i 0 = 34 then (sE zs i).bind (fun j => nestV zs f (j + 1) d)
      else if zs.getD i 0 = 123 ∨ zs.getD i 0 = 91 then nestV zs f (i + 1) (d + 1)
      else if zs.getD i 0 = 125 ∨ zs.getD i 0 = 93 then (if d ≤ 1 then some (i + 1) else nestV zs f (i + 1) (d - 1))
      else nestV zs f (i + 1) d
    else none
def nestE (zs : List Int) (i d : Nat) : Option Nat := nestV zs (zs.length - i) i d

theorem nestV_out (zs : List Int) (i d : Nat) (hi : ¬ i < zs.length) : ∀ f, nestV zs f i d = none
  | 0 => rfl
  | f + 1 => by rw [nestV, if_neg hi]

theorem nestV_eq (zs : List Int) : ∀ f g i d, zs.length - i ≤ f → zs.length - i ≤ g → nestV zs f i d = nestV zs g i d
  | 0, g, i, d, h, _ => by rw [nestV_out zs i d (by omega), nestV_out zs i d (by omega)]
  | f + 1, 0, i, d, _, h => by rw [nestV_out zs i d (by omega), nestV_out zs i d (by omega)]
  | f + 1, g + 1, i, d, h, h' => by
    by_cases hi : i < zs.length
    · rw [nestV, nestV, if_pos hi, if_pos hi]
      have e1 : ∀ i' d', i < i' → nestV zs f i' d' = nestV zs g i' d' := fun i' d' h'' => nestV_eq zs f g i' d' (by omega) (by omega)
      rw [e1 (i + 1) (d + 1) (by omega), e1 (i + 1) (d - 1) (by omega), e1 (i + 1) d (by omega)]
      cases hs : sE zs i with
      | none => rfl
      | some j =>
        have := sE_bd hs
        simp only [Option.bind_some]
        rw [e1 (j + 1) d (by omega)]
    · rw [nestV_out zs i d hi, nestV_out zs i d hi]

theorem nestV_nestE (zs : List Int) (f i d : Nat) (h : zs.length - i ≤ f) : nestV zs f i d = nestE zs i d := nestV_eq zs f _ i d h (Nat.le_refl _)

theorem nestE_out {zs : List Int} {i d : Nat} (h : zs.length ≤ i) : nestE zs i d = none := nestV_out zs i d (by omega) _

theorem nestE_step {zs : List Int} {i d : Nat} (h : i < zs.length) : nestE zs i d =
      (if zs.getD i 0 = 34 then (sE zs i).bind (fun j => nestE zs (j + 1) d)
      else if zs.getD i 0 = 123 ∨ zs.getD i 0 = 91 then nestE zs (i + 1) (d + 1)
      else if zs.getD i 0 = 125 ∨ zs.getD i 0 = 93 then (if d ≤ 1 then some (i + 1) else nestE zs (i + 1) (d - 1))
      else nestE zs (i + 1) d) := by
  rw [← nestV_nestE zs (zs.length - i + 1) i d (by omega), nestV, if_pos h]
  rw [nestV_nestE zs _ (i + 1) (d + 1) (by omega), nestV_nestE zs _ (i + 1) (d - 1) (by omega), nestV_nestE zs _ (i + 1) d (by omega)]
  cases hs : sE zs i with
  | none => rfl
  | some j =>
    have := sE_bd hs
    simp only [Option.bind_some]
    rw [nestV_nestE zs _ (j + 1) d (by omega)]

theorem nestE_str_none {zs : List Int} {i d : Nat} (h : i < zs.length) (hq : zs.getD i 0 = 34) (hs : sE zs i = none) : nestE zs i d = none := by rw [nestE_step h, if_pos hq, hs]; rfl
theorem nestE_str {zs : List Int} {i d j : Nat} (h : i < zs.length) (hq : zs.getD i 0 = 34) (hs : sE zs i = some j) : nestE zs i d = nestE zs (j + 1) d := by rw [nestE_step h, if_pos hq, hs]; rfl
theorem nestE_open {zs : List Int} {i d : Nat} (h : i < zs.length) (hq : zs.getD i 0 = 123 ∨ zs.getD i 0 = 91) : nestE zs i d = nestE zs (i + 1) (d + 1) := by
  rw [nestE_step h, if_neg (by omega), if_pos hq]
theorem nestE_close1 {zs : List Int} {i d : Nat} (h : i < zs.length) (hq : zs.getD i 0 = 125 ∨ zs.getD i 0 = 93) (hd : d ≤ 1) : nestE zs i d = some (i + 1) := by
  rw [nestE_step h, if_neg (by omega), if_neg (by omega), if_pos hq, if_pos hd]
theorem nestE_close {zs : List Int} {i d : Nat} (h : i < zs.length) (hq : zs.getD i 0 = 125 ∨ zs.getD i 0 = 93) (hd : 1 < d) : nestE zs i d = nestE zs (i + 1) (d - 1) := by
  rw [nestE_step h, if_neg (by omega), if_neg (by omega), if_pos hq, if_neg (by omega)]
theorem nestE_other {zs : List Int} {i d : Nat} (h : i < zs.length) (h1 : zs.getD i 0 ≠ 34) (h2 : zs.getD i 0 ≠ 123) (h3 : zs.getD i 0 ≠ 91) (h4 : zs.getD i 0 ≠ 125) (h5 : zs.getD i 0 ≠ 93) : nestE zs i d = nestE zs (i + 1) d := by
  rw [nestE_step h, if_neg h1, if_neg (by omega), if_neg (by omega)]

theorem nestE_add (zs : List Int) : ∀ f i a b, zs.length - i ≤ f → 1 ≤ a → 1 ≤ b → nestE zs i (a + b) = (nestE zs i a).bind (fun e => nestE zs e b)
  | 0, i, a, b, h, _, _ => by rw [nestE_out (by omega), nestE_out (by omega)]; rfl
  | f + 1, i, a, b, h, ha, hb => by
    by_cases hi : i < zs.length
    · by_cases h34 : zs.getD i 0 = 34
      · cases hs : sE zs i with
        | none => rw [nestE_str_none hi h34 hs, nestE_str_none hi h34 hs]; rfl
        | some j =>
          have := sE_bd hs
          rw [nestE_str hi h34 hs, nestE_str hi h34 hs, nestE_add zs f (j + 1) a b (by omega) ha hb]
      · by_cases ho : zs.getD i 0 = 123 ∨ zs.getD i 0 = 91
        · rw [nestE_open hi ho, nestE_open hi ho, show a + b + 1 = a + 1 + b by omega, nestE_add zs f (i + 1) (a + 1) b (by omega) (by omega) hb]
        · by_cases hc : zs.getD i 0 = 125 ∨ zs.getD i 0 = 93
          · by_cases h1 : a = 1
            · subst h1
              rw [nestE_close hi hc (by omega), nestE_close1 hi hc (by omega), show 1 + b - 1 = b by omega]; rfl
            · rw [nestE_close hi hc (by omega), nestE_close hi hc (by omega), show a + b - 1 = a - 1 + b by omega, nestE_add zs f (i + 1) (a - 1) b (by omega) (by omega) hb]
          · rw [nestE_other hi h34 (by omega) (by omega) (by omega) (by omega), nestE_other hi h34 (by omega) (by omega) (by omega) (by omega), nestE_add zs f (i + 1) a b (by omega) ha hb]
    · rw [nestE_out (by omega), nestE_out (by omega)]; rfl

theorem nestE_bd (zs : List Int) : ∀ f i d e, zs.length - i ≤ f → nestE zs i d = some e → i < e ∧ e ≤ zs.length
  | 0, i, d, e, h, he => by rw [nestE_out (by omega)] at he; cases he
  | f + 1, i, d, e, h, he => by
    by_cases hi : i < zs.length
    · by_cases h34 : zs.getD i 0 = 34
      · cases hs : sE zs i with
        | none => rw [nestE_str_none hi h34 hs] at he; cases he
        | some j =>
          have := sE_bd hs
          rw [nestE_str hi h34 hs] at he
          have := nestE_bd zs f _ _ _ (by omega) he
          omega
      · by_cases ho : zs.getD i 0 = 123 ∨ zs.getD i 0 = 91
        · rw [nestE_open hi ho] at he
          have := nestE_bd zs f _ _ _ (by omega) he
          omega
        · by_cases hc : zs.getD i 0 = 125 ∨ zs.getD i 0 = 93
          · by_cases h1 : d ≤ 1
            · rw [nestE_close1 hi hc h1] at he; cases he; omega
            · rw [nestE_close hi hc (by omega)] at he
              have := nestE_bd zs f _ _ _ (by omega) he
              omega
          · rw [nestE_other hi h34 (by omega) (by omega) (by omega) (by omega)] at he
            have := nestE_bd zs f _ _ _ (by omega) he
            omega
    · rw [nestE_out (by omega)] at he; cases he

/-- A nested opener at q, inside one nest: the outer nest goes on behind the inner one's end. -/
theorem nestE_inner {zs : List Int} {q : Nat} (h : q < zs.length) (ho : zs.getD q 0 = 123 ∨ zs.getD q 0 = 91) : nestE zs q 1 = (nestE zs (q + 1) 1).bind (fun e => nestE zs e 1) := by
  rw [nestE_open h ho, nestE_add zs _ (q + 1) 1 1 (Nat.le_refl _) (by omega) (by omega)]

/-! ### A run of scalar bytes -/
def scal (c : Int) : Bool := decide ((48 ≤ c ∧ c ≤ 57) ∨ (97 ≤ c ∧ c ≤ 122) ∨ c = 45 ∨ c = 43 ∨ c = 46)
def scalV (zs : List Int) : Nat → Nat → Nat
  | 0, k => k
  | f + 1, k => if k < zs.length ∧ scal (zs.getD k 0) = true then scalV zs f (k + 1) else k
def scalE (zs : List Int) (k : Nat) : Nat := scalV zs (zs.length - k) k
theorem scalE_step {zs : List Int} {k : Nat} (h : k < zs.length) (hs : scal (zs.getD k 0) = true) : scalE zs (k + 1) = scalE zs k := by
  obtain ⟨f, hf⟩ : ∃ f, zs.length - k = f + 1 := ⟨zs.length - k - 1, by omega⟩
  have hf' : zs.length - (k + 1) = f := by omega
  unfold scalE
  rw [hf, hf', scalV, if_pos ⟨h, hs⟩]
theorem scalE_stop {zs : List Int} {k : Nat} (h : k < zs.length) (hs : scal (zs.getD k 0) = false) : scalE zs k = k := by
  obtain ⟨f, hf⟩ : ∃ f, zs.length - k = f + 1 := ⟨zs.length - k - 1, by omega⟩
  unfold scalE
  rw [hf, scalV, if_neg (by rw [hs]; simp)]
theorem scalE_out {zs : List Int} {k : Nat} (h : zs.length ≤ k) : scalE zs k = k := by
  unfold scalE
  rw [show zs.length - k = 0 by omega]; rfl
end Go.Proofs.Qxb6601221a
