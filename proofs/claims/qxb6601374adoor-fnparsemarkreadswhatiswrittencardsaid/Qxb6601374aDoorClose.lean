/-
  THE TIED CARD OF 'FnParseMarkReadsWhatIsWritten', closed by the builder's one call; the tie is given.
-/
import Derived.Test.Qxb6601374aDoorProof
import Derived.Test.Qxb6601374aDoorTie
import Derived.Test.Qxb6601374aDoorCards
import Derived.SevenTiedAt
namespace Go.Proofs.Qxb6601374aDoor
open Go

theorem fnParseMarkReadsWhatIsWritten_card : Rows.FnParseMarkReadsWhatIsWrittenCardSaid :=
  Claim7.holds_tied_plain_at .later [] [.data, .data, .data, .sentinel, .sentinel] true (true, "28e0e3c3dcbfc65b5bf45dc735022be774cdeceed6629814c8c9d8f596ead259") true
    fnParseMarkReadsWhatIsWritten.over (fun _ h => by cases h) (by kernel_rfl) (fun _ h => by cases h) fnParseMarkReadsWhatIsWritten_row_tie rfl ⟨rfl, rfl⟩ (by kernel_rfl) rfl
    (fun f fn hf hfn => by
      obtain rfl : f = 3 := Option.some.inj ((show Tryd.prog.funcNamed Rows.fnParseMarkReadsWhatIsWrittenRow.func = some 3 by kernel_rfl).symm.trans hf) |>.symm
      obtain rfl : fn = Tryd.f3 := (Option.some.inj (Tryd.func3.symm.trans hfn)).symm
      exact ⟨by kernel_rfl, fun j t ht => by
        rw [Tryd.params3] at ht
        have hm : t ∈ [3, 3, 4, 3, 9] := by simpa using Array.mem_of_getElem? ht
        have hall : ([3, 3, 4, 3, 9].all fun u => !Tryd.prog.wantsStandIn u) = true := by kernel_rfl
        exact (show Tryd.prog.wantsStandIn t = false by simpa using List.all_eq_true.1 hall t hm)⟩)
    (by kernel_rfl)
end Go.Proofs.Qxb6601374aDoor
