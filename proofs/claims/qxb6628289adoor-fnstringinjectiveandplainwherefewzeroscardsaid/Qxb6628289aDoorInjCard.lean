/-
  The tied card of 'FnStringInjectiveAndPlainWhereFewZeros': closed by the builder's one call. By an AI agent.
-/
import Derived.Test.Qxb6628289aDoorHeld
import Derived.Test.Qxb6628289aDoorTie
import Derived.Test.Qxb6628289aDoorCards
import Derived.SevenTiedAt
namespace Go.Proofs.Qxb6628289aDoor
open Go

theorem inj_named : Tryd.prog.funcNamed (Rows.fnStringInjectiveAndPlainWhereFewZerosRow.func) = some 4 := by kernel_rfl
/-- THE STATEMENT. -/
theorem inj_proved : Rows.FnStringInjectiveAndPlainWhereFewZerosCardSaid :=
  Claim7.holds_tied_plain_at .later [] [.data, .data, .data] true (true, "1baedc1fdd766eaf368c2d05f9fa322459f8d66d58c79020be655a2fe9aafbbc") false
    inj_row (fun _ h => by cases h) (by kernel_rfl) (fun _ h => by cases h) fnStringInjectiveAndPlainWhereFewZeros_row_tie rfl ⟨rfl, rfl⟩ (by kernel_rfl) rfl
    (fun f fn hf hfn => by
      obtain rfl : f = 4 := Option.some.inj (inj_named.symm.trans hf) |>.symm
      obtain rfl : fn = Tryd.f4 := (Option.some.inj (Tryd.func4.symm.trans hfn)).symm
      exact ⟨by kernel_rfl, fun j t ht => by
        rw [Tryd.params4] at ht
        have hm : t ∈ [4, 9, 2, 4, 9, 2] := by simpa using Array.mem_of_getElem? ht
        have hall : ([4, 9, 2, 4, 9, 2].all fun u => !Tryd.prog.wantsStandIn u) = true := by kernel_rfl
        exact (show Tryd.prog.wantsStandIn t = false by simpa using List.all_eq_true.1 hall t hm)⟩)
    (by kernel_rfl)
#print axioms inj_proved
end Go.Proofs.Qxb6628289aDoor
