/- The tied card of laws.FnOggHurt of the second form: for every head, every list of pages, every place and every byte it returns true and the arguments read as they did. Conditions: what is read is of bulk at most 1048576; the listed variables are tied to the program's text. -/
import Derived.Test.YtojdfjohmicopaaGreatDoorMx
import Derived.Test.YtojdfjohmicopaaGreatDoorCards
import Derived.SevenTiedAt
namespace Go.Proofs.YtojdfjohmicopaaGreatDoor
open Go

theorem fnOggHurtUpto_card : Rows.FnOggHurtUptoCardSaid :=
  Claim7.holds_tied_plain_at .later [] _ _ _ _ saidUpto (fun _ h => by cases h) (by kernel_rfl) (fun _ h => by cases h) fnOggHurtUpto_row_tie rfl ⟨rfl, rfl⟩ (by kernel_rfl) rfl
    (fun f fn hf hfn => by
      obtain rfl : f = 3 := Option.some.inj ((show Tryz.prog.funcNamed "pub-carronade/laws.FnOggHurt" = some 3 by kernel_rfl).symm.trans hf) |>.symm
      obtain rfl : fn = Tryz.f3 := (Option.some.inj (Tryz.func3.symm.trans hfn)).symm
      exact ⟨by kernel_rfl, fun j t ht => by
        rw [Tryz.params3] at ht
        have hm : t ∈ [25, 26, 27, 5] := by simpa using Array.mem_of_getElem? ht
        have hall : ([25, 26, 27, 5].all fun u => !Tryz.prog.wantsStandIn u) = true := by kernel_rfl
        exact (show Tryz.prog.wantsStandIn t = false by simpa using List.all_eq_true.1 hall t hm)⟩)
    (by kernel_rfl)
#print axioms fnOggHurtUpto_card
end Go.Proofs.YtojdfjohmicopaaGreatDoor
