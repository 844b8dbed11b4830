/- The tied card of laws.FnTables: for every byte it returns true and the argument reads as it did. Condition: none beyond the card's own: the listed variables are tied to the program's text. -/
import Derived.Test.YtngljoplalihkaaGreatDoorBhProofs
import Derived.Test.YtngljoplalihkaaGreatDoorCards
import Derived.SevenTiedAt
namespace Go.Proofs.YtngljoplalihkaaGreatDoor
open Go

theorem fnTables_card : Rows.FnTablesCardSaid :=
  Claim7.holds_tied_plain_at .later [] [.data, .data, .data, .data] true (true, "d21ac84e2c091f0c9f4189290bb0a05e0e479ec510b7cae3b2aa94df3663d42a") false
    fnTables_holds (fun _ h => by cases h) (by kernel_rfl) (fun _ h => by cases h) fnTables_row_tie rfl ⟨rfl, rfl⟩ (by kernel_rfl) rfl
    (fun f fn hf hfn => by
      obtain rfl : f = 3 := Option.some.inj ((show Tryz.prog.funcNamed "pub-carronade/laws.FnTables" = some 3 by kernel_rfl).symm.trans hf) |>.symm
      obtain rfl : fn = Tryz.f3 := (Option.some.inj (Tryz.func3.symm.trans hfn)).symm
      exact ⟨by kernel_rfl, fun j t ht => by
        rw [Tryz.params3] at ht
        have hm : t ∈ [5] := by simpa using Array.mem_of_getElem? ht
        have hall : ([5].all fun u => !Tryz.prog.wantsStandIn u) = true := by kernel_rfl
        exact (show Tryz.prog.wantsStandIn t = false by simpa using List.all_eq_true.1 hall t hm)⟩)
    (by kernel_rfl)
#print axioms fnTables_card
end Go.Proofs.YtngljoplalihkaaGreatDoor
