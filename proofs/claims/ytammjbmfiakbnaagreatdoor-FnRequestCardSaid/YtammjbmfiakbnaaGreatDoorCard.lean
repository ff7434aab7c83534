/-
  The tied card of FnRequest: whatever the request, the law answers true, and its arguments read as before; what the row lists of package-level variables is what the program's own text lays.
-/
import Derived.Test.YtammjbmfiakbnaaGreatDoorRow
import Derived.Test.YtammjbmfiakbnaaGreatDoorCards
import Derived.Test.YtammjbmfiakbnaaGreatDoorTie
import Derived.SevenTiedAt
namespace Go.Proofs.YtammjbmfiakbnaaGreatDoor
set_option maxHeartbeats 2000000
set_option maxRecDepth 100000
open Go
theorem card_wf : Rows.fnRequestRow.wfByText (OpenSpec.ofChange Rows.fnRequestSpec) = true := by kernel_rfl
theorem card_main : Tryz.pinned.checked.prog.mainIs = some (true, "451a7eb41b5ea705f33c0aa3affce0b6d483923fd02af6249349f37373148e2f".toList) := by kernel_rfl
theorem card_looks : true = Tryz.pinned.checked.prog.looks [] := by kernel_rfl
theorem card_goes : false = Rows.fnRequestRow.goesBy Tryz.pinned.checked.prog := by kernel_rfl
theorem card_types : ([3, 3, 31].all fun u => !Tryz.prog.wantsStandIn u) = true := by kernel_rfl
theorem fnRequest_holds : Rows.FnRequestCardSaid :=
  Claim7.holds_tied_plain_at .later [] [.data, .data, .data, .data, .sentinel, .sentinel, .sentinel, .mapped, .sentinel, .sentinel, .sentinel, .sentinel, .sentinel] true (true, "451a7eb41b5ea705f33c0aa3affce0b6d483923fd02af6249349f37373148e2f") true
    row_holds (fun _ h => by cases h) card_wf (fun _ h => by cases h) fnRequest_row_tie rfl ⟨rfl, rfl⟩ card_main rfl
    (fun f fn hf hfn => by
      obtain rfl : f = 3 := Option.some.inj (fact_name.symm.trans hf) |>.symm
      obtain rfl : fn = Tryz.f3 := (Option.some.inj (Tryz.func3.symm.trans hfn)).symm
      exact ⟨card_looks, fun j t ht => by
        rw [Tryz.params3] at ht
        have hm : t ∈ [3, 3, 31] := by simpa using Array.mem_of_getElem? ht
        exact (show Tryz.prog.wantsStandIn t = false by simpa using List.all_eq_true.1 card_types t hm)⟩)
    card_goes
#print axioms fnRequest_holds
end Go.Proofs.YtammjbmfiakbnaaGreatDoor
