/-
  The row's closed facts, each for itself (together they want more memory).
-/
import Derived.Test.YtammjbmfiakbnaaGreatDoorRows
import Derived.JoinedOf
import Derived.KernelRfl
import Derived.ProofKit
namespace Go.Proofs.YtammjbmfiakbnaaGreatDoor
set_option maxHeartbeats 2000000
set_option maxRecDepth 100000
theorem fact_inPlace : (Rows.fnRequestRow.inPlace == Tryz.prog.inPlace 3) = true := by kernel_rfl
theorem fact_unfollowed : (Rows.fnRequestRow.unfollowed == Tryz.prog.unfollowed 3) = true := by kernel_rfl
theorem fact_recurses : (Rows.fnRequestRow.recurses == Tryz.prog.recurses 3) = true := by kernel_rfl
theorem fact_named : (Rows.fnRequestRow.named == Tryz.prog.varsNamed 3) = true := by kernel_rfl
theorem fact_out : laidOutB Tryz.prog = true := by kernel_rfl
theorem fact_rowed : mapsRowed Tryz.prog = true := by kernel_rfl
theorem fact_name : Tryz.prog.funcNamed "gocqlframes/laws.FnRequest" = some 3 := by kernel_rfl
theorem row_facts : joinedFacts Tryz.prog 3 Tryz.f3 Rows.fnRequestSpec Rows.fnRequestRow = true := by
  unfold joinedFacts
  simp only [fact_inPlace, fact_unfollowed, fact_recurses, fact_named, fact_out, fact_rowed, Bool.and_true]
  kernel_rfl
end Go.Proofs.YtammjbmfiakbnaaGreatDoor
